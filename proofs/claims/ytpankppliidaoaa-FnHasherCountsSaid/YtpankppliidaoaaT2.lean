/- What functions of this seat do, each proved by a walk; no condition. -/
import Derived.Test.YtpankppliidaoaaDenW
import Derived.Test.YtpankppliidaoaaProg
import Derived.KernelRfl
set_option linter.unusedVariables false
namespace Go.Proofs.Ytpankppliidaoaa
open Go Go.Den Go.Proofs
theorem mixed : Try.prog.follows .mixedOrders = true := by kernel_rfl
/-! ### 3 "pub-stadtholder/laws.FnTxnFilters" -/
namespace F3
def an : Ann := { kinds := [], taus := [], pairs := [], lab := [(10000004, [0, 2, 4]), (10000006, [0, 2, 4]), (40000009, [0, 2, 4, 7, 8, 41, 42])] }
noncomputable def body : Code := (Try.f3.body).getD .skip
theorem fn : Try.prog.funcs[3]? = some Try.f3 := by kernel_rfl
theorem ok : codeOk an 93 body = true := by kernel_rfl
noncomputable def L0t : List Item := [.code (sub [1, 1] body)]
def L0 (s0 : Option Addr) (s0n : Nat) (s0c : Nat) (s2 : Int) (s4 : Nat) (H : Heap) (R : Ending → Heap → Prop) : Prop :=
  GoL Try.prog 3 93 L0t [0, 2, 4] [(.slice s0 s0n s0c), (.int .i64 s2), (.pointer (some ⟨s4, 0, none⟩))] H R
noncomputable def L1t : List Item := [.code (sub [1, 1, 1] body)]
def L1 (s0 : Option Addr) (s0n : Nat) (s0c : Nat) (s2 : Int) (s4 : Nat) (H : Heap) (R : Ending → Heap → Prop) : Prop :=
  GoL Try.prog 3 93 L1t [0, 2, 4] [(.slice s0 s0n s0c), (.int .i64 s2), (.pointer (some ⟨s4, 0, none⟩))] H R
noncomputable def L2t : List Item := [.code (sub [1, 1, 1, 1, 1, 0, 1, 0, 0] body), .inLoop (sub [1, 1, 1, 1, 1, 0, 1, 0, 0] body), .inBlock 0, .code (sub [1, 1, 1, 1, 1, 1] body)]
def L2 (s0 : Option Addr) (s0n : Nat) (s0c : Nat) (s2 : Int) (s4 : Nat) (s7 : Option Addr) (s7n : Nat) (s7c : Nat) (s8 : Option Addr) (s8n : Nat) (s8c : Nat) (s41 : Int) (s42 : Int) (H : Heap) (R : Ending → Heap → Prop) : Prop :=
  GoL Try.prog 3 93 L2t [0, 2, 4, 7, 8, 41, 42] [(.slice s0 s0n s0c), (.int .i64 s2), (.pointer (some ⟨s4, 0, none⟩)), (.slice s7 s7n s7c), (.slice s8 s8n s8c), (.int .i64 s41), (.int .i64 s42)] H R
def L0n (s0 : Option Addr) (s0n : Nat) (s0c : Nat) (s2 : Int) (s4 : Nat) (H : Heap) (R : Ending → Heap → Prop) : Prop :=
  iteB (decide (((s0n : Nat) : Int) > (100 : Int))) (
    R (.returned (.bool true)) H) <|
  iteB (decide (s2 < (0 : Int))) (
    R (.returned (.bool true)) H) <|
  L1 s0 s0n s0c s2 s4 H R
theorem L0_step {s0 : Option Addr} {s0n : Nat} {s0c : Nat} {s2 : Int} {s4 : Nat} {H : Heap} {R : Ending → Heap → Prop} (h : L0n s0 s0n s0c s2 s4 H R) : L0 s0 s0n s0c s2 s4 H R :=
  goL_of_den (an := an) (fuel := 100000) (X := L0n s0 s0n s0c s2 s4 H R) mixed fn (by kernel_rfl) (fun ρ0 => by kernel_rfl) h
def L1n (s0 : Option Addr) (s0n : Nat) (s0c : Nat) (s2 : Int) (s4 : Nat) (H : Heap) (R : Ending → Heap → Prop) : Prop :=
  ldInt H ⟨s4, 9, none⟩ .i64 fun n =>
  ldInt H ⟨s4, 10, none⟩ .i64 fun n1 =>
  ldInt H ⟨s4, 11, none⟩ .i64 fun n2 =>
  ldInt H ⟨s4, 12, none⟩ .i64 fun n3 =>
  newD H (.cells ⟨[(.int .i64 (0 : Int)), (.string (ByteArray.mk #[])), (.string (ByteArray.mk #[])), (.string (ByteArray.mk #[])), (.int .i64 (0 : Int)), (.int .i64 (0 : Int)), (.int .i64 (0 : Int)), (.int .i64 (0 : Int)), (.int .i64 (0 : Int)), (.int .i64 n), (.int .i64 (0 : Int)), (.int .i64 (0 : Int)), (.int .i64 (0 : Int)), (.bool false), (.bool false), (.bool false), (.bool false), (.bool false), (.slice none 0 0), (.slice none 0 0), (.slice none 0 0), (.int .i64 (0 : Int)), (.string (ByteArray.mk #[])), (.string (ByteArray.mk #[])), (.string (ByteArray.mk #[])), (.int .i64 (0 : Int)), (.int .i64 (0 : Int)), (.int .i64 (0 : Int)), (.int .i64 (0 : Int)), (.int .i64 (0 : Int)), (.int .i64 (0 : Int)), (.int .i64 n1), (.int .i64 (0 : Int)), (.int .i64 (0 : Int)), (.bool false), (.bool false), (.bool false), (.bool false), (.bool false), (.slice none 0 0), (.slice none 0 0), (.slice none 0 0), (.int .i64 (0 : Int)), (.string (ByteArray.mk #[])), (.string (ByteArray.mk #[])), (.string (ByteArray.mk #[])), (.int .i64 (0 : Int)), (.int .i64 (0 : Int)), (.int .i64 (0 : Int)), (.int .i64 (0 : Int)), (.int .i64 (0 : Int)), (.int .i64 (0 : Int)), (.int .i64 (0 : Int)), (.int .i64 n2), (.int .i64 (0 : Int)), (.bool false), (.bool false), (.bool false), (.bool false), (.bool false), (.slice none 0 0), (.slice none 0 0), (.slice none 0 0), (.int .i64 (0 : Int)), (.string (ByteArray.mk #[])), (.string (ByteArray.mk #[])), (.string (ByteArray.mk #[])), (.int .i64 (0 : Int)), (.int .i64 (0 : Int)), (.int .i64 (0 : Int)), (.int .i64 (0 : Int)), (.int .i64 (0 : Int)), (.int .i64 (0 : Int)), (.int .i64 (0 : Int)), (.int .i64 (0 : Int)), (.int .i64 n3), (.bool false), (.bool false), (.bool false), (.bool false), (.bool false), (.slice none 0 0), (.slice none 0 0), (.slice none 0 0)]⟩ 26) fun r H1 =>
  L2 s0 s0n s0c s2 s4 (some ⟨r, 0, none⟩) 4 4 s0 s0n s0c ((4 : Nat) : Int) (0 : Int) H1 R
theorem L1_step {s0 : Option Addr} {s0n : Nat} {s0c : Nat} {s2 : Int} {s4 : Nat} {H : Heap} {R : Ending → Heap → Prop} (h : L1n s0 s0n s0c s2 s4 H R) : L1 s0 s0n s0c s2 s4 H R :=
  goL_of_den (an := an) (fuel := 100000) (X := L1n s0 s0n s0c s2 s4 H R) mixed fn (by kernel_rfl) (fun ρ0 => by kernel_rfl) h
def L2n (s0 : Option Addr) (s0n : Nat) (s0c : Nat) (s2 : Int) (s4 : Nat) (s7 : Option Addr) (s7n : Nat) (s7c : Nat) (s8 : Option Addr) (s8n : Nat) (s8c : Nat) (s41 : Int) (s42 : Int) (H : Heap) (R : Ending → Heap → Prop) : Prop :=
  iteB (decide (s42 < s41)) (
    divD (4 : Int) <|
    divD (4 : Int) <|
    idxD s7 s7n (Int.tmod (IntKind.wrap .i64 (s42 + (Int.tmod s2 (4 : Int)))) (4 : Int)) fun a =>
    ldInt H (Addr.add a (Int.toNat (Int.tmod (IntKind.wrap .i64 (s42 + (Int.tmod s2 (4 : Int)))) (4 : Int)) * 21)) .i64 fun n =>
    ldStr H (Addr.add (Addr.add a (Int.toNat (Int.tmod (IntKind.wrap .i64 (s42 + (Int.tmod s2 (4 : Int)))) (4 : Int)) * 21)) 1) fun s =>
    ldStr H (Addr.add (Addr.add a (Int.toNat (Int.tmod (IntKind.wrap .i64 (s42 + (Int.tmod s2 (4 : Int)))) (4 : Int)) * 21)) 2) fun s1 =>
    ldStr H (Addr.add (Addr.add a (Int.toNat (Int.tmod (IntKind.wrap .i64 (s42 + (Int.tmod s2 (4 : Int)))) (4 : Int)) * 21)) 3) fun s3 =>
    ldInt H (Addr.add (Addr.add a (Int.toNat (Int.tmod (IntKind.wrap .i64 (s42 + (Int.tmod s2 (4 : Int)))) (4 : Int)) * 21)) 4) .i64 fun n1 =>
    ldInt H (Addr.add (Addr.add a (Int.toNat (Int.tmod (IntKind.wrap .i64 (s42 + (Int.tmod s2 (4 : Int)))) (4 : Int)) * 21)) 5) .i64 fun n2 =>
    ldInt H (Addr.add (Addr.add a (Int.toNat (Int.tmod (IntKind.wrap .i64 (s42 + (Int.tmod s2 (4 : Int)))) (4 : Int)) * 21)) 6) .i64 fun n3 =>
    ldInt H (Addr.add (Addr.add a (Int.toNat (Int.tmod (IntKind.wrap .i64 (s42 + (Int.tmod s2 (4 : Int)))) (4 : Int)) * 21)) 7) .i64 fun n4 =>
    ldInt H (Addr.add (Addr.add a (Int.toNat (Int.tmod (IntKind.wrap .i64 (s42 + (Int.tmod s2 (4 : Int)))) (4 : Int)) * 21)) 8) .i64 fun n5 =>
    ldInt H (Addr.add (Addr.add a (Int.toNat (Int.tmod (IntKind.wrap .i64 (s42 + (Int.tmod s2 (4 : Int)))) (4 : Int)) * 21)) 9) .i64 fun n6 =>
    ldInt H (Addr.add (Addr.add a (Int.toNat (Int.tmod (IntKind.wrap .i64 (s42 + (Int.tmod s2 (4 : Int)))) (4 : Int)) * 21)) 10) .i64 fun n7 =>
    ldInt H (Addr.add (Addr.add a (Int.toNat (Int.tmod (IntKind.wrap .i64 (s42 + (Int.tmod s2 (4 : Int)))) (4 : Int)) * 21)) 11) .i64 fun n8 =>
    ldInt H (Addr.add (Addr.add a (Int.toNat (Int.tmod (IntKind.wrap .i64 (s42 + (Int.tmod s2 (4 : Int)))) (4 : Int)) * 21)) 12) .i64 fun n9 =>
    ldBool H (Addr.add (Addr.add a (Int.toNat (Int.tmod (IntKind.wrap .i64 (s42 + (Int.tmod s2 (4 : Int)))) (4 : Int)) * 21)) 13) fun b =>
    ldBool H (Addr.add (Addr.add a (Int.toNat (Int.tmod (IntKind.wrap .i64 (s42 + (Int.tmod s2 (4 : Int)))) (4 : Int)) * 21)) 14) fun b1 =>
    ldBool H (Addr.add (Addr.add a (Int.toNat (Int.tmod (IntKind.wrap .i64 (s42 + (Int.tmod s2 (4 : Int)))) (4 : Int)) * 21)) 15) fun b2 =>
    ldBool H (Addr.add (Addr.add a (Int.toNat (Int.tmod (IntKind.wrap .i64 (s42 + (Int.tmod s2 (4 : Int)))) (4 : Int)) * 21)) 16) fun b3 =>
    ldBool H (Addr.add (Addr.add a (Int.toNat (Int.tmod (IntKind.wrap .i64 (s42 + (Int.tmod s2 (4 : Int)))) (4 : Int)) * 21)) 17) fun b4 =>
    ldSl H (Addr.add (Addr.add a (Int.toNat (Int.tmod (IntKind.wrap .i64 (s42 + (Int.tmod s2 (4 : Int)))) (4 : Int)) * 21)) 18) fun q qn qc =>
    ldSl H (Addr.add (Addr.add a (Int.toNat (Int.tmod (IntKind.wrap .i64 (s42 + (Int.tmod s2 (4 : Int)))) (4 : Int)) * 21)) 19) fun q1 q1n q1c =>
    ldSl H (Addr.add (Addr.add a (Int.toNat (Int.tmod (IntKind.wrap .i64 (s42 + (Int.tmod s2 (4 : Int)))) (4 : Int)) * 21)) 20) fun q2 q2n q2c =>
    callD Try.prog 11 [(.slice s8 s8n s8c), (.agg ⟨[(.int .i64 n), (.string s), (.string s1), (.string s3), (.int .i64 n1), (.int .i64 n2), (.int .i64 n3), (.int .i64 n4), (.int .i64 n5), (.int .i64 n6), (.int .i64 n7), (.int .i64 n8), (.int .i64 n9), (.bool b), (.bool b1), (.bool b2), (.bool b3), (.bool b4), (.slice q qn qc), (.slice q1 q1n q1c), (.slice q2 q2n q2c)]⟩)] H (panK R) fun v H1 =>
    tSl v fun q3 q3n q3c =>
    L2 s0 s0n s0c s2 s4 s7 s7n s7c q3 q3n q3c s41 (IntKind.wrap .i64 (s42 + (1 : Int))) H1 R) <|
  ldInt H ⟨s4, 9, none⟩ .i64 fun n10 =>
  ldInt H ⟨s4, 10, none⟩ .i64 fun n11 =>
  ldInt H ⟨s4, 11, none⟩ .i64 fun n12 =>
  ldInt H ⟨s4, 12, none⟩ .i64 fun n13 =>
  callD Try.prog 11 [(.slice s0 s0n s0c), (.agg ⟨[(.int .i64 (0 : Int)), (.string (ByteArray.mk #[])), (.string (ByteArray.mk #[])), (.string (ByteArray.mk #[])), (.int .i64 (0 : Int)), (.int .i64 (0 : Int)), (.int .i64 (0 : Int)), (.int .i64 (0 : Int)), (.int .i64 (0 : Int)), (.int .i64 n10), (.int .i64 n11), (.int .i64 n12), (.int .i64 n13), (.bool false), (.bool false), (.bool false), (.bool false), (.bool false), (.slice none 0 0), (.slice none 0 0), (.slice none 0 0)]⟩)] H (panK R) fun v1 H2 =>
  tSl v1 fun q4 q4n q4c =>
  callD Try.prog 12 [(.slice q4 q4n q4c), (.slice s8 s8n s8c)] H2 (panK R) fun v2 H3 =>
  tBool v2 fun b5 =>
  iteB b5 (
    ldInt H3 ⟨s4, 9, none⟩ .i64 fun n14 =>
    ldInt H3 ⟨s4, 10, none⟩ .i64 fun n15 =>
    ldInt H3 ⟨s4, 11, none⟩ .i64 fun n16 =>
    ldInt H3 ⟨s4, 12, none⟩ .i64 fun n17 =>
    callD Try.prog 11 [(.slice q4 q4n q4c), (.agg ⟨[(.int .i64 (0 : Int)), (.string (ByteArray.mk #[])), (.string (ByteArray.mk #[])), (.string (ByteArray.mk #[])), (.int .i64 (0 : Int)), (.int .i64 (0 : Int)), (.int .i64 (0 : Int)), (.int .i64 (0 : Int)), (.int .i64 (0 : Int)), (.int .i64 n14), (.int .i64 n15), (.int .i64 n16), (.int .i64 n17), (.bool false), (.bool false), (.bool false), (.bool false), (.bool false), (.slice none 0 0), (.slice none 0 0), (.slice none 0 0)]⟩)] H3 (panK R) fun v3 H4 =>
    tSl v3 fun q5 q5n q5c =>
    callD Try.prog 12 [(.slice q5 q5n q5c), (.slice q4 q4n q4c)] H4 (panK R) fun v4 H5 =>
    tBool v4 fun b6 =>
    iteB b6 (
      newD H5 (.cells ⟨[(.string (ByteArray.mk #[97])), (.string (ByteArray.mk #[])), (.int .i64 (0 : Int)), (.int .i64 (2 : Int)), (.int .i64 (0 : Int)), (.int .i64 (0 : Int))]⟩ 32) fun r H6 =>
      callD Try.prog 11 [(.slice (some ⟨r, 0, none⟩) 1 1), (.agg ⟨[(.int .i64 (0 : Int)), (.string (ByteArray.mk #[])), (.string (ByteArray.mk #[])), (.string (ByteArray.mk #[])), (.int .i64 (0 : Int)), (.int .i64 (0 : Int)), (.int .i64 (0 : Int)), (.int .i64 (0 : Int)), (.int .i64 (0 : Int)), (.int .i64 (0 : Int)), (.int .i64 (0 : Int)), (.int .i64 (0 : Int)), (.int .i64 (0 : Int)), (.bool false), (.bool false), (.bool false), (.bool false), (.bool false), (.slice none 0 0), (.slice none 0 0), (.slice none 0 0)]⟩)] H6 (panK R) fun v5 H7 =>
      tSl v5 fun q6 q6n q6c =>
      R (.returned (.bool (((q6n : Nat) : Int) == (1 : Int)))) H7) <|
    R (.returned (.bool false)) H5) <|
  R (.returned (.bool false)) H3
theorem L2_step {s0 : Option Addr} {s0n : Nat} {s0c : Nat} {s2 : Int} {s4 : Nat} {s7 : Option Addr} {s7n : Nat} {s7c : Nat} {s8 : Option Addr} {s8n : Nat} {s8c : Nat} {s41 : Int} {s42 : Int} {H : Heap} {R : Ending → Heap → Prop} (h : L2n s0 s0n s0c s2 s4 s7 s7n s7c s8 s8n s8c s41 s42 H R) : L2 s0 s0n s0c s2 s4 s7 s7n s7c s8 s8n s8c s41 s42 H R :=
  goL_of_den (an := an) (fuel := 100000) (X := L2n s0 s0n s0c s2 s4 s7 s7n s7c s8 s8n s8c s41 s42 H R) mixed fn (by kernel_rfl) (fun ρ0 => by kernel_rfl) h
def go (s0 : Option Addr) (s0n : Nat) (s0c : Nat) (s1_0 : Int) (s1_1 : ByteArray) (s1_2 : ByteArray) (s1_3 : ByteArray) (s1_4 : Int) (s1_5 : Int) (s1_6 : Int) (s1_7 : Int) (s1_8 : Int) (s1_9 : Int) (s1_10 : Int) (s1_11 : Int) (s1_12 : Int) (s1_13 : Bool) (s1_14 : Bool) (s1_15 : Bool) (s1_16 : Bool) (s1_17 : Bool) (s1_18 : Option Addr) (s1_18n : Nat) (s1_18c : Nat) (s1_19 : Option Addr) (s1_19n : Nat) (s1_19c : Nat) (s1_20 : Option Addr) (s1_20n : Nat) (s1_20c : Nat) (s2 : Int) (H : Heap) (R : Ending → Heap → Prop) : Prop :=
  newD H (.cells ⟨[(.int .i64 s1_0), (.string s1_1), (.string s1_2), (.string s1_3), (.int .i64 s1_4), (.int .i64 s1_5), (.int .i64 s1_6), (.int .i64 s1_7), (.int .i64 s1_8), (.int .i64 s1_9), (.int .i64 s1_10), (.int .i64 s1_11), (.int .i64 s1_12), (.bool s1_13), (.bool s1_14), (.bool s1_15), (.bool s1_16), (.bool s1_17), (.slice s1_18 s1_18n s1_18c), (.slice s1_19 s1_19n s1_19c), (.slice s1_20 s1_20n s1_20c)]⟩ 26) fun r H1 =>
  callD Try.prog 9 [(.slice s0 s0n s0c)] H1 (panK R) fun v H2 =>
  tBool v fun b =>
  iteB (!b) (
    R (.returned (.bool true)) H2) <|
  ldInt H2 ⟨r, 0, none⟩ .i64 fun n =>
  ldStr H2 ⟨r, 1, none⟩ fun s =>
  ldStr H2 ⟨r, 2, none⟩ fun s1 =>
  ldStr H2 ⟨r, 3, none⟩ fun s3 =>
  ldInt H2 ⟨r, 4, none⟩ .i64 fun n1 =>
  ldInt H2 ⟨r, 5, none⟩ .i64 fun n2 =>
  ldInt H2 ⟨r, 6, none⟩ .i64 fun n3 =>
  ldInt H2 ⟨r, 7, none⟩ .i64 fun n4 =>
  ldInt H2 ⟨r, 8, none⟩ .i64 fun n5 =>
  ldInt H2 ⟨r, 9, none⟩ .i64 fun n6 =>
  ldInt H2 ⟨r, 10, none⟩ .i64 fun n7 =>
  ldInt H2 ⟨r, 11, none⟩ .i64 fun n8 =>
  ldInt H2 ⟨r, 12, none⟩ .i64 fun n9 =>
  ldBool H2 ⟨r, 13, none⟩ fun b1 =>
  ldBool H2 ⟨r, 14, none⟩ fun b2 =>
  ldBool H2 ⟨r, 15, none⟩ fun b3 =>
  ldBool H2 ⟨r, 16, none⟩ fun b4 =>
  ldBool H2 ⟨r, 17, none⟩ fun b5 =>
  ldSl H2 ⟨r, 18, none⟩ fun q qn qc =>
  ldSl H2 ⟨r, 19, none⟩ fun q1 q1n q1c =>
  ldSl H2 ⟨r, 20, none⟩ fun q2 q2n q2c =>
  callD Try.prog 10 [(.agg ⟨[(.int .i64 n), (.string s), (.string s1), (.string s3), (.int .i64 n1), (.int .i64 n2), (.int .i64 n3), (.int .i64 n4), (.int .i64 n5), (.int .i64 n6), (.int .i64 n7), (.int .i64 n8), (.int .i64 n9), (.bool b1), (.bool b2), (.bool b3), (.bool b4), (.bool b5), (.slice q qn qc), (.slice q1 q1n q1c), (.slice q2 q2n q2c)]⟩)] H2 (panK R) fun v1 H3 =>
  tBool v1 fun b6 =>
  iteB (!b6) (
    R (.returned (.bool true)) H3) <|
  L0 s0 s0n s0c s2 r H3 R
theorem calls {s0 : Option Addr} {s0n : Nat} {s0c : Nat} {s1_0 : Int} {s1_1 : ByteArray} {s1_2 : ByteArray} {s1_3 : ByteArray} {s1_4 : Int} {s1_5 : Int} {s1_6 : Int} {s1_7 : Int} {s1_8 : Int} {s1_9 : Int} {s1_10 : Int} {s1_11 : Int} {s1_12 : Int} {s1_13 : Bool} {s1_14 : Bool} {s1_15 : Bool} {s1_16 : Bool} {s1_17 : Bool} {s1_18 : Option Addr} {s1_18n : Nat} {s1_18c : Nat} {s1_19 : Option Addr} {s1_19n : Nat} {s1_19c : Nat} {s1_20 : Option Addr} {s1_20n : Nat} {s1_20c : Nat} {s2 : Int} {H : Heap} {R : Ending → Heap → Prop} (h : go s0 s0n s0c s1_0 s1_1 s1_2 s1_3 s1_4 s1_5 s1_6 s1_7 s1_8 s1_9 s1_10 s1_11 s1_12 s1_13 s1_14 s1_15 s1_16 s1_17 s1_18 s1_18n s1_18c s1_19 s1_19n s1_19c s1_20 s1_20n s1_20c s2 H R) : CallsH Try.prog 3 ⟨[(.slice s0 s0n s0c), (.agg ⟨[(.int .i64 s1_0), (.string s1_1), (.string s1_2), (.string s1_3), (.int .i64 s1_4), (.int .i64 s1_5), (.int .i64 s1_6), (.int .i64 s1_7), (.int .i64 s1_8), (.int .i64 s1_9), (.int .i64 s1_10), (.int .i64 s1_11), (.int .i64 s1_12), (.bool s1_13), (.bool s1_14), (.bool s1_15), (.bool s1_16), (.bool s1_17), (.slice s1_18 s1_18n s1_18c), (.slice s1_19 s1_19n s1_19c), (.slice s1_20 s1_20n s1_20c)]⟩), (.int .i64 s2)]⟩ H R :=
  callsH_of_den (an := an) (fuel := 100000) (X := go s0 s0n s0c s1_0 s1_1 s1_2 s1_3 s1_4 s1_5 s1_6 s1_7 s1_8 s1_9 s1_10 s1_11 s1_12 s1_13 s1_14 s1_15 s1_16 s1_17 s1_18 s1_18n s1_18c s1_19 s1_19n s1_19c s1_20 s1_20n s1_20c s2 H R) (c := body) mixed fn (by kernel_rfl) (by kernel_rfl) (by kernel_rfl) ok (by kernel_rfl) h
end F3
/-! ### 4 "pub-stadtholder/laws.FnRevBack" -/
namespace F4
def an : Ann := { kinds := [], taus := [], pairs := [], lab := [] }
noncomputable def body : Code := (Try.f4.body).getD .skip
theorem fn : Try.prog.funcs[4]? = some Try.f4 := by kernel_rfl
theorem ok : codeOk an 27 body = true := by kernel_rfl
def go (r_0 : Int) (r_1 : Int) (H : Heap) (R : Ending → Heap → Prop) : Prop :=
  newD H (.cells ⟨[(.int .i64 r_0), (.int .i64 r_1)]⟩ 35) fun r H1 =>
  ldInt H1 ⟨r, 0, none⟩ .i64 fun n =>
  ldInt H1 ⟨r, 1, none⟩ .i64 fun n1 =>
  iteB (decide ((if n1 < n then n1 else n) < (0 : Int))) (
    callD Try.prog 13 [] H1 (panK R) fun v H2 =>
    tBool v fun b =>
    R (.returned (.bool b)) H2) <|
  ldInt H1 ⟨r, 0, none⟩ .i64 fun n2 =>
  ldInt H1 ⟨r, 1, none⟩ .i64 fun n3 =>
  callD Try.prog 15 [(.agg ⟨[(.int .i64 n2), (.int .i64 n3)]⟩)] H1 (panK R) fun v1 H3 =>
  tSl v1 fun q qn qc =>
  callD Try.prog 14 [(.slice q qn qc)] H3 (panK R) fun v2 H4 =>
  tTup v2 fun l =>
  tCons l fun c l1 =>
  tAgg c fun l2 =>
  tCons l2 fun c1 l3 =>
  tInt c1 .i64 fun n4 =>
  tCons l3 fun c2 l4 =>
  tInt c2 .i64 fun n5 =>
  tNil l4 <|
  tCons l1 fun c3 l5 =>
  tBool c3 fun b1 =>
  tNil l5 <|
  newD H4 (.cells ⟨[(.int .i64 (0 : Int)), (.int .i64 (0 : Int))]⟩ 35) fun r1 H5 =>
  st1 H5 ⟨r1, 0, none⟩ (.int .i64 n4) fun H6 =>
  st1 H6 ⟨r1, 1, none⟩ (.int .i64 n5) fun H7 =>
  iteB b1 (
    ldInt H7 ⟨r1, 0, none⟩ .i64 fun n6 =>
    ldInt H7 ⟨r1, 1, none⟩ .i64 fun n7 =>
    ldInt H7 ⟨r, 0, none⟩ .i64 fun n8 =>
    ldInt H7 ⟨r, 1, none⟩ .i64 fun n9 =>
    rawB Try.prog .eql 35 (.agg ⟨[(.int .i64 n6), (.int .i64 n7)]⟩) (.agg ⟨[(.int .i64 n8), (.int .i64 n9)]⟩) fun b2 =>
    iteB b2 (
      callD Try.prog 13 [] H7 (panK R) fun v3 H8 =>
      tBool v3 fun b3 =>
      R (.returned (.bool b3)) H8) <|
    R (.returned (.bool false)) H7) <|
  R (.returned (.bool false)) H7
theorem calls {r_0 : Int} {r_1 : Int} {H : Heap} {R : Ending → Heap → Prop} (h : go r_0 r_1 H R) : CallsH Try.prog 4 ⟨[(.agg ⟨[(.int .i64 r_0), (.int .i64 r_1)]⟩)]⟩ H R :=
  callsH_of_den (an := an) (fuel := 100000) (X := go r_0 r_1 H R) (c := body) mixed fn (by kernel_rfl) (by kernel_rfl) (by kernel_rfl) ok (by kernel_rfl) h
end F4
/-! ### 5 "pub-stadtholder/laws.FnRevGreater" -/
namespace F5
def an : Ann := { kinds := [(1002, .grow)], taus := [(1, [[0, 1, 3, 4, 2, 5, 6, 7]])], pairs := [], lab := [(10000005, [3, 4, 5, 7])] }
noncomputable def body : Code := (Try.f5.body).getD .skip
theorem fn : Try.prog.funcs[5]? = some Try.f5 := by kernel_rfl
theorem ok : codeOk an 47 body = true := by kernel_rfl
noncomputable def L0t : List Item := [.code (sub [1, 1, 1] body)]
def L0 (a : Nat) (b : Nat) (c : Nat) (x : Bool) (H : Heap) (R : Ending → Heap → Prop) : Prop :=
  GoL Try.prog 5 47 L0t [3, 4, 5, 7] [(.pointer (some ⟨a, 0, none⟩)), (.pointer (some ⟨b, 0, none⟩)), (.pointer (some ⟨c, 0, none⟩)), (.bool x)] H R
def L0n (a : Nat) (b : Nat) (c : Nat) (x : Bool) (H : Heap) (R : Ending → Heap → Prop) : Prop :=
  iteB (!x) (
    callD Try.prog 13 [] H (panK R) fun v H1 =>
    tBool v fun b1 =>
    R (.returned (.bool b1)) H1) <|
  ldInt H ⟨b, 0, none⟩ .i64 fun n =>
  ldInt H ⟨b, 1, none⟩ .i64 fun n1 =>
  ldInt H ⟨c, 0, none⟩ .i64 fun n2 =>
  ldInt H ⟨c, 1, none⟩ .i64 fun n3 =>
  callD Try.prog 16 [(.agg ⟨[(.int .i64 n), (.int .i64 n1)]⟩), (.agg ⟨[(.int .i64 n2), (.int .i64 n3)]⟩)] H (panK R) fun v1 H2 =>
  tBool v1 fun b2 =>
  iteB (!b2) (
    callD Try.prog 13 [] H2 (panK R) fun v2 H3 =>
    tBool v2 fun b3 =>
    R (.returned (.bool b3)) H3) <|
  ldInt H2 ⟨a, 0, none⟩ .i64 fun n4 =>
  ldInt H2 ⟨a, 1, none⟩ .i64 fun n5 =>
  ldInt H2 ⟨c, 0, none⟩ .i64 fun n6 =>
  ldInt H2 ⟨c, 1, none⟩ .i64 fun n7 =>
  callD Try.prog 16 [(.agg ⟨[(.int .i64 n4), (.int .i64 n5)]⟩), (.agg ⟨[(.int .i64 n6), (.int .i64 n7)]⟩)] H2 (panK R) fun v3 H4 =>
  tBool v3 fun b4 =>
  iteB b4 (
    callD Try.prog 13 [] H4 (panK R) fun v4 H5 =>
    tBool v4 fun b5 =>
    R (.returned (.bool b5)) H5) <|
  R (.returned (.bool false)) H4
theorem L0_step {a : Nat} {b : Nat} {c : Nat} {x : Bool} {H : Heap} {R : Ending → Heap → Prop} (h : L0n a b c x H R) : L0 a b c x H R :=
  goL_of_den (an := an) (fuel := 100000) (X := L0n a b c x H R) mixed fn (by kernel_rfl) (fun ρ0 => by kernel_rfl) h
def go (a_0 : Int) (a_1 : Int) (b_0 : Int) (b_1 : Int) (c_0 : Int) (c_1 : Int) (H : Heap) (R : Ending → Heap → Prop) : Prop :=
  newD H (.cells ⟨[(.int .i64 a_0), (.int .i64 a_1)]⟩ 35) fun r H1 =>
  newD H1 (.cells ⟨[(.int .i64 b_0), (.int .i64 b_1)]⟩ 35) fun r1 H2 =>
  newD H2 (.cells ⟨[(.int .i64 c_0), (.int .i64 c_1)]⟩ 35) fun r2 H3 =>
  ldInt H3 ⟨r, 0, none⟩ .i64 fun n =>
  ldInt H3 ⟨r, 1, none⟩ .i64 fun n1 =>
  ldInt H3 ⟨r1, 0, none⟩ .i64 fun n2 =>
  ldInt H3 ⟨r1, 1, none⟩ .i64 fun n3 =>
  ldInt H3 ⟨r1, 0, none⟩ .i64 fun n4 =>
  ldInt H3 ⟨r1, 1, none⟩ .i64 fun n5 =>
  ldInt H3 ⟨r, 0, none⟩ .i64 fun n6 =>
  ldInt H3 ⟨r, 1, none⟩ .i64 fun n7 =>
  callD Try.prog 16 [(.agg ⟨[(.int .i64 n), (.int .i64 n1)]⟩), (.agg ⟨[(.int .i64 n2), (.int .i64 n3)]⟩)] H3 nope fun v H4 =>
  tBool v fun b =>
  andD (ExtH H3 H4) <|
  callD Try.prog 16 [(.agg ⟨[(.int .i64 n4), (.int .i64 n5)]⟩), (.agg ⟨[(.int .i64 n6), (.int .i64 n7)]⟩)] H4 (panK R) fun v1 H5 =>
  tBool v1 fun b1 =>
  iteB b (
    iteB b1 (
      R (.returned (.bool false)) H5) <|
    ldInt H5 ⟨r, 0, none⟩ .i64 fun n8 =>
    ldInt H5 ⟨r, 1, none⟩ .i64 fun n9 =>
    ldInt H5 ⟨r1, 0, none⟩ .i64 fun n10 =>
    ldInt H5 ⟨r1, 1, none⟩ .i64 fun n11 =>
    rawB Try.prog .eql 35 (.agg ⟨[(.int .i64 n8), (.int .i64 n9)]⟩) (.agg ⟨[(.int .i64 n10), (.int .i64 n11)]⟩) fun b2 =>
    iteB (!b) (
      iteB (!(b2 == (!b1))) (
        R (.returned (.bool false)) H5) <|
      L0 r r1 r2 b H5 R) <|
    iteB (!(b2 == false)) (
      R (.returned (.bool false)) H5) <|
    L0 r r1 r2 b H5 R) <|
  ldInt H5 ⟨r, 0, none⟩ .i64 fun n12 =>
  ldInt H5 ⟨r, 1, none⟩ .i64 fun n13 =>
  ldInt H5 ⟨r1, 0, none⟩ .i64 fun n14 =>
  ldInt H5 ⟨r1, 1, none⟩ .i64 fun n15 =>
  rawB Try.prog .eql 35 (.agg ⟨[(.int .i64 n12), (.int .i64 n13)]⟩) (.agg ⟨[(.int .i64 n14), (.int .i64 n15)]⟩) fun b3 =>
  iteB (!b) (
    iteB (!(b3 == (!b1))) (
      R (.returned (.bool false)) H5) <|
    L0 r r1 r2 b H5 R) <|
  iteB (!(b3 == false)) (
    R (.returned (.bool false)) H5) <|
  L0 r r1 r2 b H5 R
theorem calls {a_0 : Int} {a_1 : Int} {b_0 : Int} {b_1 : Int} {c_0 : Int} {c_1 : Int} {H : Heap} {R : Ending → Heap → Prop} (h : go a_0 a_1 b_0 b_1 c_0 c_1 H R) : CallsH Try.prog 5 ⟨[(.agg ⟨[(.int .i64 a_0), (.int .i64 a_1)]⟩), (.agg ⟨[(.int .i64 b_0), (.int .i64 b_1)]⟩), (.agg ⟨[(.int .i64 c_0), (.int .i64 c_1)]⟩)]⟩ H R :=
  callsH_of_den (an := an) (fuel := 100000) (X := go a_0 a_1 b_0 b_1 c_0 c_1 H R) (c := body) mixed fn (by kernel_rfl) (by kernel_rfl) (by kernel_rfl) ok (by kernel_rfl) h
end F5
/-! ### 6 "pub-stadtholder/laws.FnTombstoneOne" -/
namespace F6
def an : Ann := { kinds := [], taus := [(7, [[0, 1, 2, 3, 5, 6, 7, 8, 4, 9, 10, 11, 12, 13, 15, 16, 17, 18, 14, 19, 20, 21, 22, 23, 24, 25, 26, 27]])], pairs := [], lab := [] }
noncomputable def body : Code := (Try.f6.body).getD .skip
theorem fn : Try.prog.funcs[6]? = some Try.f6 := by kernel_rfl
theorem ok : codeOk an 43 body = true := by kernel_rfl
def go (b : Option Addr) (bn : Nat) (bc : Nat) (H : Heap) (R : Ending → Heap → Prop) : Prop :=
  iteB (decide (((bn : Nat) : Int) > (2147483647 : Int))) (
    R (.returned (.bool true)) H) <|
  iteB (decide (((bn : Nat) : Int) > (65536 : Int))) (
    callD Try.prog 13 [] H (panK R) fun v H1 =>
    tBool v fun b1 =>
    R (.returned (.bool b1)) H1) <|
  callD Try.prog 17 [(.agg ⟨[(.int .i64 (1 : Int)), (.int .i64 (0 : Int))]⟩), (.bool true), (.bool true)] H (panK R) fun v1 H2 =>
  tSl v1 fun q qn qc =>
  iteB (decide (((qn : Nat) : Int) > (0 : Int))) (
    callD Try.prog 18 [(.slice b bn bc)] H2 (panK R) fun v2 H3 =>
    tBool v2 fun b2 =>
    iteB (((bn : Nat) : Int) == ((qn : Nat) : Int)) (
      idxD b bn (IntKind.wrap .i64 (((qn : Nat) : Int) - (1 : Int))) fun a =>
      idxD q qn (IntKind.wrap .i64 (((qn : Nat) : Int) - (1 : Int))) fun a1 =>
      ldInt H3 (Addr.add a (Int.toNat (IntKind.wrap .i64 (((qn : Nat) : Int) - (1 : Int))) * 1)) .u8 fun n =>
      ldInt H3 (Addr.add a1 (Int.toNat (IntKind.wrap .i64 (((qn : Nat) : Int) - (1 : Int))) * 1)) .u8 fun n1 =>
      iteB (b2 == (n == n1)) (
        callD Try.prog 13 [] H3 (panK R) fun v3 H4 =>
        tBool v3 fun b3 =>
        R (.returned (.bool b3)) H4) <|
      R (.returned (.bool false)) H3) <|
    iteB (b2 == false) (
      callD Try.prog 13 [] H3 (panK R) fun v4 H5 =>
      tBool v4 fun b4 =>
      R (.returned (.bool b4)) H5) <|
    R (.returned (.bool false)) H3) <|
  R (.returned (.bool false)) H2
theorem calls {b : Option Addr} {bn : Nat} {bc : Nat} {H : Heap} {R : Ending → Heap → Prop} (h : go b bn bc H R) : CallsH Try.prog 6 ⟨[(.slice b bn bc)]⟩ H R :=
  callsH_of_den (an := an) (fuel := 100000) (X := go b bn bc H R) (c := body) mixed fn (by kernel_rfl) (by kernel_rfl) (by kernel_rfl) ok (by kernel_rfl) h
end F6
/-! ### 7 "pub-stadtholder/laws.FnPagesAll" -/
namespace F7
def an : Ann := { kinds := [], taus := [(14, [[0, 2, 3, 4, 5, 1, 6, 7, 8]])], pairs := [], lab := [(40000011, [3, 10, 11, 42, 43, 44]), (70000014, [3, 10, 11, 12, 13, 42, 43, 44]), (60000017, [3, 10, 11, 13, 42, 43, 44]), (80000018, [3, 10, 11, 42, 43, 44, 78, 79, 80])] }
noncomputable def body : Code := (Try.f7.body).getD .skip
theorem fn : Try.prog.funcs[7]? = some Try.f7 := by kernel_rfl
theorem ok : codeOk an 95 body = true := by kernel_rfl
noncomputable def L0t : List Item := [.code (sub [1, 1, 1, 1, 1, 1, 0, 1, 0, 0] body), .inLoop (sub [1, 1, 1, 1, 1, 1, 0, 1, 0, 0] body), .inBlock 0, .code (sub [1, 1, 1, 1, 1, 1, 1] body)]
def L0 (s3 : Option Addr) (s3n : Nat) (s3c : Nat) (s10 : ByteArray) (s11 : ByteArray) (s42 : Option Addr) (s42n : Nat) (s42c : Nat) (s43 : Int) (s44 : Int) (H : Heap) (R : Ending → Heap → Prop) : Prop :=
  GoL Try.prog 7 95 L0t [3, 10, 11, 42, 43, 44] [(.slice s3 s3n s3c), (.string s10), (.string s11), (.slice s42 s42n s42c), (.int .i64 s43), (.int .i64 s44)] H R
noncomputable def L1t : List Item := [.code (sub [1, 1, 1, 1, 1, 1, 0, 1, 0, 0, 1, 1, 0, 0, 1, 0, 1, 0] body), .code (sub [1, 1, 1, 1, 1, 1, 0, 1, 0, 0, 1, 1, 0, 0, 1, 1] body), .inBlock 1, .code (sub [1, 1, 1, 1, 1, 1, 0, 1, 0, 0, 1, 1, 1] body), .inLoop (sub [1, 1, 1, 1, 1, 1, 0, 1, 0, 0] body), .inBlock 0, .code (sub [1, 1, 1, 1, 1, 1, 1] body)]
def L1 (s3 : Option Addr) (s3n : Nat) (s3c : Nat) (s10 : ByteArray) (s11 : ByteArray) (s12 : Int) (s13 : Nat) (s42 : Option Addr) (s42n : Nat) (s42c : Nat) (s43 : Int) (s44 : Int) (H : Heap) (R : Ending → Heap → Prop) : Prop :=
  GoL Try.prog 7 95 L1t [3, 10, 11, 12, 13, 42, 43, 44] [(.slice s3 s3n s3c), (.string s10), (.string s11), (.int .i64 s12), (.pointer (some ⟨s13, 0, none⟩)), (.slice s42 s42n s42c), (.int .i64 s43), (.int .i64 s44)] H R
noncomputable def L2t : List Item := [.code (sub [1, 1, 1, 1, 1, 1, 0, 1, 0, 0, 1, 1, 0, 0, 1, 1] body), .inBlock 1, .code (sub [1, 1, 1, 1, 1, 1, 0, 1, 0, 0, 1, 1, 1] body), .inLoop (sub [1, 1, 1, 1, 1, 1, 0, 1, 0, 0] body), .inBlock 0, .code (sub [1, 1, 1, 1, 1, 1, 1] body)]
def L2 (s3 : Option Addr) (s3n : Nat) (s3c : Nat) (s10 : ByteArray) (s11 : ByteArray) (s13 : Nat) (s42 : Option Addr) (s42n : Nat) (s42c : Nat) (s43 : Int) (s44 : Int) (H : Heap) (R : Ending → Heap → Prop) : Prop :=
  GoL Try.prog 7 95 L2t [3, 10, 11, 13, 42, 43, 44] [(.slice s3 s3n s3c), (.string s10), (.string s11), (.pointer (some ⟨s13, 0, none⟩)), (.slice s42 s42n s42c), (.int .i64 s43), (.int .i64 s44)] H R
noncomputable def L3t : List Item := [.code (sub [1, 1, 1, 1, 1, 1, 0, 1, 0, 0, 1, 1, 0, 0, 1, 1, 1, 0, 0] body), .inLoop (sub [1, 1, 1, 1, 1, 1, 0, 1, 0, 0, 1, 1, 0, 0, 1, 1, 1, 0, 0] body), .inBlock 2, .inBlock 1, .code (sub [1, 1, 1, 1, 1, 1, 0, 1, 0, 0, 1, 1, 1] body), .inLoop (sub [1, 1, 1, 1, 1, 1, 0, 1, 0, 0] body), .inBlock 0, .code (sub [1, 1, 1, 1, 1, 1, 1] body)]
def L3 (s3 : Option Addr) (s3n : Nat) (s3c : Nat) (s10 : ByteArray) (s11 : ByteArray) (s42 : Option Addr) (s42n : Nat) (s42c : Nat) (s43 : Int) (s44 : Int) (s78 : Option Addr) (s78n : Nat) (s78c : Nat) (s79 : Int) (s80 : Int) (H : Heap) (R : Ending → Heap → Prop) : Prop :=
  GoL Try.prog 7 95 L3t [3, 10, 11, 42, 43, 44, 78, 79, 80] [(.slice s3 s3n s3c), (.string s10), (.string s11), (.slice s42 s42n s42c), (.int .i64 s43), (.int .i64 s44), (.slice s78 s78n s78c), (.int .i64 s79), (.int .i64 s80)] H R
def L0n (s3 : Option Addr) (s3n : Nat) (s3c : Nat) (s10 : ByteArray) (s11 : ByteArray) (s42 : Option Addr) (s42n : Nat) (s42c : Nat) (s43 : Int) (s44 : Int) (H : Heap) (R : Ending → Heap → Prop) : Prop :=
  iteB (decide (s44 < s43)) (
    idxD s42 s42n s44 fun a =>
    ldInt H (Addr.add a (Int.toNat s44 * 2)) .i64 fun n =>
    ldSl H (Addr.add (Addr.add a (Int.toNat s44 * 2)) 1) fun q qn qc =>
    newD H (.cells ⟨[(.int .i64 (0 : Int)), (.slice none 0 0)]⟩ 55) fun r H1 =>
    st1 H1 ⟨r, 0, none⟩ (.int .i64 n) fun H2 =>
    st1 H2 ⟨r, 1, none⟩ (.slice q qn qc) fun H3 =>
    iteB (decide (s44 < ((s3n : Nat) : Int))) (
      idxD s3 s3n s44 fun a1 =>
      ldBool H3 (Addr.add (Addr.add a1 (Int.toNat s44 * 2)) 1) fun b =>
      iteB (!b) (
        L1 s3 s3n s3c s10 s11 s44 r s42 s42n s42c s43 s44 H3 R) <|
      L2 s3 s3n s3c s10 s11 r s42 s42n s42c s43 s44 H3 R) <|
    L2 s3 s3n s3c s10 s11 r s42 s42n s42c s43 s44 H3 R) <|
  iteB (eqS s10 s11) (
    callD Try.prog 21 [] H (panK R) fun v H4 =>
    tBool v fun b1 =>
    R (.returned (.bool b1)) H4) <|
  R (.returned (.bool false)) H
theorem L0_step {s3 : Option Addr} {s3n : Nat} {s3c : Nat} {s10 : ByteArray} {s11 : ByteArray} {s42 : Option Addr} {s42n : Nat} {s42c : Nat} {s43 : Int} {s44 : Int} {H : Heap} {R : Ending → Heap → Prop} (h : L0n s3 s3n s3c s10 s11 s42 s42n s42c s43 s44 H R) : L0 s3 s3n s3c s10 s11 s42 s42n s42c s43 s44 H R :=
  goL_of_den (an := an) (fuel := 100000) (X := L0n s3 s3n s3c s10 s11 s42 s42n s42c s43 s44 H R) mixed fn (by kernel_rfl) (fun ρ0 => by kernel_rfl) h
def L1n (s3 : Option Addr) (s3n : Nat) (s3c : Nat) (s10 : ByteArray) (s11 : ByteArray) (s12 : Int) (s13 : Nat) (s42 : Option Addr) (s42n : Nat) (s42c : Nat) (s43 : Int) (s44 : Int) (H : Heap) (R : Ending → Heap → Prop) : Prop :=
  idxD s3 s3n s12 fun a =>
  ldStr H (Addr.add a (Int.toNat s12 * 2)) fun s =>
  catD s10 s fun s1 =>
  idxD s3 s3n s12 fun a1 =>
  ldInt H ⟨s13, 0, none⟩ .i64 fun n =>
  ldStr H (Addr.add a1 (Int.toNat s12 * 2)) fun s2 =>
  iteB (n != ((ByteArray.size s2 : Nat) : Int)) (
    R (.returned (.bool false)) H) <|
  L2 s3 s3n s3c s1 s11 s13 s42 s42n s42c s43 s44 H R
theorem L1_step {s3 : Option Addr} {s3n : Nat} {s3c : Nat} {s10 : ByteArray} {s11 : ByteArray} {s12 : Int} {s13 : Nat} {s42 : Option Addr} {s42n : Nat} {s42c : Nat} {s43 : Int} {s44 : Int} {H : Heap} {R : Ending → Heap → Prop} (h : L1n s3 s3n s3c s10 s11 s12 s13 s42 s42n s42c s43 s44 H R) : L1 s3 s3n s3c s10 s11 s12 s13 s42 s42n s42c s43 s44 H R :=
  goL_of_den (an := an) (fuel := 100000) (X := L1n s3 s3n s3c s10 s11 s12 s13 s42 s42n s42c s43 s44 H R) mixed fn (by kernel_rfl) (fun ρ0 => by kernel_rfl) h
def L2n (s3 : Option Addr) (s3n : Nat) (s3c : Nat) (s10 : ByteArray) (s11 : ByteArray) (s13 : Nat) (s42 : Option Addr) (s42n : Nat) (s42c : Nat) (s43 : Int) (s44 : Int) (H : Heap) (R : Ending → Heap → Prop) : Prop :=
  ldSl H ⟨s13, 1, none⟩ fun q qn qc =>
  L3 s3 s3n s3c s10 s11 s42 s42n s42c s43 s44 q qn qc ((qn : Nat) : Int) (0 : Int) H R
theorem L2_step {s3 : Option Addr} {s3n : Nat} {s3c : Nat} {s10 : ByteArray} {s11 : ByteArray} {s13 : Nat} {s42 : Option Addr} {s42n : Nat} {s42c : Nat} {s43 : Int} {s44 : Int} {H : Heap} {R : Ending → Heap → Prop} (h : L2n s3 s3n s3c s10 s11 s13 s42 s42n s42c s43 s44 H R) : L2 s3 s3n s3c s10 s11 s13 s42 s42n s42c s43 s44 H R :=
  goL_of_den (an := an) (fuel := 100000) (X := L2n s3 s3n s3c s10 s11 s13 s42 s42n s42c s43 s44 H R) mixed fn (by kernel_rfl) (fun ρ0 => by kernel_rfl) h
def L3n (s3 : Option Addr) (s3n : Nat) (s3c : Nat) (s10 : ByteArray) (s11 : ByteArray) (s42 : Option Addr) (s42n : Nat) (s42c : Nat) (s43 : Int) (s44 : Int) (s78 : Option Addr) (s78n : Nat) (s78c : Nat) (s79 : Int) (s80 : Int) (H : Heap) (R : Ending → Heap → Prop) : Prop :=
  iteB (decide (s80 < s79)) (
    idxD s78 s78n s80 fun a =>
    ldStr H (Addr.add a (Int.toNat s80 * 1)) fun s =>
    catD s11 s fun s1 =>
    L3 s3 s3n s3c s10 s1 s42 s42n s42c s43 s44 s78 s78n s78c s79 (IntKind.wrap .i64 (s80 + (1 : Int))) H R) <|
  L0 s3 s3n s3c s10 s11 s42 s42n s42c s43 (IntKind.wrap .i64 (s44 + (1 : Int))) H R
theorem L3_step {s3 : Option Addr} {s3n : Nat} {s3c : Nat} {s10 : ByteArray} {s11 : ByteArray} {s42 : Option Addr} {s42n : Nat} {s42c : Nat} {s43 : Int} {s44 : Int} {s78 : Option Addr} {s78n : Nat} {s78c : Nat} {s79 : Int} {s80 : Int} {H : Heap} {R : Ending → Heap → Prop} (h : L3n s3 s3n s3c s10 s11 s42 s42n s42c s43 s44 s78 s78n s78c s79 s80 H R) : L3 s3 s3n s3c s10 s11 s42 s42n s42c s43 s44 s78 s78n s78c s79 s80 H R :=
  goL_of_den (an := an) (fuel := 100000) (X := L3n s3 s3n s3c s10 s11 s42 s42n s42c s43 s44 s78 s78n s78c s79 s80 H R) mixed fn (by kernel_rfl) (fun ρ0 => by kernel_rfl) h
def go (s0 : Int) (s1 : Int) (s2 : Int) (s3 : Option Addr) (s3n : Nat) (s3c : Nat) (H : Heap) (R : Ending → Heap → Prop) : Prop :=
  callD Try.prog 19 [(.slice s3 s3n s3c)] H (panK R) fun v H1 =>
  tBool v fun b =>
  iteB (!b) (
    R (.returned (.bool true)) H1) <|
  callD Try.prog 20 [(.int .i64 s0), (.int .i64 s1), (.int .i64 s2), (.slice s3 s3n s3c)] H1 (panK R) fun v1 H2 =>
  tBool v1 fun b1 =>
  iteB (!b1) (
    callD Try.prog 21 [] H2 (panK R) fun v2 H3 =>
    tBool v2 fun b2 =>
    R (.returned (.bool b2)) H3) <|
  newD H2 (.cells ⟨[]⟩ 52) fun r H4 =>
  apD H4 2 24 [(.string (ByteArray.mk #[])), (.bool false)] 52 (some ⟨r, 0, none⟩) 0 0 s3 s3n fun q qn qc H5 =>
  newD H5 (.cells ⟨[(.string (ByteArray.mk #[])), (.bool true)]⟩ 52) fun r1 H6 =>
  apD H6 2 24 [(.string (ByteArray.mk #[])), (.bool false)] 52 q qn qc (some ⟨r1, 0, none⟩) 1 fun q1 q1n q1c H7 =>
  callD Try.prog 22 [(.int .i64 s0), (.int .i64 s1), (.int .i64 s2), (.slice q1 q1n q1c)] H7 (panK R) fun v3 H8 =>
  tSl v3 fun q2 q2n q2c =>
  iteB (((q2n : Nat) : Int) != (IntKind.wrap .i64 (((s3n : Nat) : Int) + (1 : Int)))) (
    R (.returned (.bool false)) H8) <|
  L0 s3 s3n s3c (ByteArray.mk #[]) (ByteArray.mk #[]) q2 q2n q2c ((q2n : Nat) : Int) (0 : Int) H8 R
theorem calls {s0 : Int} {s1 : Int} {s2 : Int} {s3 : Option Addr} {s3n : Nat} {s3c : Nat} {H : Heap} {R : Ending → Heap → Prop} (h : go s0 s1 s2 s3 s3n s3c H R) : CallsH Try.prog 7 ⟨[(.int .i64 s0), (.int .i64 s1), (.int .i64 s2), (.slice s3 s3n s3c)]⟩ H R :=
  callsH_of_den (an := an) (fuel := 100000) (X := go s0 s1 s2 s3 s3n s3c H R) (c := body) mixed fn (by kernel_rfl) (by kernel_rfl) (by kernel_rfl) ok (by kernel_rfl) h
end F7
/-! ### 8 "pub-stadtholder/laws.FnHasherCounts" -/
namespace F8
def an : Ann := { kinds := [], taus := [], pairs := [], lab := [(10000004, [0, 1, 2, 3]), (40000008, [0, 1, 2, 3, 9, 27, 28, 29]), (40000012, [0, 1, 2, 3, 9, 27, 28, 29])] }
noncomputable def body : Code := (Try.f8.body).getD .skip
theorem fn : Try.prog.funcs[8]? = some Try.f8 := by kernel_rfl
theorem ok : codeOk an 57 body = true := by kernel_rfl
noncomputable def L0t : List Item := [.code (sub [1, 1] body)]
def L0 (compact : Int) (rev : Int) (keep : Option Addr) (keepn : Nat) (keepc : Nat) (xrows : Option Addr) (xrowsn : Nat) (xrowsc : Nat) (H : Heap) (R : Ending → Heap → Prop) : Prop :=
  GoL Try.prog 8 57 L0t [0, 1, 2, 3] [(.int .i64 compact), (.int .i64 rev), (.slice keep keepn keepc), (.slice xrows xrowsn xrowsc)] H R
noncomputable def L1t : List Item := [.code (sub [1, 1, 1, 1, 0, 1, 0, 0] body), .inLoop (sub [1, 1, 1, 1, 0, 1, 0, 0] body), .inBlock 0, .code (sub [1, 1, 1, 1, 1] body)]
def L1 (compact : Int) (rev : Int) (keep : Option Addr) (keepn : Nat) (keepc : Nat) (xrows : Option Addr) (xrowsn : Nat) (xrowsc : Nat) (xsome : Option Addr) (xsomen : Nat) (xsomec : Nat) (s27 : Option Addr) (s27n : Nat) (s27c : Nat) (s28 : Int) (s29 : Int) (H : Heap) (R : Ending → Heap → Prop) : Prop :=
  GoL Try.prog 8 57 L1t [0, 1, 2, 3, 9, 27, 28, 29] [(.int .i64 compact), (.int .i64 rev), (.slice keep keepn keepc), (.slice xrows xrowsn xrowsc), (.slice xsome xsomen xsomec), (.slice s27 s27n s27c), (.int .i64 s28), (.int .i64 s29)] H R
noncomputable def L2t : List Item := [.code (sub [1, 1, 1, 1, 0, 1, 0, 0, 1, 1, 1] body), .inLoop (sub [1, 1, 1, 1, 0, 1, 0, 0] body), .inBlock 0, .code (sub [1, 1, 1, 1, 1] body)]
def L2 (compact : Int) (rev : Int) (keep : Option Addr) (keepn : Nat) (keepc : Nat) (xrows : Option Addr) (xrowsn : Nat) (xrowsc : Nat) (xsome : Option Addr) (xsomen : Nat) (xsomec : Nat) (s27 : Option Addr) (s27n : Nat) (s27c : Nat) (s28 : Int) (s29 : Int) (H : Heap) (R : Ending → Heap → Prop) : Prop :=
  GoL Try.prog 8 57 L2t [0, 1, 2, 3, 9, 27, 28, 29] [(.int .i64 compact), (.int .i64 rev), (.slice keep keepn keepc), (.slice xrows xrowsn xrowsc), (.slice xsome xsomen xsomec), (.slice s27 s27n s27c), (.int .i64 s28), (.int .i64 s29)] H R
def L0n (compact : Int) (rev : Int) (keep : Option Addr) (keepn : Nat) (keepc : Nat) (xrows : Option Addr) (xrowsn : Nat) (xrowsc : Nat) (H : Heap) (R : Ending → Heap → Prop) : Prop :=
  callD Try.prog 24 [(.int .i64 compact), (.int .i64 rev), (.slice keep keepn keepc), (.slice xrows xrowsn xrowsc)] H (panK R) fun v H1 =>
  tBool v fun b =>
  iteB (!b) (
    callD Try.prog 25 [] H1 (panK R) fun v1 H2 =>
    tBool v1 fun b1 =>
    R (.returned (.bool b1)) H2) <|
  L1 compact rev keep keepn keepc xrows xrowsn xrowsc none 0 0 xrows xrowsn xrowsc ((xrowsn : Nat) : Int) (0 : Int) H1 R
theorem L0_step {compact : Int} {rev : Int} {keep : Option Addr} {keepn : Nat} {keepc : Nat} {xrows : Option Addr} {xrowsn : Nat} {xrowsc : Nat} {H : Heap} {R : Ending → Heap → Prop} (h : L0n compact rev keep keepn keepc xrows xrowsn xrowsc H R) : L0 compact rev keep keepn keepc xrows xrowsn xrowsc H R :=
  goL_of_den (an := an) (fuel := 100000) (X := L0n compact rev keep keepn keepc xrows xrowsn xrowsc H R) mixed fn (by kernel_rfl) (fun ρ0 => by kernel_rfl) h
def L1n (compact : Int) (rev : Int) (keep : Option Addr) (keepn : Nat) (keepc : Nat) (xrows : Option Addr) (xrowsn : Nat) (xrowsc : Nat) (xsome : Option Addr) (xsomen : Nat) (xsomec : Nat) (s27 : Option Addr) (s27n : Nat) (s27c : Nat) (s28 : Int) (s29 : Int) (H : Heap) (R : Ending → Heap → Prop) : Prop :=
  iteB (decide (s29 < s28)) (
    idxD s27 s27n s29 fun a =>
    ldInt H (Addr.add a (Int.toNat s29 * 9)) .i64 fun n =>
    ldInt H (Addr.add (Addr.add a (Int.toNat s29 * 9)) 1) .i64 fun n1 =>
    ldBool H (Addr.add (Addr.add a (Int.toNat s29 * 9)) 2) fun b =>
    ldStr H (Addr.add (Addr.add a (Int.toNat s29 * 9)) 3) fun s =>
    ldStr H (Addr.add (Addr.add a (Int.toNat s29 * 9)) 4) fun s1 =>
    ldInt H (Addr.add (Addr.add a (Int.toNat s29 * 9)) 5) .i64 fun n2 =>
    ldInt H (Addr.add (Addr.add a (Int.toNat s29 * 9)) 6) .i64 fun n3 =>
    ldInt H (Addr.add (Addr.add a (Int.toNat s29 * 9)) 7) .i64 fun n4 =>
    ldInt H (Addr.add (Addr.add a (Int.toNat s29 * 9)) 8) .i64 fun n5 =>
    newD H (.cells ⟨[(.int .i64 (0 : Int)), (.int .i64 (0 : Int)), (.bool false), (.string (ByteArray.mk #[])), (.string (ByteArray.mk #[])), (.int .i64 (0 : Int)), (.int .i64 (0 : Int)), (.int .i64 (0 : Int)), (.int .i64 (0 : Int))]⟩ 61) fun r H1 =>
    st1 H1 ⟨r, 0, none⟩ (.int .i64 n) fun H2 =>
    st1 H2 ⟨r, 1, none⟩ (.int .i64 n1) fun H3 =>
    st1 H3 ⟨r, 2, none⟩ (.bool b) fun H4 =>
    st1 H4 ⟨r, 3, none⟩ (.string s) fun H5 =>
    st1 H5 ⟨r, 4, none⟩ (.string s1) fun H6 =>
    st1 H6 ⟨r, 5, none⟩ (.int .i64 n2) fun H7 =>
    st1 H7 ⟨r, 6, none⟩ (.int .i64 n3) fun H8 =>
    st1 H8 ⟨r, 7, none⟩ (.int .i64 n4) fun H9 =>
    st1 H9 ⟨r, 8, none⟩ (.int .i64 n5) fun H10 =>
    ldInt H10 ⟨r, 0, none⟩ .i64 fun n6 =>
    ldInt H10 ⟨r, 1, none⟩ .i64 fun n7 =>
    ldBool H10 ⟨r, 2, none⟩ fun b1 =>
    ldStr H10 ⟨r, 3, none⟩ fun s2 =>
    ldStr H10 ⟨r, 4, none⟩ fun s3 =>
    ldInt H10 ⟨r, 5, none⟩ .i64 fun n8 =>
    ldInt H10 ⟨r, 6, none⟩ .i64 fun n9 =>
    ldInt H10 ⟨r, 7, none⟩ .i64 fun n10 =>
    ldInt H10 ⟨r, 8, none⟩ .i64 fun n11 =>
    callD Try.prog 26 [(.agg ⟨[(.int .i64 n6), (.int .i64 n7), (.bool b1), (.string s2), (.string s3), (.int .i64 n8), (.int .i64 n9), (.int .i64 n10), (.int .i64 n11)]⟩), (.int .i64 compact), (.int .i64 rev), (.slice keep keepn keepc)] H10 (panK R) fun v H11 =>
    tBool v fun b2 =>
    iteB b2 (
      ldInt H11 ⟨r, 0, none⟩ .i64 fun n12 =>
      ldInt H11 ⟨r, 1, none⟩ .i64 fun n13 =>
      ldBool H11 ⟨r, 2, none⟩ fun b3 =>
      ldStr H11 ⟨r, 3, none⟩ fun s4 =>
      ldStr H11 ⟨r, 4, none⟩ fun s5 =>
      ldInt H11 ⟨r, 5, none⟩ .i64 fun n14 =>
      ldInt H11 ⟨r, 6, none⟩ .i64 fun n15 =>
      ldInt H11 ⟨r, 7, none⟩ .i64 fun n16 =>
      ldInt H11 ⟨r, 8, none⟩ .i64 fun n17 =>
      newD H11 (.cells ⟨[(.int .i64 n12), (.int .i64 n13), (.bool b3), (.string s4), (.string s5), (.int .i64 n14), (.int .i64 n15), (.int .i64 n16), (.int .i64 n17)]⟩ 61) fun r1 H12 =>
      apD H12 9 88 [(.int .i64 (0 : Int)), (.int .i64 (0 : Int)), (.bool false), (.string (ByteArray.mk #[])), (.string (ByteArray.mk #[])), (.int .i64 (0 : Int)), (.int .i64 (0 : Int)), (.int .i64 (0 : Int)), (.int .i64 (0 : Int))] 61 xsome xsomen xsomec (some ⟨r1, 0, none⟩) 1 fun q qn qc H13 =>
      L2 compact rev keep keepn keepc xrows xrowsn xrowsc q qn qc s27 s27n s27c s28 s29 H13 R) <|
    L2 compact rev keep keepn keepc xrows xrowsn xrowsc xsome xsomen xsomec s27 s27n s27c s28 s29 H11 R) <|
  callD Try.prog 27 [(.int .i64 compact), (.int .i64 rev), (.slice keep keepn keepc), (.slice xrows xrowsn xrowsc)] H (panK R) fun v1 H14 =>
  tInt v1 .u32 fun n18 =>
  callD Try.prog 27 [(.int .i64 compact), (.int .i64 rev), (.slice keep keepn keepc), (.slice xsome xsomen xsomec)] H14 (panK R) fun v2 H15 =>
  tInt v2 .u32 fun n19 =>
  iteB (n18 == n19) (
    callD Try.prog 25 [] H15 (panK R) fun v3 H16 =>
    tBool v3 fun b4 =>
    R (.returned (.bool b4)) H16) <|
  R (.returned (.bool false)) H15
theorem L1_step {compact : Int} {rev : Int} {keep : Option Addr} {keepn : Nat} {keepc : Nat} {xrows : Option Addr} {xrowsn : Nat} {xrowsc : Nat} {xsome : Option Addr} {xsomen : Nat} {xsomec : Nat} {s27 : Option Addr} {s27n : Nat} {s27c : Nat} {s28 : Int} {s29 : Int} {H : Heap} {R : Ending → Heap → Prop} (h : L1n compact rev keep keepn keepc xrows xrowsn xrowsc xsome xsomen xsomec s27 s27n s27c s28 s29 H R) : L1 compact rev keep keepn keepc xrows xrowsn xrowsc xsome xsomen xsomec s27 s27n s27c s28 s29 H R :=
  goL_of_den (an := an) (fuel := 100000) (X := L1n compact rev keep keepn keepc xrows xrowsn xrowsc xsome xsomen xsomec s27 s27n s27c s28 s29 H R) mixed fn (by kernel_rfl) (fun ρ0 => by kernel_rfl) h
def L2n (compact : Int) (rev : Int) (keep : Option Addr) (keepn : Nat) (keepc : Nat) (xrows : Option Addr) (xrowsn : Nat) (xrowsc : Nat) (xsome : Option Addr) (xsomen : Nat) (xsomec : Nat) (s27 : Option Addr) (s27n : Nat) (s27c : Nat) (s28 : Int) (s29 : Int) (H : Heap) (R : Ending → Heap → Prop) : Prop :=
  L1 compact rev keep keepn keepc xrows xrowsn xrowsc xsome xsomen xsomec s27 s27n s27c s28 (IntKind.wrap .i64 (s29 + (1 : Int))) H R
theorem L2_step {compact : Int} {rev : Int} {keep : Option Addr} {keepn : Nat} {keepc : Nat} {xrows : Option Addr} {xrowsn : Nat} {xrowsc : Nat} {xsome : Option Addr} {xsomen : Nat} {xsomec : Nat} {s27 : Option Addr} {s27n : Nat} {s27c : Nat} {s28 : Int} {s29 : Int} {H : Heap} {R : Ending → Heap → Prop} (h : L2n compact rev keep keepn keepc xrows xrowsn xrowsc xsome xsomen xsomec s27 s27n s27c s28 s29 H R) : L2 compact rev keep keepn keepc xrows xrowsn xrowsc xsome xsomen xsomec s27 s27n s27c s28 s29 H R :=
  goL_of_den (an := an) (fuel := 100000) (X := L2n compact rev keep keepn keepc xrows xrowsn xrowsc xsome xsomen xsomec s27 s27n s27c s28 s29 H R) mixed fn (by kernel_rfl) (fun ρ0 => by kernel_rfl) h
def go (compact : Int) (rev : Int) (keep : Option Addr) (keepn : Nat) (keepc : Nat) (xrows : Option Addr) (xrowsn : Nat) (xrowsc : Nat) (H : Heap) (R : Ending → Heap → Prop) : Prop :=
  iteB (decide (((keepn : Nat) : Int) > (2147483647 : Int))) (
    R (.returned (.bool true)) H) <|
  callD Try.prog 23 [(.slice xrows xrowsn xrowsc)] H (panK R) fun v H1 =>
  tBool v fun b =>
  iteB (!b) (
    R (.returned (.bool true)) H1) <|
  L0 compact rev keep keepn keepc xrows xrowsn xrowsc H1 R
theorem calls {compact : Int} {rev : Int} {keep : Option Addr} {keepn : Nat} {keepc : Nat} {xrows : Option Addr} {xrowsn : Nat} {xrowsc : Nat} {H : Heap} {R : Ending → Heap → Prop} (h : go compact rev keep keepn keepc xrows xrowsn xrowsc H R) : CallsH Try.prog 8 ⟨[(.int .i64 compact), (.int .i64 rev), (.slice keep keepn keepc), (.slice xrows xrowsn xrowsc)]⟩ H R :=
  callsH_of_den (an := an) (fuel := 100000) (X := go compact rev keep keepn keepc xrows xrowsn xrowsc H R) (c := body) mixed fn (by kernel_rfl) (by kernel_rfl) (by kernel_rfl) ok (by kernel_rfl) h
end F8
/-! ### 9 "pub-stadtholder/laws.zzFits13" -/
namespace F9
def an : Ann := { kinds := [], taus := [], pairs := [], lab := [(40000005, [8, 9, 10])] }
noncomputable def body : Code := (Try.f9.body).getD .skip
theorem fn : Try.prog.funcs[9]? = some Try.f9 := by kernel_rfl
theorem ok : codeOk an 18 body = true := by kernel_rfl
noncomputable def L0t : List Item := [.code (sub [1, 1, 0, 1, 0, 0] body), .inLoop (sub [1, 1, 0, 1, 0, 0] body), .inBlock 0, .code (sub [1, 1, 1] body)]
def L0 (s8 : Option Addr) (s8n : Nat) (s8c : Nat) (s9 : Int) (s10 : Int) (H : Heap) (R : Ending → Heap → Prop) : Prop :=
  GoL Try.prog 9 18 L0t [8, 9, 10] [(.slice s8 s8n s8c), (.int .i64 s9), (.int .i64 s10)] H R
def L0n (s8 : Option Addr) (s8n : Nat) (s8c : Nat) (s9 : Int) (s10 : Int) (H : Heap) (R : Ending → Heap → Prop) : Prop :=
  iteB (decide (s10 < s9)) (
    idxD s8 s8n s10 fun a =>
    ldStr H (Addr.add a (Int.toNat s10 * 6)) fun s =>
    ldStr H (Addr.add (Addr.add a (Int.toNat s10 * 6)) 1) fun s1 =>
    ldInt H (Addr.add (Addr.add a (Int.toNat s10 * 6)) 2) .i64 fun n =>
    ldInt H (Addr.add (Addr.add a (Int.toNat s10 * 6)) 3) .i64 fun n1 =>
    ldInt H (Addr.add (Addr.add a (Int.toNat s10 * 6)) 4) .i64 fun n2 =>
    ldInt H (Addr.add (Addr.add a (Int.toNat s10 * 6)) 5) .i64 fun n3 =>
    newD H (.cells ⟨[(.string (ByteArray.mk #[])), (.string (ByteArray.mk #[])), (.int .i64 (0 : Int)), (.int .i64 (0 : Int)), (.int .i64 (0 : Int)), (.int .i64 (0 : Int))]⟩ 32) fun r H1 =>
    st1 H1 ⟨r, 0, none⟩ (.string s) fun H2 =>
    st1 H2 ⟨r, 1, none⟩ (.string s1) fun H3 =>
    st1 H3 ⟨r, 2, none⟩ (.int .i64 n) fun H4 =>
    st1 H4 ⟨r, 3, none⟩ (.int .i64 n1) fun H5 =>
    st1 H5 ⟨r, 4, none⟩ (.int .i64 n2) fun H6 =>
    st1 H6 ⟨r, 5, none⟩ (.int .i64 n3) fun H7 =>
    ldStr H7 ⟨r, 0, none⟩ fun s2 =>
    ldStr H7 ⟨r, 1, none⟩ fun s3 =>
    ldInt H7 ⟨r, 2, none⟩ .i64 fun n4 =>
    ldInt H7 ⟨r, 3, none⟩ .i64 fun n5 =>
    ldInt H7 ⟨r, 4, none⟩ .i64 fun n6 =>
    ldInt H7 ⟨r, 5, none⟩ .i64 fun n7 =>
    callD Try.prog 28 [(.agg ⟨[(.string s2), (.string s3), (.int .i64 n4), (.int .i64 n5), (.int .i64 n6), (.int .i64 n7)]⟩)] H7 (panK R) fun v H8 =>
    tBool v fun b =>
    iteB (!b) (
      R (.returned (.bool false)) H8) <|
    L0 s8 s8n s8c s9 (IntKind.wrap .i64 (s10 + (1 : Int))) H8 R) <|
  R (.returned (.bool true)) H
theorem L0_step {s8 : Option Addr} {s8n : Nat} {s8c : Nat} {s9 : Int} {s10 : Int} {H : Heap} {R : Ending → Heap → Prop} (h : L0n s8 s8n s8c s9 s10 H R) : L0 s8 s8n s8c s9 s10 H R :=
  goL_of_den (an := an) (fuel := 100000) (X := L0n s8 s8n s8c s9 s10 H R) mixed fn (by kernel_rfl) (fun ρ0 => by kernel_rfl) h
def go (x : Option Addr) (xn : Nat) (xc : Nat) (H : Heap) (R : Ending → Heap → Prop) : Prop :=
  iteB (decide (((xn : Nat) : Int) > (2147483647 : Int))) (
    R (.returned (.bool false)) H) <|
  L0 x xn xc ((xn : Nat) : Int) (0 : Int) H R
theorem calls {x : Option Addr} {xn : Nat} {xc : Nat} {H : Heap} {R : Ending → Heap → Prop} (h : go x xn xc H R) : CallsH Try.prog 9 ⟨[(.slice x xn xc)]⟩ H R :=
  callsH_of_den (an := an) (fuel := 100000) (X := go x xn xc H R) (c := body) mixed fn (by kernel_rfl) (by kernel_rfl) (by kernel_rfl) ok (by kernel_rfl) h
end F9
/-! ### 10 "pub-stadtholder/laws.zzFits8" -/
namespace F10
def an : Ann := { kinds := [], taus := [], pairs := [], lab := [] }
noncomputable def body : Code := (Try.f10.body).getD .skip
theorem fn : Try.prog.funcs[10]? = some Try.f10 := by kernel_rfl
theorem ok : codeOk an 27 body = true := by kernel_rfl
def go (x_0 : Int) (x_1 : ByteArray) (x_2 : ByteArray) (x_3 : ByteArray) (x_4 : Int) (x_5 : Int) (x_6 : Int) (x_7 : Int) (x_8 : Int) (x_9 : Int) (x_10 : Int) (x_11 : Int) (x_12 : Int) (x_13 : Bool) (x_14 : Bool) (x_15 : Bool) (x_16 : Bool) (x_17 : Bool) (x_18 : Option Addr) (x_18n : Nat) (x_18c : Nat) (x_19 : Option Addr) (x_19n : Nat) (x_19c : Nat) (x_20 : Option Addr) (x_20n : Nat) (x_20c : Nat) (H : Heap) (R : Ending → Heap → Prop) : Prop :=
  newD H (.cells ⟨[(.int .i64 x_0), (.string x_1), (.string x_2), (.string x_3), (.int .i64 x_4), (.int .i64 x_5), (.int .i64 x_6), (.int .i64 x_7), (.int .i64 x_8), (.int .i64 x_9), (.int .i64 x_10), (.int .i64 x_11), (.int .i64 x_12), (.bool x_13), (.bool x_14), (.bool x_15), (.bool x_16), (.bool x_17), (.slice x_18 x_18n x_18c), (.slice x_19 x_19n x_19c), (.slice x_20 x_20n x_20c)]⟩ 26) fun r H1 =>
  ldStr H1 ⟨r, 1, none⟩ fun s =>
  iteB (decide (((ByteArray.size s : Nat) : Int) > (2147483647 : Int))) (
    R (.returned (.bool false)) H1) <|
  ldStr H1 ⟨r, 2, none⟩ fun s1 =>
  iteB (decide (((ByteArray.size s1 : Nat) : Int) > (2147483647 : Int))) (
    R (.returned (.bool false)) H1) <|
  ldStr H1 ⟨r, 3, none⟩ fun s2 =>
  iteB (decide (((ByteArray.size s2 : Nat) : Int) > (2147483647 : Int))) (
    R (.returned (.bool false)) H1) <|
  ldSl H1 ⟨r, 18, none⟩ fun q qn qc =>
  callD Try.prog 29 [(.slice q qn qc)] H1 (panK R) fun v H2 =>
  tBool v fun b =>
  iteB (!b) (
    R (.returned (.bool false)) H2) <|
  ldSl H2 ⟨r, 19, none⟩ fun q1 q1n q1c =>
  iteB (decide (((q1n : Nat) : Int) > (2147483647 : Int))) (
    R (.returned (.bool false)) H2) <|
  ldSl H2 ⟨r, 20, none⟩ fun q2 q2n q2c =>
  iteB (decide (((q2n : Nat) : Int) > (2147483647 : Int))) (
    R (.returned (.bool false)) H2) <|
  R (.returned (.bool true)) H2
theorem calls {x_0 : Int} {x_1 : ByteArray} {x_2 : ByteArray} {x_3 : ByteArray} {x_4 : Int} {x_5 : Int} {x_6 : Int} {x_7 : Int} {x_8 : Int} {x_9 : Int} {x_10 : Int} {x_11 : Int} {x_12 : Int} {x_13 : Bool} {x_14 : Bool} {x_15 : Bool} {x_16 : Bool} {x_17 : Bool} {x_18 : Option Addr} {x_18n : Nat} {x_18c : Nat} {x_19 : Option Addr} {x_19n : Nat} {x_19c : Nat} {x_20 : Option Addr} {x_20n : Nat} {x_20c : Nat} {H : Heap} {R : Ending → Heap → Prop} (h : go x_0 x_1 x_2 x_3 x_4 x_5 x_6 x_7 x_8 x_9 x_10 x_11 x_12 x_13 x_14 x_15 x_16 x_17 x_18 x_18n x_18c x_19 x_19n x_19c x_20 x_20n x_20c H R) : CallsH Try.prog 10 ⟨[(.agg ⟨[(.int .i64 x_0), (.string x_1), (.string x_2), (.string x_3), (.int .i64 x_4), (.int .i64 x_5), (.int .i64 x_6), (.int .i64 x_7), (.int .i64 x_8), (.int .i64 x_9), (.int .i64 x_10), (.int .i64 x_11), (.int .i64 x_12), (.bool x_13), (.bool x_14), (.bool x_15), (.bool x_16), (.bool x_17), (.slice x_18 x_18n x_18c), (.slice x_19 x_19n x_19c), (.slice x_20 x_20n x_20c)]⟩)]⟩ H R :=
  callsH_of_den (an := an) (fuel := 100000) (X := go x_0 x_1 x_2 x_3 x_4 x_5 x_6 x_7 x_8 x_9 x_10 x_11 x_12 x_13 x_14 x_15 x_16 x_17 x_18 x_18n x_18c x_19 x_19n x_19c x_20 x_20n x_20c H R) (c := body) mixed fn (by kernel_rfl) (by kernel_rfl) (by kernel_rfl) ok (by kernel_rfl) h
end F10
/-! ### 11 "pub-stadtholder/impl.Filtered" -/
namespace F11
def an : Ann := { kinds := [(1001, .grow)], taus := [(1, [[0, 2, 1, 3, 4, 5, 6]])], pairs := [], lab := [] }
noncomputable def body : Code := (Try.f11.body).getD .skip
theorem fn : Try.prog.funcs[11]? = some Try.f11 := by kernel_rfl
theorem ok : codeOk an 11 body = true := by kernel_rfl
def go (kvs : Option Addr) (kvsn : Nat) (kvsc : Nat) (r_0 : Int) (r_1 : ByteArray) (r_2 : ByteArray) (r_3 : ByteArray) (r_4 : Int) (r_5 : Int) (r_6 : Int) (r_7 : Int) (r_8 : Int) (r_9 : Int) (r_10 : Int) (r_11 : Int) (r_12 : Int) (r_13 : Bool) (r_14 : Bool) (r_15 : Bool) (r_16 : Bool) (r_17 : Bool) (r_18 : Option Addr) (r_18n : Nat) (r_18c : Nat) (r_19 : Option Addr) (r_19n : Nat) (r_19c : Nat) (r_20 : Option Addr) (r_20n : Nat) (r_20c : Nat) (H : Heap) (R : Ending → Heap → Prop) : Prop :=
  newD H (.cells ⟨[(.int .i64 r_0), (.string r_1), (.string r_2), (.string r_3), (.int .i64 r_4), (.int .i64 r_5), (.int .i64 r_6), (.int .i64 r_7), (.int .i64 r_8), (.int .i64 r_9), (.int .i64 r_10), (.int .i64 r_11), (.int .i64 r_12), (.bool r_13), (.bool r_14), (.bool r_15), (.bool r_16), (.bool r_17), (.slice r_18 r_18n r_18c), (.slice r_19 r_19n r_19c), (.slice r_20 r_20n r_20c)]⟩ 26) fun r H1 =>
  ldInt H1 ⟨r, 0, none⟩ .i64 fun n =>
  ldStr H1 ⟨r, 1, none⟩ fun s =>
  ldStr H1 ⟨r, 2, none⟩ fun s1 =>
  ldStr H1 ⟨r, 3, none⟩ fun s2 =>
  ldInt H1 ⟨r, 4, none⟩ .i64 fun n1 =>
  ldInt H1 ⟨r, 5, none⟩ .i64 fun n2 =>
  ldInt H1 ⟨r, 6, none⟩ .i64 fun n3 =>
  ldInt H1 ⟨r, 7, none⟩ .i64 fun n4 =>
  ldInt H1 ⟨r, 8, none⟩ .i64 fun n5 =>
  ldInt H1 ⟨r, 9, none⟩ .i64 fun n6 =>
  ldInt H1 ⟨r, 10, none⟩ .i64 fun n7 =>
  ldInt H1 ⟨r, 11, none⟩ .i64 fun n8 =>
  ldInt H1 ⟨r, 12, none⟩ .i64 fun n9 =>
  ldBool H1 ⟨r, 13, none⟩ fun b =>
  ldBool H1 ⟨r, 14, none⟩ fun b1 =>
  ldBool H1 ⟨r, 15, none⟩ fun b2 =>
  ldBool H1 ⟨r, 16, none⟩ fun b3 =>
  ldBool H1 ⟨r, 17, none⟩ fun b4 =>
  ldSl H1 ⟨r, 18, none⟩ fun q qn qc =>
  ldSl H1 ⟨r, 19, none⟩ fun q1 q1n q1c =>
  ldSl H1 ⟨r, 20, none⟩ fun q2 q2n q2c =>
  callD Try.prog 32 [(.slice kvs kvsn kvsc)] H1 nope fun v H2 =>
  tSl v fun q3 q3n q3c =>
  andD (ExtH H1 H2) <|
  callD Try.prog 33 [(.agg ⟨[(.int .i64 n), (.string s), (.string s1), (.string s2), (.int .i64 n1), (.int .i64 n2), (.int .i64 n3), (.int .i64 n4), (.int .i64 n5), (.int .i64 n6), (.int .i64 n7), (.int .i64 n8), (.int .i64 n9), (.bool b), (.bool b1), (.bool b2), (.bool b3), (.bool b4), (.slice q qn qc), (.slice q1 q1n q1c), (.slice q2 q2n q2c)]⟩)] H2 (panK R) fun v1 H3 =>
  tPtr v1 fun p =>
  callD Try.prog 31 [(.slice q3 q3n q3c), (.pointer p)] H3 (panK R) fun v2 H4 =>
  tSl v2 fun q4 q4n q4c =>
  callD Try.prog 30 [(.slice q4 q4n q4c)] H4 (panK R) fun v3 H5 =>
  tSl v3 fun q5 q5n q5c =>
  R (.returned (.slice q5 q5n q5c)) H5
theorem calls {kvs : Option Addr} {kvsn : Nat} {kvsc : Nat} {r_0 : Int} {r_1 : ByteArray} {r_2 : ByteArray} {r_3 : ByteArray} {r_4 : Int} {r_5 : Int} {r_6 : Int} {r_7 : Int} {r_8 : Int} {r_9 : Int} {r_10 : Int} {r_11 : Int} {r_12 : Int} {r_13 : Bool} {r_14 : Bool} {r_15 : Bool} {r_16 : Bool} {r_17 : Bool} {r_18 : Option Addr} {r_18n : Nat} {r_18c : Nat} {r_19 : Option Addr} {r_19n : Nat} {r_19c : Nat} {r_20 : Option Addr} {r_20n : Nat} {r_20c : Nat} {H : Heap} {R : Ending → Heap → Prop} (h : go kvs kvsn kvsc r_0 r_1 r_2 r_3 r_4 r_5 r_6 r_7 r_8 r_9 r_10 r_11 r_12 r_13 r_14 r_15 r_16 r_17 r_18 r_18n r_18c r_19 r_19n r_19c r_20 r_20n r_20c H R) : CallsH Try.prog 11 ⟨[(.slice kvs kvsn kvsc), (.agg ⟨[(.int .i64 r_0), (.string r_1), (.string r_2), (.string r_3), (.int .i64 r_4), (.int .i64 r_5), (.int .i64 r_6), (.int .i64 r_7), (.int .i64 r_8), (.int .i64 r_9), (.int .i64 r_10), (.int .i64 r_11), (.int .i64 r_12), (.bool r_13), (.bool r_14), (.bool r_15), (.bool r_16), (.bool r_17), (.slice r_18 r_18n r_18c), (.slice r_19 r_19n r_19c), (.slice r_20 r_20n r_20c)]⟩)]⟩ H R :=
  callsH_of_den (an := an) (fuel := 100000) (X := go kvs kvsn kvsc r_0 r_1 r_2 r_3 r_4 r_5 r_6 r_7 r_8 r_9 r_10 r_11 r_12 r_13 r_14 r_15 r_16 r_17 r_18 r_18n r_18c r_19 r_19n r_19c r_20 r_20n r_20c H R) (c := body) mixed fn (by kernel_rfl) (by kernel_rfl) (by kernel_rfl) ok (by kernel_rfl) h
end F11
/-! ### 12 "pub-stadtholder/laws.txnKVs" -/
namespace F12
def an : Ann := { kinds := [], taus := [(6, [[0, 1, 2, 4, 5, 6, 3, 7, 8]])], pairs := [], lab := [(40000005, [0, 1, 12, 13])] }
noncomputable def body : Code := (Try.f12.body).getD .skip
theorem fn : Try.prog.funcs[12]? = some Try.f12 := by kernel_rfl
theorem ok : codeOk an 26 body = true := by kernel_rfl
noncomputable def L0t : List Item := [.code (sub [1, 1, 0, 1, 0, 0] body), .inLoop (sub [1, 1, 0, 1, 0, 0] body), .inBlock 0, .code (sub [1, 1, 1] body)]
def L0 (a : Option Addr) (an1 : Nat) (ac : Nat) (b : Option Addr) (bn : Nat) (bc : Nat) (s12 : Int) (s13 : Int) (H : Heap) (R : Ending → Heap → Prop) : Prop :=
  GoL Try.prog 12 26 L0t [0, 1, 12, 13] [(.slice a an1 ac), (.slice b bn bc), (.int .i64 s12), (.int .i64 s13)] H R
def L0n (a : Option Addr) (an1 : Nat) (ac : Nat) (b : Option Addr) (bn : Nat) (bc : Nat) (s12 : Int) (s13 : Int) (H : Heap) (R : Ending → Heap → Prop) : Prop :=
  iteB (decide (s13 < s12)) (
    idxD a an1 s13 fun a1 =>
    idxD b bn s13 fun a2 =>
    ldStr H (Addr.add a1 (Int.toNat s13 * 6)) fun s =>
    ldStr H (Addr.add (Addr.add a1 (Int.toNat s13 * 6)) 1) fun s1 =>
    ldInt H (Addr.add (Addr.add a1 (Int.toNat s13 * 6)) 2) .i64 fun n =>
    ldInt H (Addr.add (Addr.add a1 (Int.toNat s13 * 6)) 3) .i64 fun n1 =>
    ldInt H (Addr.add (Addr.add a1 (Int.toNat s13 * 6)) 4) .i64 fun n2 =>
    ldInt H (Addr.add (Addr.add a1 (Int.toNat s13 * 6)) 5) .i64 fun n3 =>
    ldStr H (Addr.add a2 (Int.toNat s13 * 6)) fun s2 =>
    ldStr H (Addr.add (Addr.add a2 (Int.toNat s13 * 6)) 1) fun s3 =>
    ldInt H (Addr.add (Addr.add a2 (Int.toNat s13 * 6)) 2) .i64 fun n4 =>
    ldInt H (Addr.add (Addr.add a2 (Int.toNat s13 * 6)) 3) .i64 fun n5 =>
    ldInt H (Addr.add (Addr.add a2 (Int.toNat s13 * 6)) 4) .i64 fun n6 =>
    ldInt H (Addr.add (Addr.add a2 (Int.toNat s13 * 6)) 5) .i64 fun n7 =>
    rawB Try.prog .neq 32 (.agg ⟨[(.string s), (.string s1), (.int .i64 n), (.int .i64 n1), (.int .i64 n2), (.int .i64 n3)]⟩) (.agg ⟨[(.string s2), (.string s3), (.int .i64 n4), (.int .i64 n5), (.int .i64 n6), (.int .i64 n7)]⟩) fun b1 =>
    iteB (!b1) (
      R (.returned (.bool false)) H) <|
    L0 a an1 ac b bn bc s12 (IntKind.wrap .i64 (s13 + (1 : Int))) H R) <|
  R (.returned (.bool true)) H
theorem L0_step {a : Option Addr} {an1 : Nat} {ac : Nat} {b : Option Addr} {bn : Nat} {bc : Nat} {s12 : Int} {s13 : Int} {H : Heap} {R : Ending → Heap → Prop} (h : L0n a an1 ac b bn bc s12 s13 H R) : L0 a an1 ac b bn bc s12 s13 H R :=
  goL_of_den (an := an) (fuel := 100000) (X := L0n a an1 ac b bn bc s12 s13 H R) mixed fn (by kernel_rfl) (fun ρ0 => by kernel_rfl) h
def go (a : Option Addr) (an1 : Nat) (ac : Nat) (b : Option Addr) (bn : Nat) (bc : Nat) (H : Heap) (R : Ending → Heap → Prop) : Prop :=
  iteB (((an1 : Nat) : Int) != ((bn : Nat) : Int)) (
    R (.returned (.bool false)) H) <|
  L0 a an1 ac b bn bc ((an1 : Nat) : Int) (0 : Int) H R
theorem calls {a : Option Addr} {an1 : Nat} {ac : Nat} {b : Option Addr} {bn : Nat} {bc : Nat} {H : Heap} {R : Ending → Heap → Prop} (h : go a an1 ac b bn bc H R) : CallsH Try.prog 12 ⟨[(.slice a an1 ac), (.slice b bn bc)]⟩ H R :=
  callsH_of_den (an := an) (fuel := 100000) (X := go a an1 ac b bn bc H R) (c := body) mixed fn (by kernel_rfl) (by kernel_rfl) (by kernel_rfl) ok (by kernel_rfl) h
end F12
/-! ### 13 "pub-stadtholder/laws.rvLive" -/
namespace F13
def an : Ann := { kinds := [], taus := [], pairs := [], lab := [] }
noncomputable def body : Code := (Try.f13.body).getD .skip
theorem fn : Try.prog.funcs[13]? = some Try.f13 := by kernel_rfl
theorem ok : codeOk an 15 body = true := by kernel_rfl
def go  (H : Heap) (R : Ending → Heap → Prop) : Prop :=
  callD Try.prog 15 [(.agg ⟨[(.int .i64 (1 : Int)), (.int .i64 (2 : Int))]⟩)] H (panK R) fun v H1 =>
  tSl v fun q qn qc =>
  callD Try.prog 14 [(.slice q qn qc)] H1 (panK R) fun v1 H2 =>
  tTup v1 fun l =>
  tCons l fun c l1 =>
  tAgg c fun l2 =>
  tCons l2 fun c1 l3 =>
  tInt c1 .i64 fun n =>
  tCons l3 fun c2 l4 =>
  tInt c2 .i64 fun n1 =>
  tNil l4 <|
  tCons l1 fun c3 l5 =>
  tBool c3 fun b =>
  tNil l5 <|
  newD H2 (.cells ⟨[(.int .i64 (0 : Int)), (.int .i64 (0 : Int))]⟩ 35) fun r H3 =>
  st1 H3 ⟨r, 0, none⟩ (.int .i64 n) fun H4 =>
  st1 H4 ⟨r, 1, none⟩ (.int .i64 n1) fun H5 =>
  iteB b (
    ldInt H5 ⟨r, 0, none⟩ .i64 fun n2 =>
    ldInt H5 ⟨r, 1, none⟩ .i64 fun n3 =>
    rawB Try.prog .eql 35 (.agg ⟨[(.int .i64 n2), (.int .i64 n3)]⟩) (.agg ⟨[(.int .i64 (1 : Int)), (.int .i64 (2 : Int))]⟩) fun b1 =>
    R (.returned (.bool b1)) H5) <|
  R (.returned (.bool false)) H5
theorem calls  {H : Heap} {R : Ending → Heap → Prop} (h : go  H R) : CallsH Try.prog 13 ⟨[]⟩ H R :=
  callsH_of_den (an := an) (fuel := 100000) (X := go  H R) (c := body) mixed fn (by kernel_rfl) (by kernel_rfl) (by kernel_rfl) ok (by kernel_rfl) h
end F13
/-! ### 14 "pub-stadtholder/impl.BytesRev" -/
namespace F14
def an : Ann := { kinds := [], taus := [], pairs := [], lab := [] }
noncomputable def body : Code := (Try.f14.body).getD .skip
theorem fn : Try.prog.funcs[14]? = some Try.f14 := by kernel_rfl
theorem ok : codeOk an 11 body = true := by kernel_rfl
def go (b : Option Addr) (bn : Nat) (bc : Nat) (H : Heap) (R : Ending → Heap → Prop) : Prop :=
  newD H (.cells ⟨[(.slice b bn bc)]⟩ 39) fun r H1 =>
  newD H1 (.cells ⟨[(.int .i64 (0 : Int)), (.int .i64 (0 : Int))]⟩ 35) fun r1 H2 =>
  newD H2 (.cells ⟨[(.int .i64 (0 : Int)), (.int .i64 (0 : Int))]⟩ 35) fun r2 H3 =>
  st1 H3 ⟨r2, 0, none⟩ (.int .i64 (0 : Int)) fun H4 =>
  st1 H4 ⟨r2, 1, none⟩ (.int .i64 (0 : Int)) fun H5 =>
  callD Try.prog 34 [(.func (.func 35) ⟨[]⟩ ⟨[(.pointer (some ⟨r, 0, none⟩)), (.pointer (some ⟨r2, 0, none⟩))]⟩)] H5 (panK R) fun v H6 =>
  tBool v fun b1 =>
  ldInt H6 ⟨r2, 0, none⟩ .i64 fun n =>
  ldInt H6 ⟨r2, 1, none⟩ .i64 fun n1 =>
  st1 H6 ⟨r1, 0, none⟩ (.int .i64 n) fun H7 =>
  st1 H7 ⟨r1, 1, none⟩ (.int .i64 n1) fun H8 =>
  ldInt H8 ⟨r1, 0, none⟩ .i64 fun n2 =>
  ldInt H8 ⟨r1, 1, none⟩ .i64 fun n3 =>
  R (.returned (.tuple ⟨[(.agg ⟨[(.int .i64 n2), (.int .i64 n3)]⟩), (.bool b1)]⟩)) H8
theorem calls {b : Option Addr} {bn : Nat} {bc : Nat} {H : Heap} {R : Ending → Heap → Prop} (h : go b bn bc H R) : CallsH Try.prog 14 ⟨[(.slice b bn bc)]⟩ H R :=
  callsH_of_den (an := an) (fuel := 100000) (X := go b bn bc H R) (c := body) mixed fn (by kernel_rfl) (by kernel_rfl) (by kernel_rfl) ok (by kernel_rfl) h
end F14
/-! ### 15 "pub-stadtholder/impl.RevBytes" -/
namespace F15
def an : Ann := { kinds := [], taus := [], pairs := [], lab := [] }
noncomputable def body : Code := (Try.f15.body).getD .skip
theorem fn : Try.prog.funcs[15]? = some Try.f15 := by kernel_rfl
theorem ok : codeOk an 7 body = true := by kernel_rfl
def go (r_0 : Int) (r_1 : Int) (H : Heap) (R : Ending → Heap → Prop) : Prop :=
  newD H (.cells ⟨[(.int .i64 r_0), (.int .i64 r_1)]⟩ 35) fun r H1 =>
  ldInt H1 ⟨r, 0, none⟩ .i64 fun n =>
  ldInt H1 ⟨r, 1, none⟩ .i64 fun n1 =>
  callD Try.prog 39 [(.agg ⟨[(.int .i64 n), (.int .i64 n1)]⟩)] H1 (panK R) fun v H2 =>
  tAgg v fun l =>
  tCons l fun c l1 =>
  tInt c .i64 fun n2 =>
  tCons l1 fun c1 l2 =>
  tInt c1 .i64 fun n3 =>
  tNil l2 <|
  callD Try.prog 40 [] H2 (panK R) fun v1 H3 =>
  tSl v1 fun q qn qc =>
  callD Try.prog 38 [(.agg ⟨[(.int .i64 n2), (.int .i64 n3)]⟩), (.slice q qn qc)] H3 (panK R) fun v2 H4 =>
  tSl v2 fun q1 q1n q1c =>
  R (.returned (.slice q1 q1n q1c)) H4
theorem calls {r_0 : Int} {r_1 : Int} {H : Heap} {R : Ending → Heap → Prop} (h : go r_0 r_1 H R) : CallsH Try.prog 15 ⟨[(.agg ⟨[(.int .i64 r_0), (.int .i64 r_1)]⟩)]⟩ H R :=
  callsH_of_den (an := an) (fuel := 100000) (X := go r_0 r_1 H R) (c := body) mixed fn (by kernel_rfl) (by kernel_rfl) (by kernel_rfl) ok (by kernel_rfl) h
end F15
/-! ### 16 "pub-stadtholder/impl.Greater" -/
namespace F16
def an : Ann := { kinds := [(1001, .grow)], taus := [(1, [[0, 2, 1, 3, 4, 5]])], pairs := [], lab := [] }
noncomputable def body : Code := (Try.f16.body).getD .skip
theorem fn : Try.prog.funcs[16]? = some Try.f16 := by kernel_rfl
theorem ok : codeOk an 10 body = true := by kernel_rfl
def go (a_0 : Int) (a_1 : Int) (b_0 : Int) (b_1 : Int) (H : Heap) (R : Ending → Heap → Prop) : Prop :=
  newD H (.cells ⟨[(.int .i64 a_0), (.int .i64 a_1)]⟩ 35) fun r H1 =>
  newD H1 (.cells ⟨[(.int .i64 b_0), (.int .i64 b_1)]⟩ 35) fun r1 H2 =>
  ldInt H2 ⟨r, 0, none⟩ .i64 fun n =>
  ldInt H2 ⟨r, 1, none⟩ .i64 fun n1 =>
  ldInt H2 ⟨r1, 0, none⟩ .i64 fun n2 =>
  ldInt H2 ⟨r1, 1, none⟩ .i64 fun n3 =>
  callD Try.prog 39 [(.agg ⟨[(.int .i64 n), (.int .i64 n1)]⟩)] H2 nope fun v H3 =>
  tAgg v fun l =>
  tCons l fun c l1 =>
  tInt c .i64 fun n4 =>
  tCons l1 fun c1 l2 =>
  tInt c1 .i64 fun n5 =>
  tNil l2 <|
  andD (ExtH H2 H3) <|
  callD Try.prog 39 [(.agg ⟨[(.int .i64 n2), (.int .i64 n3)]⟩)] H3 (panK R) fun v1 H4 =>
  tAgg v1 fun l3 =>
  tCons l3 fun c2 l4 =>
  tInt c2 .i64 fun n6 =>
  tCons l4 fun c3 l5 =>
  tInt c3 .i64 fun n7 =>
  tNil l5 <|
  callD Try.prog 41 [(.agg ⟨[(.int .i64 n4), (.int .i64 n5)]⟩), (.agg ⟨[(.int .i64 n6), (.int .i64 n7)]⟩)] H4 (panK R) fun v2 H5 =>
  tBool v2 fun b =>
  R (.returned (.bool b)) H5
theorem calls {a_0 : Int} {a_1 : Int} {b_0 : Int} {b_1 : Int} {H : Heap} {R : Ending → Heap → Prop} (h : go a_0 a_1 b_0 b_1 H R) : CallsH Try.prog 16 ⟨[(.agg ⟨[(.int .i64 a_0), (.int .i64 a_1)]⟩), (.agg ⟨[(.int .i64 b_0), (.int .i64 b_1)]⟩)]⟩ H R :=
  callsH_of_den (an := an) (fuel := 100000) (X := go a_0 a_1 b_0 b_1 H R) (c := body) mixed fn (by kernel_rfl) (by kernel_rfl) (by kernel_rfl) ok (by kernel_rfl) h
end F16
/-! ### 17 "pub-stadtholder/impl.BucketBytes" -/
namespace F17
def an : Ann := { kinds := [], taus := [], pairs := [], lab := [(10000005, [1, 3, 7])] }
noncomputable def body : Code := (Try.f17.body).getD .skip
theorem fn : Try.prog.funcs[17]? = some Try.f17 := by kernel_rfl
theorem ok : codeOk an 17 body = true := by kernel_rfl
noncomputable def L0t : List Item := [.code (sub [1, 1, 1] body)]
def L0 (tombstone : Bool) (r : Nat) (b : Option Addr) (bn : Nat) (bc : Nat) (H : Heap) (R : Ending → Heap → Prop) : Prop :=
  GoL Try.prog 17 17 L0t [1, 3, 7] [(.bool tombstone), (.pointer (some ⟨r, 0, none⟩)), (.slice b bn bc)] H R
def L0n (tombstone : Bool) (r : Nat) (b : Option Addr) (bn : Nat) (bc : Nat) (H : Heap) (R : Ending → Heap → Prop) : Prop :=
  ldInt H ⟨r, 0, none⟩ .i64 fun n =>
  ldInt H ⟨r, 1, none⟩ .i64 fun n1 =>
  callD Try.prog 39 [(.agg ⟨[(.int .i64 n), (.int .i64 n1)]⟩)] H (panK R) fun v H1 =>
  tAgg v fun l =>
  tCons l fun c l1 =>
  tInt c .i64 fun n2 =>
  tCons l1 fun c1 l2 =>
  tInt c1 .i64 fun n3 =>
  tNil l2 <|
  callD Try.prog 43 [(.agg ⟨[(.int .i64 n2), (.int .i64 n3)]⟩), (.bool tombstone)] H1 (panK R) fun v1 H2 =>
  tAgg v1 fun l3 =>
  tCons l3 fun c2 l4 =>
  tInt c2 .i64 fun n4 =>
  tCons l4 fun c3 l5 =>
  tInt c3 .i64 fun n5 =>
  tCons l5 fun c4 l6 =>
  tBool c4 fun b1 =>
  tNil l6 <|
  callD Try.prog 42 [(.agg ⟨[(.int .i64 n4), (.int .i64 n5), (.bool b1)]⟩), (.slice b bn bc)] H2 (panK R) fun v2 H3 =>
  tSl v2 fun q qn qc =>
  R (.returned (.slice q qn qc)) H3
theorem L0_step {tombstone : Bool} {r : Nat} {b : Option Addr} {bn : Nat} {bc : Nat} {H : Heap} {R : Ending → Heap → Prop} (h : L0n tombstone r b bn bc H R) : L0 tombstone r b bn bc H R :=
  goL_of_den (an := an) (fuel := 100000) (X := L0n tombstone r b bn bc H R) mixed fn (by kernel_rfl) (fun ρ0 => by kernel_rfl) h
def go (r_0 : Int) (r_1 : Int) (tombstone : Bool) (room : Bool) (H : Heap) (R : Ending → Heap → Prop) : Prop :=
  newD H (.cells ⟨[(.int .i64 r_0), (.int .i64 r_1)]⟩ 35) fun r H1 =>
  callD Try.prog 40 [] H1 (panK R) fun v H2 =>
  tSl v fun q qn qc =>
  iteB room (
    mkD H2 1 [(.int .u8 (0 : Int))] 5 (18 : Int) (18 : Int) fun r1 k c H3 =>
    L0 tombstone r (some ⟨r1, 0, none⟩) k c H3 R) <|
  L0 tombstone r q qn qc H2 R
theorem calls {r_0 : Int} {r_1 : Int} {tombstone : Bool} {room : Bool} {H : Heap} {R : Ending → Heap → Prop} (h : go r_0 r_1 tombstone room H R) : CallsH Try.prog 17 ⟨[(.agg ⟨[(.int .i64 r_0), (.int .i64 r_1)]⟩), (.bool tombstone), (.bool room)]⟩ H R :=
  callsH_of_den (an := an) (fuel := 100000) (X := go r_0 r_1 tombstone room H R) (c := body) mixed fn (by kernel_rfl) (by kernel_rfl) (by kernel_rfl) ok (by kernel_rfl) h
end F17
/-! ### 18 "pub-stadtholder/impl.Tombstone" -/
namespace F18
def an : Ann := { kinds := [], taus := [], pairs := [], lab := [] }
noncomputable def body : Code := (Try.f18.body).getD .skip
theorem fn : Try.prog.funcs[18]? = some Try.f18 := by kernel_rfl
theorem ok : codeOk an 5 body = true := by kernel_rfl
def go (b : Option Addr) (bn : Nat) (bc : Nat) (H : Heap) (R : Ending → Heap → Prop) : Prop :=
  callD Try.prog 44 [(.slice b bn bc)] H (panK R) fun v H1 =>
  tBool v fun b1 =>
  R (.returned (.bool b1)) H1
theorem calls {b : Option Addr} {bn : Nat} {bc : Nat} {H : Heap} {R : Ending → Heap → Prop} (h : go b bn bc H R) : CallsH Try.prog 18 ⟨[(.slice b bn bc)]⟩ H R :=
  callsH_of_den (an := an) (fuel := 100000) (X := go b bn bc H R) (c := body) mixed fn (by kernel_rfl) (by kernel_rfl) (by kernel_rfl) ok (by kernel_rfl) h
end F18
/-! ### 19 "pub-stadtholder/laws.zzFits29" -/
namespace F19
def an : Ann := { kinds := [], taus := [], pairs := [], lab := [(40000005, [8, 9, 10])] }
noncomputable def body : Code := (Try.f19.body).getD .skip
theorem fn : Try.prog.funcs[19]? = some Try.f19 := by kernel_rfl
theorem ok : codeOk an 18 body = true := by kernel_rfl
noncomputable def L0t : List Item := [.code (sub [1, 1, 0, 1, 0, 0] body), .inLoop (sub [1, 1, 0, 1, 0, 0] body), .inBlock 0, .code (sub [1, 1, 1] body)]
def L0 (s8 : Option Addr) (s8n : Nat) (s8c : Nat) (s9 : Int) (s10 : Int) (H : Heap) (R : Ending → Heap → Prop) : Prop :=
  GoL Try.prog 19 18 L0t [8, 9, 10] [(.slice s8 s8n s8c), (.int .i64 s9), (.int .i64 s10)] H R
def L0n (s8 : Option Addr) (s8n : Nat) (s8c : Nat) (s9 : Int) (s10 : Int) (H : Heap) (R : Ending → Heap → Prop) : Prop :=
  iteB (decide (s10 < s9)) (
    idxD s8 s8n s10 fun a =>
    ldStr H (Addr.add a (Int.toNat s10 * 2)) fun s =>
    ldBool H (Addr.add (Addr.add a (Int.toNat s10 * 2)) 1) fun b =>
    newD H (.cells ⟨[(.string (ByteArray.mk #[])), (.bool false)]⟩ 52) fun r H1 =>
    st1 H1 ⟨r, 0, none⟩ (.string s) fun H2 =>
    st1 H2 ⟨r, 1, none⟩ (.bool b) fun H3 =>
    ldStr H3 ⟨r, 0, none⟩ fun s1 =>
    ldBool H3 ⟨r, 1, none⟩ fun b1 =>
    callD Try.prog 45 [(.agg ⟨[(.string s1), (.bool b1)]⟩)] H3 (panK R) fun v H4 =>
    tBool v fun b2 =>
    iteB (!b2) (
      R (.returned (.bool false)) H4) <|
    L0 s8 s8n s8c s9 (IntKind.wrap .i64 (s10 + (1 : Int))) H4 R) <|
  R (.returned (.bool true)) H
theorem L0_step {s8 : Option Addr} {s8n : Nat} {s8c : Nat} {s9 : Int} {s10 : Int} {H : Heap} {R : Ending → Heap → Prop} (h : L0n s8 s8n s8c s9 s10 H R) : L0 s8 s8n s8c s9 s10 H R :=
  goL_of_den (an := an) (fuel := 100000) (X := L0n s8 s8n s8c s9 s10 H R) mixed fn (by kernel_rfl) (fun ρ0 => by kernel_rfl) h
def go (x : Option Addr) (xn : Nat) (xc : Nat) (H : Heap) (R : Ending → Heap → Prop) : Prop :=
  iteB (decide (((xn : Nat) : Int) > (2147483647 : Int))) (
    R (.returned (.bool false)) H) <|
  L0 x xn xc ((xn : Nat) : Int) (0 : Int) H R
theorem calls {x : Option Addr} {xn : Nat} {xc : Nat} {H : Heap} {R : Ending → Heap → Prop} (h : go x xn xc H R) : CallsH Try.prog 19 ⟨[(.slice x xn xc)]⟩ H R :=
  callsH_of_den (an := an) (fuel := 100000) (X := go x xn xc H R) (c := body) mixed fn (by kernel_rfl) (by kernel_rfl) (by kernel_rfl) ok (by kernel_rfl) h
end F19
/-! ### 20 "pub-stadtholder/laws.pgGood" -/
namespace F20
def an : Ann := { kinds := [], taus := [], pairs := [], lab := [(10000004, [3]), (40000006, [9, 40, 41, 42])] }
noncomputable def body : Code := (Try.f20.body).getD .skip
theorem fn : Try.prog.funcs[20]? = some Try.f20 := by kernel_rfl
theorem ok : codeOk an 54 body = true := by kernel_rfl
noncomputable def L0t : List Item := [.code (sub [1, 1] body)]
def L0 (ops : Option Addr) (opsn : Nat) (opsc : Nat) (H : Heap) (R : Ending → Heap → Prop) : Prop :=
  GoL Try.prog 20 54 L0t [3] [(.slice ops opsn opsc)] H R
noncomputable def L1t : List Item := [.code (sub [1, 1, 1, 0, 1, 0, 0] body), .inLoop (sub [1, 1, 1, 0, 1, 0, 0] body), .inBlock 0, .code (sub [1, 1, 1, 1] body)]
def L1 (n : Int) (s40 : Option Addr) (s40n : Nat) (s40c : Nat) (s41 : Int) (s42 : Int) (H : Heap) (R : Ending → Heap → Prop) : Prop :=
  GoL Try.prog 20 54 L1t [9, 40, 41, 42] [(.int .i64 n), (.slice s40 s40n s40c), (.int .i64 s41), (.int .i64 s42)] H R
def L0n (ops : Option Addr) (opsn : Nat) (opsc : Nat) (H : Heap) (R : Ending → Heap → Prop) : Prop :=
  L1 (0 : Int) ops opsn opsc ((opsn : Nat) : Int) (0 : Int) H R
theorem L0_step {ops : Option Addr} {opsn : Nat} {opsc : Nat} {H : Heap} {R : Ending → Heap → Prop} (h : L0n ops opsn opsc H R) : L0 ops opsn opsc H R :=
  goL_of_den (an := an) (fuel := 100000) (X := L0n ops opsn opsc H R) mixed fn (by kernel_rfl) (fun ρ0 => by kernel_rfl) h
def L1n (n : Int) (s40 : Option Addr) (s40n : Nat) (s40c : Nat) (s41 : Int) (s42 : Int) (H : Heap) (R : Ending → Heap → Prop) : Prop :=
  iteB (decide (s42 < s41)) (
    idxD s40 s40n s42 fun a =>
    ldStr H (Addr.add a (Int.toNat s42 * 2)) fun s =>
    ldBool H (Addr.add (Addr.add a (Int.toNat s42 * 2)) 1) fun b =>
    newD H (.cells ⟨[(.string (ByteArray.mk #[])), (.bool false)]⟩ 52) fun r H1 =>
    st1 H1 ⟨r, 0, none⟩ (.string s) fun H2 =>
    st1 H2 ⟨r, 1, none⟩ (.bool b) fun H3 =>
    ldStr H3 ⟨r, 0, none⟩ fun s1 =>
    iteB (decide ((IntKind.wrap .i64 (n + ((ByteArray.size s1 : Nat) : Int))) > (1048576 : Int))) (
      R (.returned (.bool false)) H3) <|
    L1 (IntKind.wrap .i64 (n + ((ByteArray.size s1 : Nat) : Int))) s40 s40n s40c s41 (IntKind.wrap .i64 (s42 + (1 : Int))) H3 R) <|
  R (.returned (.bool true)) H
theorem L1_step {n : Int} {s40 : Option Addr} {s40n : Nat} {s40c : Nat} {s41 : Int} {s42 : Int} {H : Heap} {R : Ending → Heap → Prop} (h : L1n n s40 s40n s40c s41 s42 H R) : L1 n s40 s40n s40c s41 s42 H R :=
  goL_of_den (an := an) (fuel := 100000) (X := L1n n s40 s40n s40c s41 s42 H R) mixed fn (by kernel_rfl) (fun ρ0 => by kernel_rfl) h
def go (buffer : Int) (page : Int) (offset : Int) (ops : Option Addr) (opsn : Nat) (opsc : Nat) (H : Heap) (R : Ending → Heap → Prop) : Prop :=
  iteB (decide (page < (1 : Int))) (
    R (.returned (.bool false)) H) <|
  iteB (decide (page > (65536 : Int))) (
    R (.returned (.bool false)) H) <|
  iteB (decide (buffer < page)) (
    R (.returned (.bool false)) H) <|
  iteB (decide (buffer > (1048576 : Int))) (
    R (.returned (.bool false)) H) <|
  iteB (decide (offset < (0 : Int))) (
    R (.returned (.bool false)) H) <|
  iteB (decide (offset > (1073741824 : Int))) (
    R (.returned (.bool false)) H) <|
  iteB (decide (((opsn : Nat) : Int) > (300 : Int))) (
    R (.returned (.bool false)) H) <|
  L0 ops opsn opsc H R
theorem calls {buffer : Int} {page : Int} {offset : Int} {ops : Option Addr} {opsn : Nat} {opsc : Nat} {H : Heap} {R : Ending → Heap → Prop} (h : go buffer page offset ops opsn opsc H R) : CallsH Try.prog 20 ⟨[(.int .i64 buffer), (.int .i64 page), (.int .i64 offset), (.slice ops opsn opsc)]⟩ H R :=
  callsH_of_den (an := an) (fuel := 100000) (X := go buffer page offset ops opsn opsc H R) (c := body) mixed fn (by kernel_rfl) (by kernel_rfl) (by kernel_rfl) ok (by kernel_rfl) h
end F20
/-! ### 21 "pub-stadtholder/laws.pgLive" -/
namespace F21
def an : Ann := { kinds := [], taus := [], pairs := [], lab := [] }
noncomputable def body : Code := (Try.f21.body).getD .skip
theorem fn : Try.prog.funcs[21]? = some Try.f21 := by kernel_rfl
theorem ok : codeOk an 41 body = true := by kernel_rfl
def go  (H : Heap) (R : Ending → Heap → Prop) : Prop :=
  newD H (.cells ⟨[(.string (ByteArray.mk #[97, 98, 99])), (.bool false), (.string (ByteArray.mk #[])), (.bool true)]⟩ 52) fun r H1 =>
  callD Try.prog 22 [(.int .i64 (64 : Int)), (.int .i64 (8 : Int)), (.int .i64 (0 : Int)), (.slice (some ⟨r, 0, none⟩) 2 2)] H1 (panK R) fun v H2 =>
  tSl v fun q qn qc =>
  iteB (((qn : Nat) : Int) == (2 : Int)) (
    idxD q qn (0 : Int) fun a =>
    ldInt H2 (Addr.add a (Int.toNat (0 : Int) * 2)) .i64 fun n =>
    iteB (n == (3 : Int)) (
      idxD q qn (0 : Int) fun a1 =>
      ldSl H2 (Addr.add (Addr.add a1 (Int.toNat (0 : Int) * 2)) 1) fun q1 q1n q1c =>
      iteB (((q1n : Nat) : Int) == (0 : Int)) (
        idxD q qn (1 : Int) fun a2 =>
        ldSl H2 (Addr.add (Addr.add a2 (Int.toNat (1 : Int) * 2)) 1) fun q2 q2n q2c =>
        iteB (((q2n : Nat) : Int) == (1 : Int)) (
          idxD q qn (1 : Int) fun a3 =>
          ldSl H2 (Addr.add (Addr.add a3 (Int.toNat (1 : Int) * 2)) 1) fun q3 q3n q3c =>
          idxD q3 q3n (0 : Int) fun a4 =>
          ldStr H2 (Addr.add a4 (Int.toNat (0 : Int) * 1)) fun s =>
          R (.returned (.bool (eqS s (ByteArray.mk #[97, 98, 99])))) H2) <|
        R (.returned (.bool false)) H2) <|
      R (.returned (.bool false)) H2) <|
    R (.returned (.bool false)) H2) <|
  R (.returned (.bool false)) H2
theorem calls  {H : Heap} {R : Ending → Heap → Prop} (h : go  H R) : CallsH Try.prog 21 ⟨[]⟩ H R :=
  callsH_of_den (an := an) (fuel := 100000) (X := go  H R) (c := body) mixed fn (by kernel_rfl) (by kernel_rfl) (by kernel_rfl) ok (by kernel_rfl) h
end F21
/-! ### 22 "pub-stadtholder/impl.Pages" -/
namespace F22
def an : Ann := { kinds := [(13006, .loud)], taus := [], pairs := [], lab := [(10000004, [0, 1, 2, 3]), (40000008, [3, 9, 10, 11, 12]), (60000015, [3, 9, 10, 11, 12, 13])] }
noncomputable def body : Code := (Try.f22.body).getD .skip
theorem fn : Try.prog.funcs[22]? = some Try.f22 := by kernel_rfl
theorem ok : codeOk an 76 body = true := by kernel_rfl
noncomputable def L0t : List Item := [.code (sub [1, 1] body)]
def L0 (s0 : Int) (s1 : Int) (s2 : Int) (s3 : Option Addr) (s3n : Nat) (s3c : Nat) (H : Heap) (R : Ending → Heap → Prop) : Prop :=
  GoL Try.prog 22 76 L0t [0, 1, 2, 3] [(.int .i64 s0), (.int .i64 s1), (.int .i64 s2), (.slice s3 s3n s3c)] H R
noncomputable def L1t : List Item := [.code (sub [1, 1, 1, 1, 1, 0, 1, 0, 0] body), .inLoop (sub [1, 1, 1, 1, 1, 0, 1, 0, 0] body), .inBlock 0, .code (sub [1, 1, 1, 1, 1, 1] body)]
def L1 (s3 : Option Addr) (s3n : Nat) (s3c : Nat) (s9 : Nat) (s10 : Option Addr) (s11 : Option Addr) (s11n : Nat) (s11c : Nat) (s12 : Int) (H : Heap) (R : Ending → Heap → Prop) : Prop :=
  GoL Try.prog 22 76 L1t [3, 9, 10, 11, 12] [(.slice s3 s3n s3c), (.pointer (some ⟨s9, 0, none⟩)), (.pointer s10), (.slice s11 s11n s11c), (.int .i64 s12)] H R
noncomputable def L2t : List Item := [.code (sub [1, 1, 1, 1, 1, 0, 1, 0, 0, 1, 0, 0, 1, 1, 1] body), .inBlock 1, .code (sub [1, 1, 1, 1, 1, 0, 1, 0, 0, 1, 1] body), .inLoop (sub [1, 1, 1, 1, 1, 0, 1, 0, 0] body), .inBlock 0, .code (sub [1, 1, 1, 1, 1, 1] body)]
def L2 (s3 : Option Addr) (s3n : Nat) (s3c : Nat) (s9 : Nat) (s10 : Option Addr) (s11 : Option Addr) (s11n : Nat) (s11c : Nat) (s12 : Int) (s13 : Nat) (H : Heap) (R : Ending → Heap → Prop) : Prop :=
  GoL Try.prog 22 76 L2t [3, 9, 10, 11, 12, 13] [(.slice s3 s3n s3c), (.pointer (some ⟨s9, 0, none⟩)), (.pointer s10), (.slice s11 s11n s11c), (.int .i64 s12), (.pointer (some ⟨s13, 0, none⟩))] H R
def L0n (s0 : Int) (s1 : Int) (s2 : Int) (s3 : Option Addr) (s3n : Nat) (s3c : Nat) (H : Heap) (R : Ending → Heap → Prop) : Prop :=
  newD H (.cells ⟨[(.slice none 0 0)]⟩ 88) fun r H1 =>
  callD Try.prog 46 [(.iface 86 (.pointer (some ⟨r, 0, none⟩))), (.int .i64 s0), (.int .i64 s1), (.int .i64 s2)] H1 (panK R) fun v H2 =>
  tPtr v fun p =>
  L1 s3 s3n s3c r p none 0 0 (0 : Int) H2 R
theorem L0_step {s0 : Int} {s1 : Int} {s2 : Int} {s3 : Option Addr} {s3n : Nat} {s3c : Nat} {H : Heap} {R : Ending → Heap → Prop} (h : L0n s0 s1 s2 s3 s3n s3c H R) : L0 s0 s1 s2 s3 s3n s3c H R :=
  goL_of_den (an := an) (fuel := 100000) (X := L0n s0 s1 s2 s3 s3n s3c H R) mixed fn (by kernel_rfl) (fun ρ0 => by kernel_rfl) h
def L1n (s3 : Option Addr) (s3n : Nat) (s3c : Nat) (s9 : Nat) (s10 : Option Addr) (s11 : Option Addr) (s11n : Nat) (s11c : Nat) (s12 : Int) (H : Heap) (R : Ending → Heap → Prop) : Prop :=
  iteB (decide (s12 < ((s3n : Nat) : Int))) (
    newD H (.cells ⟨[(.int .i64 (0 : Int)), (.slice none 0 0)]⟩ 55) fun r H1 =>
    st1 H1 ⟨r, 0, none⟩ (.int .i64 (0 : Int)) fun H2 =>
    st1 H2 ⟨r, 1, none⟩ (.slice none 0 0) fun H3 =>
    st1 H3 ⟨s9, 0, none⟩ (.slice none 0 0) fun H4 =>
    idxD s3 s3n s12 fun a =>
    ldBool H4 (Addr.add (Addr.add a (Int.toNat s12 * 2)) 1) fun b =>
    iteB b (
      callD Try.prog 47 [(.pointer s10)] H4 (panK R) fun v H5 =>
      tIf v fun i =>
      L2 s3 s3n s3c s9 s10 s11 s11n s11c s12 r H5 R) <|
    idxD s3 s3n s12 fun a1 =>
    ldStr H4 (Addr.add a1 (Int.toNat s12 * 2)) fun s =>
    sbD H4 5 s fun r1 c H6 =>
    callD Try.prog 48 [(.pointer s10), (.slice (some ⟨r1, 0, none⟩) (ByteArray.size s) c)] H6 (panK R) fun v1 H7 =>
    tTup v1 fun l =>
    tCons l fun c1 l1 =>
    tInt c1 .i64 fun n =>
    tCons l1 fun c2 l2 =>
    tIf c2 fun i1 =>
    tNil l2 <|
    st1 H7 ⟨r, 0, none⟩ (.int .i64 n) fun H8 =>
    L2 s3 s3n s3c s9 s10 s11 s11n s11c s12 r H8 R) <|
  R (.returned (.slice s11 s11n s11c)) H
theorem L1_step {s3 : Option Addr} {s3n : Nat} {s3c : Nat} {s9 : Nat} {s10 : Option Addr} {s11 : Option Addr} {s11n : Nat} {s11c : Nat} {s12 : Int} {H : Heap} {R : Ending → Heap → Prop} (h : L1n s3 s3n s3c s9 s10 s11 s11n s11c s12 H R) : L1 s3 s3n s3c s9 s10 s11 s11n s11c s12 H R :=
  goL_of_den (an := an) (fuel := 100000) (X := L1n s3 s3n s3c s9 s10 s11 s11n s11c s12 H R) mixed fn (by kernel_rfl) (fun ρ0 => by kernel_rfl) h
def L2n (s3 : Option Addr) (s3n : Nat) (s3c : Nat) (s9 : Nat) (s10 : Option Addr) (s11 : Option Addr) (s11n : Nat) (s11c : Nat) (s12 : Int) (s13 : Nat) (H : Heap) (R : Ending → Heap → Prop) : Prop :=
  ldSl H ⟨s9, 0, none⟩ fun q qn qc =>
  st1 H ⟨s13, 1, none⟩ (.slice q qn qc) fun H1 =>
  ldInt H1 ⟨s13, 0, none⟩ .i64 fun n =>
  ldSl H1 ⟨s13, 1, none⟩ fun q1 q1n q1c =>
  newD H1 (.cells ⟨[(.int .i64 n), (.slice q1 q1n q1c)]⟩ 55) fun r H2 =>
  apD H2 2 32 [(.int .i64 (0 : Int)), (.slice none 0 0)] 55 s11 s11n s11c (some ⟨r, 0, none⟩) 1 fun q2 q2n q2c H3 =>
  L1 s3 s3n s3c s9 s10 q2 q2n q2c (IntKind.wrap .i64 (s12 + (1 : Int))) H3 R
theorem L2_step {s3 : Option Addr} {s3n : Nat} {s3c : Nat} {s9 : Nat} {s10 : Option Addr} {s11 : Option Addr} {s11n : Nat} {s11c : Nat} {s12 : Int} {s13 : Nat} {H : Heap} {R : Ending → Heap → Prop} (h : L2n s3 s3n s3c s9 s10 s11 s11n s11c s12 s13 H R) : L2 s3 s3n s3c s9 s10 s11 s11n s11c s12 s13 H R :=
  goL_of_den (an := an) (fuel := 100000) (X := L2n s3 s3n s3c s9 s10 s11 s11n s11c s12 s13 H R) mixed fn (by kernel_rfl) (fun ρ0 => by kernel_rfl) h
def go (s0 : Int) (s1 : Int) (s2 : Int) (s3 : Option Addr) (s3n : Nat) (s3c : Nat) (H : Heap) (R : Ending → Heap → Prop) : Prop :=
  iteB (decide (s1 < (1 : Int))) (
    R (.returned (.slice none 0 0)) H) <|
  iteB (decide (s2 < (0 : Int))) (
    R (.returned (.slice none 0 0)) H) <|
  iteB (decide (s0 < s1)) (
    R (.returned (.slice none 0 0)) H) <|
  iteB (decide (s0 > (1048576 : Int))) (
    R (.returned (.slice none 0 0)) H) <|
  L0 s0 s1 s2 s3 s3n s3c H R
theorem calls {s0 : Int} {s1 : Int} {s2 : Int} {s3 : Option Addr} {s3n : Nat} {s3c : Nat} {H : Heap} {R : Ending → Heap → Prop} (h : go s0 s1 s2 s3 s3n s3c H R) : CallsH Try.prog 22 ⟨[(.int .i64 s0), (.int .i64 s1), (.int .i64 s2), (.slice s3 s3n s3c)]⟩ H R :=
  callsH_of_den (an := an) (fuel := 100000) (X := go s0 s1 s2 s3 s3n s3c H R) (c := body) mixed fn (by kernel_rfl) (by kernel_rfl) (by kernel_rfl) ok (by kernel_rfl) h
end F22
/-! ### 23 "pub-stadtholder/laws.zzFits31" -/
namespace F23
def an : Ann := { kinds := [], taus := [], pairs := [], lab := [(40000005, [8, 9, 10])] }
noncomputable def body : Code := (Try.f23.body).getD .skip
theorem fn : Try.prog.funcs[23]? = some Try.f23 := by kernel_rfl
theorem ok : codeOk an 18 body = true := by kernel_rfl
noncomputable def L0t : List Item := [.code (sub [1, 1, 0, 1, 0, 0] body), .inLoop (sub [1, 1, 0, 1, 0, 0] body), .inBlock 0, .code (sub [1, 1, 1] body)]
def L0 (s8 : Option Addr) (s8n : Nat) (s8c : Nat) (s9 : Int) (s10 : Int) (H : Heap) (R : Ending → Heap → Prop) : Prop :=
  GoL Try.prog 23 18 L0t [8, 9, 10] [(.slice s8 s8n s8c), (.int .i64 s9), (.int .i64 s10)] H R
def L0n (s8 : Option Addr) (s8n : Nat) (s8c : Nat) (s9 : Int) (s10 : Int) (H : Heap) (R : Ending → Heap → Prop) : Prop :=
  iteB (decide (s10 < s9)) (
    idxD s8 s8n s10 fun a =>
    ldInt H (Addr.add a (Int.toNat s10 * 9)) .i64 fun n =>
    ldInt H (Addr.add (Addr.add a (Int.toNat s10 * 9)) 1) .i64 fun n1 =>
    ldBool H (Addr.add (Addr.add a (Int.toNat s10 * 9)) 2) fun b =>
    ldStr H (Addr.add (Addr.add a (Int.toNat s10 * 9)) 3) fun s =>
    ldStr H (Addr.add (Addr.add a (Int.toNat s10 * 9)) 4) fun s1 =>
    ldInt H (Addr.add (Addr.add a (Int.toNat s10 * 9)) 5) .i64 fun n2 =>
    ldInt H (Addr.add (Addr.add a (Int.toNat s10 * 9)) 6) .i64 fun n3 =>
    ldInt H (Addr.add (Addr.add a (Int.toNat s10 * 9)) 7) .i64 fun n4 =>
    ldInt H (Addr.add (Addr.add a (Int.toNat s10 * 9)) 8) .i64 fun n5 =>
    newD H (.cells ⟨[(.int .i64 (0 : Int)), (.int .i64 (0 : Int)), (.bool false), (.string (ByteArray.mk #[])), (.string (ByteArray.mk #[])), (.int .i64 (0 : Int)), (.int .i64 (0 : Int)), (.int .i64 (0 : Int)), (.int .i64 (0 : Int))]⟩ 61) fun r H1 =>
    st1 H1 ⟨r, 0, none⟩ (.int .i64 n) fun H2 =>
    st1 H2 ⟨r, 1, none⟩ (.int .i64 n1) fun H3 =>
    st1 H3 ⟨r, 2, none⟩ (.bool b) fun H4 =>
    st1 H4 ⟨r, 3, none⟩ (.string s) fun H5 =>
    st1 H5 ⟨r, 4, none⟩ (.string s1) fun H6 =>
    st1 H6 ⟨r, 5, none⟩ (.int .i64 n2) fun H7 =>
    st1 H7 ⟨r, 6, none⟩ (.int .i64 n3) fun H8 =>
    st1 H8 ⟨r, 7, none⟩ (.int .i64 n4) fun H9 =>
    st1 H9 ⟨r, 8, none⟩ (.int .i64 n5) fun H10 =>
    ldInt H10 ⟨r, 0, none⟩ .i64 fun n6 =>
    ldInt H10 ⟨r, 1, none⟩ .i64 fun n7 =>
    ldBool H10 ⟨r, 2, none⟩ fun b1 =>
    ldStr H10 ⟨r, 3, none⟩ fun s2 =>
    ldStr H10 ⟨r, 4, none⟩ fun s3 =>
    ldInt H10 ⟨r, 5, none⟩ .i64 fun n8 =>
    ldInt H10 ⟨r, 6, none⟩ .i64 fun n9 =>
    ldInt H10 ⟨r, 7, none⟩ .i64 fun n10 =>
    ldInt H10 ⟨r, 8, none⟩ .i64 fun n11 =>
    callD Try.prog 49 [(.agg ⟨[(.int .i64 n6), (.int .i64 n7), (.bool b1), (.string s2), (.string s3), (.int .i64 n8), (.int .i64 n9), (.int .i64 n10), (.int .i64 n11)]⟩)] H10 (panK R) fun v H11 =>
    tBool v fun b2 =>
    iteB (!b2) (
      R (.returned (.bool false)) H11) <|
    L0 s8 s8n s8c s9 (IntKind.wrap .i64 (s10 + (1 : Int))) H11 R) <|
  R (.returned (.bool true)) H
theorem L0_step {s8 : Option Addr} {s8n : Nat} {s8c : Nat} {s9 : Int} {s10 : Int} {H : Heap} {R : Ending → Heap → Prop} (h : L0n s8 s8n s8c s9 s10 H R) : L0 s8 s8n s8c s9 s10 H R :=
  goL_of_den (an := an) (fuel := 100000) (X := L0n s8 s8n s8c s9 s10 H R) mixed fn (by kernel_rfl) (fun ρ0 => by kernel_rfl) h
def go (x : Option Addr) (xn : Nat) (xc : Nat) (H : Heap) (R : Ending → Heap → Prop) : Prop :=
  iteB (decide (((xn : Nat) : Int) > (2147483647 : Int))) (
    R (.returned (.bool false)) H) <|
  L0 x xn xc ((xn : Nat) : Int) (0 : Int) H R
theorem calls {x : Option Addr} {xn : Nat} {xc : Nat} {H : Heap} {R : Ending → Heap → Prop} (h : go x xn xc H R) : CallsH Try.prog 23 ⟨[(.slice x xn xc)]⟩ H R :=
  callsH_of_den (an := an) (fuel := 100000) (X := go x xn xc H R) (c := body) mixed fn (by kernel_rfl) (by kernel_rfl) (by kernel_rfl) ok (by kernel_rfl) h
end F23
/-! ### 24 "pub-stadtholder/laws.roHash" -/
namespace F24
def an : Ann := { kinds := [], taus := [], pairs := [], lab := [] }
noncomputable def body : Code := (Try.f24.body).getD .skip
theorem fn : Try.prog.funcs[24]? = some Try.f24 := by kernel_rfl
theorem ok : codeOk an 32 body = true := by kernel_rfl
def go (compact : Int) (rev : Int) (keep : Option Addr) (keepn : Nat) (keepc : Nat) (xrows : Option Addr) (xrowsn : Nat) (xrowsc : Nat) (H : Heap) (R : Ending → Heap → Prop) : Prop :=
  callD Try.prog 50 [(.slice xrows xrowsn xrowsc)] H (panK R) fun v H1 =>
  tBool v fun b =>
  iteB b (
    iteB (decide (compact ≥ (-1 : Int))) (
      iteB (decide (rev ≥ (0 : Int))) (
        iteB (decide (rev < (4611686018427387904 : Int))) (
          iteB (decide (compact < (4611686018427387904 : Int))) (
            R (.returned (.bool (decide (((keepn : Nat) : Int) ≤ (200 : Int))))) H1) <|
          R (.returned (.bool false)) H1) <|
        R (.returned (.bool false)) H1) <|
      R (.returned (.bool false)) H1) <|
    R (.returned (.bool false)) H1) <|
  R (.returned (.bool false)) H1
theorem calls {compact : Int} {rev : Int} {keep : Option Addr} {keepn : Nat} {keepc : Nat} {xrows : Option Addr} {xrowsn : Nat} {xrowsc : Nat} {H : Heap} {R : Ending → Heap → Prop} (h : go compact rev keep keepn keepc xrows xrowsn xrowsc H R) : CallsH Try.prog 24 ⟨[(.int .i64 compact), (.int .i64 rev), (.slice keep keepn keepc), (.slice xrows xrowsn xrowsc)]⟩ H R :=
  callsH_of_den (an := an) (fuel := 100000) (X := go compact rev keep keepn keepc xrows xrowsn xrowsc H R) (c := body) mixed fn (by kernel_rfl) (by kernel_rfl) (by kernel_rfl) ok (by kernel_rfl) h
end F24
/-! ### 25 "pub-stadtholder/laws.roTwo" -/
namespace F25
def an : Ann := { kinds := [], taus := [], pairs := [], lab := [] }
noncomputable def body : Code := (Try.f25.body).getD .skip
theorem fn : Try.prog.funcs[25]? = some Try.f25 := by kernel_rfl
theorem ok : codeOk an 10 body = true := by kernel_rfl
def go  (H : Heap) (R : Ending → Heap → Prop) : Prop :=
  newD H (.cells ⟨[(.int .i64 (2 : Int)), (.int .i64 (0 : Int)), (.bool false), (.string (ByteArray.mk #[107])), (.string (ByteArray.mk #[118])), (.int .i64 (2 : Int)), (.int .i64 (2 : Int)), (.int .i64 (1 : Int)), (.int .i64 (0 : Int))]⟩ 61) fun r H1 =>
  callD Try.prog 27 [(.int .i64 (-1 : Int)), (.int .i64 (9 : Int)), (.slice none 0 0), (.slice (some ⟨r, 0, none⟩) 1 1)] H1 (panK R) fun v H2 =>
  tInt v .u32 fun n =>
  callD Try.prog 27 [(.int .i64 (-1 : Int)), (.int .i64 (9 : Int)), (.slice none 0 0), (.slice none 0 0)] H2 (panK R) fun v1 H3 =>
  tInt v1 .u32 fun n1 =>
  R (.returned (.bool (n != n1))) H3
theorem calls  {H : Heap} {R : Ending → Heap → Prop} (h : go  H R) : CallsH Try.prog 25 ⟨[]⟩ H R :=
  callsH_of_den (an := an) (fuel := 100000) (X := go  H R) (c := body) mixed fn (by kernel_rfl) (by kernel_rfl) (by kernel_rfl) ok (by kernel_rfl) h
end F25
/-! ### 26 "pub-stadtholder/spec.Counts" -/
namespace F26
def an : Ann := { kinds := [], taus := [], pairs := [], lab := [(10000004, [1, 3, 4]), (10000006, [3, 4]), (40000007, [4, 37, 38, 39])] }
noncomputable def body : Code := (Try.f26.body).getD .skip
theorem fn : Try.prog.funcs[26]? = some Try.f26 := by kernel_rfl
theorem ok : codeOk an 48 body = true := by kernel_rfl
noncomputable def L0t : List Item := [.code (sub [1, 1] body)]
def L0 (compact : Int) (keep : Option Addr) (keepn : Nat) (keepc : Nat) (x : Nat) (H : Heap) (R : Ending → Heap → Prop) : Prop :=
  GoL Try.prog 26 48 L0t [1, 3, 4] [(.int .i64 compact), (.slice keep keepn keepc), (.pointer (some ⟨x, 0, none⟩))] H R
noncomputable def L1t : List Item := [.code (sub [1, 1, 1] body)]
def L1 (keep : Option Addr) (keepn : Nat) (keepc : Nat) (x : Nat) (H : Heap) (R : Ending → Heap → Prop) : Prop :=
  GoL Try.prog 26 48 L1t [3, 4] [(.slice keep keepn keepc), (.pointer (some ⟨x, 0, none⟩))] H R
noncomputable def L2t : List Item := [.code (sub [1, 1, 1, 0, 1, 0, 0] body), .inLoop (sub [1, 1, 1, 0, 1, 0, 0] body), .inBlock 0, .code (sub [1, 1, 1, 1] body)]
def L2 (x : Nat) (s37 : Option Addr) (s37n : Nat) (s37c : Nat) (s38 : Int) (s39 : Int) (H : Heap) (R : Ending → Heap → Prop) : Prop :=
  GoL Try.prog 26 48 L2t [4, 37, 38, 39] [(.pointer (some ⟨x, 0, none⟩)), (.slice s37 s37n s37c), (.int .i64 s38), (.int .i64 s39)] H R
def L0n (compact : Int) (keep : Option Addr) (keepn : Nat) (keepc : Nat) (x : Nat) (H : Heap) (R : Ending → Heap → Prop) : Prop :=
  ldInt H ⟨x, 0, none⟩ .i64 fun n =>
  iteB (decide (n > compact)) (
    R (.returned (.bool true)) H) <|
  iteB (((keepn : Nat) : Int) == (0 : Int)) (
    R (.returned (.bool true)) H) <|
  L1 keep keepn keepc x H R
theorem L0_step {compact : Int} {keep : Option Addr} {keepn : Nat} {keepc : Nat} {x : Nat} {H : Heap} {R : Ending → Heap → Prop} (h : L0n compact keep keepn keepc x H R) : L0 compact keep keepn keepc x H R :=
  goL_of_den (an := an) (fuel := 100000) (X := L0n compact keep keepn keepc x H R) mixed fn (by kernel_rfl) (fun ρ0 => by kernel_rfl) h
def L1n (keep : Option Addr) (keepn : Nat) (keepc : Nat) (x : Nat) (H : Heap) (R : Ending → Heap → Prop) : Prop :=
  L2 x keep keepn keepc ((keepn : Nat) : Int) (0 : Int) H R
theorem L1_step {keep : Option Addr} {keepn : Nat} {keepc : Nat} {x : Nat} {H : Heap} {R : Ending → Heap → Prop} (h : L1n keep keepn keepc x H R) : L1 keep keepn keepc x H R :=
  goL_of_den (an := an) (fuel := 100000) (X := L1n keep keepn keepc x H R) mixed fn (by kernel_rfl) (fun ρ0 => by kernel_rfl) h
def L2n (x : Nat) (s37 : Option Addr) (s37n : Nat) (s37c : Nat) (s38 : Int) (s39 : Int) (H : Heap) (R : Ending → Heap → Prop) : Prop :=
  iteB (decide (s39 < s38)) (
    idxD s37 s37n s39 fun a =>
    ldInt H (Addr.add a (Int.toNat s39 * 2)) .i64 fun n =>
    ldInt H (Addr.add (Addr.add a (Int.toNat s39 * 2)) 1) .i64 fun n1 =>
    newD H (.cells ⟨[(.int .i64 (0 : Int)), (.int .i64 (0 : Int))]⟩ 35) fun r H1 =>
    st1 H1 ⟨r, 0, none⟩ (.int .i64 n) fun H2 =>
    st1 H2 ⟨r, 1, none⟩ (.int .i64 n1) fun H3 =>
    ldInt H3 ⟨r, 0, none⟩ .i64 fun n2 =>
    ldInt H3 ⟨r, 1, none⟩ .i64 fun n3 =>
    ldInt H3 ⟨x, 0, none⟩ .i64 fun n4 =>
    ldInt H3 ⟨x, 1, none⟩ .i64 fun n5 =>
    rawB Try.prog .eql 35 (.agg ⟨[(.int .i64 n2), (.int .i64 n3)]⟩) (.agg ⟨[(.int .i64 n4), (.int .i64 n5)]⟩) fun b =>
    iteB b (
      R (.returned (.bool true)) H3) <|
    L2 x s37 s37n s37c s38 (IntKind.wrap .i64 (s39 + (1 : Int))) H3 R) <|
  R (.returned (.bool false)) H
theorem L2_step {x : Nat} {s37 : Option Addr} {s37n : Nat} {s37c : Nat} {s38 : Int} {s39 : Int} {H : Heap} {R : Ending → Heap → Prop} (h : L2n x s37 s37n s37c s38 s39 H R) : L2 x s37 s37n s37c s38 s39 H R :=
  goL_of_den (an := an) (fuel := 100000) (X := L2n x s37 s37n s37c s38 s39 H R) mixed fn (by kernel_rfl) (fun ρ0 => by kernel_rfl) h
def go (x_0 : Int) (x_1 : Int) (x_2 : Bool) (x_3 : ByteArray) (x_4 : ByteArray) (x_5 : Int) (x_6 : Int) (x_7 : Int) (x_8 : Int) (compact : Int) (rev : Int) (keep : Option Addr) (keepn : Nat) (keepc : Nat) (H : Heap) (R : Ending → Heap → Prop) : Prop :=
  newD H (.cells ⟨[(.int .i64 x_0), (.int .i64 x_1), (.bool x_2), (.string x_3), (.string x_4), (.int .i64 x_5), (.int .i64 x_6), (.int .i64 x_7), (.int .i64 x_8)]⟩ 61) fun r H1 =>
  ldInt H1 ⟨r, 0, none⟩ .i64 fun n =>
  iteB (decide (n > rev)) (
    R (.returned (.bool false)) H1) <|
  ldBool H1 ⟨r, 2, none⟩ fun b =>
  iteB b (
    ldInt H1 ⟨r, 0, none⟩ .i64 fun n1 =>
    iteB (n1 == compact) (
      R (.returned (.bool false)) H1) <|
    L0 compact keep keepn keepc r H1 R) <|
  L0 compact keep keepn keepc r H1 R
theorem calls {x_0 : Int} {x_1 : Int} {x_2 : Bool} {x_3 : ByteArray} {x_4 : ByteArray} {x_5 : Int} {x_6 : Int} {x_7 : Int} {x_8 : Int} {compact : Int} {rev : Int} {keep : Option Addr} {keepn : Nat} {keepc : Nat} {H : Heap} {R : Ending → Heap → Prop} (h : go x_0 x_1 x_2 x_3 x_4 x_5 x_6 x_7 x_8 compact rev keep keepn keepc H R) : CallsH Try.prog 26 ⟨[(.agg ⟨[(.int .i64 x_0), (.int .i64 x_1), (.bool x_2), (.string x_3), (.string x_4), (.int .i64 x_5), (.int .i64 x_6), (.int .i64 x_7), (.int .i64 x_8)]⟩), (.int .i64 compact), (.int .i64 rev), (.slice keep keepn keepc)]⟩ H R :=
  callsH_of_den (an := an) (fuel := 100000) (X := go x_0 x_1 x_2 x_3 x_4 x_5 x_6 x_7 x_8 compact rev keep keepn keepc H R) (c := body) mixed fn (by kernel_rfl) (by kernel_rfl) (by kernel_rfl) ok (by kernel_rfl) h
end F26
/-! ### 27 "pub-stadtholder/impl.Hasher" -/
namespace F27
def an : Ann := { kinds := [], taus := [], pairs := [], lab := [] }
noncomputable def body : Code := (Try.f27.body).getD .skip
theorem fn : Try.prog.funcs[27]? = some Try.f27 := by kernel_rfl
theorem ok : codeOk an 16 body = true := by kernel_rfl
def go (compact : Int) (rev : Int) (keep : Option Addr) (keepn : Nat) (keepc : Nat) (xrows : Option Addr) (xrowsn : Nat) (xrowsc : Nat) (H : Heap) (R : Ending → Heap → Prop) : Prop :=
  callD Try.prog 52 [(.slice keep keepn keepc)] H (panK R) fun v H1 =>
  tSl v fun q qn qc =>
  callD Try.prog 53 [(.slice xrows xrowsn xrowsc)] H1 (panK R) fun v1 H2 =>
  tSl v1 fun q1 q1n q1c =>
  callD Try.prog 51 [(.int .i64 compact), (.int .i64 rev), (.slice q qn qc), (.slice q1 q1n q1c)] H2 (panK R) fun v2 H3 =>
  tInt v2 .u32 fun n =>
  R (.returned (.int .u32 n)) H3
theorem calls {compact : Int} {rev : Int} {keep : Option Addr} {keepn : Nat} {keepc : Nat} {xrows : Option Addr} {xrowsn : Nat} {xrowsc : Nat} {H : Heap} {R : Ending → Heap → Prop} (h : go compact rev keep keepn keepc xrows xrowsn xrowsc H R) : CallsH Try.prog 27 ⟨[(.int .i64 compact), (.int .i64 rev), (.slice keep keepn keepc), (.slice xrows xrowsn xrowsc)]⟩ H R :=
  callsH_of_den (an := an) (fuel := 100000) (X := go compact rev keep keepn keepc xrows xrowsn xrowsc H R) (c := body) mixed fn (by kernel_rfl) (by kernel_rfl) (by kernel_rfl) ok (by kernel_rfl) h
end F27
/-! ### 28 "pub-stadtholder/laws.zzFits14" -/
namespace F28
def an : Ann := { kinds := [], taus := [], pairs := [], lab := [] }
noncomputable def body : Code := (Try.f28.body).getD .skip
theorem fn : Try.prog.funcs[28]? = some Try.f28 := by kernel_rfl
theorem ok : codeOk an 11 body = true := by kernel_rfl
def go (x_0 : ByteArray) (x_1 : ByteArray) (x_2 : Int) (x_3 : Int) (x_4 : Int) (x_5 : Int) (H : Heap) (R : Ending → Heap → Prop) : Prop :=
  newD H (.cells ⟨[(.string x_0), (.string x_1), (.int .i64 x_2), (.int .i64 x_3), (.int .i64 x_4), (.int .i64 x_5)]⟩ 32) fun r H1 =>
  ldStr H1 ⟨r, 0, none⟩ fun s =>
  iteB (decide (((ByteArray.size s : Nat) : Int) > (2147483647 : Int))) (
    R (.returned (.bool false)) H1) <|
  ldStr H1 ⟨r, 1, none⟩ fun s1 =>
  iteB (decide (((ByteArray.size s1 : Nat) : Int) > (2147483647 : Int))) (
    R (.returned (.bool false)) H1) <|
  R (.returned (.bool true)) H1
theorem calls {x_0 : ByteArray} {x_1 : ByteArray} {x_2 : Int} {x_3 : Int} {x_4 : Int} {x_5 : Int} {H : Heap} {R : Ending → Heap → Prop} (h : go x_0 x_1 x_2 x_3 x_4 x_5 H R) : CallsH Try.prog 28 ⟨[(.agg ⟨[(.string x_0), (.string x_1), (.int .i64 x_2), (.int .i64 x_3), (.int .i64 x_4), (.int .i64 x_5)]⟩)]⟩ H R :=
  callsH_of_den (an := an) (fuel := 100000) (X := go x_0 x_1 x_2 x_3 x_4 x_5 H R) (c := body) mixed fn (by kernel_rfl) (by kernel_rfl) (by kernel_rfl) ok (by kernel_rfl) h
end F28
/-! ### 29 "pub-stadtholder/laws.zzFits9" -/
namespace F29
def an : Ann := { kinds := [], taus := [], pairs := [], lab := [(40000005, [8, 9, 10])] }
noncomputable def body : Code := (Try.f29.body).getD .skip
theorem fn : Try.prog.funcs[29]? = some Try.f29 := by kernel_rfl
theorem ok : codeOk an 18 body = true := by kernel_rfl
noncomputable def L0t : List Item := [.code (sub [1, 1, 0, 1, 0, 0] body), .inLoop (sub [1, 1, 0, 1, 0, 0] body), .inBlock 0, .code (sub [1, 1, 1] body)]
def L0 (s8 : Option Addr) (s8n : Nat) (s8c : Nat) (s9 : Int) (s10 : Int) (H : Heap) (R : Ending → Heap → Prop) : Prop :=
  GoL Try.prog 29 18 L0t [8, 9, 10] [(.slice s8 s8n s8c), (.int .i64 s9), (.int .i64 s10)] H R
def L0n (s8 : Option Addr) (s8n : Nat) (s8c : Nat) (s9 : Int) (s10 : Int) (H : Heap) (R : Ending → Heap → Prop) : Prop :=
  iteB (decide (s10 < s9)) (
    idxD s8 s8n s10 fun a =>
    ldInt H (Addr.add a (Int.toNat s10 * 7)) .i64 fun n =>
    ldInt H (Addr.add (Addr.add a (Int.toNat s10 * 7)) 1) .i64 fun n1 =>
    ldStr H (Addr.add (Addr.add a (Int.toNat s10 * 7)) 2) fun s =>
    ldStr H (Addr.add (Addr.add a (Int.toNat s10 * 7)) 3) fun s1 =>
    ldInt H (Addr.add (Addr.add a (Int.toNat s10 * 7)) 4) .i64 fun n2 =>
    ldStr H (Addr.add (Addr.add a (Int.toNat s10 * 7)) 5) fun s2 =>
    ldBool H (Addr.add (Addr.add a (Int.toNat s10 * 7)) 6) fun b =>
    newD H (.cells ⟨[(.int .i64 (0 : Int)), (.int .i64 (0 : Int)), (.string (ByteArray.mk #[])), (.string (ByteArray.mk #[])), (.int .i64 (0 : Int)), (.string (ByteArray.mk #[])), (.bool false)]⟩ 103) fun r H1 =>
    st1 H1 ⟨r, 0, none⟩ (.int .i64 n) fun H2 =>
    st1 H2 ⟨r, 1, none⟩ (.int .i64 n1) fun H3 =>
    st1 H3 ⟨r, 2, none⟩ (.string s) fun H4 =>
    st1 H4 ⟨r, 3, none⟩ (.string s1) fun H5 =>
    st1 H5 ⟨r, 4, none⟩ (.int .i64 n2) fun H6 =>
    st1 H6 ⟨r, 5, none⟩ (.string s2) fun H7 =>
    st1 H7 ⟨r, 6, none⟩ (.bool b) fun H8 =>
    ldInt H8 ⟨r, 0, none⟩ .i64 fun n3 =>
    ldInt H8 ⟨r, 1, none⟩ .i64 fun n4 =>
    ldStr H8 ⟨r, 2, none⟩ fun s3 =>
    ldStr H8 ⟨r, 3, none⟩ fun s4 =>
    ldInt H8 ⟨r, 4, none⟩ .i64 fun n5 =>
    ldStr H8 ⟨r, 5, none⟩ fun s5 =>
    ldBool H8 ⟨r, 6, none⟩ fun b1 =>
    callD Try.prog 54 [(.agg ⟨[(.int .i64 n3), (.int .i64 n4), (.string s3), (.string s4), (.int .i64 n5), (.string s5), (.bool b1)]⟩)] H8 (panK R) fun v H9 =>
    tBool v fun b2 =>
    iteB (!b2) (
      R (.returned (.bool false)) H9) <|
    L0 s8 s8n s8c s9 (IntKind.wrap .i64 (s10 + (1 : Int))) H9 R) <|
  R (.returned (.bool true)) H
theorem L0_step {s8 : Option Addr} {s8n : Nat} {s8c : Nat} {s9 : Int} {s10 : Int} {H : Heap} {R : Ending → Heap → Prop} (h : L0n s8 s8n s8c s9 s10 H R) : L0 s8 s8n s8c s9 s10 H R :=
  goL_of_den (an := an) (fuel := 100000) (X := L0n s8 s8n s8c s9 s10 H R) mixed fn (by kernel_rfl) (fun ρ0 => by kernel_rfl) h
def go (x : Option Addr) (xn : Nat) (xc : Nat) (H : Heap) (R : Ending → Heap → Prop) : Prop :=
  iteB (decide (((xn : Nat) : Int) > (2147483647 : Int))) (
    R (.returned (.bool false)) H) <|
  L0 x xn xc ((xn : Nat) : Int) (0 : Int) H R
theorem calls {x : Option Addr} {xn : Nat} {xc : Nat} {H : Heap} {R : Ending → Heap → Prop} (h : go x xn xc H R) : CallsH Try.prog 29 ⟨[(.slice x xn xc)]⟩ H R :=
  callsH_of_den (an := an) (fuel := 100000) (X := go x xn xc H R) (c := body) mixed fn (by kernel_rfl) (by kernel_rfl) (by kernel_rfl) ok (by kernel_rfl) h
end F29
/-! ### 30 "pub-stadtholder/impl.kvsOf" -/
namespace F30
def an : Ann := { kinds := [], taus := [], pairs := [], lab := [(40000004, [0, 3, 4])] }
noncomputable def body : Code := (Try.f30.body).getD .skip
theorem fn : Try.prog.funcs[30]? = some Try.f30 := by kernel_rfl
theorem ok : codeOk an 20 body = true := by kernel_rfl
noncomputable def L0t : List Item := [.code (sub [1, 1, 0, 1, 0, 0] body), .inLoop (sub [1, 1, 0, 1, 0, 0] body), .inBlock 0, .code (sub [1, 1, 1] body)]
def L0 (l : Option Addr) (ln : Nat) (lc : Nat) (out : Option Addr) (outn : Nat) (outc : Nat) (i : Int) (H : Heap) (R : Ending → Heap → Prop) : Prop :=
  GoL Try.prog 30 20 L0t [0, 3, 4] [(.slice l ln lc), (.slice out outn outc), (.int .i64 i)] H R
def L0n (l : Option Addr) (ln : Nat) (lc : Nat) (out : Option Addr) (outn : Nat) (outc : Nat) (i : Int) (H : Heap) (R : Ending → Heap → Prop) : Prop :=
  iteB (decide (i < ((ln : Nat) : Int))) (
    idxD l ln i fun a =>
    ldPtr H (Addr.add a (Int.toNat i * 1)) fun p =>
    callD Try.prog 55 [(.pointer p)] H (panK R) fun v H1 =>
    tAgg v fun l1 =>
    tCons l1 fun c l2 =>
    tStr c fun s =>
    tCons l2 fun c1 l3 =>
    tStr c1 fun s1 =>
    tCons l3 fun c2 l4 =>
    tInt c2 .i64 fun n =>
    tCons l4 fun c3 l5 =>
    tInt c3 .i64 fun n1 =>
    tCons l5 fun c4 l6 =>
    tInt c4 .i64 fun n2 =>
    tCons l6 fun c5 l7 =>
    tInt c5 .i64 fun n3 =>
    tNil l7 <|
    newD H1 (.cells ⟨[(.string s), (.string s1), (.int .i64 n), (.int .i64 n1), (.int .i64 n2), (.int .i64 n3)]⟩ 32) fun r H2 =>
    apD H2 6 64 [(.string (ByteArray.mk #[])), (.string (ByteArray.mk #[])), (.int .i64 (0 : Int)), (.int .i64 (0 : Int)), (.int .i64 (0 : Int)), (.int .i64 (0 : Int))] 32 out outn outc (some ⟨r, 0, none⟩) 1 fun q qn qc H3 =>
    L0 l ln lc q qn qc (IntKind.wrap .i64 (i + (1 : Int))) H3 R) <|
  R (.returned (.slice out outn outc)) H
theorem L0_step {l : Option Addr} {ln : Nat} {lc : Nat} {out : Option Addr} {outn : Nat} {outc : Nat} {i : Int} {H : Heap} {R : Ending → Heap → Prop} (h : L0n l ln lc out outn outc i H R) : L0 l ln lc out outn outc i H R :=
  goL_of_den (an := an) (fuel := 100000) (X := L0n l ln lc out outn outc i H R) mixed fn (by kernel_rfl) (fun ρ0 => by kernel_rfl) h
def go (l : Option Addr) (ln : Nat) (lc : Nat) (H : Heap) (R : Ending → Heap → Prop) : Prop :=
  L0 l ln lc none 0 0 (0 : Int) H R
theorem calls {l : Option Addr} {ln : Nat} {lc : Nat} {H : Heap} {R : Ending → Heap → Prop} (h : go l ln lc H R) : CallsH Try.prog 30 ⟨[(.slice l ln lc)]⟩ H R :=
  callsH_of_den (an := an) (fuel := 100000) (X := go l ln lc H R) (c := body) mixed fn (by kernel_rfl) (by kernel_rfl) (by kernel_rfl) ok (by kernel_rfl) h
end F30
/-! ### 31 "pub-stadtholder/pub/etcdserver/etcdserver/txn.ZzFilter" -/
namespace F31
def an : Ann := { kinds := [], taus := [], pairs := [], lab := [] }
noncomputable def body : Code := (Try.f31.body).getD .skip
theorem fn : Try.prog.funcs[31]? = some Try.f31 := by kernel_rfl
theorem ok : codeOk an 16 body = true := by kernel_rfl
def go (kvs : Option Addr) (kvsn : Nat) (kvsc : Nat) (r : Option Addr) (H : Heap) (R : Ending → Heap → Prop) : Prop :=
  newD H (.cells ⟨[(.slice kvs kvsn kvsc), (.int .i64 (0 : Int)), (.int .i64 (0 : Int))]⟩ 109) fun r1 H1 =>
  callD Try.prog 56 [(.pointer (some ⟨r1, 0, none⟩)), (.pointer r)] H1 (panK R) fun v H2 =>
  tTup v fun l =>
  tNil l <|
  ldSl H2 ⟨r1, 0, none⟩ fun q qn qc =>
  R (.returned (.slice q qn qc)) H2
theorem calls {kvs : Option Addr} {kvsn : Nat} {kvsc : Nat} {r : Option Addr} {H : Heap} {R : Ending → Heap → Prop} (h : go kvs kvsn kvsc r H R) : CallsH Try.prog 31 ⟨[(.slice kvs kvsn kvsc), (.pointer r)]⟩ H R :=
  callsH_of_den (an := an) (fuel := 100000) (X := go kvs kvsn kvsc r H R) (c := body) mixed fn (by kernel_rfl) (by kernel_rfl) (by kernel_rfl) ok (by kernel_rfl) h
end F31
/-! ### 32 "pub-stadtholder/impl.kvsIn" -/
namespace F32
def an : Ann := { kinds := [], taus := [], pairs := [], lab := [(40000004, [0, 3, 4])] }
noncomputable def body : Code := (Try.f32.body).getD .skip
theorem fn : Try.prog.funcs[32]? = some Try.f32 := by kernel_rfl
theorem ok : codeOk an 20 body = true := by kernel_rfl
noncomputable def L0t : List Item := [.code (sub [1, 1, 0, 1, 0, 0] body), .inLoop (sub [1, 1, 0, 1, 0, 0] body), .inBlock 0, .code (sub [1, 1, 1] body)]
def L0 (l : Option Addr) (ln : Nat) (lc : Nat) (out : Option Addr) (outn : Nat) (outc : Nat) (i : Int) (H : Heap) (R : Ending → Heap → Prop) : Prop :=
  GoL Try.prog 32 20 L0t [0, 3, 4] [(.slice l ln lc), (.slice out outn outc), (.int .i64 i)] H R
def L0n (l : Option Addr) (ln : Nat) (lc : Nat) (out : Option Addr) (outn : Nat) (outc : Nat) (i : Int) (H : Heap) (R : Ending → Heap → Prop) : Prop :=
  iteB (decide (i < ((ln : Nat) : Int))) (
    idxD l ln i fun a =>
    ldStr H (Addr.add a (Int.toNat i * 6)) fun s =>
    ldStr H (Addr.add (Addr.add a (Int.toNat i * 6)) 1) fun s1 =>
    ldInt H (Addr.add (Addr.add a (Int.toNat i * 6)) 2) .i64 fun n =>
    ldInt H (Addr.add (Addr.add a (Int.toNat i * 6)) 3) .i64 fun n1 =>
    ldInt H (Addr.add (Addr.add a (Int.toNat i * 6)) 4) .i64 fun n2 =>
    ldInt H (Addr.add (Addr.add a (Int.toNat i * 6)) 5) .i64 fun n3 =>
    callD Try.prog 57 [(.agg ⟨[(.string s), (.string s1), (.int .i64 n), (.int .i64 n1), (.int .i64 n2), (.int .i64 n3)]⟩)] H (panK R) fun v H1 =>
    tPtr v fun p =>
    newD H1 (.cells ⟨[(.pointer p)]⟩ 106) fun r H2 =>
    apD H2 1 8 [(.pointer none)] 106 out outn outc (some ⟨r, 0, none⟩) 1 fun q qn qc H3 =>
    L0 l ln lc q qn qc (IntKind.wrap .i64 (i + (1 : Int))) H3 R) <|
  R (.returned (.slice out outn outc)) H
theorem L0_step {l : Option Addr} {ln : Nat} {lc : Nat} {out : Option Addr} {outn : Nat} {outc : Nat} {i : Int} {H : Heap} {R : Ending → Heap → Prop} (h : L0n l ln lc out outn outc i H R) : L0 l ln lc out outn outc i H R :=
  goL_of_den (an := an) (fuel := 100000) (X := L0n l ln lc out outn outc i H R) mixed fn (by kernel_rfl) (fun ρ0 => by kernel_rfl) h
def go (l : Option Addr) (ln : Nat) (lc : Nat) (H : Heap) (R : Ending → Heap → Prop) : Prop :=
  L0 l ln lc none 0 0 (0 : Int) H R
theorem calls {l : Option Addr} {ln : Nat} {lc : Nat} {H : Heap} {R : Ending → Heap → Prop} (h : go l ln lc H R) : CallsH Try.prog 32 ⟨[(.slice l ln lc)]⟩ H R :=
  callsH_of_den (an := an) (fuel := 100000) (X := go l ln lc H R) (c := body) mixed fn (by kernel_rfl) (by kernel_rfl) (by kernel_rfl) ok (by kernel_rfl) h
end F32
/-! ### 33 "pub-stadtholder/impl.rangeIn" -/
namespace F33
def an : Ann := { kinds := [(1002, .grow), (1005, .grow), (1012, .grow), (1015, .grow), (1031, .grow)], taus := [(1, [[0, 3, 6, 8, 10, 13, 16, 18, 20, 22, 24, 26, 28, 1, 4, 7, 9, 11, 14, 17, 19, 21, 23, 25, 27, 29, 2, 5, 12, 15, 30, 31, 32], [0, 3, 6, 8, 10, 13, 16, 18, 20, 22, 24, 26, 28, 1, 4, 7, 9, 11, 14, 17, 19, 21, 23, 25, 27, 29, 5, 2, 12, 15, 30, 31, 32], [0, 3, 6, 8, 10, 13, 16, 18, 20, 22, 24, 26, 28, 1, 4, 7, 9, 11, 14, 17, 19, 21, 23, 25, 27, 29, 5, 12, 2, 15, 30, 31, 32], [0, 3, 6, 8, 10, 13, 16, 18, 20, 22, 24, 26, 28, 1, 4, 7, 9, 11, 14, 17, 19, 21, 23, 25, 27, 29, 5, 12, 15, 2, 30, 31, 32]])], pairs := [(1, [(2, 5), (2, 12), (2, 15)])], lab := [] }
noncomputable def body : Code := (Try.f33.body).getD .skip
theorem fn : Try.prog.funcs[33]? = some Try.f33 := by kernel_rfl
theorem ok : codeOk an 35 body = true := by kernel_rfl
def go (r_0 : Int) (r_1 : ByteArray) (r_2 : ByteArray) (r_3 : ByteArray) (r_4 : Int) (r_5 : Int) (r_6 : Int) (r_7 : Int) (r_8 : Int) (r_9 : Int) (r_10 : Int) (r_11 : Int) (r_12 : Int) (r_13 : Bool) (r_14 : Bool) (r_15 : Bool) (r_16 : Bool) (r_17 : Bool) (r_18 : Option Addr) (r_18n : Nat) (r_18c : Nat) (r_19 : Option Addr) (r_19n : Nat) (r_19c : Nat) (r_20 : Option Addr) (r_20n : Nat) (r_20c : Nat) (H : Heap) (R : Ending → Heap → Prop) : Prop :=
  newD H (.cells ⟨[(.int .i64 r_0), (.string r_1), (.string r_2), (.string r_3), (.int .i64 r_4), (.int .i64 r_5), (.int .i64 r_6), (.int .i64 r_7), (.int .i64 r_8), (.int .i64 r_9), (.int .i64 r_10), (.int .i64 r_11), (.int .i64 r_12), (.bool r_13), (.bool r_14), (.bool r_15), (.bool r_16), (.bool r_17), (.slice r_18 r_18n r_18c), (.slice r_19 r_19n r_19c), (.slice r_20 r_20n r_20c)]⟩ 26) fun r H1 =>
  (
    ldStr H1 ⟨r, 1, none⟩ fun s =>
    ldStr H1 ⟨r, 2, none⟩ fun s1 =>
    ldInt H1 ⟨r, 6, none⟩ .i64 fun n =>
    ldInt H1 ⟨r, 5, none⟩ .i64 fun n1 =>
    ldInt H1 ⟨r, 7, none⟩ .i64 fun n2 =>
    ldInt H1 ⟨r, 8, none⟩ .i64 fun n3 =>
    ldBool H1 ⟨r, 15, none⟩ fun b =>
    ldBool H1 ⟨r, 13, none⟩ fun b1 =>
    ldBool H1 ⟨r, 14, none⟩ fun b2 =>
    ldInt H1 ⟨r, 9, none⟩ .i64 fun n4 =>
    ldInt H1 ⟨r, 10, none⟩ .i64 fun n5 =>
    ldInt H1 ⟨r, 11, none⟩ .i64 fun n6 =>
    ldInt H1 ⟨r, 12, none⟩ .i64 fun n7 =>
    sbD H1 5 s fun r1 c H2 =>
    callD Try.prog 58 [(.string s1)] H2 nope fun v H3 =>
    tSl v fun q qn qc =>
    andD (ExtH H2 H3) <|
    callD Try.prog 59 [(.int .i64 n2)] H3 nope fun v1 H4 =>
    tInt v1 .i32 fun n8 =>
    andD (ExtH H3 H4) <|
    callD Try.prog 59 [(.int .i64 n3)] H4 nope fun v2 H5 =>
    tInt v2 .i32 fun n9 =>
    andD (ExtH H4 H5) <|
    newD H5 (.cells ⟨[(.slice (some ⟨r1, 0, none⟩) (ByteArray.size s) c), (.slice q qn qc), (.int .i64 n), (.int .i64 n1), (.int .i32 n8), (.int .i32 n9), (.bool b), (.bool b1), (.bool b2), (.int .i64 n4), (.int .i64 n5), (.int .i64 n6), (.int .i64 n7)]⟩ 117) fun r2 H6 =>
    R (.returned (.pointer (some ⟨r2, 0, none⟩))) H6) ∧
  (
    ldStr H1 ⟨r, 1, none⟩ fun s2 =>
    ldStr H1 ⟨r, 2, none⟩ fun s3 =>
    ldInt H1 ⟨r, 6, none⟩ .i64 fun n10 =>
    ldInt H1 ⟨r, 5, none⟩ .i64 fun n11 =>
    ldInt H1 ⟨r, 7, none⟩ .i64 fun n12 =>
    ldInt H1 ⟨r, 8, none⟩ .i64 fun n13 =>
    ldBool H1 ⟨r, 15, none⟩ fun b3 =>
    ldBool H1 ⟨r, 13, none⟩ fun b4 =>
    ldBool H1 ⟨r, 14, none⟩ fun b5 =>
    ldInt H1 ⟨r, 9, none⟩ .i64 fun n14 =>
    ldInt H1 ⟨r, 10, none⟩ .i64 fun n15 =>
    ldInt H1 ⟨r, 11, none⟩ .i64 fun n16 =>
    ldInt H1 ⟨r, 12, none⟩ .i64 fun n17 =>
    callD Try.prog 58 [(.string s3)] H1 nope fun v3 H7 =>
    tSl v3 fun q1 q1n q1c =>
    andD (ExtH H1 H7) <|
    sbD H7 5 s2 fun r3 c1 H8 =>
    callD Try.prog 59 [(.int .i64 n12)] H8 nope fun v4 H9 =>
    tInt v4 .i32 fun n18 =>
    andD (ExtH H8 H9) <|
    callD Try.prog 59 [(.int .i64 n13)] H9 nope fun v5 H10 =>
    tInt v5 .i32 fun n19 =>
    andD (ExtH H9 H10) <|
    newD H10 (.cells ⟨[(.slice (some ⟨r3, 0, none⟩) (ByteArray.size s2) c1), (.slice q1 q1n q1c), (.int .i64 n10), (.int .i64 n11), (.int .i32 n18), (.int .i32 n19), (.bool b3), (.bool b4), (.bool b5), (.int .i64 n14), (.int .i64 n15), (.int .i64 n16), (.int .i64 n17)]⟩ 117) fun r4 H11 =>
    R (.returned (.pointer (some ⟨r4, 0, none⟩))) H11) ∧
  (
    ldStr H1 ⟨r, 1, none⟩ fun s4 =>
    ldStr H1 ⟨r, 2, none⟩ fun s5 =>
    ldInt H1 ⟨r, 6, none⟩ .i64 fun n20 =>
    ldInt H1 ⟨r, 5, none⟩ .i64 fun n21 =>
    ldInt H1 ⟨r, 7, none⟩ .i64 fun n22 =>
    ldInt H1 ⟨r, 8, none⟩ .i64 fun n23 =>
    ldBool H1 ⟨r, 15, none⟩ fun b6 =>
    ldBool H1 ⟨r, 13, none⟩ fun b7 =>
    ldBool H1 ⟨r, 14, none⟩ fun b8 =>
    ldInt H1 ⟨r, 9, none⟩ .i64 fun n24 =>
    ldInt H1 ⟨r, 10, none⟩ .i64 fun n25 =>
    ldInt H1 ⟨r, 11, none⟩ .i64 fun n26 =>
    ldInt H1 ⟨r, 12, none⟩ .i64 fun n27 =>
    callD Try.prog 58 [(.string s5)] H1 nope fun v6 H12 =>
    tSl v6 fun q2 q2n q2c =>
    andD (ExtH H1 H12) <|
    callD Try.prog 59 [(.int .i64 n22)] H12 nope fun v7 H13 =>
    tInt v7 .i32 fun n28 =>
    andD (ExtH H12 H13) <|
    sbD H13 5 s4 fun r5 c2 H14 =>
    callD Try.prog 59 [(.int .i64 n23)] H14 nope fun v8 H15 =>
    tInt v8 .i32 fun n29 =>
    andD (ExtH H14 H15) <|
    newD H15 (.cells ⟨[(.slice (some ⟨r5, 0, none⟩) (ByteArray.size s4) c2), (.slice q2 q2n q2c), (.int .i64 n20), (.int .i64 n21), (.int .i32 n28), (.int .i32 n29), (.bool b6), (.bool b7), (.bool b8), (.int .i64 n24), (.int .i64 n25), (.int .i64 n26), (.int .i64 n27)]⟩ 117) fun r6 H16 =>
    R (.returned (.pointer (some ⟨r6, 0, none⟩))) H16) ∧
  (
    ldStr H1 ⟨r, 1, none⟩ fun s6 =>
    ldStr H1 ⟨r, 2, none⟩ fun s7 =>
    ldInt H1 ⟨r, 6, none⟩ .i64 fun n30 =>
    ldInt H1 ⟨r, 5, none⟩ .i64 fun n31 =>
    ldInt H1 ⟨r, 7, none⟩ .i64 fun n32 =>
    ldInt H1 ⟨r, 8, none⟩ .i64 fun n33 =>
    ldBool H1 ⟨r, 15, none⟩ fun b9 =>
    ldBool H1 ⟨r, 13, none⟩ fun b10 =>
    ldBool H1 ⟨r, 14, none⟩ fun b11 =>
    ldInt H1 ⟨r, 9, none⟩ .i64 fun n34 =>
    ldInt H1 ⟨r, 10, none⟩ .i64 fun n35 =>
    ldInt H1 ⟨r, 11, none⟩ .i64 fun n36 =>
    ldInt H1 ⟨r, 12, none⟩ .i64 fun n37 =>
    callD Try.prog 58 [(.string s7)] H1 nope fun v9 H17 =>
    tSl v9 fun q3 q3n q3c =>
    andD (ExtH H1 H17) <|
    callD Try.prog 59 [(.int .i64 n32)] H17 nope fun v10 H18 =>
    tInt v10 .i32 fun n38 =>
    andD (ExtH H17 H18) <|
    callD Try.prog 59 [(.int .i64 n33)] H18 nope fun v11 H19 =>
    tInt v11 .i32 fun n39 =>
    andD (ExtH H18 H19) <|
    sbD H19 5 s6 fun r7 c3 H20 =>
    newD H20 (.cells ⟨[(.slice (some ⟨r7, 0, none⟩) (ByteArray.size s6) c3), (.slice q3 q3n q3c), (.int .i64 n30), (.int .i64 n31), (.int .i32 n38), (.int .i32 n39), (.bool b9), (.bool b10), (.bool b11), (.int .i64 n34), (.int .i64 n35), (.int .i64 n36), (.int .i64 n37)]⟩ 117) fun r8 H21 =>
    R (.returned (.pointer (some ⟨r8, 0, none⟩))) H21)
theorem calls {r_0 : Int} {r_1 : ByteArray} {r_2 : ByteArray} {r_3 : ByteArray} {r_4 : Int} {r_5 : Int} {r_6 : Int} {r_7 : Int} {r_8 : Int} {r_9 : Int} {r_10 : Int} {r_11 : Int} {r_12 : Int} {r_13 : Bool} {r_14 : Bool} {r_15 : Bool} {r_16 : Bool} {r_17 : Bool} {r_18 : Option Addr} {r_18n : Nat} {r_18c : Nat} {r_19 : Option Addr} {r_19n : Nat} {r_19c : Nat} {r_20 : Option Addr} {r_20n : Nat} {r_20c : Nat} {H : Heap} {R : Ending → Heap → Prop} (h : go r_0 r_1 r_2 r_3 r_4 r_5 r_6 r_7 r_8 r_9 r_10 r_11 r_12 r_13 r_14 r_15 r_16 r_17 r_18 r_18n r_18c r_19 r_19n r_19c r_20 r_20n r_20c H R) : CallsH Try.prog 33 ⟨[(.agg ⟨[(.int .i64 r_0), (.string r_1), (.string r_2), (.string r_3), (.int .i64 r_4), (.int .i64 r_5), (.int .i64 r_6), (.int .i64 r_7), (.int .i64 r_8), (.int .i64 r_9), (.int .i64 r_10), (.int .i64 r_11), (.int .i64 r_12), (.bool r_13), (.bool r_14), (.bool r_15), (.bool r_16), (.bool r_17), (.slice r_18 r_18n r_18c), (.slice r_19 r_19n r_19c), (.slice r_20 r_20n r_20c)]⟩)]⟩ H R :=
  callsH_of_den (an := an) (fuel := 100000) (X := go r_0 r_1 r_2 r_3 r_4 r_5 r_6 r_7 r_8 r_9 r_10 r_11 r_12 r_13 r_14 r_15 r_16 r_17 r_18 r_18n r_18c r_19 r_19n r_19c r_20 r_20n r_20c H R) (c := body) mixed fn (by kernel_rfl) (by kernel_rfl) (by kernel_rfl) ok (by kernel_rfl) h
end F33
/-! ### 35 "pub-stadtholder/impl.BytesRev$1" -/
namespace F35
def an : Ann := { kinds := [], taus := [], pairs := [], lab := [] }
noncomputable def body : Code := (Try.f35.body).getD .skip
theorem fn : Try.prog.funcs[35]? = some Try.f35 := by kernel_rfl
theorem ok : codeOk an 5 body = true := by kernel_rfl
def go (s0 : Addr) (s1 : Addr) (H : Heap) (R : Ending → Heap → Prop) : Prop :=
  ldSl H s0 fun q qn qc =>
  callD Try.prog 37 [(.slice q qn qc)] H (panK R) fun v H1 =>
  tAgg v fun l =>
  tCons l fun c l1 =>
  tInt c .i64 fun n =>
  tCons l1 fun c1 l2 =>
  tInt c1 .i64 fun n1 =>
  tNil l2 <|
  callD Try.prog 36 [(.agg ⟨[(.int .i64 n), (.int .i64 n1)]⟩)] H1 (panK R) fun v1 H2 =>
  tAgg v1 fun l3 =>
  tCons l3 fun c2 l4 =>
  tInt c2 .i64 fun n2 =>
  tCons l4 fun c3 l5 =>
  tInt c3 .i64 fun n3 =>
  tNil l5 <|
  st1 H2 s1 (.int .i64 n2) fun H3 =>
  st1 H3 (Addr.add s1 1) (.int .i64 n3) fun H4 =>
  R (.returned (.tuple ⟨[]⟩)) H4
theorem calls {s0 : Addr} {s1 : Addr} {H : Heap} {R : Ending → Heap → Prop} (h : go s0 s1 H R) : CallsH Try.prog 35 ⟨[(.pointer (some s0)), (.pointer (some s1))]⟩ H R :=
  callsH_of_den (an := an) (fuel := 100000) (X := go s0 s1 H R) (c := body) mixed fn (by kernel_rfl) (by kernel_rfl) (by kernel_rfl) ok (by kernel_rfl) h
end F35
/-! ### 36 "pub-stadtholder/impl.revOut" -/
namespace F36
def an : Ann := { kinds := [], taus := [], pairs := [], lab := [] }
noncomputable def body : Code := (Try.f36.body).getD .skip
theorem fn : Try.prog.funcs[36]? = some Try.f36 := by kernel_rfl
theorem ok : codeOk an 8 body = true := by kernel_rfl
def go (r_0 : Int) (r_1 : Int) (H : Heap) (R : Ending → Heap → Prop) : Prop :=
  newD H (.cells ⟨[(.int .i64 r_0), (.int .i64 r_1)]⟩ 75) fun r H1 =>
  newD H1 (.cells ⟨[(.int .i64 (0 : Int)), (.int .i64 (0 : Int))]⟩ 35) fun r1 H2 =>
  ldInt H2 ⟨r, 0, none⟩ .i64 fun n =>
  ldInt H2 ⟨r, 1, none⟩ .i64 fun n1 =>
  st1 H2 ⟨r1, 0, none⟩ (.int .i64 n) fun H3 =>
  st1 H3 ⟨r1, 1, none⟩ (.int .i64 n1) fun H4 =>
  ldInt H4 ⟨r1, 0, none⟩ .i64 fun n2 =>
  ldInt H4 ⟨r1, 1, none⟩ .i64 fun n3 =>
  R (.returned (.agg ⟨[(.int .i64 n2), (.int .i64 n3)]⟩)) H4
theorem calls {r_0 : Int} {r_1 : Int} {H : Heap} {R : Ending → Heap → Prop} (h : go r_0 r_1 H R) : CallsH Try.prog 36 ⟨[(.agg ⟨[(.int .i64 r_0), (.int .i64 r_1)]⟩)]⟩ H R :=
  callsH_of_den (an := an) (fuel := 100000) (X := go r_0 r_1 H R) (c := body) mixed fn (by kernel_rfl) (by kernel_rfl) (by kernel_rfl) ok (by kernel_rfl) h
end F36
/-! ### 37 "pub-stadtholder/pub/etcdserver/storage/mvcc.BytesToRev" -/
namespace F37
def an : Ann := { kinds := [], taus := [], pairs := [], lab := [] }
noncomputable def body : Code := (Try.f37.body).getD .skip
theorem fn : Try.prog.funcs[37]? = some Try.f37 := by kernel_rfl
theorem ok : codeOk an 6 body = true := by kernel_rfl
def go (bytes : Option Addr) (bytesn : Nat) (bytesc : Nat) (H : Heap) (R : Ending → Heap → Prop) : Prop :=
  newD H (.cells ⟨[(.int .i64 (0 : Int)), (.int .i64 (0 : Int))]⟩ 75) fun r H1 =>
  callD Try.prog 61 [(.slice bytes bytesn bytesc)] H1 (panK R) fun v H2 =>
  tAgg v fun l =>
  tCons l fun c l1 =>
  tInt c .i64 fun n =>
  tCons l1 fun c1 l2 =>
  tInt c1 .i64 fun n1 =>
  tCons l2 fun c2 l3 =>
  tBool c2 fun b =>
  tNil l3 <|
  st1 H2 ⟨r, 0, none⟩ (.int .i64 n) fun H3 =>
  st1 H3 ⟨r, 1, none⟩ (.int .i64 n1) fun H4 =>
  ldInt H4 ⟨r, 0, none⟩ .i64 fun n2 =>
  ldInt H4 ⟨r, 1, none⟩ .i64 fun n3 =>
  R (.returned (.agg ⟨[(.int .i64 n2), (.int .i64 n3)]⟩)) H4
theorem calls {bytes : Option Addr} {bytesn : Nat} {bytesc : Nat} {H : Heap} {R : Ending → Heap → Prop} (h : go bytes bytesn bytesc H R) : CallsH Try.prog 37 ⟨[(.slice bytes bytesn bytesc)]⟩ H R :=
  callsH_of_den (an := an) (fuel := 100000) (X := go bytes bytesn bytesc H R) (c := body) mixed fn (by kernel_rfl) (by kernel_rfl) (by kernel_rfl) ok (by kernel_rfl) h
end F37
/-! ### 38 "pub-stadtholder/pub/etcdserver/storage/mvcc.RevToBytes" -/
namespace F38
def an : Ann := { kinds := [], taus := [], pairs := [], lab := [] }
noncomputable def body : Code := (Try.f38.body).getD .skip
theorem fn : Try.prog.funcs[38]? = some Try.f38 := by kernel_rfl
theorem ok : codeOk an 12 body = true := by kernel_rfl
def go (rev_0 : Int) (rev_1 : Int) (bytes : Option Addr) (bytesn : Nat) (bytesc : Nat) (H : Heap) (R : Ending → Heap → Prop) : Prop :=
  newD H (.cells ⟨[(.int .i64 rev_0), (.int .i64 rev_1)]⟩ 75) fun r H1 =>
  ldInt H1 ⟨r, 0, none⟩ .i64 fun n =>
  ldInt H1 ⟨r, 1, none⟩ .i64 fun n1 =>
  callD Try.prog 62 [(.int .i64 n), (.int .i64 n1), (.bool false)] H1 (panK R) fun v H2 =>
  tAgg v fun l =>
  tCons l fun c l1 =>
  tInt c .i64 fun n2 =>
  tCons l1 fun c1 l2 =>
  tInt c1 .i64 fun n3 =>
  tCons l2 fun c2 l3 =>
  tBool c2 fun b =>
  tNil l3 <|
  callD Try.prog 42 [(.agg ⟨[(.int .i64 n2), (.int .i64 n3), (.bool b)]⟩), (.slice bytes bytesn bytesc)] H2 (panK R) fun v1 H3 =>
  tSl v1 fun q qn qc =>
  R (.returned (.slice q qn qc)) H3
theorem calls {rev_0 : Int} {rev_1 : Int} {bytes : Option Addr} {bytesn : Nat} {bytesc : Nat} {H : Heap} {R : Ending → Heap → Prop} (h : go rev_0 rev_1 bytes bytesn bytesc H R) : CallsH Try.prog 38 ⟨[(.agg ⟨[(.int .i64 rev_0), (.int .i64 rev_1)]⟩), (.slice bytes bytesn bytesc)]⟩ H R :=
  callsH_of_den (an := an) (fuel := 100000) (X := go rev_0 rev_1 bytes bytesn bytesc H R) (c := body) mixed fn (by kernel_rfl) (by kernel_rfl) (by kernel_rfl) ok (by kernel_rfl) h
end F38
/-! ### 39 "pub-stadtholder/impl.revIn" -/
namespace F39
def an : Ann := { kinds := [], taus := [], pairs := [], lab := [] }
noncomputable def body : Code := (Try.f39.body).getD .skip
theorem fn : Try.prog.funcs[39]? = some Try.f39 := by kernel_rfl
theorem ok : codeOk an 8 body = true := by kernel_rfl
def go (r_0 : Int) (r_1 : Int) (H : Heap) (R : Ending → Heap → Prop) : Prop :=
  newD H (.cells ⟨[(.int .i64 r_0), (.int .i64 r_1)]⟩ 35) fun r H1 =>
  newD H1 (.cells ⟨[(.int .i64 (0 : Int)), (.int .i64 (0 : Int))]⟩ 75) fun r1 H2 =>
  ldInt H2 ⟨r, 0, none⟩ .i64 fun n =>
  ldInt H2 ⟨r, 1, none⟩ .i64 fun n1 =>
  st1 H2 ⟨r1, 0, none⟩ (.int .i64 n) fun H3 =>
  st1 H3 ⟨r1, 1, none⟩ (.int .i64 n1) fun H4 =>
  ldInt H4 ⟨r1, 0, none⟩ .i64 fun n2 =>
  ldInt H4 ⟨r1, 1, none⟩ .i64 fun n3 =>
  R (.returned (.agg ⟨[(.int .i64 n2), (.int .i64 n3)]⟩)) H4
theorem calls {r_0 : Int} {r_1 : Int} {H : Heap} {R : Ending → Heap → Prop} (h : go r_0 r_1 H R) : CallsH Try.prog 39 ⟨[(.agg ⟨[(.int .i64 r_0), (.int .i64 r_1)]⟩)]⟩ H R :=
  callsH_of_den (an := an) (fuel := 100000) (X := go r_0 r_1 H R) (c := body) mixed fn (by kernel_rfl) (by kernel_rfl) (by kernel_rfl) ok (by kernel_rfl) h
end F39
/-! ### 40 "pub-stadtholder/pub/etcdserver/storage/mvcc.NewRevBytes" -/
namespace F40
def an : Ann := { kinds := [], taus := [], pairs := [], lab := [] }
noncomputable def body : Code := (Try.f40.body).getD .skip
theorem fn : Try.prog.funcs[40]? = some Try.f40 := by kernel_rfl
theorem ok : codeOk an 2 body = true := by kernel_rfl
def go  (H : Heap) (R : Ending → Heap → Prop) : Prop :=
  mkD H 1 [(.int .u8 (0 : Int))] 5 (17 : Int) (18 : Int) fun r k c H1 =>
  R (.returned (.slice (some ⟨r, 0, none⟩) k c)) H1
theorem calls  {H : Heap} {R : Ending → Heap → Prop} (h : go  H R) : CallsH Try.prog 40 ⟨[]⟩ H R :=
  callsH_of_den (an := an) (fuel := 100000) (X := go  H R) (c := body) mixed fn (by kernel_rfl) (by kernel_rfl) (by kernel_rfl) ok (by kernel_rfl) h
end F40
/-! ### 41 "(pub-stadtholder/pub/etcdserver/storage/mvcc.Revision).GreaterThan" -/
namespace F41
def an : Ann := { kinds := [], taus := [], pairs := [], lab := [] }
noncomputable def body : Code := (Try.f41.body).getD .skip
theorem fn : Try.prog.funcs[41]? = some Try.f41 := by kernel_rfl
theorem ok : codeOk an 20 body = true := by kernel_rfl
def go (a_0 : Int) (a_1 : Int) (b_0 : Int) (b_1 : Int) (H : Heap) (R : Ending → Heap → Prop) : Prop :=
  newD H (.cells ⟨[(.int .i64 a_0), (.int .i64 a_1)]⟩ 75) fun r H1 =>
  newD H1 (.cells ⟨[(.int .i64 b_0), (.int .i64 b_1)]⟩ 75) fun r1 H2 =>
  ldInt H2 ⟨r, 0, none⟩ .i64 fun n =>
  ldInt H2 ⟨r1, 0, none⟩ .i64 fun n1 =>
  iteB (decide (n > n1)) (
    R (.returned (.bool true)) H2) <|
  ldInt H2 ⟨r, 0, none⟩ .i64 fun n2 =>
  ldInt H2 ⟨r1, 0, none⟩ .i64 fun n3 =>
  iteB (decide (n2 < n3)) (
    R (.returned (.bool false)) H2) <|
  ldInt H2 ⟨r, 1, none⟩ .i64 fun n4 =>
  ldInt H2 ⟨r1, 1, none⟩ .i64 fun n5 =>
  R (.returned (.bool (decide (n4 > n5)))) H2
theorem calls {a_0 : Int} {a_1 : Int} {b_0 : Int} {b_1 : Int} {H : Heap} {R : Ending → Heap → Prop} (h : go a_0 a_1 b_0 b_1 H R) : CallsH Try.prog 41 ⟨[(.agg ⟨[(.int .i64 a_0), (.int .i64 a_1)]⟩), (.agg ⟨[(.int .i64 b_0), (.int .i64 b_1)]⟩)]⟩ H R :=
  callsH_of_den (an := an) (fuel := 100000) (X := go a_0 a_1 b_0 b_1 H R) (c := body) mixed fn (by kernel_rfl) (by kernel_rfl) (by kernel_rfl) ok (by kernel_rfl) h
end F41
/-! ### 42 "pub-stadtholder/pub/etcdserver/storage/mvcc.BucketKeyToBytes" -/
namespace F42
def an : Ann := { kinds := [], taus := [(3, [[0, 1, 2, 3, 4, 5, 6]])], pairs := [], lab := [] }
noncomputable def body : Code := (Try.f42.body).getD .skip
theorem fn : Try.prog.funcs[42]? = some Try.f42 := by kernel_rfl
theorem ok : codeOk an 34 body = true := by kernel_rfl
def go (rev_0 : Int) (rev_1 : Int) (rev_2 : Bool) (bytes : Option Addr) (bytesn : Nat) (bytesc : Nat) (H : Heap) (R : Ending → Heap → Prop) : Prop :=
  newD H (.cells ⟨[(.int .i64 rev_0), (.int .i64 rev_1), (.bool rev_2)]⟩ 83) fun r H1 =>
  ldInt H1 ⟨r, 0, none⟩ .i64 fun n =>
  callD Try.prog 63 [(.slice bytes bytesn bytesc), (.int .u64 (IntKind.wrap .u64 n))] H1 (panK R) fun v H2 =>
  tTup v fun l =>
  tNil l <|
  idxD bytes bytesn (8 : Int) fun a =>
  st1 H2 (Addr.add a (Int.toNat (8 : Int) * 1)) (.int .u8 (95 : Int)) fun H3 =>
  bndD (9 : Int) bytesn fun k =>
  ldInt H3 ⟨r, 1, none⟩ .i64 fun n1 =>
  callD Try.prog 63 [(.slice (slP bytes k bytesc 1) (bytesn - k) (bytesc - k)), (.int .u64 (IntKind.wrap .u64 n1))] H3 (panK R) fun v1 H4 =>
  tTup v1 fun l1 =>
  tNil l1 <|
  ldBool H4 ⟨r, 2, none⟩ fun b =>
  iteB b (
    iteB (((bytesn : Nat) : Int) == (17 : Int)) (
      newD H4 (.cells ⟨[(.int .u8 (116 : Int))]⟩ 5) fun r1 H5 =>
      apD H5 1 1 [(.int .u8 (0 : Int))] 5 bytes bytesn bytesc (some ⟨r1, 0, none⟩) 1 fun q qn qc H6 =>
      R (.returned (.slice q qn qc)) H6) <|
    iteB (((bytesn : Nat) : Int) == (18 : Int)) (
      idxD bytes bytesn (17 : Int) fun a1 =>
      st1 H4 (Addr.add a1 (Int.toNat (17 : Int) * 1)) (.int .u8 (116 : Int)) fun H7 =>
      R (.returned (.slice bytes bytesn bytesc)) H7) <|
    R (.returned (.slice bytes bytesn bytesc)) H4) <|
  R (.returned (.slice bytes bytesn bytesc)) H4
theorem calls {rev_0 : Int} {rev_1 : Int} {rev_2 : Bool} {bytes : Option Addr} {bytesn : Nat} {bytesc : Nat} {H : Heap} {R : Ending → Heap → Prop} (h : go rev_0 rev_1 rev_2 bytes bytesn bytesc H R) : CallsH Try.prog 42 ⟨[(.agg ⟨[(.int .i64 rev_0), (.int .i64 rev_1), (.bool rev_2)]⟩), (.slice bytes bytesn bytesc)]⟩ H R :=
  callsH_of_den (an := an) (fuel := 100000) (X := go rev_0 rev_1 rev_2 bytes bytesn bytesc H R) (c := body) mixed fn (by kernel_rfl) (by kernel_rfl) (by kernel_rfl) ok (by kernel_rfl) h
end F42
/-! ### 43 "pub-stadtholder/pub/etcdserver/storage/mvcc.ZzBucketKey" -/
namespace F43
def an : Ann := { kinds := [], taus := [], pairs := [], lab := [] }
noncomputable def body : Code := (Try.f43.body).getD .skip
theorem fn : Try.prog.funcs[43]? = some Try.f43 := by kernel_rfl
theorem ok : codeOk an 11 body = true := by kernel_rfl
def go (r_0 : Int) (r_1 : Int) (tombstone : Bool) (H : Heap) (R : Ending → Heap → Prop) : Prop :=
  newD H (.cells ⟨[(.int .i64 r_0), (.int .i64 r_1)]⟩ 75) fun r H1 =>
  newD H1 (.cells ⟨[(.int .i64 (0 : Int)), (.int .i64 (0 : Int)), (.bool false)]⟩ 83) fun r1 H2 =>
  ldInt H2 ⟨r, 0, none⟩ .i64 fun n =>
  ldInt H2 ⟨r, 1, none⟩ .i64 fun n1 =>
  callD Try.prog 62 [(.int .i64 n), (.int .i64 n1), (.bool tombstone)] H2 (panK R) fun v H3 =>
  tAgg v fun l =>
  tCons l fun c l1 =>
  tInt c .i64 fun n2 =>
  tCons l1 fun c1 l2 =>
  tInt c1 .i64 fun n3 =>
  tCons l2 fun c2 l3 =>
  tBool c2 fun b =>
  tNil l3 <|
  st1 H3 ⟨r1, 0, none⟩ (.int .i64 n2) fun H4 =>
  st1 H4 ⟨r1, 1, none⟩ (.int .i64 n3) fun H5 =>
  st1 H5 ⟨r1, 2, none⟩ (.bool b) fun H6 =>
  ldInt H6 ⟨r1, 0, none⟩ .i64 fun n4 =>
  ldInt H6 ⟨r1, 1, none⟩ .i64 fun n5 =>
  ldBool H6 ⟨r1, 2, none⟩ fun b1 =>
  R (.returned (.agg ⟨[(.int .i64 n4), (.int .i64 n5), (.bool b1)]⟩)) H6
theorem calls {r_0 : Int} {r_1 : Int} {tombstone : Bool} {H : Heap} {R : Ending → Heap → Prop} (h : go r_0 r_1 tombstone H R) : CallsH Try.prog 43 ⟨[(.agg ⟨[(.int .i64 r_0), (.int .i64 r_1)]⟩), (.bool tombstone)]⟩ H R :=
  callsH_of_den (an := an) (fuel := 100000) (X := go r_0 r_1 tombstone H R) (c := body) mixed fn (by kernel_rfl) (by kernel_rfl) (by kernel_rfl) ok (by kernel_rfl) h
end F43
/-! ### 44 "pub-stadtholder/pub/etcdserver/storage/mvcc.IsTombstone" -/
namespace F44
def an : Ann := { kinds := [], taus := [], pairs := [], lab := [] }
noncomputable def body : Code := (Try.f44.body).getD .skip
theorem fn : Try.prog.funcs[44]? = some Try.f44 := by kernel_rfl
theorem ok : codeOk an 5 body = true := by kernel_rfl
def go (b : Option Addr) (bn : Nat) (bc : Nat) (H : Heap) (R : Ending → Heap → Prop) : Prop :=
  callD Try.prog 64 [(.slice b bn bc)] H (panK R) fun v H1 =>
  tBool v fun b1 =>
  R (.returned (.bool b1)) H1
theorem calls {b : Option Addr} {bn : Nat} {bc : Nat} {H : Heap} {R : Ending → Heap → Prop} (h : go b bn bc H R) : CallsH Try.prog 44 ⟨[(.slice b bn bc)]⟩ H R :=
  callsH_of_den (an := an) (fuel := 100000) (X := go b bn bc H R) (c := body) mixed fn (by kernel_rfl) (by kernel_rfl) (by kernel_rfl) ok (by kernel_rfl) h
end F44
/-! ### 45 "pub-stadtholder/laws.zzFits30" -/
namespace F45
def an : Ann := { kinds := [], taus := [], pairs := [], lab := [] }
noncomputable def body : Code := (Try.f45.body).getD .skip
theorem fn : Try.prog.funcs[45]? = some Try.f45 := by kernel_rfl
theorem ok : codeOk an 7 body = true := by kernel_rfl
def go (x_0 : ByteArray) (x_1 : Bool) (H : Heap) (R : Ending → Heap → Prop) : Prop :=
  newD H (.cells ⟨[(.string x_0), (.bool x_1)]⟩ 52) fun r H1 =>
  ldStr H1 ⟨r, 0, none⟩ fun s =>
  iteB (decide (((ByteArray.size s : Nat) : Int) > (2147483647 : Int))) (
    R (.returned (.bool false)) H1) <|
  R (.returned (.bool true)) H1
theorem calls {x_0 : ByteArray} {x_1 : Bool} {H : Heap} {R : Ending → Heap → Prop} (h : go x_0 x_1 H R) : CallsH Try.prog 45 ⟨[(.agg ⟨[(.string x_0), (.bool x_1)]⟩)]⟩ H R :=
  callsH_of_den (an := an) (fuel := 100000) (X := go x_0 x_1 H R) (c := body) mixed fn (by kernel_rfl) (by kernel_rfl) (by kernel_rfl) ok (by kernel_rfl) h
end F45
/-! ### 46 "pub-stadtholder/pub/etcdserver/ioutil.ZzNew" -/
namespace F46
def an : Ann := { kinds := [], taus := [], pairs := [], lab := [] }
noncomputable def body : Code := (Try.f46.body).getD .skip
theorem fn : Try.prog.funcs[46]? = some Try.f46 := by kernel_rfl
theorem ok : codeOk an 26 body = true := by kernel_rfl
def go (w : IV) (buffer : Int) (pageBytes : Int) (pageOffset : Int) (H : Heap) (R : Ending → Heap → Prop) : Prop :=
  callD Try.prog 65 [(IV.v w), (.int .i64 pageBytes), (.int .i64 pageOffset)] H (panK R) fun v H1 =>
  tPtr v fun p =>
  mkD H1 1 [(.int .u8 (0 : Int))] 5 (IntKind.wrap .i64 (buffer + pageBytes)) (IntKind.wrap .i64 (buffer + pageBytes)) fun r k c H2 =>
  nilD p fun a =>
  st1 H2 (Addr.add a 4) (.slice (some ⟨r, 0, none⟩) k c) fun H3 =>
  nilD p fun a1 =>
  st1 H3 (Addr.add a1 5) (.int .i64 buffer) fun H4 =>
  R (.returned (.pointer p)) H4
theorem calls {w : IV} {buffer : Int} {pageBytes : Int} {pageOffset : Int} {H : Heap} {R : Ending → Heap → Prop} (h : go w buffer pageBytes pageOffset H R) : CallsH Try.prog 46 ⟨[(IV.v w), (.int .i64 buffer), (.int .i64 pageBytes), (.int .i64 pageOffset)]⟩ H R :=
  callsH_of_den (an := an) (fuel := 100000) (X := go w buffer pageBytes pageOffset H R) (c := body) mixed fn (by kernel_rfl) (by kernel_rfl) (by kernel_rfl) ok (by kernel_rfl) h
end F46
/-! ### 47 "(*pub-stadtholder/pub/etcdserver/ioutil.PageWriter).Flush" -/
namespace F47
def an : Ann := { kinds := [], taus := [], pairs := [], lab := [] }
noncomputable def body : Code := (Try.f47.body).getD .skip
theorem fn : Try.prog.funcs[47]? = some Try.f47 := by kernel_rfl
theorem ok : codeOk an 11 body = true := by kernel_rfl
def go (pw : Option Addr) (H : Heap) (R : Ending → Heap → Prop) : Prop :=
  callD Try.prog 66 [(.pointer pw)] H (panK R) fun v H1 =>
  tTup v fun l =>
  tCons l fun c l1 =>
  tInt c .i64 fun n =>
  tCons l1 fun c1 l2 =>
  tIf c1 fun i =>
  tNil l2 <|
  R (.returned (IV.v i)) H1
theorem calls {pw : Option Addr} {H : Heap} {R : Ending → Heap → Prop} (h : go pw H R) : CallsH Try.prog 47 ⟨[(.pointer pw)]⟩ H R :=
  callsH_of_den (an := an) (fuel := 100000) (X := go pw H R) (c := body) mixed fn (by kernel_rfl) (by kernel_rfl) (by kernel_rfl) ok (by kernel_rfl) h
end F47
/-! ### 48 "(*pub-stadtholder/pub/etcdserver/ioutil.PageWriter).Write" -/
namespace F48
def an : Ann := { kinds := [], taus := [(1, [[0, 1, 2, 3, 4, 7, 8, 9, 5, 6, 10, 11]]), (2, [[0, 1, 2, 4, 5, 6, 9, 3, 7, 8, 10]]), (5, [[0, 1, 2, 4, 5, 6, 8, 9, 10, 13, 14, 15, 3, 7, 11, 12, 16, 17, 18, 19]]), (10, [[0, 1, 2, 4, 5, 6, 9, 10, 11, 3, 7, 8, 12]]), (21, [[0, 1, 2, 4, 5, 6, 7, 8, 3, 12, 13, 9, 10, 11, 14, 15, 16, 17, 18, 19]])], pairs := [], lab := [(20000011, [0, 1, 6, 7]), (10000017, [0, 1, 4]), (10000027, [0, 1, 4])] }
noncomputable def body : Code := (Try.f48.body).getD .skip
theorem fn : Try.prog.funcs[48]? = some Try.f48 := by kernel_rfl
theorem ok : codeOk an 170 body = true := by kernel_rfl
noncomputable def L0t : List Item := [.code (sub [1, 1, 1, 0, 1, 0, 1, 1] body), .code (sub [1, 1, 1, 1] body)]
def L0 (s0 : Option Addr) (s1 : Option Addr) (s1n : Nat) (s1c : Nat) (s6 : Int) (s7 : Bool) (H : Heap) (R : Ending → Heap → Prop) : Prop :=
  GoL Try.prog 48 170 L0t [0, 1, 6, 7] [(.pointer s0), (.slice s1 s1n s1c), (.int .i64 s6), (.bool s7)] H R
noncomputable def L1t : List Item := [.code (sub [1, 1, 1, 1] body)]
def L1 (s0 : Option Addr) (s1 : Option Addr) (s1n : Nat) (s1c : Nat) (s4 : Int) (H : Heap) (R : Ending → Heap → Prop) : Prop :=
  GoL Try.prog 48 170 L1t [0, 1, 4] [(.pointer s0), (.slice s1 s1n s1c), (.int .i64 s4)] H R
noncomputable def L2t : List Item := [.code (sub [1, 1, 1, 1, 1, 1] body)]
def L2 (s0 : Option Addr) (s1 : Option Addr) (s1n : Nat) (s1c : Nat) (s4 : Int) (H : Heap) (R : Ending → Heap → Prop) : Prop :=
  GoL Try.prog 48 170 L2t [0, 1, 4] [(.pointer s0), (.slice s1 s1n s1c), (.int .i64 s4)] H R
def L0n (s0 : Option Addr) (s1 : Option Addr) (s1n : Nat) (s1c : Nat) (s6 : Int) (s7 : Bool) (H : Heap) (R : Ending → Heap → Prop) : Prop :=
  nilD s0 fun a =>
  nilD s0 fun a1 =>
  bndD s6 s1c fun k =>
  ldSl H (Addr.add a 4) fun q qn qc =>
  ldInt H (Addr.add a1 3) .i64 fun n =>
  bndD n qn fun k1 =>
  cpD H 1 (slP q k1 qc 1) (qn - k1) (slP s1 0 s1c 1) k fun k2 H1 =>
  nilD s0 fun a2 =>
  ldInt H1 (Addr.add a2 3) .i64 fun n1 =>
  nilD s0 fun a3 =>
  st1 H1 (Addr.add a3 3) (.int .i64 (IntKind.wrap .i64 (n1 + s6))) fun H2 =>
  bndD s6 s1n fun k3 =>
  iteB s7 (
    R (.returned (.tuple ⟨[(.int .i64 s6), .nilIface]⟩)) H2) <|
  L1 s0 (slP s1 k3 s1c 1) (s1n - k3) (s1c - k3) s6 H2 R
theorem L0_step {s0 : Option Addr} {s1 : Option Addr} {s1n : Nat} {s1c : Nat} {s6 : Int} {s7 : Bool} {H : Heap} {R : Ending → Heap → Prop} (h : L0n s0 s1 s1n s1c s6 s7 H R) : L0 s0 s1 s1n s1c s6 s7 H R :=
  goL_of_den (an := an) (fuel := 100000) (X := L0n s0 s1 s1n s1c s6 s7 H R) mixed fn (by kernel_rfl) (fun ρ0 => by kernel_rfl) h
def L1n (s0 : Option Addr) (s1 : Option Addr) (s1n : Nat) (s1c : Nat) (s4 : Int) (H : Heap) (R : Ending → Heap → Prop) : Prop :=
  callD Try.prog 47 [(.pointer s0)] H (panK R) fun v H1 =>
  tIf v fun i =>
  ifNilD (IV.v i) fun b =>
  iteB (!b) (
    R (.returned (.tuple ⟨[(.int .i64 s4), (IV.v i)]⟩)) H1) <|
  nilD s0 fun a =>
  ldInt H1 (Addr.add a 2) .i64 fun n =>
  iteB (decide (((s1n : Nat) : Int) > n)) (
    nilD s0 fun a1 =>
    ldInt H1 (Addr.add a1 2) .i64 fun n1 =>
    divD n1 <|
    nilD s0 fun a2 =>
    nilD s0 fun a3 =>
    ldIf H1 a2 fun i1 =>
    nilV (IV.v i1) fun v1 =>
    ldInt H1 (Addr.add a3 2) .i64 fun n2 =>
    bndD (IntKind.wrap .i64 ((IntKind.wrap .i64 (Int.tdiv ((s1n : Nat) : Int) n1)) * n2)) s1c fun k =>
    callI Try.prog (IV.v i1) "Write" [(.slice (slP s1 0 s1c 1) k s1c)] H1 (panK R) fun v2 H2 =>
    tTup v2 fun l =>
    tCons l fun c l1 =>
    tInt c .i64 fun n3 =>
    tCons l1 fun c1 l2 =>
    tIf c1 fun i2 =>
    tNil l2 <|
    ifNilD (IV.v i2) fun b1 =>
    iteB (!b1) (
      R (.returned (.tuple ⟨[(.int .i64 (IntKind.wrap .i64 (s4 + n3))), (IV.v i2)]⟩)) H2) <|
    nilD s0 fun a4 =>
    ldInt H2 (Addr.add a4 2) .i64 fun n4 =>
    bndD (IntKind.wrap .i64 ((IntKind.wrap .i64 (Int.tdiv ((s1n : Nat) : Int) n1)) * n4)) s1n fun k1 =>
    L2 s0 (slP s1 k1 s1c 1) (s1n - k1) (s1c - k1) (IntKind.wrap .i64 (s4 + n3)) H2 R) <|
  L2 s0 s1 s1n s1c s4 H1 R
theorem L1_step {s0 : Option Addr} {s1 : Option Addr} {s1n : Nat} {s1c : Nat} {s4 : Int} {H : Heap} {R : Ending → Heap → Prop} (h : L1n s0 s1 s1n s1c s4 H R) : L1 s0 s1 s1n s1c s4 H R :=
  goL_of_den (an := an) (fuel := 100000) (X := L1n s0 s1 s1n s1c s4 H R) mixed fn (by kernel_rfl) (fun ρ0 => by kernel_rfl) h
def L2n (s0 : Option Addr) (s1 : Option Addr) (s1n : Nat) (s1c : Nat) (s4 : Int) (H : Heap) (R : Ending → Heap → Prop) : Prop :=
  callD Try.prog 48 [(.pointer s0), (.slice s1 s1n s1c)] H (panK R) fun v H1 =>
  tTup v fun l =>
  tCons l fun c l1 =>
  tInt c .i64 fun n =>
  tCons l1 fun c1 l2 =>
  tIf c1 fun i =>
  tNil l2 <|
  R (.returned (.tuple ⟨[(.int .i64 (IntKind.wrap .i64 (s4 + n))), (IV.v i)]⟩)) H1
theorem L2_step {s0 : Option Addr} {s1 : Option Addr} {s1n : Nat} {s1c : Nat} {s4 : Int} {H : Heap} {R : Ending → Heap → Prop} (h : L2n s0 s1 s1n s1c s4 H R) : L2 s0 s1 s1n s1c s4 H R :=
  goL_of_den (an := an) (fuel := 100000) (X := L2n s0 s1 s1n s1c s4 H R) mixed fn (by kernel_rfl) (fun ρ0 => by kernel_rfl) h
def go (s0 : Option Addr) (s1 : Option Addr) (s1n : Nat) (s1c : Nat) (H : Heap) (R : Ending → Heap → Prop) : Prop :=
  nilD s0 fun a =>
  nilD s0 fun a1 =>
  ldInt H (Addr.add a 3) .i64 fun n =>
  ldInt H (Addr.add a1 5) .i64 fun n1 =>
  iteB (decide ((IntKind.wrap .i64 (((s1n : Nat) : Int) + n)) ≤ n1)) (
    nilD s0 fun a2 =>
    nilD s0 fun a3 =>
    ldSl H (Addr.add a2 4) fun q qn qc =>
    ldInt H (Addr.add a3 3) .i64 fun n2 =>
    bndD n2 qn fun k =>
    cpD H 1 (slP q k qc 1) (qn - k) s1 s1n fun k1 H1 =>
    nilD s0 fun a4 =>
    ldInt H1 (Addr.add a4 3) .i64 fun n3 =>
    nilD s0 fun a5 =>
    st1 H1 (Addr.add a5 3) (.int .i64 (IntKind.wrap .i64 (n3 + ((s1n : Nat) : Int)))) fun H2 =>
    R (.returned (.tuple ⟨[(.int .i64 ((s1n : Nat) : Int)), .nilIface]⟩)) H2) <|
  nilD s0 fun a6 =>
  nilD s0 fun a7 =>
  nilD s0 fun a8 =>
  nilD s0 fun a9 =>
  ldInt H (Addr.add a6 2) .i64 fun n4 =>
  ldInt H (Addr.add a7 1) .i64 fun n5 =>
  ldInt H (Addr.add a8 3) .i64 fun n6 =>
  ldInt H (Addr.add a9 2) .i64 fun n7 =>
  divD n7 <|
  nilD s0 fun a10 =>
  ldInt H (Addr.add a10 2) .i64 fun n8 =>
  iteB ((IntKind.wrap .i64 (n4 - (Int.tmod (IntKind.wrap .i64 (n5 + n6)) n7))) != n8) (
    iteB (decide ((IntKind.wrap .i64 (n4 - (Int.tmod (IntKind.wrap .i64 (n5 + n6)) n7))) > ((s1n : Nat) : Int))) (
      L0 s0 s1 s1n s1c ((s1n : Nat) : Int) (decide ((IntKind.wrap .i64 (n4 - (Int.tmod (IntKind.wrap .i64 (n5 + n6)) n7))) > ((s1n : Nat) : Int))) H R) <|
    L0 s0 s1 s1n s1c (IntKind.wrap .i64 (n4 - (Int.tmod (IntKind.wrap .i64 (n5 + n6)) n7))) (decide ((IntKind.wrap .i64 (n4 - (Int.tmod (IntKind.wrap .i64 (n5 + n6)) n7))) > ((s1n : Nat) : Int))) H R) <|
  L1 s0 s1 s1n s1c (0 : Int) H R
theorem calls {s0 : Option Addr} {s1 : Option Addr} {s1n : Nat} {s1c : Nat} {H : Heap} {R : Ending → Heap → Prop} (h : go s0 s1 s1n s1c H R) : CallsH Try.prog 48 ⟨[(.pointer s0), (.slice s1 s1n s1c)]⟩ H R :=
  callsH_of_den (an := an) (fuel := 100000) (X := go s0 s1 s1n s1c H R) (c := body) mixed fn (by kernel_rfl) (by kernel_rfl) (by kernel_rfl) ok (by kernel_rfl) h
end F48
/-! ### 49 "pub-stadtholder/laws.zzFits32" -/
namespace F49
def an : Ann := { kinds := [], taus := [], pairs := [], lab := [] }
noncomputable def body : Code := (Try.f49.body).getD .skip
theorem fn : Try.prog.funcs[49]? = some Try.f49 := by kernel_rfl
theorem ok : codeOk an 7 body = true := by kernel_rfl
def go (x_0 : Int) (x_1 : Int) (x_2 : Bool) (x_3 : ByteArray) (x_4 : ByteArray) (x_5 : Int) (x_6 : Int) (x_7 : Int) (x_8 : Int) (H : Heap) (R : Ending → Heap → Prop) : Prop :=
  newD H (.cells ⟨[(.int .i64 x_0), (.int .i64 x_1), (.bool x_2), (.string x_3), (.string x_4), (.int .i64 x_5), (.int .i64 x_6), (.int .i64 x_7), (.int .i64 x_8)]⟩ 61) fun r H1 =>
  ldStr H1 ⟨r, 3, none⟩ fun s =>
  ldStr H1 ⟨r, 4, none⟩ fun s1 =>
  ldInt H1 ⟨r, 5, none⟩ .i64 fun n =>
  ldInt H1 ⟨r, 6, none⟩ .i64 fun n1 =>
  ldInt H1 ⟨r, 7, none⟩ .i64 fun n2 =>
  ldInt H1 ⟨r, 8, none⟩ .i64 fun n3 =>
  callD Try.prog 28 [(.agg ⟨[(.string s), (.string s1), (.int .i64 n), (.int .i64 n1), (.int .i64 n2), (.int .i64 n3)]⟩)] H1 (panK R) fun v H2 =>
  tBool v fun b =>
  iteB (!b) (
    R (.returned (.bool false)) H2) <|
  R (.returned (.bool true)) H2
theorem calls {x_0 : Int} {x_1 : Int} {x_2 : Bool} {x_3 : ByteArray} {x_4 : ByteArray} {x_5 : Int} {x_6 : Int} {x_7 : Int} {x_8 : Int} {H : Heap} {R : Ending → Heap → Prop} (h : go x_0 x_1 x_2 x_3 x_4 x_5 x_6 x_7 x_8 H R) : CallsH Try.prog 49 ⟨[(.agg ⟨[(.int .i64 x_0), (.int .i64 x_1), (.bool x_2), (.string x_3), (.string x_4), (.int .i64 x_5), (.int .i64 x_6), (.int .i64 x_7), (.int .i64 x_8)]⟩)]⟩ H R :=
  callsH_of_den (an := an) (fuel := 100000) (X := go x_0 x_1 x_2 x_3 x_4 x_5 x_6 x_7 x_8 H R) (c := body) mixed fn (by kernel_rfl) (by kernel_rfl) (by kernel_rfl) ok (by kernel_rfl) h
end F49
/-! ### 50 "pub-stadtholder/laws.roGood" -/
namespace F50
def an : Ann := { kinds := [], taus := [(6, [[0, 1, 2, 3, 4, 5, 6, 7, 8, 9, 10, 11, 12, 13, 14, 15, 16, 17, 18, 20, 19, 21, 22, 23, 24, 25, 26, 27, 28, 29, 30, 31, 32, 33, 34, 35, 36, 37, 38, 39, 40, 41, 42, 43, 44, 45]])], pairs := [], lab := [(40000005, [0, 8, 9, 10]), (60000009, [0, 4, 8, 9, 10]), (60000011, [0, 4, 8, 9, 10]), (40000013, [0, 8, 9, 10])] }
noncomputable def body : Code := (Try.f50.body).getD .skip
theorem fn : Try.prog.funcs[50]? = some Try.f50 := by kernel_rfl
theorem ok : codeOk an 112 body = true := by kernel_rfl
noncomputable def L0t : List Item := [.code (sub [1, 1, 0, 1, 0, 0] body), .inLoop (sub [1, 1, 0, 1, 0, 0] body), .inBlock 0, .code (sub [1, 1, 1] body)]
def L0 (s0 : Option Addr) (s0n : Nat) (s0c : Nat) (s8 : Option Addr) (s8n : Nat) (s8c : Nat) (s9 : Int) (s10 : Int) (H : Heap) (R : Ending → Heap → Prop) : Prop :=
  GoL Try.prog 50 112 L0t [0, 8, 9, 10] [(.slice s0 s0n s0c), (.slice s8 s8n s8c), (.int .i64 s9), (.int .i64 s10)] H R
noncomputable def L1t : List Item := [.code (sub [1, 1, 0, 1, 0, 0, 1, 1, 0, 0, 1, 1] body), .inBlock 1, .code (sub [1, 1, 0, 1, 0, 0, 1, 1, 1] body), .inLoop (sub [1, 1, 0, 1, 0, 0] body), .inBlock 0, .code (sub [1, 1, 1] body)]
def L1 (s0 : Option Addr) (s0n : Nat) (s0c : Nat) (s4 : Nat) (s8 : Option Addr) (s8n : Nat) (s8c : Nat) (s9 : Int) (s10 : Int) (H : Heap) (R : Ending → Heap → Prop) : Prop :=
  GoL Try.prog 50 112 L1t [0, 4, 8, 9, 10] [(.slice s0 s0n s0c), (.pointer (some ⟨s4, 0, none⟩)), (.slice s8 s8n s8c), (.int .i64 s9), (.int .i64 s10)] H R
noncomputable def L2t : List Item := [.code (sub [1, 1, 0, 1, 0, 0, 1, 1, 0, 0, 1, 1, 1] body), .inBlock 1, .code (sub [1, 1, 0, 1, 0, 0, 1, 1, 1] body), .inLoop (sub [1, 1, 0, 1, 0, 0] body), .inBlock 0, .code (sub [1, 1, 1] body)]
def L2 (s0 : Option Addr) (s0n : Nat) (s0c : Nat) (s4 : Nat) (s8 : Option Addr) (s8n : Nat) (s8c : Nat) (s9 : Int) (s10 : Int) (H : Heap) (R : Ending → Heap → Prop) : Prop :=
  GoL Try.prog 50 112 L2t [0, 4, 8, 9, 10] [(.slice s0 s0n s0c), (.pointer (some ⟨s4, 0, none⟩)), (.slice s8 s8n s8c), (.int .i64 s9), (.int .i64 s10)] H R
noncomputable def L3t : List Item := [.code (sub [1, 1, 0, 1, 0, 0, 1, 1, 1] body), .inLoop (sub [1, 1, 0, 1, 0, 0] body), .inBlock 0, .code (sub [1, 1, 1] body)]
def L3 (s0 : Option Addr) (s0n : Nat) (s0c : Nat) (s8 : Option Addr) (s8n : Nat) (s8c : Nat) (s9 : Int) (s10 : Int) (H : Heap) (R : Ending → Heap → Prop) : Prop :=
  GoL Try.prog 50 112 L3t [0, 8, 9, 10] [(.slice s0 s0n s0c), (.slice s8 s8n s8c), (.int .i64 s9), (.int .i64 s10)] H R
def L0n (s0 : Option Addr) (s0n : Nat) (s0c : Nat) (s8 : Option Addr) (s8n : Nat) (s8c : Nat) (s9 : Int) (s10 : Int) (H : Heap) (R : Ending → Heap → Prop) : Prop :=
  iteB (decide (s10 < s9)) (
    idxD s8 s8n s10 fun a =>
    ldInt H (Addr.add a (Int.toNat s10 * 9)) .i64 fun n =>
    ldInt H (Addr.add (Addr.add a (Int.toNat s10 * 9)) 1) .i64 fun n1 =>
    ldBool H (Addr.add (Addr.add a (Int.toNat s10 * 9)) 2) fun b =>
    ldStr H (Addr.add (Addr.add a (Int.toNat s10 * 9)) 3) fun s =>
    ldStr H (Addr.add (Addr.add a (Int.toNat s10 * 9)) 4) fun s1 =>
    ldInt H (Addr.add (Addr.add a (Int.toNat s10 * 9)) 5) .i64 fun n2 =>
    ldInt H (Addr.add (Addr.add a (Int.toNat s10 * 9)) 6) .i64 fun n3 =>
    ldInt H (Addr.add (Addr.add a (Int.toNat s10 * 9)) 7) .i64 fun n4 =>
    ldInt H (Addr.add (Addr.add a (Int.toNat s10 * 9)) 8) .i64 fun n5 =>
    newD H (.cells ⟨[(.int .i64 (0 : Int)), (.int .i64 (0 : Int)), (.bool false), (.string (ByteArray.mk #[])), (.string (ByteArray.mk #[])), (.int .i64 (0 : Int)), (.int .i64 (0 : Int)), (.int .i64 (0 : Int)), (.int .i64 (0 : Int))]⟩ 61) fun r H1 =>
    st1 H1 ⟨r, 0, none⟩ (.int .i64 n) fun H2 =>
    st1 H2 ⟨r, 1, none⟩ (.int .i64 n1) fun H3 =>
    st1 H3 ⟨r, 2, none⟩ (.bool b) fun H4 =>
    st1 H4 ⟨r, 3, none⟩ (.string s) fun H5 =>
    st1 H5 ⟨r, 4, none⟩ (.string s1) fun H6 =>
    st1 H6 ⟨r, 5, none⟩ (.int .i64 n2) fun H7 =>
    st1 H7 ⟨r, 6, none⟩ (.int .i64 n3) fun H8 =>
    st1 H8 ⟨r, 7, none⟩ (.int .i64 n4) fun H9 =>
    st1 H9 ⟨r, 8, none⟩ (.int .i64 n5) fun H10 =>
    ldInt H10 ⟨r, 0, none⟩ .i64 fun n6 =>
    iteB (decide (n6 < (1 : Int))) (
      R (.returned (.bool false)) H10) <|
    ldInt H10 ⟨r, 1, none⟩ .i64 fun n7 =>
    iteB (decide (n7 < (0 : Int))) (
      R (.returned (.bool false)) H10) <|
    iteB (decide (s10 > (0 : Int))) (
      idxD s0 s0n (IntKind.wrap .i64 (s10 - (1 : Int))) fun a1 =>
      ldInt H10 (Addr.add a1 (Int.toNat (IntKind.wrap .i64 (s10 - (1 : Int))) * 9)) .i64 fun n8 =>
      ldInt H10 (Addr.add (Addr.add a1 (Int.toNat (IntKind.wrap .i64 (s10 - (1 : Int))) * 9)) 1) .i64 fun n9 =>
      ldInt H10 ⟨r, 0, none⟩ .i64 fun n10 =>
      ldInt H10 ⟨r, 1, none⟩ .i64 fun n11 =>
      callD Try.prog 67 [(.agg ⟨[(.int .i64 n8), (.int .i64 n9)]⟩), (.agg ⟨[(.int .i64 n10), (.int .i64 n11)]⟩)] H10 (panK R) fun v H11 =>
      tBool v fun b1 =>
      iteB (!b1) (
        R (.returned (.bool false)) H11) <|
      ldStr H11 ⟨r, 3, none⟩ fun s2 =>
      iteB (eqS s2 (ByteArray.mk #[])) (
        R (.returned (.bool false)) H11) <|
      ldStr H11 ⟨r, 3, none⟩ fun s3 =>
      iteB (decide (((ByteArray.size s3 : Nat) : Int) > (60 : Int))) (
        R (.returned (.bool false)) H11) <|
      ldStr H11 ⟨r, 4, none⟩ fun s4 =>
      iteB (decide (((ByteArray.size s4 : Nat) : Int) > (60 : Int))) (
        R (.returned (.bool false)) H11) <|
      L1 s0 s0n s0c r s8 s8n s8c s9 s10 H11 R) <|
    ldStr H10 ⟨r, 3, none⟩ fun s5 =>
    iteB (eqS s5 (ByteArray.mk #[])) (
      R (.returned (.bool false)) H10) <|
    ldStr H10 ⟨r, 3, none⟩ fun s6 =>
    iteB (decide (((ByteArray.size s6 : Nat) : Int) > (60 : Int))) (
      R (.returned (.bool false)) H10) <|
    ldStr H10 ⟨r, 4, none⟩ fun s7 =>
    iteB (decide (((ByteArray.size s7 : Nat) : Int) > (60 : Int))) (
      R (.returned (.bool false)) H10) <|
    L1 s0 s0n s0c r s8 s8n s8c s9 s10 H10 R) <|
  R (.returned (.bool true)) H
theorem L0_step {s0 : Option Addr} {s0n : Nat} {s0c : Nat} {s8 : Option Addr} {s8n : Nat} {s8c : Nat} {s9 : Int} {s10 : Int} {H : Heap} {R : Ending → Heap → Prop} (h : L0n s0 s0n s0c s8 s8n s8c s9 s10 H R) : L0 s0 s0n s0c s8 s8n s8c s9 s10 H R :=
  goL_of_den (an := an) (fuel := 100000) (X := L0n s0 s0n s0c s8 s8n s8c s9 s10 H R) mixed fn (by kernel_rfl) (fun ρ0 => by kernel_rfl) h
def L1n (s0 : Option Addr) (s0n : Nat) (s0c : Nat) (s4 : Nat) (s8 : Option Addr) (s8n : Nat) (s8c : Nat) (s9 : Int) (s10 : Int) (H : Heap) (R : Ending → Heap → Prop) : Prop :=
  ldBool H ⟨s4, 2, none⟩ fun b =>
  iteB b (
    ldStr H ⟨s4, 3, none⟩ fun s =>
    ldStr H ⟨s4, 4, none⟩ fun s1 =>
    ldInt H ⟨s4, 5, none⟩ .i64 fun n =>
    ldInt H ⟨s4, 6, none⟩ .i64 fun n1 =>
    ldInt H ⟨s4, 7, none⟩ .i64 fun n2 =>
    ldInt H ⟨s4, 8, none⟩ .i64 fun n3 =>
    ldStr H ⟨s4, 3, none⟩ fun s2 =>
    rawB Try.prog .neq 32 (.agg ⟨[(.string s), (.string s1), (.int .i64 n), (.int .i64 n1), (.int .i64 n2), (.int .i64 n3)]⟩) (.agg ⟨[(.string s2), (.string (ByteArray.mk #[])), (.int .i64 (0 : Int)), (.int .i64 (0 : Int)), (.int .i64 (0 : Int)), (.int .i64 (0 : Int))]⟩) fun b1 =>
    iteB (!b1) (
      R (.returned (.bool false)) H) <|
    L2 s0 s0n s0c s4 s8 s8n s8c s9 s10 H R) <|
  L2 s0 s0n s0c s4 s8 s8n s8c s9 s10 H R
theorem L1_step {s0 : Option Addr} {s0n : Nat} {s0c : Nat} {s4 : Nat} {s8 : Option Addr} {s8n : Nat} {s8c : Nat} {s9 : Int} {s10 : Int} {H : Heap} {R : Ending → Heap → Prop} (h : L1n s0 s0n s0c s4 s8 s8n s8c s9 s10 H R) : L1 s0 s0n s0c s4 s8 s8n s8c s9 s10 H R :=
  goL_of_den (an := an) (fuel := 100000) (X := L1n s0 s0n s0c s4 s8 s8n s8c s9 s10 H R) mixed fn (by kernel_rfl) (fun ρ0 => by kernel_rfl) h
def L2n (s0 : Option Addr) (s0n : Nat) (s0c : Nat) (s4 : Nat) (s8 : Option Addr) (s8n : Nat) (s8c : Nat) (s9 : Int) (s10 : Int) (H : Heap) (R : Ending → Heap → Prop) : Prop :=
  ldBool H ⟨s4, 2, none⟩ fun b =>
  iteB (!b) (
    ldInt H ⟨s4, 6, none⟩ .i64 fun n =>
    ldInt H ⟨s4, 0, none⟩ .i64 fun n1 =>
    iteB (n != n1) (
      R (.returned (.bool false)) H) <|
    ldInt H ⟨s4, 7, none⟩ .i64 fun n2 =>
    iteB (decide (n2 < (1 : Int))) (
      R (.returned (.bool false)) H) <|
    ldInt H ⟨s4, 7, none⟩ .i64 fun n3 =>
    iteB (decide (n3 > (1152921504606846976 : Int))) (
      R (.returned (.bool false)) H) <|
    ldInt H ⟨s4, 5, none⟩ .i64 fun n4 =>
    iteB (decide (n4 < (1 : Int))) (
      R (.returned (.bool false)) H) <|
    ldInt H ⟨s4, 5, none⟩ .i64 fun n5 =>
    ldInt H ⟨s4, 6, none⟩ .i64 fun n6 =>
    iteB (decide (n5 > n6)) (
      R (.returned (.bool false)) H) <|
    L3 s0 s0n s0c s8 s8n s8c s9 s10 H R) <|
  L3 s0 s0n s0c s8 s8n s8c s9 s10 H R
theorem L2_step {s0 : Option Addr} {s0n : Nat} {s0c : Nat} {s4 : Nat} {s8 : Option Addr} {s8n : Nat} {s8c : Nat} {s9 : Int} {s10 : Int} {H : Heap} {R : Ending → Heap → Prop} (h : L2n s0 s0n s0c s4 s8 s8n s8c s9 s10 H R) : L2 s0 s0n s0c s4 s8 s8n s8c s9 s10 H R :=
  goL_of_den (an := an) (fuel := 100000) (X := L2n s0 s0n s0c s4 s8 s8n s8c s9 s10 H R) mixed fn (by kernel_rfl) (fun ρ0 => by kernel_rfl) h
def L3n (s0 : Option Addr) (s0n : Nat) (s0c : Nat) (s8 : Option Addr) (s8n : Nat) (s8c : Nat) (s9 : Int) (s10 : Int) (H : Heap) (R : Ending → Heap → Prop) : Prop :=
  L0 s0 s0n s0c s8 s8n s8c s9 (IntKind.wrap .i64 (s10 + (1 : Int))) H R
theorem L3_step {s0 : Option Addr} {s0n : Nat} {s0c : Nat} {s8 : Option Addr} {s8n : Nat} {s8c : Nat} {s9 : Int} {s10 : Int} {H : Heap} {R : Ending → Heap → Prop} (h : L3n s0 s0n s0c s8 s8n s8c s9 s10 H R) : L3 s0 s0n s0c s8 s8n s8c s9 s10 H R :=
  goL_of_den (an := an) (fuel := 100000) (X := L3n s0 s0n s0c s8 s8n s8c s9 s10 H R) mixed fn (by kernel_rfl) (fun ρ0 => by kernel_rfl) h
def go (s0 : Option Addr) (s0n : Nat) (s0c : Nat) (H : Heap) (R : Ending → Heap → Prop) : Prop :=
  iteB (decide (((s0n : Nat) : Int) > (200 : Int))) (
    R (.returned (.bool false)) H) <|
  L0 s0 s0n s0c s0 s0n s0c ((s0n : Nat) : Int) (0 : Int) H R
theorem calls {s0 : Option Addr} {s0n : Nat} {s0c : Nat} {H : Heap} {R : Ending → Heap → Prop} (h : go s0 s0n s0c H R) : CallsH Try.prog 50 ⟨[(.slice s0 s0n s0c)]⟩ H R :=
  callsH_of_den (an := an) (fuel := 100000) (X := go s0 s0n s0c H R) (c := body) mixed fn (by kernel_rfl) (by kernel_rfl) (by kernel_rfl) ok (by kernel_rfl) h
end F50
/-! ### 51 "pub-stadtholder/pub/etcdserver/storage/mvcc.ZzHash" -/
namespace F51
def an : Ann := { kinds := [(5003, .heavy 0)], taus := [(12, [[0, 1, 2, 4, 5, 6, 3, 7, 8]])], pairs := [], lab := [(40000004, [0, 1, 3, 9, 17, 18, 19]), (40000011, [12, 13, 14, 37, 38])] }
noncomputable def body : Code := (Try.f51.body).getD .skip
theorem fn : Try.prog.funcs[51]? = some Try.f51 := by kernel_rfl
theorem ok : codeOk an 53 body = true := by kernel_rfl
noncomputable def L0t : List Item := [.code (sub [1, 1, 0, 1, 0, 0] body), .inLoop (sub [1, 1, 0, 1, 0, 0] body), .inBlock 0, .code (sub [1, 1, 1] body)]
def L0 (compact : Int) (rev : Int) (xrows : Option Addr) (xrowsn : Nat) (xrowsc : Nat) (m : Nat) (s17 : Option Addr) (s17n : Nat) (s17c : Nat) (s18 : Int) (s19 : Int) (H : Heap) (R : Ending → Heap → Prop) : Prop :=
  GoL Try.prog 51 53 L0t [0, 1, 3, 9, 17, 18, 19] [(.int .i64 compact), (.int .i64 rev), (.slice xrows xrowsn xrowsc), (.map (some m)), (.slice s17 s17n s17c), (.int .i64 s18), (.int .i64 s19)] H R
noncomputable def L1t : List Item := [.code (sub [1, 1, 1, 1, 1, 0, 1, 0, 0] body), .inLoop (sub [1, 1, 1, 1, 1, 0, 1, 0, 0] body), .inBlock 2, .code (sub [1, 1, 1, 1, 1, 1] body)]
def L1 (h1 : Nat) (keys : Option Addr) (keysn : Nat) (keysc : Nat) (vals : Option Addr) (valsn : Nat) (valsc : Nat) (s37 : Int) (s38 : Int) (H : Heap) (R : Ending → Heap → Prop) : Prop :=
  GoL Try.prog 51 53 L1t [12, 13, 14, 37, 38] [(.pointer (some ⟨h1, 0, none⟩)), (.slice keys keysn keysc), (.slice vals valsn valsc), (.int .i64 s37), (.int .i64 s38)] H R
def L0n (compact : Int) (rev : Int) (xrows : Option Addr) (xrowsn : Nat) (xrowsc : Nat) (m : Nat) (s17 : Option Addr) (s17n : Nat) (s17c : Nat) (s18 : Int) (s19 : Int) (H : Heap) (R : Ending → Heap → Prop) : Prop :=
  iteB (decide (s19 < s18)) (
    idxD s17 s17n s19 fun a =>
    ldInt H (Addr.add a (Int.toNat s19 * 2)) .i64 fun n =>
    ldInt H (Addr.add (Addr.add a (Int.toNat s19 * 2)) 1) .i64 fun n1 =>
    newD H (.cells ⟨[(.int .i64 (0 : Int)), (.int .i64 (0 : Int))]⟩ 75) fun r H1 =>
    st1 H1 ⟨r, 0, none⟩ (.int .i64 n) fun H2 =>
    st1 H2 ⟨r, 1, none⟩ (.int .i64 n1) fun H3 =>
    ldInt H3 ⟨r, 0, none⟩ .i64 fun n2 =>
    ldInt H3 ⟨r, 1, none⟩ .i64 fun n3 =>
    uniD Try.prog (Instr.mapUpdate 128 (.map (some m)) (.agg ⟨[(.int .i64 n2), (.int .i64 n3)]⟩) (.agg ⟨[]⟩)) H3 (panK R) fun H4 =>
    L0 compact rev xrows xrowsn xrowsc m s17 s17n s17c s18 (IntKind.wrap .i64 (s19 + (1 : Int))) H4 R) <|
  callD Try.prog 68 [(.int .i64 compact), (.int .i64 rev), (.map (some m))] H (panK R) fun v1 H5 =>
  tAgg v1 fun l =>
  tCons l fun c l1 =>
  tPtr c fun p =>
  tCons l1 fun c1 l2 =>
  tInt c1 .i64 fun n4 =>
  tCons l2 fun c2 l3 =>
  tInt c2 .i64 fun n5 =>
  tCons l3 fun c3 l4 =>
  tMap c3 fun m1 =>
  tNil l4 <|
  newD H5 (.cells ⟨[(.pointer none), (.int .i64 (0 : Int)), (.int .i64 (0 : Int)), (.map none)]⟩ 132) fun r1 H6 =>
  st1 H6 ⟨r1, 0, none⟩ (.pointer p) fun H7 =>
  st1 H7 ⟨r1, 1, none⟩ (.int .i64 n4) fun H8 =>
  st1 H8 ⟨r1, 2, none⟩ (.int .i64 n5) fun H9 =>
  st1 H9 ⟨r1, 3, none⟩ (.map m1) fun H10 =>
  callD Try.prog 69 [(.slice xrows xrowsn xrowsc)] H10 (panK R) fun v2 H11 =>
  tTup v2 fun l5 =>
  tCons l5 fun c4 l6 =>
  tSl c4 fun q qn qc =>
  tCons l6 fun c5 l7 =>
  tSl c5 fun q1 q1n q1c =>
  tNil l7 <|
  L1 r1 q qn qc q1 q1n q1c ((qn : Nat) : Int) (0 : Int) H11 R
theorem L0_step {compact : Int} {rev : Int} {xrows : Option Addr} {xrowsn : Nat} {xrowsc : Nat} {m : Nat} {s17 : Option Addr} {s17n : Nat} {s17c : Nat} {s18 : Int} {s19 : Int} {H : Heap} {R : Ending → Heap → Prop} (h : L0n compact rev xrows xrowsn xrowsc m s17 s17n s17c s18 s19 H R) : L0 compact rev xrows xrowsn xrowsc m s17 s17n s17c s18 s19 H R :=
  goL_of_den (an := an) (fuel := 100000) (X := L0n compact rev xrows xrowsn xrowsc m s17 s17n s17c s18 s19 H R) mixed fn (by kernel_rfl) (fun ρ0 => by kernel_rfl) h
def L1n (h1 : Nat) (keys : Option Addr) (keysn : Nat) (keysc : Nat) (vals : Option Addr) (valsn : Nat) (valsc : Nat) (s37 : Int) (s38 : Int) (H : Heap) (R : Ending → Heap → Prop) : Prop :=
  iteB (decide (s38 < s37)) (
    idxD keys keysn s38 fun a =>
    idxD vals valsn s38 fun a1 =>
    ldSl H (Addr.add a (Int.toNat s38 * 1)) fun q qn qc =>
    ldSl H (Addr.add a1 (Int.toNat s38 * 1)) fun q1 q1n q1c =>
    callD Try.prog 70 [(.pointer (some ⟨h1, 0, none⟩)), (.slice q qn qc), (.slice q1 q1n q1c)] H (panK R) fun v H1 =>
    tTup v fun l =>
    tNil l <|
    L1 h1 keys keysn keysc vals valsn valsc s37 (IntKind.wrap .i64 (s38 + (1 : Int))) H1 R) <|
  callD Try.prog 71 [(.pointer (some ⟨h1, 0, none⟩))] H (panK R) fun v1 H2 =>
  tAgg v1 fun l1 =>
  tCons l1 fun c l2 =>
  tInt c .u32 fun n =>
  tCons l2 fun c1 l3 =>
  tInt c1 .i64 fun n1 =>
  tCons l3 fun c2 l4 =>
  tInt c2 .i64 fun n2 =>
  tNil l4 <|
  R (.returned (.int .u32 n)) H2
theorem L1_step {h1 : Nat} {keys : Option Addr} {keysn : Nat} {keysc : Nat} {vals : Option Addr} {valsn : Nat} {valsc : Nat} {s37 : Int} {s38 : Int} {H : Heap} {R : Ending → Heap → Prop} (h : L1n h1 keys keysn keysc vals valsn valsc s37 s38 H R) : L1 h1 keys keysn keysc vals valsn valsc s37 s38 H R :=
  goL_of_den (an := an) (fuel := 100000) (X := L1n h1 keys keysn keysc vals valsn valsc s37 s38 H R) mixed fn (by kernel_rfl) (fun ρ0 => by kernel_rfl) h
def go (compact : Int) (rev : Int) (keep : Option Addr) (keepn : Nat) (keepc : Nat) (xrows : Option Addr) (xrowsn : Nat) (xrowsc : Nat) (H : Heap) (R : Ending → Heap → Prop) : Prop :=
  newD H (.map #[] 0) fun r H1 =>
  L0 compact rev xrows xrowsn xrowsc r keep keepn keepc ((keepn : Nat) : Int) (0 : Int) H1 R
theorem calls {compact : Int} {rev : Int} {keep : Option Addr} {keepn : Nat} {keepc : Nat} {xrows : Option Addr} {xrowsn : Nat} {xrowsc : Nat} {H : Heap} {R : Ending → Heap → Prop} (h : go compact rev keep keepn keepc xrows xrowsn xrowsc H R) : CallsH Try.prog 51 ⟨[(.int .i64 compact), (.int .i64 rev), (.slice keep keepn keepc), (.slice xrows xrowsn xrowsc)]⟩ H R :=
  callsH_of_den (an := an) (fuel := 100000) (X := go compact rev keep keepn keepc xrows xrowsn xrowsc H R) (c := body) mixed fn (by kernel_rfl) (by kernel_rfl) (by kernel_rfl) ok (by kernel_rfl) h
end F51
/-! ### 52 "pub-stadtholder/impl.revsIn" -/
namespace F52
def an : Ann := { kinds := [], taus := [], pairs := [], lab := [(40000004, [0, 3, 4])] }
noncomputable def body : Code := (Try.f52.body).getD .skip
theorem fn : Try.prog.funcs[52]? = some Try.f52 := by kernel_rfl
theorem ok : codeOk an 20 body = true := by kernel_rfl
noncomputable def L0t : List Item := [.code (sub [1, 1, 0, 1, 0, 0] body), .inLoop (sub [1, 1, 0, 1, 0, 0] body), .inBlock 0, .code (sub [1, 1, 1] body)]
def L0 (l : Option Addr) (ln : Nat) (lc : Nat) (out : Option Addr) (outn : Nat) (outc : Nat) (i : Int) (H : Heap) (R : Ending → Heap → Prop) : Prop :=
  GoL Try.prog 52 20 L0t [0, 3, 4] [(.slice l ln lc), (.slice out outn outc), (.int .i64 i)] H R
def L0n (l : Option Addr) (ln : Nat) (lc : Nat) (out : Option Addr) (outn : Nat) (outc : Nat) (i : Int) (H : Heap) (R : Ending → Heap → Prop) : Prop :=
  iteB (decide (i < ((ln : Nat) : Int))) (
    idxD l ln i fun a =>
    ldInt H (Addr.add a (Int.toNat i * 2)) .i64 fun n =>
    ldInt H (Addr.add (Addr.add a (Int.toNat i * 2)) 1) .i64 fun n1 =>
    callD Try.prog 39 [(.agg ⟨[(.int .i64 n), (.int .i64 n1)]⟩)] H (panK R) fun v H1 =>
    tAgg v fun l1 =>
    tCons l1 fun c l2 =>
    tInt c .i64 fun n2 =>
    tCons l2 fun c1 l3 =>
    tInt c1 .i64 fun n3 =>
    tNil l3 <|
    newD H1 (.cells ⟨[(.int .i64 n2), (.int .i64 n3)]⟩ 75) fun r H2 =>
    apD H2 2 16 [(.int .i64 (0 : Int)), (.int .i64 (0 : Int))] 75 out outn outc (some ⟨r, 0, none⟩) 1 fun q qn qc H3 =>
    L0 l ln lc q qn qc (IntKind.wrap .i64 (i + (1 : Int))) H3 R) <|
  R (.returned (.slice out outn outc)) H
theorem L0_step {l : Option Addr} {ln : Nat} {lc : Nat} {out : Option Addr} {outn : Nat} {outc : Nat} {i : Int} {H : Heap} {R : Ending → Heap → Prop} (h : L0n l ln lc out outn outc i H R) : L0 l ln lc out outn outc i H R :=
  goL_of_den (an := an) (fuel := 100000) (X := L0n l ln lc out outn outc i H R) mixed fn (by kernel_rfl) (fun ρ0 => by kernel_rfl) h
def go (l : Option Addr) (ln : Nat) (lc : Nat) (H : Heap) (R : Ending → Heap → Prop) : Prop :=
  L0 l ln lc none 0 0 (0 : Int) H R
theorem calls {l : Option Addr} {ln : Nat} {lc : Nat} {H : Heap} {R : Ending → Heap → Prop} (h : go l ln lc H R) : CallsH Try.prog 52 ⟨[(.slice l ln lc)]⟩ H R :=
  callsH_of_den (an := an) (fuel := 100000) (X := go l ln lc H R) (c := body) mixed fn (by kernel_rfl) (by kernel_rfl) (by kernel_rfl) ok (by kernel_rfl) h
end F52
/-! ### 53 "pub-stadtholder/impl.rowsIn" -/
namespace F53
def an : Ann := { kinds := [(5006, .grow), (5012, .grow), (5020, .grow)], taus := [(5, [[0, 1, 2, 3, 4, 7, 8, 9, 10, 13, 14, 15, 16, 5, 11, 17, 6, 12, 18, 19, 20, 21, 22]])], pairs := [], lab := [(40000004, [0, 3, 4])] }
noncomputable def body : Code := (Try.f53.body).getD .skip
theorem fn : Try.prog.funcs[53]? = some Try.f53 := by kernel_rfl
theorem ok : codeOk an 34 body = true := by kernel_rfl
noncomputable def L0t : List Item := [.code (sub [1, 1, 0, 1, 0, 0] body), .inLoop (sub [1, 1, 0, 1, 0, 0] body), .inBlock 0, .code (sub [1, 1, 1] body)]
def L0 (xrows : Option Addr) (xrowsn : Nat) (xrowsc : Nat) (out : Option Addr) (outn : Nat) (outc : Nat) (i : Int) (H : Heap) (R : Ending → Heap → Prop) : Prop :=
  GoL Try.prog 53 34 L0t [0, 3, 4] [(.slice xrows xrowsn xrowsc), (.slice out outn outc), (.int .i64 i)] H R
def L0n (xrows : Option Addr) (xrowsn : Nat) (xrowsc : Nat) (out : Option Addr) (outn : Nat) (outc : Nat) (i : Int) (H : Heap) (R : Ending → Heap → Prop) : Prop :=
  iteB (decide (i < ((xrowsn : Nat) : Int))) (
    idxD xrows xrowsn i fun a =>
    idxD xrows xrowsn i fun a1 =>
    idxD xrows xrowsn i fun a2 =>
    ldInt H (Addr.add a (Int.toNat i * 9)) .i64 fun n =>
    ldInt H (Addr.add (Addr.add a (Int.toNat i * 9)) 1) .i64 fun n1 =>
    ldBool H (Addr.add (Addr.add a1 (Int.toNat i * 9)) 2) fun b =>
    ldStr H (Addr.add (Addr.add a2 (Int.toNat i * 9)) 3) fun s =>
    ldStr H (Addr.add (Addr.add (Addr.add a2 (Int.toNat i * 9)) 3) 1) fun s1 =>
    ldInt H (Addr.add (Addr.add (Addr.add a2 (Int.toNat i * 9)) 3) 2) .i64 fun n2 =>
    ldInt H (Addr.add (Addr.add (Addr.add a2 (Int.toNat i * 9)) 3) 3) .i64 fun n3 =>
    ldInt H (Addr.add (Addr.add (Addr.add a2 (Int.toNat i * 9)) 3) 4) .i64 fun n4 =>
    ldInt H (Addr.add (Addr.add (Addr.add a2 (Int.toNat i * 9)) 3) 5) .i64 fun n5 =>
    callD Try.prog 39 [(.agg ⟨[(.int .i64 n), (.int .i64 n1)]⟩)] H nope fun v H1 =>
    tAgg v fun l =>
    tCons l fun c l1 =>
    tInt c .i64 fun n6 =>
    tCons l1 fun c1 l2 =>
    tInt c1 .i64 fun n7 =>
    tNil l2 <|
    andD (ExtH H H1) <|
    callD Try.prog 43 [(.agg ⟨[(.int .i64 n6), (.int .i64 n7)]⟩), (.bool b)] H1 nope fun v1 H2 =>
    tAgg v1 fun l3 =>
    tCons l3 fun c2 l4 =>
    tInt c2 .i64 fun n8 =>
    tCons l4 fun c3 l5 =>
    tInt c3 .i64 fun n9 =>
    tCons l5 fun c4 l6 =>
    tBool c4 fun b1 =>
    tNil l6 <|
    andD (ExtH H1 H2) <|
    callD Try.prog 57 [(.agg ⟨[(.string s), (.string s1), (.int .i64 n2), (.int .i64 n3), (.int .i64 n4), (.int .i64 n5)]⟩)] H2 (panK R) fun v2 H3 =>
    tPtr v2 fun p =>
    newD H3 (.cells ⟨[(.int .i64 n8), (.int .i64 n9), (.bool b1), (.pointer p)]⟩ 142) fun r H4 =>
    apD H4 4 32 [(.int .i64 (0 : Int)), (.int .i64 (0 : Int)), (.bool false), (.pointer none)] 142 out outn outc (some ⟨r, 0, none⟩) 1 fun q qn qc H5 =>
    L0 xrows xrowsn xrowsc q qn qc (IntKind.wrap .i64 (i + (1 : Int))) H5 R) <|
  R (.returned (.slice out outn outc)) H
theorem L0_step {xrows : Option Addr} {xrowsn : Nat} {xrowsc : Nat} {out : Option Addr} {outn : Nat} {outc : Nat} {i : Int} {H : Heap} {R : Ending → Heap → Prop} (h : L0n xrows xrowsn xrowsc out outn outc i H R) : L0 xrows xrowsn xrowsc out outn outc i H R :=
  goL_of_den (an := an) (fuel := 100000) (X := L0n xrows xrowsn xrowsc out outn outc i H R) mixed fn (by kernel_rfl) (fun ρ0 => by kernel_rfl) h
def go (xrows : Option Addr) (xrowsn : Nat) (xrowsc : Nat) (H : Heap) (R : Ending → Heap → Prop) : Prop :=
  L0 xrows xrowsn xrowsc none 0 0 (0 : Int) H R
theorem calls {xrows : Option Addr} {xrowsn : Nat} {xrowsc : Nat} {H : Heap} {R : Ending → Heap → Prop} (h : go xrows xrowsn xrowsc H R) : CallsH Try.prog 53 ⟨[(.slice xrows xrowsn xrowsc)]⟩ H R :=
  callsH_of_den (an := an) (fuel := 100000) (X := go xrows xrowsn xrowsc H R) (c := body) mixed fn (by kernel_rfl) (by kernel_rfl) (by kernel_rfl) ok (by kernel_rfl) h
end F53
/-! ### 54 "pub-stadtholder/laws.zzFits10" -/
namespace F54
def an : Ann := { kinds := [], taus := [], pairs := [], lab := [] }
noncomputable def body : Code := (Try.f54.body).getD .skip
theorem fn : Try.prog.funcs[54]? = some Try.f54 := by kernel_rfl
theorem ok : codeOk an 15 body = true := by kernel_rfl
def go (x_0 : Int) (x_1 : Int) (x_2 : ByteArray) (x_3 : ByteArray) (x_4 : Int) (x_5 : ByteArray) (x_6 : Bool) (H : Heap) (R : Ending → Heap → Prop) : Prop :=
  newD H (.cells ⟨[(.int .i64 x_0), (.int .i64 x_1), (.string x_2), (.string x_3), (.int .i64 x_4), (.string x_5), (.bool x_6)]⟩ 103) fun r H1 =>
  ldStr H1 ⟨r, 2, none⟩ fun s =>
  iteB (decide (((ByteArray.size s : Nat) : Int) > (2147483647 : Int))) (
    R (.returned (.bool false)) H1) <|
  ldStr H1 ⟨r, 3, none⟩ fun s1 =>
  iteB (decide (((ByteArray.size s1 : Nat) : Int) > (2147483647 : Int))) (
    R (.returned (.bool false)) H1) <|
  ldStr H1 ⟨r, 5, none⟩ fun s2 =>
  iteB (decide (((ByteArray.size s2 : Nat) : Int) > (2147483647 : Int))) (
    R (.returned (.bool false)) H1) <|
  R (.returned (.bool true)) H1
theorem calls {x_0 : Int} {x_1 : Int} {x_2 : ByteArray} {x_3 : ByteArray} {x_4 : Int} {x_5 : ByteArray} {x_6 : Bool} {H : Heap} {R : Ending → Heap → Prop} (h : go x_0 x_1 x_2 x_3 x_4 x_5 x_6 H R) : CallsH Try.prog 54 ⟨[(.agg ⟨[(.int .i64 x_0), (.int .i64 x_1), (.string x_2), (.string x_3), (.int .i64 x_4), (.string x_5), (.bool x_6)]⟩)]⟩ H R :=
  callsH_of_den (an := an) (fuel := 100000) (X := go x_0 x_1 x_2 x_3 x_4 x_5 x_6 H R) (c := body) mixed fn (by kernel_rfl) (by kernel_rfl) (by kernel_rfl) ok (by kernel_rfl) h
end F54
/-! ### 55 "pub-stadtholder/impl.kvOf" -/
namespace F55
def an : Ann := { kinds := [(1004, .read), (1009, .read)], taus := [(1, [[0, 1, 2, 5, 6, 7, 10, 11, 12, 14, 15, 16, 18, 19, 20, 22, 23, 24, 3, 4, 8, 9, 13, 17, 21, 25, 26, 27]])], pairs := [], lab := [] }
noncomputable def body : Code := (Try.f55.body).getD .skip
theorem fn : Try.prog.funcs[55]? = some Try.f55 := by kernel_rfl
theorem ok : codeOk an 30 body = true := by kernel_rfl
def go (x : Option Addr) (H : Heap) (R : Ending → Heap → Prop) : Prop :=
  newD H (.cells ⟨[(.string (ByteArray.mk #[])), (.string (ByteArray.mk #[])), (.int .i64 (0 : Int)), (.int .i64 (0 : Int)), (.int .i64 (0 : Int)), (.int .i64 (0 : Int))]⟩ 32) fun r H1 =>
  nilD x fun a =>
  nilD x fun a1 =>
  nilD x fun a2 =>
  nilD x fun a3 =>
  nilD x fun a4 =>
  nilD x fun a5 =>
  ldSl H1 a fun q qn qc =>
  bsD H1 q qn fun s =>
  ldSl H1 (Addr.add a1 4) fun q1 q1n q1c =>
  bsD H1 q1 q1n fun s1 =>
  ldInt H1 (Addr.add a2 1) .i64 fun n =>
  ldInt H1 (Addr.add a3 2) .i64 fun n1 =>
  ldInt H1 (Addr.add a4 3) .i64 fun n2 =>
  ldInt H1 (Addr.add a5 5) .i64 fun n3 =>
  st1 H1 ⟨r, 0, none⟩ (.string s) fun H2 =>
  st1 H2 ⟨r, 1, none⟩ (.string s1) fun H3 =>
  st1 H3 ⟨r, 2, none⟩ (.int .i64 n) fun H4 =>
  st1 H4 ⟨r, 3, none⟩ (.int .i64 n1) fun H5 =>
  st1 H5 ⟨r, 4, none⟩ (.int .i64 n2) fun H6 =>
  st1 H6 ⟨r, 5, none⟩ (.int .i64 n3) fun H7 =>
  ldStr H7 ⟨r, 0, none⟩ fun s2 =>
  ldStr H7 ⟨r, 1, none⟩ fun s3 =>
  ldInt H7 ⟨r, 2, none⟩ .i64 fun n4 =>
  ldInt H7 ⟨r, 3, none⟩ .i64 fun n5 =>
  ldInt H7 ⟨r, 4, none⟩ .i64 fun n6 =>
  ldInt H7 ⟨r, 5, none⟩ .i64 fun n7 =>
  R (.returned (.agg ⟨[(.string s2), (.string s3), (.int .i64 n4), (.int .i64 n5), (.int .i64 n6), (.int .i64 n7)]⟩)) H7
theorem calls {x : Option Addr} {H : Heap} {R : Ending → Heap → Prop} (h : go x H R) : CallsH Try.prog 55 ⟨[(.pointer x)]⟩ H R :=
  callsH_of_den (an := an) (fuel := 100000) (X := go x H R) (c := body) mixed fn (by kernel_rfl) (by kernel_rfl) (by kernel_rfl) ok (by kernel_rfl) h
end F55
/-! ### 56 "pub-stadtholder/pub/etcdserver/etcdserver/txn.filterRangeResults" -/
namespace F56
def an : Ann := { kinds := [], taus := [], pairs := [], lab := [(10000004, [0, 3]), (10000006, [0, 3]), (10000008, [0, 3])] }
noncomputable def body : Code := (Try.f56.body).getD .skip
theorem fn : Try.prog.funcs[56]? = some Try.f56 := by kernel_rfl
theorem ok : codeOk an 36 body = true := by kernel_rfl
noncomputable def L0t : List Item := [.code (sub [1, 1] body)]
def L0 (rr : Option Addr) (r : Nat) (H : Heap) (R : Ending → Heap → Prop) : Prop :=
  GoL Try.prog 56 36 L0t [0, 3] [(.pointer rr), (.pointer (some ⟨r, 0, none⟩))] H R
noncomputable def L1t : List Item := [.code (sub [1, 1, 1] body)]
def L1 (rr : Option Addr) (r : Nat) (H : Heap) (R : Ending → Heap → Prop) : Prop :=
  GoL Try.prog 56 36 L1t [0, 3] [(.pointer rr), (.pointer (some ⟨r, 0, none⟩))] H R
noncomputable def L2t : List Item := [.code (sub [1, 1, 1, 1] body)]
def L2 (rr : Option Addr) (r : Nat) (H : Heap) (R : Ending → Heap → Prop) : Prop :=
  GoL Try.prog 56 36 L2t [0, 3] [(.pointer rr), (.pointer (some ⟨r, 0, none⟩))] H R
def L0n (rr : Option Addr) (r : Nat) (H : Heap) (R : Ending → Heap → Prop) : Prop :=
  ldPtr H ⟨r, 0, none⟩ fun p =>
  nilD p fun a =>
  ldInt H (Addr.add a 9) .i64 fun n =>
  iteB (n != (0 : Int)) (
    callD Try.prog 72 [(.pointer rr), (.func (.func 74) ⟨[]⟩ ⟨[(.pointer (some ⟨r, 0, none⟩))]⟩)] H (panK R) fun v H1 =>
    tTup v fun l =>
    tNil l <|
    L1 rr r H1 R) <|
  L1 rr r H R
theorem L0_step {rr : Option Addr} {r : Nat} {H : Heap} {R : Ending → Heap → Prop} (h : L0n rr r H R) : L0 rr r H R :=
  goL_of_den (an := an) (fuel := 100000) (X := L0n rr r H R) mixed fn (by kernel_rfl) (fun ρ0 => by kernel_rfl) h
def L1n (rr : Option Addr) (r : Nat) (H : Heap) (R : Ending → Heap → Prop) : Prop :=
  ldPtr H ⟨r, 0, none⟩ fun p =>
  nilD p fun a =>
  ldInt H (Addr.add a 12) .i64 fun n =>
  iteB (n != (0 : Int)) (
    callD Try.prog 72 [(.pointer rr), (.func (.func 75) ⟨[]⟩ ⟨[(.pointer (some ⟨r, 0, none⟩))]⟩)] H (panK R) fun v H1 =>
    tTup v fun l =>
    tNil l <|
    L2 rr r H1 R) <|
  L2 rr r H R
theorem L1_step {rr : Option Addr} {r : Nat} {H : Heap} {R : Ending → Heap → Prop} (h : L1n rr r H R) : L1 rr r H R :=
  goL_of_den (an := an) (fuel := 100000) (X := L1n rr r H R) mixed fn (by kernel_rfl) (fun ρ0 => by kernel_rfl) h
def L2n (rr : Option Addr) (r : Nat) (H : Heap) (R : Ending → Heap → Prop) : Prop :=
  ldPtr H ⟨r, 0, none⟩ fun p =>
  nilD p fun a =>
  ldInt H (Addr.add a 11) .i64 fun n =>
  iteB (n != (0 : Int)) (
    callD Try.prog 72 [(.pointer rr), (.func (.func 76) ⟨[]⟩ ⟨[(.pointer (some ⟨r, 0, none⟩))]⟩)] H (panK R) fun v H1 =>
    tTup v fun l =>
    tNil l <|
    R (.returned (.tuple ⟨[]⟩)) H1) <|
  R (.returned (.tuple ⟨[]⟩)) H
theorem L2_step {rr : Option Addr} {r : Nat} {H : Heap} {R : Ending → Heap → Prop} (h : L2n rr r H R) : L2 rr r H R :=
  goL_of_den (an := an) (fuel := 100000) (X := L2n rr r H R) mixed fn (by kernel_rfl) (fun ρ0 => by kernel_rfl) h
def go (rr : Option Addr) (r : Option Addr) (H : Heap) (R : Ending → Heap → Prop) : Prop :=
  newD H (.cells ⟨[(.pointer r)]⟩ 71) fun r1 H1 =>
  ldPtr H1 ⟨r1, 0, none⟩ fun p =>
  nilD p fun a =>
  ldInt H1 (Addr.add a 10) .i64 fun n =>
  iteB (n != (0 : Int)) (
    callD Try.prog 72 [(.pointer rr), (.func (.func 73) ⟨[]⟩ ⟨[(.pointer (some ⟨r1, 0, none⟩))]⟩)] H1 (panK R) fun v H2 =>
    tTup v fun l =>
    tNil l <|
    L0 rr r1 H2 R) <|
  L0 rr r1 H1 R
theorem calls {rr : Option Addr} {r : Option Addr} {H : Heap} {R : Ending → Heap → Prop} (h : go rr r H R) : CallsH Try.prog 56 ⟨[(.pointer rr), (.pointer r)]⟩ H R :=
  callsH_of_den (an := an) (fuel := 100000) (X := go rr r H R) (c := body) mixed fn (by kernel_rfl) (by kernel_rfl) (by kernel_rfl) ok (by kernel_rfl) h
end F56
/-! ### 57 "pub-stadtholder/impl.kvIn" -/
namespace F57
def an : Ann := { kinds := [(1002, .loud), (1005, .loud)], taus := [], pairs := [], lab := [] }
noncomputable def body : Code := (Try.f57.body).getD .skip
theorem fn : Try.prog.funcs[57]? = some Try.f57 := by kernel_rfl
theorem ok : codeOk an 19 body = true := by kernel_rfl
def go (x_0 : ByteArray) (x_1 : ByteArray) (x_2 : Int) (x_3 : Int) (x_4 : Int) (x_5 : Int) (H : Heap) (R : Ending → Heap → Prop) : Prop :=
  newD H (.cells ⟨[(.string x_0), (.string x_1), (.int .i64 x_2), (.int .i64 x_3), (.int .i64 x_4), (.int .i64 x_5)]⟩ 32) fun r H1 =>
  ldStr H1 ⟨r, 0, none⟩ fun s =>
  sbD H1 5 s fun r1 c H2 =>
  ldStr H2 ⟨r, 1, none⟩ fun s1 =>
  sbD H2 5 s1 fun r2 c1 H3 =>
  ldInt H3 ⟨r, 2, none⟩ .i64 fun n =>
  ldInt H3 ⟨r, 3, none⟩ .i64 fun n1 =>
  ldInt H3 ⟨r, 4, none⟩ .i64 fun n2 =>
  ldInt H3 ⟨r, 5, none⟩ .i64 fun n3 =>
  newD H3 (.cells ⟨[(.slice (some ⟨r1, 0, none⟩) (ByteArray.size s) c), (.int .i64 n), (.int .i64 n1), (.int .i64 n2), (.slice (some ⟨r2, 0, none⟩) (ByteArray.size s1) c1), (.int .i64 n3)]⟩ 144) fun r3 H4 =>
  R (.returned (.pointer (some ⟨r3, 0, none⟩))) H4
theorem calls {x_0 : ByteArray} {x_1 : ByteArray} {x_2 : Int} {x_3 : Int} {x_4 : Int} {x_5 : Int} {H : Heap} {R : Ending → Heap → Prop} (h : go x_0 x_1 x_2 x_3 x_4 x_5 H R) : CallsH Try.prog 57 ⟨[(.agg ⟨[(.string x_0), (.string x_1), (.int .i64 x_2), (.int .i64 x_3), (.int .i64 x_4), (.int .i64 x_5)]⟩)]⟩ H R :=
  callsH_of_den (an := an) (fuel := 100000) (X := go x_0 x_1 x_2 x_3 x_4 x_5 H R) (c := body) mixed fn (by kernel_rfl) (by kernel_rfl) (by kernel_rfl) ok (by kernel_rfl) h
end F57
/-! ### 58 "pub-stadtholder/impl.bytesOf" -/
namespace F58
def an : Ann := { kinds := [(3001, .loud)], taus := [], pairs := [], lab := [] }
noncomputable def body : Code := (Try.f58.body).getD .skip
theorem fn : Try.prog.funcs[58]? = some Try.f58 := by kernel_rfl
theorem ok : codeOk an 7 body = true := by kernel_rfl
def go (s : ByteArray) (H : Heap) (R : Ending → Heap → Prop) : Prop :=
  iteB (eqS s (ByteArray.mk #[])) (
    R (.returned (.slice none 0 0)) H) <|
  sbD H 5 s fun r c H1 =>
  R (.returned (.slice (some ⟨r, 0, none⟩) (ByteArray.size s) c)) H1
theorem calls {s : ByteArray} {H : Heap} {R : Ending → Heap → Prop} (h : go s H R) : CallsH Try.prog 58 ⟨[(.string s)]⟩ H R :=
  callsH_of_den (an := an) (fuel := 100000) (X := go s H R) (c := body) mixed fn (by kernel_rfl) (by kernel_rfl) (by kernel_rfl) ok (by kernel_rfl) h
end F58
/-! ### 59 "pub-stadtholder/impl.order" -/
namespace F59
def an : Ann := { kinds := [], taus := [], pairs := [], lab := [] }
noncomputable def body : Code := (Try.f59.body).getD .skip
theorem fn : Try.prog.funcs[59]? = some Try.f59 := by kernel_rfl
theorem ok : codeOk an 11 body = true := by kernel_rfl
def go (n : Int) (H : Heap) (R : Ending → Heap → Prop) : Prop :=
  iteB (decide (n < (-2147483648 : Int))) (
    R (.returned (.int .i32 (-1 : Int))) H) <|
  iteB (decide (n > (2147483647 : Int))) (
    R (.returned (.int .i32 (-1 : Int))) H) <|
  R (.returned (.int .i32 (IntKind.wrap .i32 n))) H
theorem calls {n : Int} {H : Heap} {R : Ending → Heap → Prop} (h : go n H R) : CallsH Try.prog 59 ⟨[(.int .i64 n)]⟩ H R :=
  callsH_of_den (an := an) (fuel := 100000) (X := go n H R) (c := body) mixed fn (by kernel_rfl) (by kernel_rfl) (by kernel_rfl) ok (by kernel_rfl) h
end F59
/-! ### 61 "pub-stadtholder/pub/etcdserver/storage/mvcc.BytesToBucketKey" -/
namespace F61
def an : Ann := { kinds := [], taus := [], pairs := [], lab := [(20000003, [0, 2]), (10000004, [0, 2]), (10000006, [0, 2]), (20000009, [0, 2, 3, 4]), (10000010, [0, 2, 3, 4])] }
noncomputable def body : Code := (Try.f61.body).getD .skip
theorem fn : Try.prog.funcs[61]? = some Try.f61 := by kernel_rfl
theorem ok : codeOk an 40 body = true := by kernel_rfl
noncomputable def L0t : List Item := [.code (sub [1, 0, 1, 0] body), .code (sub [1, 1] body)]
def L0 (bytes : Option Addr) (bytesn : Nat) (bytesc : Nat) (s2 : Nat) (H : Heap) (R : Ending → Heap → Prop) : Prop :=
  GoL Try.prog 61 40 L0t [0, 2] [(.slice bytes bytesn bytesc), (.pointer (some ⟨s2, 0, none⟩))] H R
noncomputable def L1t : List Item := [.code (sub [1, 1] body)]
def L1 (bytes : Option Addr) (bytesn : Nat) (bytesc : Nat) (s2 : Nat) (H : Heap) (R : Ending → Heap → Prop) : Prop :=
  GoL Try.prog 61 40 L1t [0, 2] [(.slice bytes bytesn bytesc), (.pointer (some ⟨s2, 0, none⟩))] H R
noncomputable def L2t : List Item := [.code (sub [1, 1, 1] body)]
def L2 (bytes : Option Addr) (bytesn : Nat) (bytesc : Nat) (s2 : Nat) (H : Heap) (R : Ending → Heap → Prop) : Prop :=
  GoL Try.prog 61 40 L2t [0, 2] [(.slice bytes bytesn bytesc), (.pointer (some ⟨s2, 0, none⟩))] H R
noncomputable def L3t : List Item := [.code (sub [1, 1, 1, 1, 1, 0, 1, 0] body), .code (sub [1, 1, 1, 1, 1, 1] body)]
def L3 (bytes : Option Addr) (bytesn : Nat) (bytesc : Nat) (s2 : Nat) (main : Int) (sub1 : Int) (H : Heap) (R : Ending → Heap → Prop) : Prop :=
  GoL Try.prog 61 40 L3t [0, 2, 3, 4] [(.slice bytes bytesn bytesc), (.pointer (some ⟨s2, 0, none⟩)), (.int .i64 main), (.int .i64 sub1)] H R
noncomputable def L4t : List Item := [.code (sub [1, 1, 1, 1, 1, 1] body)]
def L4 (bytes : Option Addr) (bytesn : Nat) (bytesc : Nat) (s2 : Nat) (main : Int) (sub1 : Int) (H : Heap) (R : Ending → Heap → Prop) : Prop :=
  GoL Try.prog 61 40 L4t [0, 2, 3, 4] [(.slice bytes bytesn bytesc), (.pointer (some ⟨s2, 0, none⟩)), (.int .i64 main), (.int .i64 sub1)] H R
def L0n (bytes : Option Addr) (bytesn : Nat) (bytesc : Nat) (s2 : Nat) (H : Heap) (R : Ending → Heap → Prop) : Prop :=
  panD (.iface 9 (.string (ByteArray.mk #[105, 110, 118, 97, 108, 105, 100, 32, 114, 101, 118, 105, 115, 105, 111, 110, 32, 108, 101, 110, 103, 116, 104]))) H (panK R)
theorem L0_step {bytes : Option Addr} {bytesn : Nat} {bytesc : Nat} {s2 : Nat} {H : Heap} {R : Ending → Heap → Prop} (h : L0n bytes bytesn bytesc s2 H R) : L0 bytes bytesn bytesc s2 H R :=
  goL_of_den (an := an) (fuel := 100000) (X := L0n bytes bytesn bytesc s2 H R) mixed fn (by kernel_rfl) (fun ρ0 => by kernel_rfl) h
def L1n (bytes : Option Addr) (bytesn : Nat) (bytesc : Nat) (s2 : Nat) (H : Heap) (R : Ending → Heap → Prop) : Prop :=
  idxD bytes bytesn (8 : Int) fun a =>
  ldInt H (Addr.add a (Int.toNat (8 : Int) * 1)) .u8 fun n =>
  iteB (n != (95 : Int)) (
    panD (.iface 9 (.string (ByteArray.mk #[105, 110, 118, 97, 108, 105, 100, 32, 115, 101, 112, 97, 114, 97, 116, 111, 114, 32, 105, 110, 32, 98, 117, 99, 107, 101, 116, 32, 107, 101, 121]))) H (panK R)) <|
  L2 bytes bytesn bytesc s2 H R
theorem L1_step {bytes : Option Addr} {bytesn : Nat} {bytesc : Nat} {s2 : Nat} {H : Heap} {R : Ending → Heap → Prop} (h : L1n bytes bytesn bytesc s2 H R) : L1 bytes bytesn bytesc s2 H R :=
  goL_of_den (an := an) (fuel := 100000) (X := L1n bytes bytesn bytesc s2 H R) mixed fn (by kernel_rfl) (fun ρ0 => by kernel_rfl) h
def L2n (bytes : Option Addr) (bytesn : Nat) (bytesc : Nat) (s2 : Nat) (H : Heap) (R : Ending → Heap → Prop) : Prop :=
  bndD (8 : Int) bytesc fun k =>
  bndD (0 : Int) k fun k1 =>
  callD Try.prog 77 [(.slice (slP bytes k1 bytesc 1) (k - k1) (bytesc - k1))] H (panK R) fun v H1 =>
  tInt v .u64 fun n =>
  bndD (9 : Int) bytesn fun k2 =>
  callD Try.prog 77 [(.slice (slP bytes k2 bytesc 1) (bytesn - k2) (bytesc - k2))] H1 (panK R) fun v1 H2 =>
  tInt v1 .u64 fun n1 =>
  iteB (decide ((IntKind.wrap .i64 n) < (0 : Int))) (
    L3 bytes bytesn bytesc s2 (IntKind.wrap .i64 n) (IntKind.wrap .i64 n1) H2 R) <|
  iteB (decide ((IntKind.wrap .i64 n1) < (0 : Int))) (
    L3 bytes bytesn bytesc s2 (IntKind.wrap .i64 n) (IntKind.wrap .i64 n1) H2 R) <|
  L4 bytes bytesn bytesc s2 (IntKind.wrap .i64 n) (IntKind.wrap .i64 n1) H2 R
theorem L2_step {bytes : Option Addr} {bytesn : Nat} {bytesc : Nat} {s2 : Nat} {H : Heap} {R : Ending → Heap → Prop} (h : L2n bytes bytesn bytesc s2 H R) : L2 bytes bytesn bytesc s2 H R :=
  goL_of_den (an := an) (fuel := 100000) (X := L2n bytes bytesn bytesc s2 H R) mixed fn (by kernel_rfl) (fun ρ0 => by kernel_rfl) h
def L3n (bytes : Option Addr) (bytesn : Nat) (bytesc : Nat) (s2 : Nat) (main : Int) (sub1 : Int) (H : Heap) (R : Ending → Heap → Prop) : Prop :=
  panD (.iface 9 (.string (ByteArray.mk #[110, 101, 103, 97, 116, 105, 118, 101, 32, 114, 101, 118, 105, 115, 105, 111, 110]))) H (panK R)
theorem L3_step {bytes : Option Addr} {bytesn : Nat} {bytesc : Nat} {s2 : Nat} {main : Int} {sub1 : Int} {H : Heap} {R : Ending → Heap → Prop} (h : L3n bytes bytesn bytesc s2 main sub1 H R) : L3 bytes bytesn bytesc s2 main sub1 H R :=
  goL_of_den (an := an) (fuel := 100000) (X := L3n bytes bytesn bytesc s2 main sub1 H R) mixed fn (by kernel_rfl) (fun ρ0 => by kernel_rfl) h
def L4n (bytes : Option Addr) (bytesn : Nat) (bytesc : Nat) (s2 : Nat) (main : Int) (sub1 : Int) (H : Heap) (R : Ending → Heap → Prop) : Prop :=
  callD Try.prog 64 [(.slice bytes bytesn bytesc)] H (panK R) fun v H1 =>
  tBool v fun b =>
  st1 H1 ⟨s2, 0, none⟩ (.int .i64 main) fun H2 =>
  st1 H2 ⟨s2, 1, none⟩ (.int .i64 sub1) fun H3 =>
  st1 H3 ⟨s2, 2, none⟩ (.bool b) fun H4 =>
  ldInt H4 ⟨s2, 0, none⟩ .i64 fun n =>
  ldInt H4 ⟨s2, 1, none⟩ .i64 fun n1 =>
  ldBool H4 ⟨s2, 2, none⟩ fun b1 =>
  R (.returned (.agg ⟨[(.int .i64 n), (.int .i64 n1), (.bool b1)]⟩)) H4
theorem L4_step {bytes : Option Addr} {bytesn : Nat} {bytesc : Nat} {s2 : Nat} {main : Int} {sub1 : Int} {H : Heap} {R : Ending → Heap → Prop} (h : L4n bytes bytesn bytesc s2 main sub1 H R) : L4 bytes bytesn bytesc s2 main sub1 H R :=
  goL_of_den (an := an) (fuel := 100000) (X := L4n bytes bytesn bytesc s2 main sub1 H R) mixed fn (by kernel_rfl) (fun ρ0 => by kernel_rfl) h
def go (bytes : Option Addr) (bytesn : Nat) (bytesc : Nat) (H : Heap) (R : Ending → Heap → Prop) : Prop :=
  newD H (.cells ⟨[(.int .i64 (0 : Int)), (.int .i64 (0 : Int)), (.bool false)]⟩ 83) fun r H1 =>
  iteB (((bytesn : Nat) : Int) != (17 : Int)) (
    iteB (((bytesn : Nat) : Int) != (18 : Int)) (
      L0 bytes bytesn bytesc r H1 R) <|
    L1 bytes bytesn bytesc r H1 R) <|
  L1 bytes bytesn bytesc r H1 R
theorem calls {bytes : Option Addr} {bytesn : Nat} {bytesc : Nat} {H : Heap} {R : Ending → Heap → Prop} (h : go bytes bytesn bytesc H R) : CallsH Try.prog 61 ⟨[(.slice bytes bytesn bytesc)]⟩ H R :=
  callsH_of_den (an := an) (fuel := 100000) (X := go bytes bytesn bytesc H R) (c := body) mixed fn (by kernel_rfl) (by kernel_rfl) (by kernel_rfl) ok (by kernel_rfl) h
end F61
/-! ### 62 "pub-stadtholder/pub/etcdserver/storage/mvcc.newBucketKey" -/
namespace F62
def an : Ann := { kinds := [], taus := [], pairs := [], lab := [] }
noncomputable def body : Code := (Try.f62.body).getD .skip
theorem fn : Try.prog.funcs[62]? = some Try.f62 := by kernel_rfl
theorem ok : codeOk an 12 body = true := by kernel_rfl
def go (main : Int) (sub1 : Int) (isTombstone : Bool) (H : Heap) (R : Ending → Heap → Prop) : Prop :=
  newD H (.cells ⟨[(.int .i64 (0 : Int)), (.int .i64 (0 : Int)), (.bool false)]⟩ 83) fun r H1 =>
  st1 H1 ⟨r, 0, none⟩ (.int .i64 main) fun H2 =>
  st1 H2 ⟨r, 1, none⟩ (.int .i64 sub1) fun H3 =>
  st1 H3 ⟨r, 2, none⟩ (.bool isTombstone) fun H4 =>
  ldInt H4 ⟨r, 0, none⟩ .i64 fun n =>
  ldInt H4 ⟨r, 1, none⟩ .i64 fun n1 =>
  ldBool H4 ⟨r, 2, none⟩ fun b =>
  R (.returned (.agg ⟨[(.int .i64 n), (.int .i64 n1), (.bool b)]⟩)) H4
theorem calls {main : Int} {sub1 : Int} {isTombstone : Bool} {H : Heap} {R : Ending → Heap → Prop} (h : go main sub1 isTombstone H R) : CallsH Try.prog 62 ⟨[(.int .i64 main), (.int .i64 sub1), (.bool isTombstone)]⟩ H R :=
  callsH_of_den (an := an) (fuel := 100000) (X := go main sub1 isTombstone H R) (c := body) mixed fn (by kernel_rfl) (by kernel_rfl) (by kernel_rfl) ok (by kernel_rfl) h
end F62
/-! ### 63 "pub-stadtholder/pub/stand/binary.PutUint64" -/
namespace F63
def an : Ann := { kinds := [], taus := [], pairs := [], lab := [(30000002, [0, 1, 4])] }
noncomputable def body : Code := (Try.f63.body).getD .skip
theorem fn : Try.prog.funcs[63]? = some Try.f63 := by kernel_rfl
theorem ok : codeOk an 19 body = true := by kernel_rfl
noncomputable def L0t : List Item := [.code (sub [1, 0, 0] body), .inLoop (sub [1, 0, 0] body), .inBlock 0]
def L0 (b : Option Addr) (bn : Nat) (bc : Nat) (n : Int) (i : Int) (H : Heap) (R : Ending → Heap → Prop) : Prop :=
  GoL Try.prog 63 19 L0t [0, 1, 4] [(.slice b bn bc), (.int .u64 n), (.int .i64 i)] H R
def L0n (b : Option Addr) (bn : Nat) (bc : Nat) (n : Int) (i : Int) (H : Heap) (R : Ending → Heap → Prop) : Prop :=
  iteB (decide (i < (8 : Int))) (
    shD (IntKind.wrap .u64 ((8 : Int) * (IntKind.wrap .u64 (IntKind.wrap .i64 ((7 : Int) - i))))) <|
    idxD b bn i fun a =>
    st1 H (Addr.add a (Int.toNat i * 1)) (.int .u8 (IntKind.wrap .u8 (shrZ .u64 n (IntKind.wrap .u64 ((8 : Int) * (IntKind.wrap .u64 (IntKind.wrap .i64 ((7 : Int) - i)))))))) fun H1 =>
    L0 b bn bc n (IntKind.wrap .i64 (i + (1 : Int))) H1 R) <|
  R (.returned (.tuple ⟨[]⟩)) H
theorem L0_step {b : Option Addr} {bn : Nat} {bc : Nat} {n : Int} {i : Int} {H : Heap} {R : Ending → Heap → Prop} (h : L0n b bn bc n i H R) : L0 b bn bc n i H R :=
  goL_of_den (an := an) (fuel := 100000) (X := L0n b bn bc n i H R) mixed fn (by kernel_rfl) (fun ρ0 => by kernel_rfl) h
def go (b : Option Addr) (bn : Nat) (bc : Nat) (n : Int) (H : Heap) (R : Ending → Heap → Prop) : Prop :=
  L0 b bn bc n (0 : Int) H R
theorem calls {b : Option Addr} {bn : Nat} {bc : Nat} {n : Int} {H : Heap} {R : Ending → Heap → Prop} (h : go b bn bc n H R) : CallsH Try.prog 63 ⟨[(.slice b bn bc), (.int .u64 n)]⟩ H R :=
  callsH_of_den (an := an) (fuel := 100000) (X := go b bn bc n H R) (c := body) mixed fn (by kernel_rfl) (by kernel_rfl) (by kernel_rfl) ok (by kernel_rfl) h
end F63
/-! ### 64 "pub-stadtholder/pub/etcdserver/storage/mvcc.isTombstone" -/
namespace F64
def an : Ann := { kinds := [], taus := [], pairs := [], lab := [] }
noncomputable def body : Code := (Try.f64.body).getD .skip
theorem fn : Try.prog.funcs[64]? = some Try.f64 := by kernel_rfl
theorem ok : codeOk an 12 body = true := by kernel_rfl
def go (b : Option Addr) (bn : Nat) (bc : Nat) (H : Heap) (R : Ending → Heap → Prop) : Prop :=
  iteB (((bn : Nat) : Int) == (18 : Int)) (
    idxD b bn (17 : Int) fun a =>
    ldInt H (Addr.add a (Int.toNat (17 : Int) * 1)) .u8 fun n =>
    R (.returned (.bool (n == (116 : Int)))) H) <|
  R (.returned (.bool false)) H
theorem calls {b : Option Addr} {bn : Nat} {bc : Nat} {H : Heap} {R : Ending → Heap → Prop} (h : go b bn bc H R) : CallsH Try.prog 64 ⟨[(.slice b bn bc)]⟩ H R :=
  callsH_of_den (an := an) (fuel := 100000) (X := go b bn bc H R) (c := body) mixed fn (by kernel_rfl) (by kernel_rfl) (by kernel_rfl) ok (by kernel_rfl) h
end F64
/-! ### 65 "pub-stadtholder/pub/etcdserver/ioutil.NewPageWriter" -/
namespace F65
def an : Ann := { kinds := [], taus := [], pairs := [], lab := [] }
noncomputable def body : Code := (Try.f65.body).getD .skip
theorem fn : Try.prog.funcs[65]? = some Try.f65 := by kernel_rfl
theorem ok : codeOk an 20 body = true := by kernel_rfl
def go (w : IV) (pageBytes : Int) (pageOffset : Int) (H : Heap) (R : Ending → Heap → Prop) : Prop :=
  newD H (.cells ⟨[(.int .i64 pageBytes)]⟩ 3) fun r H1 =>
  callD Try.prog 78 [(.bool (decide (pageBytes > (0 : Int)))), (.string (ByteArray.mk #[105, 110, 118, 97, 108, 105, 100, 32, 112, 97, 103, 101, 66, 121, 116, 101, 115, 32, 40, 37, 100, 41, 32, 118, 97, 108, 117, 101, 44, 32, 105, 116, 32, 109, 117, 115, 116, 32, 98, 101, 32, 103, 114, 101, 97, 116, 101, 114, 32, 116, 104, 97, 110, 32, 48])), (.slice (some ⟨r, 0, none⟩) 1 1)] H1 (panK R) fun v H2 =>
  tTup v fun l =>
  tNil l <|
  mkD H2 1 [(.int .u8 (0 : Int))] 5 (IntKind.wrap .i64 ((131072 : Int) + pageBytes)) (IntKind.wrap .i64 ((131072 : Int) + pageBytes)) fun r1 k c H3 =>
  guardB (isCell (IV.v w)) <|
  newD H3 (.cells ⟨[(IV.v w), (.int .i64 pageOffset), (.int .i64 pageBytes), (.int .i64 (0 : Int)), (.slice (some ⟨r1, 0, none⟩) k c), (.int .i64 (131072 : Int))]⟩ 126) fun r2 H4 =>
  R (.returned (.pointer (some ⟨r2, 0, none⟩))) H4
theorem calls {w : IV} {pageBytes : Int} {pageOffset : Int} {H : Heap} {R : Ending → Heap → Prop} (h : go w pageBytes pageOffset H R) : CallsH Try.prog 65 ⟨[(IV.v w), (.int .i64 pageBytes), (.int .i64 pageOffset)]⟩ H R :=
  callsH_of_den (an := an) (fuel := 100000) (X := go w pageBytes pageOffset H R) (c := body) mixed fn (by kernel_rfl) (by kernel_rfl) (by kernel_rfl) ok (by kernel_rfl) h
end F65
/-! ### 66 "(*pub-stadtholder/pub/etcdserver/ioutil.PageWriter).flush" -/
namespace F66
def an : Ann := { kinds := [], taus := [(3, [[0, 1, 2, 4, 5, 6, 8, 9, 10, 3, 13, 14, 7, 11, 12, 15, 16, 17, 18, 19, 20]]), (4, [[0, 1, 2, 3, 5, 6, 7, 10, 11, 12, 4, 8, 9, 13, 14, 15, 16, 17]])], pairs := [], lab := [] }
noncomputable def body : Code := (Try.f66.body).getD .skip
theorem fn : Try.prog.funcs[66]? = some Try.f66 := by kernel_rfl
theorem ok : codeOk an 52 body = true := by kernel_rfl
def go (pw : Option Addr) (H : Heap) (R : Ending → Heap → Prop) : Prop :=
  nilD pw fun a =>
  ldInt H (Addr.add a 3) .i64 fun n =>
  iteB (n == (0 : Int)) (
    R (.returned (.tuple ⟨[(.int .i64 (0 : Int)), .nilIface]⟩)) H) <|
  nilD pw fun a1 =>
  nilD pw fun a2 =>
  nilD pw fun a3 =>
  ldIf H a1 fun i =>
  nilV (IV.v i) fun v =>
  ldSl H (Addr.add a2 4) fun q qn qc =>
  ldInt H (Addr.add a3 3) .i64 fun n1 =>
  bndD n1 qc fun k =>
  callI Try.prog (IV.v i) "Write" [(.slice (slP q 0 qc 1) k qc)] H (panK R) fun v1 H1 =>
  tTup v1 fun l =>
  tCons l fun c l1 =>
  tInt c .i64 fun n2 =>
  tCons l1 fun c1 l2 =>
  tIf c1 fun i1 =>
  tNil l2 <|
  nilD pw fun a4 =>
  nilD pw fun a5 =>
  nilD pw fun a6 =>
  ldInt H1 (Addr.add a4 1) .i64 fun n3 =>
  ldInt H1 (Addr.add a5 3) .i64 fun n4 =>
  ldInt H1 (Addr.add a6 2) .i64 fun n5 =>
  divD n5 <|
  nilD pw fun a7 =>
  st1 H1 (Addr.add a7 1) (.int .i64 (Int.tmod (IntKind.wrap .i64 (n3 + n4)) n5)) fun H2 =>
  nilD pw fun a8 =>
  st1 H2 (Addr.add a8 3) (.int .i64 (0 : Int)) fun H3 =>
  R (.returned (.tuple ⟨[(.int .i64 n2), (IV.v i1)]⟩)) H3
theorem calls {pw : Option Addr} {H : Heap} {R : Ending → Heap → Prop} (h : go pw H R) : CallsH Try.prog 66 ⟨[(.pointer pw)]⟩ H R :=
  callsH_of_den (an := an) (fuel := 100000) (X := go pw H R) (c := body) mixed fn (by kernel_rfl) (by kernel_rfl) (by kernel_rfl) ok (by kernel_rfl) h
end F66
/-! ### 67 "pub-stadtholder/spec.Less" -/
namespace F67
def an : Ann := { kinds := [], taus := [], pairs := [], lab := [] }
noncomputable def body : Code := (Try.f67.body).getD .skip
theorem fn : Try.prog.funcs[67]? = some Try.f67 := by kernel_rfl
theorem ok : codeOk an 24 body = true := by kernel_rfl
def go (a_0 : Int) (a_1 : Int) (b_0 : Int) (b_1 : Int) (H : Heap) (R : Ending → Heap → Prop) : Prop :=
  newD H (.cells ⟨[(.int .i64 a_0), (.int .i64 a_1)]⟩ 35) fun r H1 =>
  newD H1 (.cells ⟨[(.int .i64 b_0), (.int .i64 b_1)]⟩ 35) fun r1 H2 =>
  ldInt H2 ⟨r, 0, none⟩ .i64 fun n =>
  ldInt H2 ⟨r1, 0, none⟩ .i64 fun n1 =>
  iteB (decide (n < n1)) (
    R (.returned (.bool true)) H2) <|
  ldInt H2 ⟨r, 0, none⟩ .i64 fun n2 =>
  ldInt H2 ⟨r1, 0, none⟩ .i64 fun n3 =>
  iteB (n2 == n3) (
    ldInt H2 ⟨r, 1, none⟩ .i64 fun n4 =>
    ldInt H2 ⟨r1, 1, none⟩ .i64 fun n5 =>
    R (.returned (.bool (decide (n4 < n5)))) H2) <|
  R (.returned (.bool false)) H2
theorem calls {a_0 : Int} {a_1 : Int} {b_0 : Int} {b_1 : Int} {H : Heap} {R : Ending → Heap → Prop} (h : go a_0 a_1 b_0 b_1 H R) : CallsH Try.prog 67 ⟨[(.agg ⟨[(.int .i64 a_0), (.int .i64 a_1)]⟩), (.agg ⟨[(.int .i64 b_0), (.int .i64 b_1)]⟩)]⟩ H R :=
  callsH_of_den (an := an) (fuel := 100000) (X := go a_0 a_1 b_0 b_1 H R) (c := body) mixed fn (by kernel_rfl) (by kernel_rfl) (by kernel_rfl) ok (by kernel_rfl) h
end F67
/-! ### 68 "pub-stadtholder/pub/etcdserver/storage/mvcc.newKVHasher" -/
namespace F68
def an : Ann := { kinds := [], taus := [], pairs := [], lab := [] }
noncomputable def body : Code := (Try.f68.body).getD .skip
theorem fn : Try.prog.funcs[68]? = some Try.f68 := by kernel_rfl
theorem ok : codeOk an 18 body = true := by kernel_rfl
def go (compactRev : Int) (rev : Int) (keep : Option Nat) (H : Heap) (R : Ending → Heap → Prop) : Prop :=
  newD H (.cells ⟨[(.pointer none), (.int .i64 (0 : Int)), (.int .i64 (0 : Int)), (.map none)]⟩ 132) fun r H1 =>
  callD Try.prog 79 [] H1 (panK R) fun v H2 =>
  tPtr v fun p =>
  callD Try.prog 81 [] H2 (panK R) fun v1 H3 =>
  tIf v1 fun i =>
  callI Try.prog (IV.v i) "Name" [] H3 (panK R) fun v2 H4 =>
  tSl v2 fun q qn qc =>
  callD Try.prog 80 [(.pointer p), (.slice q qn qc)] H4 (panK R) fun v3 H5 =>
  tTup v3 fun l =>
  tCons l fun c l1 =>
  tInt c .i64 fun n =>
  tCons l1 fun c1 l2 =>
  tIf c1 fun i1 =>
  tNil l2 <|
  st1 H5 ⟨r, 0, none⟩ (.pointer p) fun H6 =>
  st1 H6 ⟨r, 1, none⟩ (.int .i64 compactRev) fun H7 =>
  st1 H7 ⟨r, 2, none⟩ (.int .i64 rev) fun H8 =>
  st1 H8 ⟨r, 3, none⟩ (.map keep) fun H9 =>
  ldPtr H9 ⟨r, 0, none⟩ fun p1 =>
  ldInt H9 ⟨r, 1, none⟩ .i64 fun n1 =>
  ldInt H9 ⟨r, 2, none⟩ .i64 fun n2 =>
  ldMap H9 ⟨r, 3, none⟩ fun m =>
  R (.returned (.agg ⟨[(.pointer p1), (.int .i64 n1), (.int .i64 n2), (.map m)]⟩)) H9
theorem calls {compactRev : Int} {rev : Int} {keep : Option Nat} {H : Heap} {R : Ending → Heap → Prop} (h : go compactRev rev keep H R) : CallsH Try.prog 68 ⟨[(.int .i64 compactRev), (.int .i64 rev), (.map keep)]⟩ H R :=
  callsH_of_den (an := an) (fuel := 100000) (X := go compactRev rev keep H R) (c := body) mixed fn (by kernel_rfl) (by kernel_rfl) (by kernel_rfl) ok (by kernel_rfl) h
end F68
/-! ### 69 "pub-stadtholder/pub/etcdserver/storage/mvcc.zzRows" -/
namespace F69
def an : Ann := { kinds := [(6003, .grow), (6005, .grow)], taus := [(6, [[0, 1, 2, 3, 4, 5, 6, 7]])], pairs := [], lab := [(40000004, [4, 5, 10, 11, 12])] }
noncomputable def body : Code := (Try.f69.body).getD .skip
theorem fn : Try.prog.funcs[69]? = some Try.f69 := by kernel_rfl
theorem ok : codeOk an 37 body = true := by kernel_rfl
noncomputable def L0t : List Item := [.code (sub [1, 1, 0, 1, 0, 0] body), .inLoop (sub [1, 1, 0, 1, 0, 0] body), .inBlock 0, .code (sub [1, 1, 1] body)]
def L0 (keys : Option Addr) (keysn : Nat) (keysc : Nat) (vals : Option Addr) (valsn : Nat) (valsc : Nat) (s10 : Option Addr) (s10n : Nat) (s10c : Nat) (s11 : Int) (s12 : Int) (H : Heap) (R : Ending → Heap → Prop) : Prop :=
  GoL Try.prog 69 37 L0t [4, 5, 10, 11, 12] [(.slice keys keysn keysc), (.slice vals valsn valsc), (.slice s10 s10n s10c), (.int .i64 s11), (.int .i64 s12)] H R
def L0n (keys : Option Addr) (keysn : Nat) (keysc : Nat) (vals : Option Addr) (valsn : Nat) (valsc : Nat) (s10 : Option Addr) (s10n : Nat) (s10c : Nat) (s11 : Int) (s12 : Int) (H : Heap) (R : Ending → Heap → Prop) : Prop :=
  iteB (decide (s12 < s11)) (
    idxD s10 s10n s12 fun a =>
    ldInt H (Addr.add a (Int.toNat s12 * 4)) .i64 fun n =>
    ldInt H (Addr.add (Addr.add a (Int.toNat s12 * 4)) 1) .i64 fun n1 =>
    ldBool H (Addr.add (Addr.add a (Int.toNat s12 * 4)) 2) fun b =>
    ldPtr H (Addr.add (Addr.add a (Int.toNat s12 * 4)) 3) fun p =>
    newD H (.cells ⟨[(.int .i64 (0 : Int)), (.int .i64 (0 : Int)), (.bool false), (.pointer none)]⟩ 142) fun r H1 =>
    st1 H1 ⟨r, 0, none⟩ (.int .i64 n) fun H2 =>
    st1 H2 ⟨r, 1, none⟩ (.int .i64 n1) fun H3 =>
    st1 H3 ⟨r, 2, none⟩ (.bool b) fun H4 =>
    st1 H4 ⟨r, 3, none⟩ (.pointer p) fun H5 =>
    ldPtr H5 ⟨r, 3, none⟩ fun p1 =>
    callD Try.prog 82 [(.iface 106 (.pointer p1))] H5 (panK R) fun v H6 =>
    tTup v fun l =>
    tCons l fun c l1 =>
    tSl c fun q qn qc =>
    tCons l1 fun c1 l2 =>
    tIf c1 fun i =>
    tNil l2 <|
    ldInt H6 ⟨r, 0, none⟩ .i64 fun n2 =>
    ldInt H6 ⟨r, 1, none⟩ .i64 fun n3 =>
    ldBool H6 ⟨r, 2, none⟩ fun b1 =>
    callD Try.prog 40 [] H6 nope fun v1 H7 =>
    tSl v1 fun q1 q1n q1c =>
    andD (ExtH H6 H7) <|
    callD Try.prog 42 [(.agg ⟨[(.int .i64 n2), (.int .i64 n3), (.bool b1)]⟩), (.slice q1 q1n q1c)] H7 (panK R) fun v2 H8 =>
    tSl v2 fun q2 q2n q2c =>
    newD H8 (.cells ⟨[(.slice q2 q2n q2c)]⟩ 39) fun r1 H9 =>
    apD H9 1 24 [(.slice none 0 0)] 39 keys keysn keysc (some ⟨r1, 0, none⟩) 1 fun q3 q3n q3c H10 =>
    newD H10 (.cells ⟨[(.slice q qn qc)]⟩ 39) fun r2 H11 =>
    apD H11 1 24 [(.slice none 0 0)] 39 vals valsn valsc (some ⟨r2, 0, none⟩) 1 fun q4 q4n q4c H12 =>
    L0 q3 q3n q3c q4 q4n q4c s10 s10n s10c s11 (IntKind.wrap .i64 (s12 + (1 : Int))) H12 R) <|
  R (.returned (.tuple ⟨[(.slice keys keysn keysc), (.slice vals valsn valsc)]⟩)) H
theorem L0_step {keys : Option Addr} {keysn : Nat} {keysc : Nat} {vals : Option Addr} {valsn : Nat} {valsc : Nat} {s10 : Option Addr} {s10n : Nat} {s10c : Nat} {s11 : Int} {s12 : Int} {H : Heap} {R : Ending → Heap → Prop} (h : L0n keys keysn keysc vals valsn valsc s10 s10n s10c s11 s12 H R) : L0 keys keysn keysc vals valsn valsc s10 s10n s10c s11 s12 H R :=
  goL_of_den (an := an) (fuel := 100000) (X := L0n keys keysn keysc vals valsn valsc s10 s10n s10c s11 s12 H R) mixed fn (by kernel_rfl) (fun ρ0 => by kernel_rfl) h
def go (xrows : Option Addr) (xrowsn : Nat) (xrowsc : Nat) (H : Heap) (R : Ending → Heap → Prop) : Prop :=
  L0 none 0 0 none 0 0 xrows xrowsn xrowsc ((xrowsn : Nat) : Int) (0 : Int) H R
theorem calls {xrows : Option Addr} {xrowsn : Nat} {xrowsc : Nat} {H : Heap} {R : Ending → Heap → Prop} (h : go xrows xrowsn xrowsc H R) : CallsH Try.prog 69 ⟨[(.slice xrows xrowsn xrowsc)]⟩ H R :=
  callsH_of_den (an := an) (fuel := 100000) (X := go xrows xrowsn xrowsc H R) (c := body) mixed fn (by kernel_rfl) (by kernel_rfl) (by kernel_rfl) ok (by kernel_rfl) h
end F69
/-! ### 70 "(*pub-stadtholder/pub/etcdserver/storage/mvcc.kvHasher).WriteKeyValue" -/
namespace F70
def an : Ann := { kinds := [(5008, .heavy 0), (6005, .heavy 0), (6009, .grow)], taus := [(6, [[0, 1, 2, 3, 4, 9, 5, 6, 7, 8, 10, 11], [0, 1, 2, 3, 4, 5, 6, 7, 8, 9, 10, 11]]), (8, [[0, 2, 3, 4, 1, 5, 6, 7, 8, 9]])], pairs := [(6, [(9, 5)])], lab := [(20000007, [0, 1, 2, 6, 8]), (20000008, [0, 1, 2, 6, 8, 11]), (10000009, [0, 1, 2, 6, 8]), (10000010, [0, 1, 2])] }
noncomputable def body : Code := (Try.f70.body).getD .skip
theorem fn : Try.prog.funcs[70]? = some Try.f70 := by kernel_rfl
theorem ok : codeOk an 77 body = true := by kernel_rfl
noncomputable def L0t : List Item := [.code (sub [1, 1, 1, 1, 1, 0, 1, 0] body), .code (sub [1, 1, 1, 1, 1, 1] body)]
def L0 (s0 : Option Addr) (s1 : Option Addr) (s1n : Nat) (s1c : Nat) (s2 : Option Addr) (s2n : Nat) (s2c : Nat) (s6 : Nat) (s8 : Bool) (H : Heap) (R : Ending → Heap → Prop) : Prop :=
  GoL Try.prog 70 77 L0t [0, 1, 2, 6, 8] [(.pointer s0), (.slice s1 s1n s1c), (.slice s2 s2n s2c), (.pointer (some ⟨s6, 0, none⟩)), (.bool s8)] H R
noncomputable def L1t : List Item := [.code (sub [1, 1, 1, 1, 1, 0, 1, 0, 1] body), .code (sub [1, 1, 1, 1, 1, 1] body)]
def L1 (s0 : Option Addr) (s1 : Option Addr) (s1n : Nat) (s1c : Nat) (s2 : Option Addr) (s2n : Nat) (s2c : Nat) (s6 : Nat) (s8 : Bool) (s11 : Bool) (H : Heap) (R : Ending → Heap → Prop) : Prop :=
  GoL Try.prog 70 77 L1t [0, 1, 2, 6, 8, 11] [(.pointer s0), (.slice s1 s1n s1c), (.slice s2 s2n s2c), (.pointer (some ⟨s6, 0, none⟩)), (.bool s8), (.bool s11)] H R
noncomputable def L2t : List Item := [.code (sub [1, 1, 1, 1, 1, 1] body)]
def L2 (s0 : Option Addr) (s1 : Option Addr) (s1n : Nat) (s1c : Nat) (s2 : Option Addr) (s2n : Nat) (s2c : Nat) (s6 : Nat) (s8 : Bool) (H : Heap) (R : Ending → Heap → Prop) : Prop :=
  GoL Try.prog 70 77 L2t [0, 1, 2, 6, 8] [(.pointer s0), (.slice s1 s1n s1c), (.slice s2 s2n s2c), (.pointer (some ⟨s6, 0, none⟩)), (.bool s8)] H R
noncomputable def L3t : List Item := [.code (sub [1, 1, 1, 1, 1, 1, 1] body)]
def L3 (s0 : Option Addr) (s1 : Option Addr) (s1n : Nat) (s1c : Nat) (s2 : Option Addr) (s2n : Nat) (s2c : Nat) (H : Heap) (R : Ending → Heap → Prop) : Prop :=
  GoL Try.prog 70 77 L3t [0, 1, 2] [(.pointer s0), (.slice s1 s1n s1c), (.slice s2 s2n s2c)] H R
def L0n (s0 : Option Addr) (s1 : Option Addr) (s1n : Nat) (s1c : Nat) (s2 : Option Addr) (s2n : Nat) (s2c : Nat) (s6 : Nat) (s8 : Bool) (H : Heap) (R : Ending → Heap → Prop) : Prop :=
  (
    nilD s0 fun a =>
    ldMap H (Addr.add a 3) fun m =>
    ldInt H ⟨s6, 0, none⟩ .i64 fun n =>
    ldInt H ⟨s6, 1, none⟩ .i64 fun n1 =>
    newD H (.cells ⟨[]⟩ 129) fun r H1 =>
    valD Try.prog (Instr.lookup 128 (.map m) (.agg ⟨[(.int .i64 n), (.int .i64 n1)]⟩) true) H1 (panK R) fun v H2 =>
    tTup v fun l =>
    tCons l fun c l1 =>
    tAgg c fun l3 =>
    tNil l3 <|
    tCons l1 fun c1 l2 =>
    tBool c1 fun b =>
    tNil l2 <|
    L1 s0 s1 s1n s1c s2 s2n s2c s6 s8 b H2 R) ∧
  (
    nilD s0 fun a1 =>
    ldMap H (Addr.add a1 3) fun m1 =>
    ldInt H ⟨s6, 0, none⟩ .i64 fun n2 =>
    ldInt H ⟨s6, 1, none⟩ .i64 fun n3 =>
    valD Try.prog (Instr.lookup 128 (.map m1) (.agg ⟨[(.int .i64 n2), (.int .i64 n3)]⟩) true) H (panK R) fun v1 H3 =>
    tTup v1 fun l4 =>
    tCons l4 fun c2 l5 =>
    tAgg c2 fun l7 =>
    tNil l7 <|
    tCons l5 fun c3 l6 =>
    tBool c3 fun b1 =>
    tNil l6 <|
    newD H3 (.cells ⟨[]⟩ 129) fun r1 H4 =>
    L1 s0 s1 s1n s1c s2 s2n s2c s6 s8 b1 H4 R)
theorem L0_step {s0 : Option Addr} {s1 : Option Addr} {s1n : Nat} {s1c : Nat} {s2 : Option Addr} {s2n : Nat} {s2c : Nat} {s6 : Nat} {s8 : Bool} {H : Heap} {R : Ending → Heap → Prop} (h : L0n s0 s1 s1n s1c s2 s2n s2c s6 s8 H R) : L0 s0 s1 s1n s1c s2 s2n s2c s6 s8 H R :=
  goL_of_den (an := an) (fuel := 100000) (X := L0n s0 s1 s1n s1c s2 s2n s2c s6 s8 H R) mixed fn (by kernel_rfl) (fun ρ0 => by kernel_rfl) h
def L1n (s0 : Option Addr) (s1 : Option Addr) (s1n : Nat) (s1c : Nat) (s2 : Option Addr) (s2n : Nat) (s2c : Nat) (s6 : Nat) (s8 : Bool) (s11 : Bool) (H : Heap) (R : Ending → Heap → Prop) : Prop :=
  iteB (!s11) (
    R (.returned (.tuple ⟨[]⟩)) H) <|
  L2 s0 s1 s1n s1c s2 s2n s2c s6 s8 H R
theorem L1_step {s0 : Option Addr} {s1 : Option Addr} {s1n : Nat} {s1c : Nat} {s2 : Option Addr} {s2n : Nat} {s2c : Nat} {s6 : Nat} {s8 : Bool} {s11 : Bool} {H : Heap} {R : Ending → Heap → Prop} (h : L1n s0 s1 s1n s1c s2 s2n s2c s6 s8 s11 H R) : L1 s0 s1 s1n s1c s2 s2n s2c s6 s8 s11 H R :=
  goL_of_den (an := an) (fuel := 100000) (X := L1n s0 s1 s1n s1c s2 s2n s2c s6 s8 s11 H R) mixed fn (by kernel_rfl) (fun ρ0 => by kernel_rfl) h
def L2n (s0 : Option Addr) (s1 : Option Addr) (s1n : Nat) (s1c : Nat) (s2 : Option Addr) (s2n : Nat) (s2c : Nat) (s6 : Nat) (s8 : Bool) (H : Heap) (R : Ending → Heap → Prop) : Prop :=
  nilD s0 fun a =>
  ldInt H ⟨s6, 0, none⟩ .i64 fun n =>
  ldInt H (Addr.add a 1) .i64 fun n1 =>
  iteB (n == n1) (
    iteB s8 (
      R (.returned (.tuple ⟨[]⟩)) H) <|
    L3 s0 s1 s1n s1c s2 s2n s2c H R) <|
  L3 s0 s1 s1n s1c s2 s2n s2c H R
theorem L2_step {s0 : Option Addr} {s1 : Option Addr} {s1n : Nat} {s1c : Nat} {s2 : Option Addr} {s2n : Nat} {s2c : Nat} {s6 : Nat} {s8 : Bool} {H : Heap} {R : Ending → Heap → Prop} (h : L2n s0 s1 s1n s1c s2 s2n s2c s6 s8 H R) : L2 s0 s1 s1n s1c s2 s2n s2c s6 s8 H R :=
  goL_of_den (an := an) (fuel := 100000) (X := L2n s0 s1 s1n s1c s2 s2n s2c s6 s8 H R) mixed fn (by kernel_rfl) (fun ρ0 => by kernel_rfl) h
def L3n (s0 : Option Addr) (s1 : Option Addr) (s1n : Nat) (s1c : Nat) (s2 : Option Addr) (s2n : Nat) (s2c : Nat) (H : Heap) (R : Ending → Heap → Prop) : Prop :=
  nilD s0 fun a =>
  ldPtr H a fun p =>
  callD Try.prog 80 [(.pointer p), (.slice s1 s1n s1c)] H (panK R) fun v H1 =>
  tTup v fun l =>
  tCons l fun c l1 =>
  tInt c .i64 fun n =>
  tCons l1 fun c1 l2 =>
  tIf c1 fun i =>
  tNil l2 <|
  nilD s0 fun a1 =>
  ldPtr H1 a1 fun p1 =>
  callD Try.prog 80 [(.pointer p1), (.slice s2 s2n s2c)] H1 (panK R) fun v1 H2 =>
  tTup v1 fun l3 =>
  tCons l3 fun c2 l4 =>
  tInt c2 .i64 fun n1 =>
  tCons l4 fun c3 l5 =>
  tIf c3 fun i1 =>
  tNil l5 <|
  R (.returned (.tuple ⟨[]⟩)) H2
theorem L3_step {s0 : Option Addr} {s1 : Option Addr} {s1n : Nat} {s1c : Nat} {s2 : Option Addr} {s2n : Nat} {s2c : Nat} {H : Heap} {R : Ending → Heap → Prop} (h : L3n s0 s1 s1n s1c s2 s2n s2c H R) : L3 s0 s1 s1n s1c s2 s2n s2c H R :=
  goL_of_den (an := an) (fuel := 100000) (X := L3n s0 s1 s1n s1c s2 s2n s2c H R) mixed fn (by kernel_rfl) (fun ρ0 => by kernel_rfl) h
def go (s0 : Option Addr) (s1 : Option Addr) (s1n : Nat) (s1c : Nat) (s2 : Option Addr) (s2n : Nat) (s2c : Nat) (H : Heap) (R : Ending → Heap → Prop) : Prop :=
  callD Try.prog 37 [(.slice s1 s1n s1c)] H (panK R) fun v H1 =>
  tAgg v fun l =>
  tCons l fun c l1 =>
  tInt c .i64 fun n =>
  tCons l1 fun c1 l2 =>
  tInt c1 .i64 fun n1 =>
  tNil l2 <|
  newD H1 (.cells ⟨[(.int .i64 (0 : Int)), (.int .i64 (0 : Int))]⟩ 75) fun r H2 =>
  st1 H2 ⟨r, 0, none⟩ (.int .i64 n) fun H3 =>
  st1 H3 ⟨r, 1, none⟩ (.int .i64 n1) fun H4 =>
  nilD s0 fun a =>
  ldInt H4 (Addr.add a 2) .i64 fun n2 =>
  newD H4 (.cells ⟨[(.int .i64 (0 : Int)), (.int .i64 (0 : Int))]⟩ 75) fun r1 H5 =>
  st1 H5 ⟨r1, 0, none⟩ (.int .i64 (IntKind.wrap .i64 (n2 + (1 : Int)))) fun H6 =>
  st1 H6 ⟨r1, 1, none⟩ (.int .i64 (0 : Int)) fun H7 =>
  ldInt H7 ⟨r1, 0, none⟩ .i64 fun n3 =>
  ldInt H7 ⟨r1, 1, none⟩ .i64 fun n4 =>
  ldInt H7 ⟨r, 0, none⟩ .i64 fun n5 =>
  ldInt H7 ⟨r, 1, none⟩ .i64 fun n6 =>
  callD Try.prog 41 [(.agg ⟨[(.int .i64 n3), (.int .i64 n4)]⟩), (.agg ⟨[(.int .i64 n5), (.int .i64 n6)]⟩)] H7 (panK R) fun v1 H8 =>
  tBool v1 fun b =>
  iteB (!b) (
    R (.returned (.tuple ⟨[]⟩)) H8) <|
  callD Try.prog 61 [(.slice s1 s1n s1c)] H8 (panK R) fun v2 H9 =>
  tAgg v2 fun l3 =>
  tCons l3 fun c2 l4 =>
  tInt c2 .i64 fun n7 =>
  tCons l4 fun c3 l5 =>
  tInt c3 .i64 fun n8 =>
  tCons l5 fun c4 l6 =>
  tBool c4 fun b1 =>
  tNil l6 <|
  nilD s0 fun a1 =>
  ldInt H9 (Addr.add a1 1) .i64 fun n9 =>
  newD H9 (.cells ⟨[(.int .i64 (0 : Int)), (.int .i64 (0 : Int))]⟩ 75) fun r2 H10 =>
  st1 H10 ⟨r2, 0, none⟩ (.int .i64 (IntKind.wrap .i64 (n9 + (1 : Int)))) fun H11 =>
  st1 H11 ⟨r2, 1, none⟩ (.int .i64 (0 : Int)) fun H12 =>
  ldInt H12 ⟨r2, 0, none⟩ .i64 fun n10 =>
  ldInt H12 ⟨r2, 1, none⟩ .i64 fun n11 =>
  ldInt H12 ⟨r, 0, none⟩ .i64 fun n12 =>
  ldInt H12 ⟨r, 1, none⟩ .i64 fun n13 =>
  callD Try.prog 41 [(.agg ⟨[(.int .i64 n10), (.int .i64 n11)]⟩), (.agg ⟨[(.int .i64 n12), (.int .i64 n13)]⟩)] H12 (panK R) fun v3 H13 =>
  tBool v3 fun b2 =>
  iteB b2 (
    nilD s0 fun a2 =>
    ldMap H13 (Addr.add a2 3) fun m =>
    valD Try.prog (Builtin.len_ #[128] 3 ⟨[(.map m)]⟩) H13 (panK R) fun v4 H14 =>
    tInt v4 .i64 fun n14 =>
    iteB (decide (n14 > (0 : Int))) (
      L0 s0 s1 s1n s1c s2 s2n s2c r b1 H14 R) <|
    L2 s0 s1 s1n s1c s2 s2n s2c r b1 H14 R) <|
  L2 s0 s1 s1n s1c s2 s2n s2c r b1 H13 R
theorem calls {s0 : Option Addr} {s1 : Option Addr} {s1n : Nat} {s1c : Nat} {s2 : Option Addr} {s2n : Nat} {s2c : Nat} {H : Heap} {R : Ending → Heap → Prop} (h : go s0 s1 s1n s1c s2 s2n s2c H R) : CallsH Try.prog 70 ⟨[(.pointer s0), (.slice s1 s1n s1c), (.slice s2 s2n s2c)]⟩ H R :=
  callsH_of_den (an := an) (fuel := 100000) (X := go s0 s1 s1n s1c s2 s2n s2c H R) (c := body) mixed fn (by kernel_rfl) (by kernel_rfl) (by kernel_rfl) ok (by kernel_rfl) h
end F70
/-! ### 71 "(*pub-stadtholder/pub/etcdserver/storage/mvcc.kvHasher).Hash" -/
namespace F71
def an : Ann := { kinds := [(1004, .grow)], taus := [(1, [[0, 1, 2, 5, 6, 7, 9, 10, 11, 3, 8, 12, 4, 13, 14]])], pairs := [], lab := [] }
noncomputable def body : Code := (Try.f71.body).getD .skip
theorem fn : Try.prog.funcs[71]? = some Try.f71 := by kernel_rfl
theorem ok : codeOk an 17 body = true := by kernel_rfl
def go (h1 : Option Addr) (H : Heap) (R : Ending → Heap → Prop) : Prop :=
  newD H (.cells ⟨[(.int .u32 (0 : Int)), (.int .i64 (0 : Int)), (.int .i64 (0 : Int))]⟩ 139) fun r H1 =>
  nilD h1 fun a =>
  nilD h1 fun a1 =>
  nilD h1 fun a2 =>
  ldPtr H1 a fun p =>
  ldInt H1 (Addr.add a1 1) .i64 fun n =>
  ldInt H1 (Addr.add a2 2) .i64 fun n1 =>
  callD Try.prog 83 [(.pointer p)] H1 nope fun v H2 =>
  tInt v .u32 fun n2 =>
  andD (ExtH H1 H2) <|
  st1 H2 ⟨r, 0, none⟩ (.int .u32 n2) fun H3 =>
  st1 H3 ⟨r, 1, none⟩ (.int .i64 n) fun H4 =>
  st1 H4 ⟨r, 2, none⟩ (.int .i64 n1) fun H5 =>
  ldInt H5 ⟨r, 0, none⟩ .u32 fun n3 =>
  ldInt H5 ⟨r, 1, none⟩ .i64 fun n4 =>
  ldInt H5 ⟨r, 2, none⟩ .i64 fun n5 =>
  R (.returned (.agg ⟨[(.int .u32 n3), (.int .i64 n4), (.int .i64 n5)]⟩)) H5
theorem calls {h1 : Option Addr} {H : Heap} {R : Ending → Heap → Prop} (h : go h1 H R) : CallsH Try.prog 71 ⟨[(.pointer h1)]⟩ H R :=
  callsH_of_den (an := an) (fuel := 100000) (X := go h1 H R) (c := body) mixed fn (by kernel_rfl) (by kernel_rfl) (by kernel_rfl) ok (by kernel_rfl) h
end F71
/-! ### 72 "pub-stadtholder/pub/etcdserver/etcdserver/txn.pruneKVs" -/
namespace F72
def an : Ann := { kinds := [], taus := [(4, [[0, 1, 2, 4, 5, 6, 7, 9, 3, 8, 10, 11, 12, 13]])], pairs := [], lab := [(40000003, [0, 1, 4, 10, 11]), (40000008, [0, 1, 4, 10, 11])] }
noncomputable def body : Code := (Try.f72.body).getD .skip
theorem fn : Try.prog.funcs[72]? = some Try.f72 := by kernel_rfl
theorem ok : codeOk an 49 body = true := by kernel_rfl
noncomputable def L0t : List Item := [.code (sub [1, 0, 1, 0, 0] body), .inLoop (sub [1, 0, 1, 0, 0] body), .inBlock 0, .code (sub [1, 1] body)]
def L0 (rr : Option Addr) (isPrunable : FV) (j : Int) (s10 : Int) (s11 : Int) (H : Heap) (R : Ending → Heap → Prop) : Prop :=
  GoL Try.prog 72 49 L0t [0, 1, 4, 10, 11] [(.pointer rr), (FV.v isPrunable), (.int .i64 j), (.int .i64 s10), (.int .i64 s11)] H R
noncomputable def L1t : List Item := [.code (sub [1, 0, 1, 0, 0, 1, 1, 1] body), .inLoop (sub [1, 0, 1, 0, 0] body), .inBlock 0, .code (sub [1, 1] body)]
def L1 (rr : Option Addr) (isPrunable : FV) (j : Int) (s10 : Int) (s11 : Int) (H : Heap) (R : Ending → Heap → Prop) : Prop :=
  GoL Try.prog 72 49 L1t [0, 1, 4, 10, 11] [(.pointer rr), (FV.v isPrunable), (.int .i64 j), (.int .i64 s10), (.int .i64 s11)] H R
def L0n (rr : Option Addr) (isPrunable : FV) (j : Int) (s10 : Int) (s11 : Int) (H : Heap) (R : Ending → Heap → Prop) : Prop :=
  iteB (decide (s11 < s10)) (
    nilD rr fun a =>
    nilD rr fun a1 =>
    ldSl H a fun q qn qc =>
    ldSl H a1 fun q1 q1n q1c =>
    idxD q1 q1n s11 fun a2 =>
    ldPtr H (Addr.add a2 (Int.toNat s11 * 1)) fun p =>
    idxD q qn j fun a3 =>
    st1 H (Addr.add a3 (Int.toNat j * 1)) (.pointer p) fun H1 =>
    nilD rr fun a4 =>
    ldSl H1 a4 fun q2 q2n q2c =>
    idxD q2 q2n s11 fun a5 =>
    ldPtr H1 (Addr.add a5 (Int.toNat s11 * 1)) fun p1 =>
    callV Try.prog (FV.v isPrunable) [(.pointer p1)] H1 (panK R) fun v H2 =>
    tBool v fun b =>
    iteB (!b) (
      L1 rr isPrunable (IntKind.wrap .i64 (j + (1 : Int))) s10 s11 H2 R) <|
    L1 rr isPrunable j s10 s11 H2 R) <|
  nilD rr fun a6 =>
  ldSl H a6 fun q3 q3n q3c =>
  bndD j q3c fun k =>
  nilD rr fun a7 =>
  st1 H a7 (.slice (slP q3 0 q3c 1) k q3c) fun H3 =>
  R (.returned (.tuple ⟨[]⟩)) H3
theorem L0_step {rr : Option Addr} {isPrunable : FV} {j : Int} {s10 : Int} {s11 : Int} {H : Heap} {R : Ending → Heap → Prop} (h : L0n rr isPrunable j s10 s11 H R) : L0 rr isPrunable j s10 s11 H R :=
  goL_of_den (an := an) (fuel := 100000) (X := L0n rr isPrunable j s10 s11 H R) mixed fn (by kernel_rfl) (fun ρ0 => by kernel_rfl) h
def L1n (rr : Option Addr) (isPrunable : FV) (j : Int) (s10 : Int) (s11 : Int) (H : Heap) (R : Ending → Heap → Prop) : Prop :=
  L0 rr isPrunable j s10 (IntKind.wrap .i64 (s11 + (1 : Int))) H R
theorem L1_step {rr : Option Addr} {isPrunable : FV} {j : Int} {s10 : Int} {s11 : Int} {H : Heap} {R : Ending → Heap → Prop} (h : L1n rr isPrunable j s10 s11 H R) : L1 rr isPrunable j s10 s11 H R :=
  goL_of_den (an := an) (fuel := 100000) (X := L1n rr isPrunable j s10 s11 H R) mixed fn (by kernel_rfl) (fun ρ0 => by kernel_rfl) h
def go (rr : Option Addr) (isPrunable : FV) (H : Heap) (R : Ending → Heap → Prop) : Prop :=
  nilD rr fun a =>
  ldSl H a fun q qn qc =>
  L0 rr isPrunable (0 : Int) ((qn : Nat) : Int) (0 : Int) H R
theorem calls {rr : Option Addr} {isPrunable : FV} {H : Heap} {R : Ending → Heap → Prop} (h : go rr isPrunable H R) : CallsH Try.prog 72 ⟨[(.pointer rr), (FV.v isPrunable)]⟩ H R :=
  callsH_of_den (an := an) (fuel := 100000) (X := go rr isPrunable H R) (c := body) mixed fn (by kernel_rfl) (by kernel_rfl) (by kernel_rfl) ok (by kernel_rfl) h
end F72
/-! ### 73 "pub-stadtholder/pub/etcdserver/etcdserver/txn.filterRangeResults$1" -/
namespace F73
def an : Ann := { kinds := [], taus := [(1, [[0, 1, 2, 3, 4, 5, 6, 7, 8, 9]])], pairs := [], lab := [] }
noncomputable def body : Code := (Try.f73.body).getD .skip
theorem fn : Try.prog.funcs[73]? = some Try.f73 := by kernel_rfl
theorem ok : codeOk an 13 body = true := by kernel_rfl
def go (kv : Option Addr) (s1 : Addr) (H : Heap) (R : Ending → Heap → Prop) : Prop :=
  nilD kv fun a =>
  ldInt H (Addr.add a 2) .i64 fun n =>
  ldPtr H s1 fun p =>
  nilD p fun a1 =>
  ldInt H (Addr.add a1 10) .i64 fun n1 =>
  R (.returned (.bool (decide (n > n1)))) H
theorem calls {kv : Option Addr} {s1 : Addr} {H : Heap} {R : Ending → Heap → Prop} (h : go kv s1 H R) : CallsH Try.prog 73 ⟨[(.pointer kv), (.pointer (some s1))]⟩ H R :=
  callsH_of_den (an := an) (fuel := 100000) (X := go kv s1 H R) (c := body) mixed fn (by kernel_rfl) (by kernel_rfl) (by kernel_rfl) ok (by kernel_rfl) h
end F73
/-! ### 74 "pub-stadtholder/pub/etcdserver/etcdserver/txn.filterRangeResults$2" -/
namespace F74
def an : Ann := { kinds := [], taus := [(1, [[0, 1, 2, 3, 4, 5, 6, 7, 8, 9]])], pairs := [], lab := [] }
noncomputable def body : Code := (Try.f74.body).getD .skip
theorem fn : Try.prog.funcs[74]? = some Try.f74 := by kernel_rfl
theorem ok : codeOk an 13 body = true := by kernel_rfl
def go (kv : Option Addr) (s1 : Addr) (H : Heap) (R : Ending → Heap → Prop) : Prop :=
  nilD kv fun a =>
  ldInt H (Addr.add a 2) .i64 fun n =>
  ldPtr H s1 fun p =>
  nilD p fun a1 =>
  ldInt H (Addr.add a1 9) .i64 fun n1 =>
  R (.returned (.bool (decide (n < n1)))) H
theorem calls {kv : Option Addr} {s1 : Addr} {H : Heap} {R : Ending → Heap → Prop} (h : go kv s1 H R) : CallsH Try.prog 74 ⟨[(.pointer kv), (.pointer (some s1))]⟩ H R :=
  callsH_of_den (an := an) (fuel := 100000) (X := go kv s1 H R) (c := body) mixed fn (by kernel_rfl) (by kernel_rfl) (by kernel_rfl) ok (by kernel_rfl) h
end F74
/-! ### 75 "pub-stadtholder/pub/etcdserver/etcdserver/txn.filterRangeResults$3" -/
namespace F75
def an : Ann := { kinds := [], taus := [(1, [[0, 1, 2, 3, 4, 5, 6, 7, 8, 9]])], pairs := [], lab := [] }
noncomputable def body : Code := (Try.f75.body).getD .skip
theorem fn : Try.prog.funcs[75]? = some Try.f75 := by kernel_rfl
theorem ok : codeOk an 13 body = true := by kernel_rfl
def go (kv : Option Addr) (s1 : Addr) (H : Heap) (R : Ending → Heap → Prop) : Prop :=
  nilD kv fun a =>
  ldInt H (Addr.add a 1) .i64 fun n =>
  ldPtr H s1 fun p =>
  nilD p fun a1 =>
  ldInt H (Addr.add a1 12) .i64 fun n1 =>
  R (.returned (.bool (decide (n > n1)))) H
theorem calls {kv : Option Addr} {s1 : Addr} {H : Heap} {R : Ending → Heap → Prop} (h : go kv s1 H R) : CallsH Try.prog 75 ⟨[(.pointer kv), (.pointer (some s1))]⟩ H R :=
  callsH_of_den (an := an) (fuel := 100000) (X := go kv s1 H R) (c := body) mixed fn (by kernel_rfl) (by kernel_rfl) (by kernel_rfl) ok (by kernel_rfl) h
end F75
/-! ### 76 "pub-stadtholder/pub/etcdserver/etcdserver/txn.filterRangeResults$4" -/
namespace F76
def an : Ann := { kinds := [], taus := [(1, [[0, 1, 2, 3, 4, 5, 6, 7, 8, 9]])], pairs := [], lab := [] }
noncomputable def body : Code := (Try.f76.body).getD .skip
theorem fn : Try.prog.funcs[76]? = some Try.f76 := by kernel_rfl
theorem ok : codeOk an 13 body = true := by kernel_rfl
def go (kv : Option Addr) (s1 : Addr) (H : Heap) (R : Ending → Heap → Prop) : Prop :=
  nilD kv fun a =>
  ldInt H (Addr.add a 1) .i64 fun n =>
  ldPtr H s1 fun p =>
  nilD p fun a1 =>
  ldInt H (Addr.add a1 11) .i64 fun n1 =>
  R (.returned (.bool (decide (n < n1)))) H
theorem calls {kv : Option Addr} {s1 : Addr} {H : Heap} {R : Ending → Heap → Prop} (h : go kv s1 H R) : CallsH Try.prog 76 ⟨[(.pointer kv), (.pointer (some s1))]⟩ H R :=
  callsH_of_den (an := an) (fuel := 100000) (X := go kv s1 H R) (c := body) mixed fn (by kernel_rfl) (by kernel_rfl) (by kernel_rfl) ok (by kernel_rfl) h
end F76
/-! ### 77 "pub-stadtholder/pub/stand/binary.Uint64" -/
namespace F77
def an : Ann := { kinds := [], taus := [], pairs := [], lab := [(40000004, [0, 3, 4])] }
noncomputable def body : Code := (Try.f77.body).getD .skip
theorem fn : Try.prog.funcs[77]? = some Try.f77 := by kernel_rfl
theorem ok : codeOk an 18 body = true := by kernel_rfl
noncomputable def L0t : List Item := [.code (sub [1, 1, 0, 1, 0, 0] body), .inLoop (sub [1, 1, 0, 1, 0, 0] body), .inBlock 0, .code (sub [1, 1, 1] body)]
def L0 (b : Option Addr) (bn : Nat) (bc : Nat) (n : Int) (i : Int) (H : Heap) (R : Ending → Heap → Prop) : Prop :=
  GoL Try.prog 77 18 L0t [0, 3, 4] [(.slice b bn bc), (.int .u64 n), (.int .i64 i)] H R
def L0n (b : Option Addr) (bn : Nat) (bc : Nat) (n : Int) (i : Int) (H : Heap) (R : Ending → Heap → Prop) : Prop :=
  iteB (decide (i < (8 : Int))) (
    shD (8 : Int) <|
    idxD b bn i fun a =>
    ldInt H (Addr.add a (Int.toNat i * 1)) .u8 fun n1 =>
    L0 b bn bc (orZ .u64 (shlZ .u64 n (8 : Int)) (IntKind.wrap .u64 n1)) (IntKind.wrap .i64 (i + (1 : Int))) H R) <|
  R (.returned (.int .u64 n)) H
theorem L0_step {b : Option Addr} {bn : Nat} {bc : Nat} {n : Int} {i : Int} {H : Heap} {R : Ending → Heap → Prop} (h : L0n b bn bc n i H R) : L0 b bn bc n i H R :=
  goL_of_den (an := an) (fuel := 100000) (X := L0n b bn bc n i H R) mixed fn (by kernel_rfl) (fun ρ0 => by kernel_rfl) h
def go (b : Option Addr) (bn : Nat) (bc : Nat) (H : Heap) (R : Ending → Heap → Prop) : Prop :=
  L0 b bn bc (0 : Int) (0 : Int) H R
theorem calls {b : Option Addr} {bn : Nat} {bc : Nat} {H : Heap} {R : Ending → Heap → Prop} (h : go b bn bc H R) : CallsH Try.prog 77 ⟨[(.slice b bn bc)]⟩ H R :=
  callsH_of_den (an := an) (fuel := 100000) (X := go b bn bc H R) (c := body) mixed fn (by kernel_rfl) (by kernel_rfl) (by kernel_rfl) ok (by kernel_rfl) h
end F77
/-! ### 78 "pub-stadtholder/pub/stand/verify.Assert" -/
namespace F78
def an : Ann := { kinds := [], taus := [], pairs := [], lab := [] }
noncomputable def body : Code := (Try.f78.body).getD .skip
theorem fn : Try.prog.funcs[78]? = some Try.f78 := by kernel_rfl
theorem ok : codeOk an 10 body = true := by kernel_rfl
def go (condition : Bool) (msg : ByteArray) (v : Option Addr) (vn : Nat) (vc : Nat) (H : Heap) (R : Ending → Heap → Prop) : Prop :=
  iteB (!condition) (
    panD (.iface 9 (.string msg)) H (panK R)) <|
  R (.returned (.tuple ⟨[]⟩)) H
theorem calls {condition : Bool} {msg : ByteArray} {v : Option Addr} {vn : Nat} {vc : Nat} {H : Heap} {R : Ending → Heap → Prop} (h : go condition msg v vn vc H R) : CallsH Try.prog 78 ⟨[(.bool condition), (.string msg), (.slice v vn vc)]⟩ H R :=
  callsH_of_den (an := an) (fuel := 100000) (X := go condition msg v vn vc H R) (c := body) mixed fn (by kernel_rfl) (by kernel_rfl) (by kernel_rfl) ok (by kernel_rfl) h
end F78
/-! ### 79 "pub-stadtholder/pub/stand/crc32.New" -/
namespace F79
def an : Ann := { kinds := [], taus := [], pairs := [], lab := [] }
noncomputable def body : Code := (Try.f79.body).getD .skip
theorem fn : Try.prog.funcs[79]? = some Try.f79 := by kernel_rfl
theorem ok : codeOk an 3 body = true := by kernel_rfl
def go  (H : Heap) (R : Ending → Heap → Prop) : Prop :=
  newD H (.cells ⟨[(.int .u32 (0 : Int))]⟩ 161) fun r H1 =>
  R (.returned (.pointer (some ⟨r, 0, none⟩))) H1
theorem calls  {H : Heap} {R : Ending → Heap → Prop} (h : go  H R) : CallsH Try.prog 79 ⟨[]⟩ H R :=
  callsH_of_den (an := an) (fuel := 100000) (X := go  H R) (c := body) mixed fn (by kernel_rfl) (by kernel_rfl) (by kernel_rfl) ok (by kernel_rfl) h
end F79
/-! ### 80 "(*pub-stadtholder/pub/stand/crc32.Sum).Write" -/
namespace F80
def an : Ann := { kinds := [], taus := [], pairs := [], lab := [(40000004, [0, 1, 6, 7]), (80000008, [0, 1, 6, 7, 8]), (80000009, [0, 1, 6, 7, 8])] }
noncomputable def body : Code := (Try.f80.body).getD .skip
theorem fn : Try.prog.funcs[80]? = some Try.f80 := by kernel_rfl
theorem ok : codeOk an 46 body = true := by kernel_rfl
noncomputable def L0t : List Item := [.code (sub [1, 1, 0, 1, 0, 0] body), .inLoop (sub [1, 1, 0, 1, 0, 0] body), .inBlock 0, .code (sub [1, 1, 1] body)]
def L0 (s : Option Addr) (b : Option Addr) (bn : Nat) (bc : Nat) (n : Int) (i : Int) (H : Heap) (R : Ending → Heap → Prop) : Prop :=
  GoL Try.prog 80 46 L0t [0, 1, 6, 7] [(.pointer s), (.slice b bn bc), (.int .u32 n), (.int .i64 i)] H R
noncomputable def L1t : List Item := [.code (sub [1, 1, 0, 1, 0, 0, 1, 0, 0, 1, 1, 0, 0] body), .inLoop (sub [1, 1, 0, 1, 0, 0, 1, 0, 0, 1, 1, 0, 0] body), .inBlock 2, .inBlock 1, .code (sub [1, 1, 0, 1, 0, 0, 1, 1] body), .inLoop (sub [1, 1, 0, 1, 0, 0] body), .inBlock 0, .code (sub [1, 1, 1] body)]
def L1 (s : Option Addr) (b : Option Addr) (bn : Nat) (bc : Nat) (n : Int) (i : Int) (k : Int) (H : Heap) (R : Ending → Heap → Prop) : Prop :=
  GoL Try.prog 80 46 L1t [0, 1, 6, 7, 8] [(.pointer s), (.slice b bn bc), (.int .u32 n), (.int .i64 i), (.int .i64 k)] H R
noncomputable def L2t : List Item := [.code (sub [1, 1, 0, 1, 0, 0, 1, 0, 0, 1, 1, 0, 0, 1, 1] body), .inLoop (sub [1, 1, 0, 1, 0, 0, 1, 0, 0, 1, 1, 0, 0] body), .inBlock 2, .inBlock 1, .code (sub [1, 1, 0, 1, 0, 0, 1, 1] body), .inLoop (sub [1, 1, 0, 1, 0, 0] body), .inBlock 0, .code (sub [1, 1, 1] body)]
def L2 (s : Option Addr) (b : Option Addr) (bn : Nat) (bc : Nat) (n : Int) (i : Int) (k : Int) (H : Heap) (R : Ending → Heap → Prop) : Prop :=
  GoL Try.prog 80 46 L2t [0, 1, 6, 7, 8] [(.pointer s), (.slice b bn bc), (.int .u32 n), (.int .i64 i), (.int .i64 k)] H R
def L0n (s : Option Addr) (b : Option Addr) (bn : Nat) (bc : Nat) (n : Int) (i : Int) (H : Heap) (R : Ending → Heap → Prop) : Prop :=
  iteB (decide (i < ((bn : Nat) : Int))) (
    idxD b bn i fun a =>
    ldInt H (Addr.add a (Int.toNat i * 1)) .u8 fun n1 =>
    L1 s b bn bc (xorZ .u32 n (IntKind.wrap .u32 n1)) i (0 : Int) H R) <|
  nilD s fun a1 =>
  st1 H a1 (.int .u32 (xorZ .u32 (IntKind.max .u32) n)) fun H1 =>
  R (.returned (.tuple ⟨[(.int .i64 ((bn : Nat) : Int)), .nilIface]⟩)) H1
theorem L0_step {s : Option Addr} {b : Option Addr} {bn : Nat} {bc : Nat} {n : Int} {i : Int} {H : Heap} {R : Ending → Heap → Prop} (h : L0n s b bn bc n i H R) : L0 s b bn bc n i H R :=
  goL_of_den (an := an) (fuel := 100000) (X := L0n s b bn bc n i H R) mixed fn (by kernel_rfl) (fun ρ0 => by kernel_rfl) h
def L1n (s : Option Addr) (b : Option Addr) (bn : Nat) (bc : Nat) (n : Int) (i : Int) (k : Int) (H : Heap) (R : Ending → Heap → Prop) : Prop :=
  iteB (decide (k < (8 : Int))) (
    iteB ((andZ .u32 n (1 : Int)) == (1 : Int)) (
      shD (1 : Int) <|
      L2 s b bn bc (xorZ .u32 (shrZ .u32 n (1 : Int)) (2197175160 : Int)) i k H R) <|
    shD (1 : Int) <|
    L2 s b bn bc (shrZ .u32 n (1 : Int)) i k H R) <|
  L0 s b bn bc n (IntKind.wrap .i64 (i + (1 : Int))) H R
theorem L1_step {s : Option Addr} {b : Option Addr} {bn : Nat} {bc : Nat} {n : Int} {i : Int} {k : Int} {H : Heap} {R : Ending → Heap → Prop} (h : L1n s b bn bc n i k H R) : L1 s b bn bc n i k H R :=
  goL_of_den (an := an) (fuel := 100000) (X := L1n s b bn bc n i k H R) mixed fn (by kernel_rfl) (fun ρ0 => by kernel_rfl) h
def L2n (s : Option Addr) (b : Option Addr) (bn : Nat) (bc : Nat) (n : Int) (i : Int) (k : Int) (H : Heap) (R : Ending → Heap → Prop) : Prop :=
  L1 s b bn bc n i (IntKind.wrap .i64 (k + (1 : Int))) H R
theorem L2_step {s : Option Addr} {b : Option Addr} {bn : Nat} {bc : Nat} {n : Int} {i : Int} {k : Int} {H : Heap} {R : Ending → Heap → Prop} (h : L2n s b bn bc n i k H R) : L2 s b bn bc n i k H R :=
  goL_of_den (an := an) (fuel := 100000) (X := L2n s b bn bc n i k H R) mixed fn (by kernel_rfl) (fun ρ0 => by kernel_rfl) h
def go (s : Option Addr) (b : Option Addr) (bn : Nat) (bc : Nat) (H : Heap) (R : Ending → Heap → Prop) : Prop :=
  nilD s fun a =>
  ldInt H a .u32 fun n =>
  L0 s b bn bc (xorZ .u32 (IntKind.max .u32) n) (0 : Int) H R
theorem calls {s : Option Addr} {b : Option Addr} {bn : Nat} {bc : Nat} {H : Heap} {R : Ending → Heap → Prop} (h : go s b bn bc H R) : CallsH Try.prog 80 ⟨[(.pointer s), (.slice b bn bc)]⟩ H R :=
  callsH_of_den (an := an) (fuel := 100000) (X := go s b bn bc H R) (c := body) mixed fn (by kernel_rfl) (by kernel_rfl) (by kernel_rfl) ok (by kernel_rfl) h
end F80
/-! ### 81 "pub-stadtholder/pub/etcdserver/storage/schema.Key" -/
namespace F81
def an : Ann := { kinds := [], taus := [], pairs := [], lab := [] }
noncomputable def body : Code := (Try.f81.body).getD .skip
theorem fn : Try.prog.funcs[81]? = some Try.f81 := by kernel_rfl
theorem ok : codeOk an 3 body = true := by kernel_rfl
def go  (H : Heap) (R : Ending → Heap → Prop) : Prop :=
  R (.returned (.iface 164 (.agg ⟨[(.int .i64 (1 : Int)), (.string (ByteArray.mk #[107, 101, 121])), (.bool true)]⟩))) H
theorem calls  {H : Heap} {R : Ending → Heap → Prop} (h : go  H R) : CallsH Try.prog 81 ⟨[]⟩ H R :=
  callsH_of_den (an := an) (fuel := 100000) (X := go  H R) (c := body) mixed fn (by kernel_rfl) (by kernel_rfl) (by kernel_rfl) ok (by kernel_rfl) h
end F81
/-! ### 82 "pub-stadtholder/pub/stand/proto.Marshal" -/
namespace F82
def an : Ann := { kinds := [], taus := [], pairs := [], lab := [] }
noncomputable def body : Code := (Try.f82.body).getD .skip
theorem fn : Try.prog.funcs[82]? = some Try.f82 := by kernel_rfl
theorem ok : codeOk an 6 body = true := by kernel_rfl
def go (m : IV) (H : Heap) (R : Ending → Heap → Prop) : Prop :=
  callI Try.prog (IV.v m) "PutFields" [] H (panK R) fun v H1 =>
  tSl v fun q qn qc =>
  R (.returned (.tuple ⟨[(.slice q qn qc), .nilIface]⟩)) H1
theorem calls {m : IV} {H : Heap} {R : Ending → Heap → Prop} (h : go m H R) : CallsH Try.prog 82 ⟨[(IV.v m)]⟩ H R :=
  callsH_of_den (an := an) (fuel := 100000) (X := go m H R) (c := body) mixed fn (by kernel_rfl) (by kernel_rfl) (by kernel_rfl) ok (by kernel_rfl) h
end F82
/-! ### 83 "(*pub-stadtholder/pub/stand/crc32.Sum).Sum32" -/
namespace F83
def an : Ann := { kinds := [], taus := [], pairs := [], lab := [] }
noncomputable def body : Code := (Try.f83.body).getD .skip
theorem fn : Try.prog.funcs[83]? = some Try.f83 := by kernel_rfl
theorem ok : codeOk an 7 body = true := by kernel_rfl
def go (s : Option Addr) (H : Heap) (R : Ending → Heap → Prop) : Prop :=
  nilD s fun a =>
  ldInt H a .u32 fun n =>
  R (.returned (.int .u32 n)) H
theorem calls {s : Option Addr} {H : Heap} {R : Ending → Heap → Prop} (h : go s H R) : CallsH Try.prog 83 ⟨[(.pointer s)]⟩ H R :=
  callsH_of_den (an := an) (fuel := 100000) (X := go s H R) (c := body) mixed fn (by kernel_rfl) (by kernel_rfl) (by kernel_rfl) ok (by kernel_rfl) h
end F83
/-! ### 99 "(*pub-stadtholder/impl.below).Write" -/
namespace F99
def an : Ann := { kinds := [(1006, .read), (1007, .grow)], taus := [(1, [[0, 1, 2, 3, 5, 4, 6, 7, 8, 9, 10, 11]])], pairs := [], lab := [] }
noncomputable def body : Code := (Try.f99.body).getD .skip
theorem fn : Try.prog.funcs[99]? = some Try.f99 := by kernel_rfl
theorem ok : codeOk an 19 body = true := by kernel_rfl
def go (b : Option Addr) (p : Option Addr) (pn : Nat) (pc : Nat) (H : Heap) (R : Ending → Heap → Prop) : Prop :=
  nilD b fun a =>
  ldSl H a fun q qn qc =>
  bsD H p pn fun s =>
  newD H (.cells ⟨[(.string s)]⟩ 9) fun r H1 =>
  apD H1 1 16 [(.string (ByteArray.mk #[]))] 9 q qn qc (some ⟨r, 0, none⟩) 1 fun q1 q1n q1c H2 =>
  nilD b fun a1 =>
  st1 H2 a1 (.slice q1 q1n q1c) fun H3 =>
  R (.returned (.tuple ⟨[(.int .i64 ((pn : Nat) : Int)), .nilIface]⟩)) H3
theorem calls {b : Option Addr} {p : Option Addr} {pn : Nat} {pc : Nat} {H : Heap} {R : Ending → Heap → Prop} (h : go b p pn pc H R) : CallsH Try.prog 99 ⟨[(.pointer b), (.slice p pn pc)]⟩ H R :=
  callsH_of_den (an := an) (fuel := 100000) (X := go b p pn pc H R) (c := body) mixed fn (by kernel_rfl) (by kernel_rfl) (by kernel_rfl) ok (by kernel_rfl) h
end F99
/-! ### 100 "(*pub-stadtholder/pub/stand/mvccpb.KeyValue).PutFields" -/
namespace F100
def an : Ann := { kinds := [], taus := [], pairs := [], lab := [(10000005, [0, 3]), (10000010, [0, 3])] }
noncomputable def body : Code := (Try.f100.body).getD .skip
theorem fn : Try.prog.funcs[100]? = some Try.f100 := by kernel_rfl
theorem ok : codeOk an 52 body = true := by kernel_rfl
noncomputable def L0t : List Item := [.code (sub [1, 1, 1] body)]
def L0 (x : Option Addr) (b : Option Addr) (bn : Nat) (bc : Nat) (H : Heap) (R : Ending → Heap → Prop) : Prop :=
  GoL Try.prog 100 52 L0t [0, 3] [(.pointer x), (.slice b bn bc)] H R
noncomputable def L1t : List Item := [.code (sub [1, 1, 1, 1, 1, 1, 1] body)]
def L1 (x : Option Addr) (b : Option Addr) (bn : Nat) (bc : Nat) (H : Heap) (R : Ending → Heap → Prop) : Prop :=
  GoL Try.prog 100 52 L1t [0, 3] [(.pointer x), (.slice b bn bc)] H R
def L0n (x : Option Addr) (b : Option Addr) (bn : Nat) (bc : Nat) (H : Heap) (R : Ending → Heap → Prop) : Prop :=
  nilD x fun a =>
  ldInt H (Addr.add a 1) .i64 fun n =>
  callD Try.prog 102 [(.slice b bn bc), (.int .i64 (2 : Int)), (.int .i64 n)] H (panK R) fun v H1 =>
  tSl v fun q qn qc =>
  nilD x fun a1 =>
  ldInt H1 (Addr.add a1 2) .i64 fun n1 =>
  callD Try.prog 102 [(.slice q qn qc), (.int .i64 (3 : Int)), (.int .i64 n1)] H1 (panK R) fun v1 H2 =>
  tSl v1 fun q1 q1n q1c =>
  nilD x fun a2 =>
  ldInt H2 (Addr.add a2 3) .i64 fun n2 =>
  callD Try.prog 102 [(.slice q1 q1n q1c), (.int .i64 (4 : Int)), (.int .i64 n2)] H2 (panK R) fun v2 H3 =>
  tSl v2 fun q2 q2n q2c =>
  nilD x fun a3 =>
  ldSl H3 (Addr.add a3 4) fun q3 q3n q3c =>
  iteB (decide (((q3n : Nat) : Int) > (0 : Int))) (
    nilD x fun a4 =>
    ldSl H3 (Addr.add a4 4) fun q4 q4n q4c =>
    callD Try.prog 101 [(.slice q2 q2n q2c), (.int .i64 (5 : Int)), (.slice q4 q4n q4c)] H3 (panK R) fun v3 H4 =>
    tSl v3 fun q5 q5n q5c =>
    L1 x q5 q5n q5c H4 R) <|
  L1 x q2 q2n q2c H3 R
theorem L0_step {x : Option Addr} {b : Option Addr} {bn : Nat} {bc : Nat} {H : Heap} {R : Ending → Heap → Prop} (h : L0n x b bn bc H R) : L0 x b bn bc H R :=
  goL_of_den (an := an) (fuel := 100000) (X := L0n x b bn bc H R) mixed fn (by kernel_rfl) (fun ρ0 => by kernel_rfl) h
def L1n (x : Option Addr) (b : Option Addr) (bn : Nat) (bc : Nat) (H : Heap) (R : Ending → Heap → Prop) : Prop :=
  nilD x fun a =>
  ldInt H (Addr.add a 5) .i64 fun n =>
  callD Try.prog 102 [(.slice b bn bc), (.int .i64 (6 : Int)), (.int .i64 n)] H (panK R) fun v H1 =>
  tSl v fun q qn qc =>
  R (.returned (.slice q qn qc)) H1
theorem L1_step {x : Option Addr} {b : Option Addr} {bn : Nat} {bc : Nat} {H : Heap} {R : Ending → Heap → Prop} (h : L1n x b bn bc H R) : L1 x b bn bc H R :=
  goL_of_den (an := an) (fuel := 100000) (X := L1n x b bn bc H R) mixed fn (by kernel_rfl) (fun ρ0 => by kernel_rfl) h
def go (x : Option Addr) (H : Heap) (R : Ending → Heap → Prop) : Prop :=
  nilD x fun a =>
  ldSl H a fun q qn qc =>
  iteB (decide (((qn : Nat) : Int) > (0 : Int))) (
    nilD x fun a1 =>
    ldSl H a1 fun q1 q1n q1c =>
    callD Try.prog 101 [(.slice none 0 0), (.int .i64 (1 : Int)), (.slice q1 q1n q1c)] H (panK R) fun v H1 =>
    tSl v fun q2 q2n q2c =>
    L0 x q2 q2n q2c H1 R) <|
  L0 x none 0 0 H R
theorem calls {x : Option Addr} {H : Heap} {R : Ending → Heap → Prop} (h : go x H R) : CallsH Try.prog 100 ⟨[(.pointer x)]⟩ H R :=
  callsH_of_den (an := an) (fuel := 100000) (X := go x H R) (c := body) mixed fn (by kernel_rfl) (by kernel_rfl) (by kernel_rfl) ok (by kernel_rfl) h
end F100
/-! ### 101 "pub-stadtholder/pub/stand/proto.PutBytes" -/
namespace F101
def an : Ann := { kinds := [], taus := [], pairs := [], lab := [] }
noncomputable def body : Code := (Try.f101.body).getD .skip
theorem fn : Try.prog.funcs[101]? = some Try.f101 := by kernel_rfl
theorem ok : codeOk an 21 body = true := by kernel_rfl
def go (b : Option Addr) (bn : Nat) (bc : Nat) (field : Int) (v : Option Addr) (vn : Nat) (vc : Nat) (H : Heap) (R : Ending → Heap → Prop) : Prop :=
  shD (3 : Int) <|
  callD Try.prog 103 [(.slice b bn bc), (.int .u64 (orZ .u64 (shlZ .u64 (IntKind.wrap .u64 field) (3 : Int)) (2 : Int)))] H (panK R) fun v1 H1 =>
  tSl v1 fun q qn qc =>
  callD Try.prog 103 [(.slice q qn qc), (.int .u64 (IntKind.wrap .u64 ((vn : Nat) : Int)))] H1 (panK R) fun v2 H2 =>
  tSl v2 fun q1 q1n q1c =>
  apD H2 1 1 [(.int .u8 (0 : Int))] 5 q1 q1n q1c v vn fun q2 q2n q2c H3 =>
  R (.returned (.slice q2 q2n q2c)) H3
theorem calls {b : Option Addr} {bn : Nat} {bc : Nat} {field : Int} {v : Option Addr} {vn : Nat} {vc : Nat} {H : Heap} {R : Ending → Heap → Prop} (h : go b bn bc field v vn vc H R) : CallsH Try.prog 101 ⟨[(.slice b bn bc), (.int .i64 field), (.slice v vn vc)]⟩ H R :=
  callsH_of_den (an := an) (fuel := 100000) (X := go b bn bc field v vn vc H R) (c := body) mixed fn (by kernel_rfl) (by kernel_rfl) (by kernel_rfl) ok (by kernel_rfl) h
end F101
/-! ### 102 "pub-stadtholder/pub/stand/proto.PutInt" -/
namespace F102
def an : Ann := { kinds := [], taus := [], pairs := [], lab := [] }
noncomputable def body : Code := (Try.f102.body).getD .skip
theorem fn : Try.prog.funcs[102]? = some Try.f102 := by kernel_rfl
theorem ok : codeOk an 19 body = true := by kernel_rfl
def go (b : Option Addr) (bn : Nat) (bc : Nat) (field : Int) (n : Int) (H : Heap) (R : Ending → Heap → Prop) : Prop :=
  iteB (n == (0 : Int)) (
    R (.returned (.slice b bn bc)) H) <|
  shD (3 : Int) <|
  callD Try.prog 103 [(.slice b bn bc), (.int .u64 (shlZ .u64 (IntKind.wrap .u64 field) (3 : Int)))] H (panK R) fun v H1 =>
  tSl v fun q qn qc =>
  callD Try.prog 103 [(.slice q qn qc), (.int .u64 (IntKind.wrap .u64 n))] H1 (panK R) fun v1 H2 =>
  tSl v1 fun q1 q1n q1c =>
  R (.returned (.slice q1 q1n q1c)) H2
theorem calls {b : Option Addr} {bn : Nat} {bc : Nat} {field : Int} {n : Int} {H : Heap} {R : Ending → Heap → Prop} (h : go b bn bc field n H R) : CallsH Try.prog 102 ⟨[(.slice b bn bc), (.int .i64 field), (.int .i64 n)]⟩ H R :=
  callsH_of_den (an := an) (fuel := 100000) (X := go b bn bc field n H R) (c := body) mixed fn (by kernel_rfl) (by kernel_rfl) (by kernel_rfl) ok (by kernel_rfl) h
end F102
/-! ### 103 "pub-stadtholder/pub/stand/proto.PutVarint" -/
namespace F103
def an : Ann := { kinds := [], taus := [], pairs := [], lab := [(40000002, [0, 1])] }
noncomputable def body : Code := (Try.f103.body).getD .skip
theorem fn : Try.prog.funcs[103]? = some Try.f103 := by kernel_rfl
theorem ok : codeOk an 20 body = true := by kernel_rfl
noncomputable def L0t : List Item := [.code (sub [1, 0, 0, 0] body), .inLoop (sub [1, 0, 0, 0] body), .inBlock 0, .code (sub [1, 1] body)]
def L0 (b : Option Addr) (bn : Nat) (bc : Nat) (n : Int) (H : Heap) (R : Ending → Heap → Prop) : Prop :=
  GoL Try.prog 103 20 L0t [0, 1] [(.slice b bn bc), (.int .u64 n)] H R
def L0n (b : Option Addr) (bn : Nat) (bc : Nat) (n : Int) (H : Heap) (R : Ending → Heap → Prop) : Prop :=
  iteB (decide (n ≥ (128 : Int))) (
    newD H (.cells ⟨[(.int .u8 (orZ .u8 (IntKind.wrap .u8 n) (128 : Int)))]⟩ 5) fun r H1 =>
    apD H1 1 1 [(.int .u8 (0 : Int))] 5 b bn bc (some ⟨r, 0, none⟩) 1 fun q qn qc H2 =>
    shD (7 : Int) <|
    L0 q qn qc (shrZ .u64 n (7 : Int)) H2 R) <|
  newD H (.cells ⟨[(.int .u8 (IntKind.wrap .u8 n))]⟩ 5) fun r1 H3 =>
  apD H3 1 1 [(.int .u8 (0 : Int))] 5 b bn bc (some ⟨r1, 0, none⟩) 1 fun q1 q1n q1c H4 =>
  R (.returned (.slice q1 q1n q1c)) H4
theorem L0_step {b : Option Addr} {bn : Nat} {bc : Nat} {n : Int} {H : Heap} {R : Ending → Heap → Prop} (h : L0n b bn bc n H R) : L0 b bn bc n H R :=
  goL_of_den (an := an) (fuel := 100000) (X := L0n b bn bc n H R) mixed fn (by kernel_rfl) (fun ρ0 => by kernel_rfl) h
def go (b : Option Addr) (bn : Nat) (bc : Nat) (n : Int) (H : Heap) (R : Ending → Heap → Prop) : Prop :=
  L0 b bn bc n H R
theorem calls {b : Option Addr} {bn : Nat} {bc : Nat} {n : Int} {H : Heap} {R : Ending → Heap → Prop} (h : go b bn bc n H R) : CallsH Try.prog 103 ⟨[(.slice b bn bc), (.int .u64 n)]⟩ H R :=
  callsH_of_den (an := an) (fuel := 100000) (X := go b bn bc n H R) (c := body) mixed fn (by kernel_rfl) (by kernel_rfl) (by kernel_rfl) ok (by kernel_rfl) h
end F103
/-! ### 106 "(pub-stadtholder/pub/etcdserver/storage/schema.bucket).Name" -/
namespace F106
def an : Ann := { kinds := [(1002, .loud)], taus := [], pairs := [], lab := [] }
noncomputable def body : Code := (Try.f106.body).getD .skip
theorem fn : Try.prog.funcs[106]? = some Try.f106 := by kernel_rfl
theorem ok : codeOk an 6 body = true := by kernel_rfl
def go (b_0 : Int) (b_1 : ByteArray) (b_2 : Bool) (H : Heap) (R : Ending → Heap → Prop) : Prop :=
  newD H (.cells ⟨[(.int .i64 b_0), (.string b_1), (.bool b_2)]⟩ 164) fun r H1 =>
  ldStr H1 ⟨r, 1, none⟩ fun s =>
  sbD H1 5 s fun r1 c H2 =>
  R (.returned (.slice (some ⟨r1, 0, none⟩) (ByteArray.size s) c)) H2
theorem calls {b_0 : Int} {b_1 : ByteArray} {b_2 : Bool} {H : Heap} {R : Ending → Heap → Prop} (h : go b_0 b_1 b_2 H R) : CallsH Try.prog 106 ⟨[(.agg ⟨[(.int .i64 b_0), (.string b_1), (.bool b_2)]⟩)]⟩ H R :=
  callsH_of_den (an := an) (fuel := 100000) (X := go b_0 b_1 b_2 H R) (c := body) mixed fn (by kernel_rfl) (by kernel_rfl) (by kernel_rfl) ok (by kernel_rfl) h
end F106
end Go.Proofs.Ytpankppliidaoaa
