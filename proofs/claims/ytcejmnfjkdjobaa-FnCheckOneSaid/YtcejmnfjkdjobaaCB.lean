/- What functions of this seat do, each proved by a walk; no condition. -/
import Derived.Test.YtcejmnfjkdjobaaDenL
import Derived.Test.YtcejmnfjkdjobaaProg
import Derived.KernelRfl
set_option linter.unusedVariables false
namespace Go.Proofs.Ytcejmnfjkdjobaa
open Go Go.Den Go.Proofs
theorem mixed : Try.prog.follows .mixedOrders = true := by kernel_rfl
/-! ### 3 "pub-stadtholder/laws.FnTxnSorted" -/
namespace F3
def an : Ann := { kinds := [], taus := [], pairs := [], lab := [] }
noncomputable def body : Code := (Try.f3.body).getD .skip
theorem fn : Try.prog.funcs[3]? = some Try.f3 := by kernel_rfl
theorem ok : codeOk an 41 body = true := by kernel_rfl
def go (l : Option Addr) (ln : Nat) (lc : Nat) (order : Int) (target : Int) (H : Heap) (R : Ending → Heap → Prop) : Prop :=
  callD Try.prog 6 [(.slice l ln lc)] H (panK R) fun v H1 =>
  tBool v fun b =>
  iteB (!b) (
    R (.returned (.bool true)) H1) <|
  callD Try.prog 7 [(.slice l ln lc), (.int .i64 order), (.int .i64 target), (.int .i64 (12 : Int))] H1 (panK R) fun v1 H2 =>
  tBool v1 fun b1 =>
  iteB (!b1) (
    R (.returned (.bool true)) H2) <|
  newD H2 (.cells ⟨[(.string (ByteArray.mk #[97])), (.string (ByteArray.mk #[])), (.int .i64 (0 : Int)), (.int .i64 (0 : Int)), (.int .i64 (2 : Int)), (.int .i64 (0 : Int)), (.string (ByteArray.mk #[98])), (.string (ByteArray.mk #[])), (.int .i64 (0 : Int)), (.int .i64 (0 : Int)), (.int .i64 (1 : Int)), (.int .i64 (0 : Int))]⟩ 27) fun r H3 =>
  callD Try.prog 8 [(.slice (some ⟨r, 0, none⟩) 2 2), (.int .i64 (1 : Int)), (.int .i64 (1 : Int))] H3 (panK R) fun v2 H4 =>
  tSl v2 fun q qn qc =>
  callD Try.prog 8 [(.slice l ln lc), (.int .i64 order), (.int .i64 target)] H4 (panK R) fun v3 H5 =>
  tSl v3 fun q1 q1n q1c =>
  callD Try.prog 10 [(.slice l ln lc), (.int .i64 order), (.int .i64 target)] H5 (panK R) fun v4 H6 =>
  tSl v4 fun q2 q2n q2c =>
  callD Try.prog 9 [(.slice q1 q1n q1c), (.slice q2 q2n q2c)] H6 (panK R) fun v5 H7 =>
  tBool v5 fun b2 =>
  iteB b2 (
    iteB (((qn : Nat) : Int) == (2 : Int)) (
      idxD q qn (0 : Int) fun a =>
      ldStr H7 (Addr.add a (Int.toNat (0 : Int) * 6)) fun s =>
      R (.returned (.bool (eqS s (ByteArray.mk #[98])))) H7) <|
    R (.returned (.bool false)) H7) <|
  R (.returned (.bool false)) H7
theorem calls {l : Option Addr} {ln : Nat} {lc : Nat} {order : Int} {target : Int} {H : Heap} {R : Ending → Heap → Prop} (h : go l ln lc order target H R) : CallsH Try.prog 3 ⟨[(.slice l ln lc), (.int .i64 order), (.int .i64 target)]⟩ H R :=
  callsH_of_den (an := an) (fuel := 100000) (X := go l ln lc order target H R) (c := body) mixed fn (by kernel_rfl) (by kernel_rfl) (by kernel_rfl) ok (by kernel_rfl) h
end F3
/-! ### 6 "pub-stadtholder/laws.zzFits13" -/
namespace F6
def an : Ann := { kinds := [], taus := [], pairs := [], lab := [(40000005, [8, 9, 10])] }
noncomputable def body : Code := (Try.f6.body).getD .skip
theorem fn : Try.prog.funcs[6]? = some Try.f6 := by kernel_rfl
theorem ok : codeOk an 18 body = true := by kernel_rfl
noncomputable def L0t : List Item := [.code (sub [1, 1, 0, 1, 0, 0] body), .inLoop (sub [1, 1, 0, 1, 0, 0] body), .inBlock 0, .code (sub [1, 1, 1] body)]
def L0 (s8 : Option Addr) (s8n : Nat) (s8c : Nat) (s9 : Int) (s10 : Int) (H : Heap) (R : Ending → Heap → Prop) : Prop :=
  GoL Try.prog 6 18 L0t [8, 9, 10] [(.slice s8 s8n s8c), (.int .i64 s9), (.int .i64 s10)] H R
def L0n (s8 : Option Addr) (s8n : Nat) (s8c : Nat) (s9 : Int) (s10 : Int) (H : Heap) (R : Ending → Heap → Prop) : Prop :=
  iteB (decide (s10 < s9)) (
    idxD s8 s8n s10 fun a =>
    ldStr H (Addr.add a (Int.toNat s10 * 6)) fun s =>
    ldStr H (Addr.add (Addr.add a (Int.toNat s10 * 6)) 1) fun s1 =>
    ldInt H (Addr.add (Addr.add a (Int.toNat s10 * 6)) 2) .i64 fun n =>
    ldInt H (Addr.add (Addr.add a (Int.toNat s10 * 6)) 3) .i64 fun n1 =>
    ldInt H (Addr.add (Addr.add a (Int.toNat s10 * 6)) 4) .i64 fun n2 =>
    ldInt H (Addr.add (Addr.add a (Int.toNat s10 * 6)) 5) .i64 fun n3 =>
    newD H (.cells ⟨[(.string (ByteArray.mk #[])), (.string (ByteArray.mk #[])), (.int .i64 (0 : Int)), (.int .i64 (0 : Int)), (.int .i64 (0 : Int)), (.int .i64 (0 : Int))]⟩ 27) fun r H1 =>
    st1 H1 ⟨r, 0, none⟩ (.string s) fun H2 =>
    st1 H2 ⟨r, 1, none⟩ (.string s1) fun H3 =>
    st1 H3 ⟨r, 2, none⟩ (.int .i64 n) fun H4 =>
    st1 H4 ⟨r, 3, none⟩ (.int .i64 n1) fun H5 =>
    st1 H5 ⟨r, 4, none⟩ (.int .i64 n2) fun H6 =>
    st1 H6 ⟨r, 5, none⟩ (.int .i64 n3) fun H7 =>
    ldStr H7 ⟨r, 0, none⟩ fun s2 =>
    ldStr H7 ⟨r, 1, none⟩ fun s3 =>
    ldInt H7 ⟨r, 2, none⟩ .i64 fun n4 =>
    ldInt H7 ⟨r, 3, none⟩ .i64 fun n5 =>
    ldInt H7 ⟨r, 4, none⟩ .i64 fun n6 =>
    ldInt H7 ⟨r, 5, none⟩ .i64 fun n7 =>
    callD Try.prog 22 [(.agg ⟨[(.string s2), (.string s3), (.int .i64 n4), (.int .i64 n5), (.int .i64 n6), (.int .i64 n7)]⟩)] H7 (panK R) fun v H8 =>
    tBool v fun b =>
    iteB (!b) (
      R (.returned (.bool false)) H8) <|
    L0 s8 s8n s8c s9 (IntKind.wrap .i64 (s10 + (1 : Int))) H8 R) <|
  R (.returned (.bool true)) H
theorem L0_step {s8 : Option Addr} {s8n : Nat} {s8c : Nat} {s9 : Int} {s10 : Int} {H : Heap} {R : Ending → Heap → Prop} (h : L0n s8 s8n s8c s9 s10 H R) : L0 s8 s8n s8c s9 s10 H R :=
  goL_of_den (an := an) (fuel := 100000) (X := L0n s8 s8n s8c s9 s10 H R) mixed fn (by kernel_rfl) (fun ρ0 => by kernel_rfl) h
def go (x : Option Addr) (xn : Nat) (xc : Nat) (H : Heap) (R : Ending → Heap → Prop) : Prop :=
  iteB (decide (((xn : Nat) : Int) > (2147483647 : Int))) (
    R (.returned (.bool false)) H) <|
  L0 x xn xc ((xn : Nat) : Int) (0 : Int) H R
theorem calls {x : Option Addr} {xn : Nat} {xc : Nat} {H : Heap} {R : Ending → Heap → Prop} (h : go x xn xc H R) : CallsH Try.prog 6 ⟨[(.slice x xn xc)]⟩ H R :=
  callsH_of_den (an := an) (fuel := 100000) (X := go x xn xc H R) (c := body) mixed fn (by kernel_rfl) (by kernel_rfl) (by kernel_rfl) ok (by kernel_rfl) h
end F6
/-! ### 22 "pub-stadtholder/laws.zzFits14" -/
namespace F22
def an : Ann := { kinds := [], taus := [], pairs := [], lab := [] }
noncomputable def body : Code := (Try.f22.body).getD .skip
theorem fn : Try.prog.funcs[22]? = some Try.f22 := by kernel_rfl
theorem ok : codeOk an 11 body = true := by kernel_rfl
def go (x_0 : ByteArray) (x_1 : ByteArray) (x_2 : Int) (x_3 : Int) (x_4 : Int) (x_5 : Int) (H : Heap) (R : Ending → Heap → Prop) : Prop :=
  newD H (.cells ⟨[(.string x_0), (.string x_1), (.int .i64 x_2), (.int .i64 x_3), (.int .i64 x_4), (.int .i64 x_5)]⟩ 27) fun r H1 =>
  ldStr H1 ⟨r, 0, none⟩ fun s =>
  iteB (decide (((ByteArray.size s : Nat) : Int) > (2147483647 : Int))) (
    R (.returned (.bool false)) H1) <|
  ldStr H1 ⟨r, 1, none⟩ fun s1 =>
  iteB (decide (((ByteArray.size s1 : Nat) : Int) > (2147483647 : Int))) (
    R (.returned (.bool false)) H1) <|
  R (.returned (.bool true)) H1
theorem calls {x_0 : ByteArray} {x_1 : ByteArray} {x_2 : Int} {x_3 : Int} {x_4 : Int} {x_5 : Int} {H : Heap} {R : Ending → Heap → Prop} (h : go x_0 x_1 x_2 x_3 x_4 x_5 H R) : CallsH Try.prog 22 ⟨[(.agg ⟨[(.string x_0), (.string x_1), (.int .i64 x_2), (.int .i64 x_3), (.int .i64 x_4), (.int .i64 x_5)]⟩)]⟩ H R :=
  callsH_of_den (an := an) (fuel := 100000) (X := go x_0 x_1 x_2 x_3 x_4 x_5 H R) (c := body) mixed fn (by kernel_rfl) (by kernel_rfl) (by kernel_rfl) ok (by kernel_rfl) h
end F22
/-! ### 7 "pub-stadtholder/laws.txnSorts" -/
namespace F7
def an : Ann := { kinds := [], taus := [(4, [[0, 1, 2, 3, 4, 5, 6, 7, 8, 9, 10, 11, 12, 13, 14, 15, 16, 17, 18, 19, 20, 21, 22, 23, 24, 25, 26, 27, 28, 29, 30, 31, 32, 33, 34, 35, 36, 37, 38, 39, 40, 41, 42, 43, 44, 45, 46, 47, 48, 49, 50, 52, 53, 54, 55, 56, 51, 57, 58, 59, 60]])], pairs := [], lab := [(40000003, [0, 1, 2, 3, 11, 12]), (40000007, [0, 1, 2, 3, 11, 12])] }
noncomputable def body : Code := (Try.f7.body).getD .skip
theorem fn : Try.prog.funcs[7]? = some Try.f7 := by kernel_rfl
theorem ok : codeOk an 97 body = true := by kernel_rfl
noncomputable def L0t : List Item := [.code (sub [1, 0, 1, 0, 0] body), .inLoop (sub [1, 0, 1, 0, 0] body), .inBlock 0, .code (sub [1, 1] body)]
def L0 (s0 : Option Addr) (s0n : Nat) (s0c : Nat) (s1 : Int) (s2 : Int) (s3 : Int) (s11 : Int) (s12 : Int) (H : Heap) (R : Ending → Heap → Prop) : Prop :=
  GoL Try.prog 7 97 L0t [0, 1, 2, 3, 11, 12] [(.slice s0 s0n s0c), (.int .i64 s1), (.int .i64 s2), (.int .i64 s3), (.int .i64 s11), (.int .i64 s12)] H R
noncomputable def L1t : List Item := [.code (sub [1, 0, 1, 0, 0, 1, 1, 1] body), .inLoop (sub [1, 0, 1, 0, 0] body), .inBlock 0, .code (sub [1, 1] body)]
def L1 (s0 : Option Addr) (s0n : Nat) (s0c : Nat) (s1 : Int) (s2 : Int) (s3 : Int) (s11 : Int) (s12 : Int) (H : Heap) (R : Ending → Heap → Prop) : Prop :=
  GoL Try.prog 7 97 L1t [0, 1, 2, 3, 11, 12] [(.slice s0 s0n s0c), (.int .i64 s1), (.int .i64 s2), (.int .i64 s3), (.int .i64 s11), (.int .i64 s12)] H R
def L0n (s0 : Option Addr) (s0n : Nat) (s0c : Nat) (s1 : Int) (s2 : Int) (s3 : Int) (s11 : Int) (s12 : Int) (H : Heap) (R : Ending → Heap → Prop) : Prop :=
  iteB (decide (s12 < s11)) (
    idxD s0 s0n s12 fun a =>
    ldInt H (Addr.add (Addr.add a (Int.toNat s12 * 6)) 4) .i64 fun n =>
    callD Try.prog 23 [(.int .i64 n)] H (panK R) fun v H1 =>
    tBool v fun b =>
    iteB (!b) (
      R (.returned (.bool false)) H1) <|
    idxD s0 s0n s12 fun a1 =>
    ldInt H1 (Addr.add (Addr.add a1 (Int.toNat s12 * 6)) 2) .i64 fun n1 =>
    callD Try.prog 23 [(.int .i64 n1)] H1 (panK R) fun v1 H2 =>
    tBool v1 fun b1 =>
    iteB (!b1) (
      R (.returned (.bool false)) H2) <|
    idxD s0 s0n s12 fun a2 =>
    ldInt H2 (Addr.add (Addr.add a2 (Int.toNat s12 * 6)) 3) .i64 fun n2 =>
    callD Try.prog 23 [(.int .i64 n2)] H2 (panK R) fun v2 H3 =>
    tBool v2 fun b2 =>
    iteB (!b2) (
      R (.returned (.bool false)) H3) <|
    idxD s0 s0n s12 fun a3 =>
    ldStr H3 (Addr.add a3 (Int.toNat s12 * 6)) fun s =>
    iteB (decide (((ByteArray.size s : Nat) : Int) > (64 : Int))) (
      R (.returned (.bool false)) H3) <|
    idxD s0 s0n s12 fun a4 =>
    ldStr H3 (Addr.add (Addr.add a4 (Int.toNat s12 * 6)) 1) fun s4 =>
    iteB (decide (((ByteArray.size s4 : Nat) : Int) > (64 : Int))) (
      R (.returned (.bool false)) H3) <|
    iteB (decide (s12 > (0 : Int))) (
      idxD s0 s0n s12 fun a5 =>
      idxD s0 s0n (IntKind.wrap .i64 (s12 - (1 : Int))) fun a6 =>
      ldStr H3 (Addr.add a5 (Int.toNat s12 * 6)) fun s5 =>
      ldStr H3 (Addr.add a6 (Int.toNat (IntKind.wrap .i64 (s12 - (1 : Int))) * 6)) fun s6 =>
      iteB (ltS s5 s6 || eqS s5 s6) (
        R (.returned (.bool false)) H3) <|
      L1 s0 s0n s0c s1 s2 s3 s11 s12 H3 R) <|
    L1 s0 s0n s0c s1 s2 s3 s11 s12 H3 R) <|
  iteB (decide (((s0n : Nat) : Int) ≤ s3)) (
    iteB (decide (s1 ≥ (0 : Int))) (
      iteB (decide (s1 ≤ (2 : Int))) (
        iteB (decide (s2 ≥ (0 : Int))) (
          R (.returned (.bool (decide (s2 ≤ (4 : Int))))) H) <|
        R (.returned (.bool false)) H) <|
      R (.returned (.bool false)) H) <|
    R (.returned (.bool false)) H) <|
  R (.returned (.bool false)) H
theorem L0_step {s0 : Option Addr} {s0n : Nat} {s0c : Nat} {s1 : Int} {s2 : Int} {s3 : Int} {s11 : Int} {s12 : Int} {H : Heap} {R : Ending → Heap → Prop} (h : L0n s0 s0n s0c s1 s2 s3 s11 s12 H R) : L0 s0 s0n s0c s1 s2 s3 s11 s12 H R :=
  goL_of_den (an := an) (fuel := 100000) (X := L0n s0 s0n s0c s1 s2 s3 s11 s12 H R) mixed fn (by kernel_rfl) (fun ρ0 => by kernel_rfl) h
def L1n (s0 : Option Addr) (s0n : Nat) (s0c : Nat) (s1 : Int) (s2 : Int) (s3 : Int) (s11 : Int) (s12 : Int) (H : Heap) (R : Ending → Heap → Prop) : Prop :=
  L0 s0 s0n s0c s1 s2 s3 s11 (IntKind.wrap .i64 (s12 + (1 : Int))) H R
theorem L1_step {s0 : Option Addr} {s0n : Nat} {s0c : Nat} {s1 : Int} {s2 : Int} {s3 : Int} {s11 : Int} {s12 : Int} {H : Heap} {R : Ending → Heap → Prop} (h : L1n s0 s0n s0c s1 s2 s3 s11 s12 H R) : L1 s0 s0n s0c s1 s2 s3 s11 s12 H R :=
  goL_of_den (an := an) (fuel := 100000) (X := L1n s0 s0n s0c s1 s2 s3 s11 s12 H R) mixed fn (by kernel_rfl) (fun ρ0 => by kernel_rfl) h
def go (s0 : Option Addr) (s0n : Nat) (s0c : Nat) (s1 : Int) (s2 : Int) (s3 : Int) (H : Heap) (R : Ending → Heap → Prop) : Prop :=
  L0 s0 s0n s0c s1 s2 s3 ((s0n : Nat) : Int) (0 : Int) H R
theorem calls {s0 : Option Addr} {s0n : Nat} {s0c : Nat} {s1 : Int} {s2 : Int} {s3 : Int} {H : Heap} {R : Ending → Heap → Prop} (h : go s0 s0n s0c s1 s2 s3 H R) : CallsH Try.prog 7 ⟨[(.slice s0 s0n s0c), (.int .i64 s1), (.int .i64 s2), (.int .i64 s3)]⟩ H R :=
  callsH_of_den (an := an) (fuel := 100000) (X := go s0 s0n s0c s1 s2 s3 H R) (c := body) mixed fn (by kernel_rfl) (by kernel_rfl) (by kernel_rfl) ok (by kernel_rfl) h
end F7
/-! ### 23 "pub-stadtholder/laws.txnNear" -/
namespace F23
def an : Ann := { kinds := [], taus := [], pairs := [], lab := [] }
noncomputable def body : Code := (Try.f23.body).getD .skip
theorem fn : Try.prog.funcs[23]? = some Try.f23 := by kernel_rfl
theorem ok : codeOk an 9 body = true := by kernel_rfl
def go (n : Int) (H : Heap) (R : Ending → Heap → Prop) : Prop :=
  iteB (decide (n ≤ (2305843009213693952 : Int))) (
    R (.returned (.bool (decide (n ≥ (-2305843009213693952 : Int))))) H) <|
  R (.returned (.bool false)) H
theorem calls {n : Int} {H : Heap} {R : Ending → Heap → Prop} (h : go n H R) : CallsH Try.prog 23 ⟨[(.int .i64 n)]⟩ H R :=
  callsH_of_den (an := an) (fuel := 100000) (X := go n H R) (c := body) mixed fn (by kernel_rfl) (by kernel_rfl) (by kernel_rfl) ok (by kernel_rfl) h
end F23
/-! ### 8 "pub-stadtholder/impl.Sorted" -/
namespace F8
def an : Ann := { kinds := [(4001, .grow)], taus := [(4, [[0, 2, 1, 3, 4, 5, 6]])], pairs := [], lab := [] }
noncomputable def body : Code := (Try.f8.body).getD .skip
theorem fn : Try.prog.funcs[8]? = some Try.f8 := by kernel_rfl
theorem ok : codeOk an 20 body = true := by kernel_rfl
def go (kvs : Option Addr) (kvsn : Nat) (kvsc : Nat) (xby : Int) (target : Int) (H : Heap) (R : Ending → Heap → Prop) : Prop :=
  newD H (.cells ⟨[(.int .i64 (0 : Int)), (.string (ByteArray.mk #[])), (.string (ByteArray.mk #[])), (.string (ByteArray.mk #[])), (.int .i64 (0 : Int)), (.int .i64 (0 : Int)), (.int .i64 (0 : Int)), (.int .i64 (0 : Int)), (.int .i64 (0 : Int)), (.int .i64 (0 : Int)), (.int .i64 (0 : Int)), (.int .i64 (0 : Int)), (.int .i64 (0 : Int)), (.bool false), (.bool false), (.bool false), (.bool false), (.bool false), (.slice none 0 0), (.slice none 0 0), (.slice none 0 0)]⟩ 33) fun r H1 =>
  st1 H1 ⟨r, 0, none⟩ (.int .i64 (0 : Int)) fun H2 =>
  st1 H2 ⟨r, 1, none⟩ (.string (ByteArray.mk #[])) fun H3 =>
  st1 H3 ⟨r, 2, none⟩ (.string (ByteArray.mk #[])) fun H4 =>
  st1 H4 ⟨r, 3, none⟩ (.string (ByteArray.mk #[])) fun H5 =>
  st1 H5 ⟨r, 4, none⟩ (.int .i64 (0 : Int)) fun H6 =>
  st1 H6 ⟨r, 5, none⟩ (.int .i64 (0 : Int)) fun H7 =>
  st1 H7 ⟨r, 6, none⟩ (.int .i64 (0 : Int)) fun H8 =>
  st1 H8 ⟨r, 7, none⟩ (.int .i64 xby) fun H9 =>
  st1 H9 ⟨r, 8, none⟩ (.int .i64 target) fun H10 =>
  st1 H10 ⟨r, 9, none⟩ (.int .i64 (0 : Int)) fun H11 =>
  st1 H11 ⟨r, 10, none⟩ (.int .i64 (0 : Int)) fun H12 =>
  st1 H12 ⟨r, 11, none⟩ (.int .i64 (0 : Int)) fun H13 =>
  st1 H13 ⟨r, 12, none⟩ (.int .i64 (0 : Int)) fun H14 =>
  st1 H14 ⟨r, 13, none⟩ (.bool false) fun H15 =>
  st1 H15 ⟨r, 14, none⟩ (.bool false) fun H16 =>
  st1 H16 ⟨r, 15, none⟩ (.bool false) fun H17 =>
  st1 H17 ⟨r, 16, none⟩ (.bool false) fun H18 =>
  st1 H18 ⟨r, 17, none⟩ (.bool false) fun H19 =>
  st1 H19 ⟨r, 18, none⟩ (.slice none 0 0) fun H20 =>
  st1 H20 ⟨r, 19, none⟩ (.slice none 0 0) fun H21 =>
  st1 H21 ⟨r, 20, none⟩ (.slice none 0 0) fun H22 =>
  ldInt H22 ⟨r, 0, none⟩ .i64 fun n =>
  ldStr H22 ⟨r, 1, none⟩ fun s =>
  ldStr H22 ⟨r, 2, none⟩ fun s1 =>
  ldStr H22 ⟨r, 3, none⟩ fun s2 =>
  ldInt H22 ⟨r, 4, none⟩ .i64 fun n1 =>
  ldInt H22 ⟨r, 5, none⟩ .i64 fun n2 =>
  ldInt H22 ⟨r, 6, none⟩ .i64 fun n3 =>
  ldInt H22 ⟨r, 7, none⟩ .i64 fun n4 =>
  ldInt H22 ⟨r, 8, none⟩ .i64 fun n5 =>
  ldInt H22 ⟨r, 9, none⟩ .i64 fun n6 =>
  ldInt H22 ⟨r, 10, none⟩ .i64 fun n7 =>
  ldInt H22 ⟨r, 11, none⟩ .i64 fun n8 =>
  ldInt H22 ⟨r, 12, none⟩ .i64 fun n9 =>
  ldBool H22 ⟨r, 13, none⟩ fun b =>
  ldBool H22 ⟨r, 14, none⟩ fun b1 =>
  ldBool H22 ⟨r, 15, none⟩ fun b2 =>
  ldBool H22 ⟨r, 16, none⟩ fun b3 =>
  ldBool H22 ⟨r, 17, none⟩ fun b4 =>
  ldSl H22 ⟨r, 18, none⟩ fun q qn qc =>
  ldSl H22 ⟨r, 19, none⟩ fun q1 q1n q1c =>
  ldSl H22 ⟨r, 20, none⟩ fun q2 q2n q2c =>
  callD Try.prog 24 [(.agg ⟨[(.int .i64 n), (.string s), (.string s1), (.string s2), (.int .i64 n1), (.int .i64 n2), (.int .i64 n3), (.int .i64 n4), (.int .i64 n5), (.int .i64 n6), (.int .i64 n7), (.int .i64 n8), (.int .i64 n9), (.bool b), (.bool b1), (.bool b2), (.bool b3), (.bool b4), (.slice q qn qc), (.slice q1 q1n q1c), (.slice q2 q2n q2c)]⟩)] H22 (panK R) fun v H23 =>
  tBool v fun b5 =>
  iteB (!b5) (
    R (.returned (.slice none 0 0)) H23) <|
  ldInt H23 ⟨r, 0, none⟩ .i64 fun n10 =>
  ldStr H23 ⟨r, 1, none⟩ fun s3 =>
  ldStr H23 ⟨r, 2, none⟩ fun s4 =>
  ldStr H23 ⟨r, 3, none⟩ fun s5 =>
  ldInt H23 ⟨r, 4, none⟩ .i64 fun n11 =>
  ldInt H23 ⟨r, 5, none⟩ .i64 fun n12 =>
  ldInt H23 ⟨r, 6, none⟩ .i64 fun n13 =>
  ldInt H23 ⟨r, 7, none⟩ .i64 fun n14 =>
  ldInt H23 ⟨r, 8, none⟩ .i64 fun n15 =>
  ldInt H23 ⟨r, 9, none⟩ .i64 fun n16 =>
  ldInt H23 ⟨r, 10, none⟩ .i64 fun n17 =>
  ldInt H23 ⟨r, 11, none⟩ .i64 fun n18 =>
  ldInt H23 ⟨r, 12, none⟩ .i64 fun n19 =>
  ldBool H23 ⟨r, 13, none⟩ fun b6 =>
  ldBool H23 ⟨r, 14, none⟩ fun b7 =>
  ldBool H23 ⟨r, 15, none⟩ fun b8 =>
  ldBool H23 ⟨r, 16, none⟩ fun b9 =>
  ldBool H23 ⟨r, 17, none⟩ fun b10 =>
  ldSl H23 ⟨r, 18, none⟩ fun q3 q3n q3c =>
  ldSl H23 ⟨r, 19, none⟩ fun q4 q4n q4c =>
  ldSl H23 ⟨r, 20, none⟩ fun q5 q5n q5c =>
  callD Try.prog 27 [(.slice kvs kvsn kvsc)] H23 nope fun v1 H24 =>
  tSl v1 fun q6 q6n q6c =>
  andD (ExtH H23 H24) <|
  callD Try.prog 28 [(.agg ⟨[(.int .i64 n10), (.string s3), (.string s4), (.string s5), (.int .i64 n11), (.int .i64 n12), (.int .i64 n13), (.int .i64 n14), (.int .i64 n15), (.int .i64 n16), (.int .i64 n17), (.int .i64 n18), (.int .i64 n19), (.bool b6), (.bool b7), (.bool b8), (.bool b9), (.bool b10), (.slice q3 q3n q3c), (.slice q4 q4n q4c), (.slice q5 q5n q5c)]⟩)] H24 (panK R) fun v2 H25 =>
  tPtr v2 fun p =>
  callD Try.prog 26 [(.slice q6 q6n q6c), (.pointer p)] H25 (panK R) fun v3 H26 =>
  tSl v3 fun q7 q7n q7c =>
  callD Try.prog 25 [(.slice q7 q7n q7c)] H26 (panK R) fun v4 H27 =>
  tSl v4 fun q8 q8n q8c =>
  R (.returned (.slice q8 q8n q8c)) H27
theorem calls {kvs : Option Addr} {kvsn : Nat} {kvsc : Nat} {xby : Int} {target : Int} {H : Heap} {R : Ending → Heap → Prop} (h : go kvs kvsn kvsc xby target H R) : CallsH Try.prog 8 ⟨[(.slice kvs kvsn kvsc), (.int .i64 xby), (.int .i64 target)]⟩ H R :=
  callsH_of_den (an := an) (fuel := 100000) (X := go kvs kvsn kvsc xby target H R) (c := body) mixed fn (by kernel_rfl) (by kernel_rfl) (by kernel_rfl) ok (by kernel_rfl) h
end F8
/-! ### 24 "pub-stadtholder/impl.ordered" -/
namespace F24
def an : Ann := { kinds := [], taus := [], pairs := [], lab := [] }
noncomputable def body : Code := (Try.f24.body).getD .skip
theorem fn : Try.prog.funcs[24]? = some Try.f24 := by kernel_rfl
theorem ok : codeOk an 21 body = true := by kernel_rfl
def go (r_0 : Int) (r_1 : ByteArray) (r_2 : ByteArray) (r_3 : ByteArray) (r_4 : Int) (r_5 : Int) (r_6 : Int) (r_7 : Int) (r_8 : Int) (r_9 : Int) (r_10 : Int) (r_11 : Int) (r_12 : Int) (r_13 : Bool) (r_14 : Bool) (r_15 : Bool) (r_16 : Bool) (r_17 : Bool) (r_18 : Option Addr) (r_18n : Nat) (r_18c : Nat) (r_19 : Option Addr) (r_19n : Nat) (r_19c : Nat) (r_20 : Option Addr) (r_20n : Nat) (r_20c : Nat) (H : Heap) (R : Ending → Heap → Prop) : Prop :=
  newD H (.cells ⟨[(.int .i64 r_0), (.string r_1), (.string r_2), (.string r_3), (.int .i64 r_4), (.int .i64 r_5), (.int .i64 r_6), (.int .i64 r_7), (.int .i64 r_8), (.int .i64 r_9), (.int .i64 r_10), (.int .i64 r_11), (.int .i64 r_12), (.bool r_13), (.bool r_14), (.bool r_15), (.bool r_16), (.bool r_17), (.slice r_18 r_18n r_18c), (.slice r_19 r_19n r_19c), (.slice r_20 r_20n r_20c)]⟩ 33) fun r H1 =>
  ldInt H1 ⟨r, 7, none⟩ .i64 fun n =>
  iteB (decide (n ≥ (0 : Int))) (
    ldInt H1 ⟨r, 7, none⟩ .i64 fun n1 =>
    iteB (decide (n1 ≤ (2 : Int))) (
      ldInt H1 ⟨r, 8, none⟩ .i64 fun n2 =>
      iteB (decide (n2 ≥ (0 : Int))) (
        ldInt H1 ⟨r, 8, none⟩ .i64 fun n3 =>
        R (.returned (.bool (decide (n3 ≤ (4 : Int))))) H1) <|
      R (.returned (.bool false)) H1) <|
    R (.returned (.bool false)) H1) <|
  R (.returned (.bool false)) H1
theorem calls {r_0 : Int} {r_1 : ByteArray} {r_2 : ByteArray} {r_3 : ByteArray} {r_4 : Int} {r_5 : Int} {r_6 : Int} {r_7 : Int} {r_8 : Int} {r_9 : Int} {r_10 : Int} {r_11 : Int} {r_12 : Int} {r_13 : Bool} {r_14 : Bool} {r_15 : Bool} {r_16 : Bool} {r_17 : Bool} {r_18 : Option Addr} {r_18n : Nat} {r_18c : Nat} {r_19 : Option Addr} {r_19n : Nat} {r_19c : Nat} {r_20 : Option Addr} {r_20n : Nat} {r_20c : Nat} {H : Heap} {R : Ending → Heap → Prop} (h : go r_0 r_1 r_2 r_3 r_4 r_5 r_6 r_7 r_8 r_9 r_10 r_11 r_12 r_13 r_14 r_15 r_16 r_17 r_18 r_18n r_18c r_19 r_19n r_19c r_20 r_20n r_20c H R) : CallsH Try.prog 24 ⟨[(.agg ⟨[(.int .i64 r_0), (.string r_1), (.string r_2), (.string r_3), (.int .i64 r_4), (.int .i64 r_5), (.int .i64 r_6), (.int .i64 r_7), (.int .i64 r_8), (.int .i64 r_9), (.int .i64 r_10), (.int .i64 r_11), (.int .i64 r_12), (.bool r_13), (.bool r_14), (.bool r_15), (.bool r_16), (.bool r_17), (.slice r_18 r_18n r_18c), (.slice r_19 r_19n r_19c), (.slice r_20 r_20n r_20c)]⟩)]⟩ H R :=
  callsH_of_den (an := an) (fuel := 100000) (X := go r_0 r_1 r_2 r_3 r_4 r_5 r_6 r_7 r_8 r_9 r_10 r_11 r_12 r_13 r_14 r_15 r_16 r_17 r_18 r_18n r_18c r_19 r_19n r_19c r_20 r_20n r_20c H R) (c := body) mixed fn (by kernel_rfl) (by kernel_rfl) (by kernel_rfl) ok (by kernel_rfl) h
end F24
/-! ### 28 "pub-stadtholder/impl.rangeIn" -/
namespace F28
def an : Ann := { kinds := [(1002, .grow), (1005, .grow), (1012, .grow), (1015, .grow), (1031, .grow)], taus := [(1, [[0, 3, 6, 8, 10, 13, 16, 18, 20, 22, 24, 26, 28, 1, 4, 7, 9, 11, 14, 17, 19, 21, 23, 25, 27, 29, 2, 5, 12, 15, 30, 31, 32], [0, 3, 6, 8, 10, 13, 16, 18, 20, 22, 24, 26, 28, 1, 4, 7, 9, 11, 14, 17, 19, 21, 23, 25, 27, 29, 5, 2, 12, 15, 30, 31, 32], [0, 3, 6, 8, 10, 13, 16, 18, 20, 22, 24, 26, 28, 1, 4, 7, 9, 11, 14, 17, 19, 21, 23, 25, 27, 29, 5, 12, 2, 15, 30, 31, 32], [0, 3, 6, 8, 10, 13, 16, 18, 20, 22, 24, 26, 28, 1, 4, 7, 9, 11, 14, 17, 19, 21, 23, 25, 27, 29, 5, 12, 15, 2, 30, 31, 32]])], pairs := [(1, [(2, 5), (2, 12), (2, 15)])], lab := [] }
noncomputable def body : Code := (Try.f28.body).getD .skip
theorem fn : Try.prog.funcs[28]? = some Try.f28 := by kernel_rfl
theorem ok : codeOk an 35 body = true := by kernel_rfl
def go (r_0 : Int) (r_1 : ByteArray) (r_2 : ByteArray) (r_3 : ByteArray) (r_4 : Int) (r_5 : Int) (r_6 : Int) (r_7 : Int) (r_8 : Int) (r_9 : Int) (r_10 : Int) (r_11 : Int) (r_12 : Int) (r_13 : Bool) (r_14 : Bool) (r_15 : Bool) (r_16 : Bool) (r_17 : Bool) (r_18 : Option Addr) (r_18n : Nat) (r_18c : Nat) (r_19 : Option Addr) (r_19n : Nat) (r_19c : Nat) (r_20 : Option Addr) (r_20n : Nat) (r_20c : Nat) (H : Heap) (R : Ending → Heap → Prop) : Prop :=
  newD H (.cells ⟨[(.int .i64 r_0), (.string r_1), (.string r_2), (.string r_3), (.int .i64 r_4), (.int .i64 r_5), (.int .i64 r_6), (.int .i64 r_7), (.int .i64 r_8), (.int .i64 r_9), (.int .i64 r_10), (.int .i64 r_11), (.int .i64 r_12), (.bool r_13), (.bool r_14), (.bool r_15), (.bool r_16), (.bool r_17), (.slice r_18 r_18n r_18c), (.slice r_19 r_19n r_19c), (.slice r_20 r_20n r_20c)]⟩ 33) fun r H1 =>
  (
    ldStr H1 ⟨r, 1, none⟩ fun s =>
    ldStr H1 ⟨r, 2, none⟩ fun s1 =>
    ldInt H1 ⟨r, 6, none⟩ .i64 fun n =>
    ldInt H1 ⟨r, 5, none⟩ .i64 fun n1 =>
    ldInt H1 ⟨r, 7, none⟩ .i64 fun n2 =>
    ldInt H1 ⟨r, 8, none⟩ .i64 fun n3 =>
    ldBool H1 ⟨r, 15, none⟩ fun b =>
    ldBool H1 ⟨r, 13, none⟩ fun b1 =>
    ldBool H1 ⟨r, 14, none⟩ fun b2 =>
    ldInt H1 ⟨r, 9, none⟩ .i64 fun n4 =>
    ldInt H1 ⟨r, 10, none⟩ .i64 fun n5 =>
    ldInt H1 ⟨r, 11, none⟩ .i64 fun n6 =>
    ldInt H1 ⟨r, 12, none⟩ .i64 fun n7 =>
    sbD H1 5 s fun r1 c H2 =>
    callD Try.prog 58 [(.string s1)] H2 nope fun v H3 =>
    tSl v fun q qn qc =>
    andD (ExtH H2 H3) <|
    callD Try.prog 59 [(.int .i64 n2)] H3 nope fun v1 H4 =>
    tInt v1 .i32 fun n8 =>
    andD (ExtH H3 H4) <|
    callD Try.prog 59 [(.int .i64 n3)] H4 nope fun v2 H5 =>
    tInt v2 .i32 fun n9 =>
    andD (ExtH H4 H5) <|
    newD H5 (.cells ⟨[(.slice (some ⟨r1, 0, none⟩) (ByteArray.size s) c), (.slice q qn qc), (.int .i64 n), (.int .i64 n1), (.int .i32 n8), (.int .i32 n9), (.bool b), (.bool b1), (.bool b2), (.int .i64 n4), (.int .i64 n5), (.int .i64 n6), (.int .i64 n7)]⟩ 123) fun r2 H6 =>
    R (.returned (.pointer (some ⟨r2, 0, none⟩))) H6) ∧
  (
    ldStr H1 ⟨r, 1, none⟩ fun s2 =>
    ldStr H1 ⟨r, 2, none⟩ fun s3 =>
    ldInt H1 ⟨r, 6, none⟩ .i64 fun n10 =>
    ldInt H1 ⟨r, 5, none⟩ .i64 fun n11 =>
    ldInt H1 ⟨r, 7, none⟩ .i64 fun n12 =>
    ldInt H1 ⟨r, 8, none⟩ .i64 fun n13 =>
    ldBool H1 ⟨r, 15, none⟩ fun b3 =>
    ldBool H1 ⟨r, 13, none⟩ fun b4 =>
    ldBool H1 ⟨r, 14, none⟩ fun b5 =>
    ldInt H1 ⟨r, 9, none⟩ .i64 fun n14 =>
    ldInt H1 ⟨r, 10, none⟩ .i64 fun n15 =>
    ldInt H1 ⟨r, 11, none⟩ .i64 fun n16 =>
    ldInt H1 ⟨r, 12, none⟩ .i64 fun n17 =>
    callD Try.prog 58 [(.string s3)] H1 nope fun v3 H7 =>
    tSl v3 fun q1 q1n q1c =>
    andD (ExtH H1 H7) <|
    sbD H7 5 s2 fun r3 c1 H8 =>
    callD Try.prog 59 [(.int .i64 n12)] H8 nope fun v4 H9 =>
    tInt v4 .i32 fun n18 =>
    andD (ExtH H8 H9) <|
    callD Try.prog 59 [(.int .i64 n13)] H9 nope fun v5 H10 =>
    tInt v5 .i32 fun n19 =>
    andD (ExtH H9 H10) <|
    newD H10 (.cells ⟨[(.slice (some ⟨r3, 0, none⟩) (ByteArray.size s2) c1), (.slice q1 q1n q1c), (.int .i64 n10), (.int .i64 n11), (.int .i32 n18), (.int .i32 n19), (.bool b3), (.bool b4), (.bool b5), (.int .i64 n14), (.int .i64 n15), (.int .i64 n16), (.int .i64 n17)]⟩ 123) fun r4 H11 =>
    R (.returned (.pointer (some ⟨r4, 0, none⟩))) H11) ∧
  (
    ldStr H1 ⟨r, 1, none⟩ fun s4 =>
    ldStr H1 ⟨r, 2, none⟩ fun s5 =>
    ldInt H1 ⟨r, 6, none⟩ .i64 fun n20 =>
    ldInt H1 ⟨r, 5, none⟩ .i64 fun n21 =>
    ldInt H1 ⟨r, 7, none⟩ .i64 fun n22 =>
    ldInt H1 ⟨r, 8, none⟩ .i64 fun n23 =>
    ldBool H1 ⟨r, 15, none⟩ fun b6 =>
    ldBool H1 ⟨r, 13, none⟩ fun b7 =>
    ldBool H1 ⟨r, 14, none⟩ fun b8 =>
    ldInt H1 ⟨r, 9, none⟩ .i64 fun n24 =>
    ldInt H1 ⟨r, 10, none⟩ .i64 fun n25 =>
    ldInt H1 ⟨r, 11, none⟩ .i64 fun n26 =>
    ldInt H1 ⟨r, 12, none⟩ .i64 fun n27 =>
    callD Try.prog 58 [(.string s5)] H1 nope fun v6 H12 =>
    tSl v6 fun q2 q2n q2c =>
    andD (ExtH H1 H12) <|
    callD Try.prog 59 [(.int .i64 n22)] H12 nope fun v7 H13 =>
    tInt v7 .i32 fun n28 =>
    andD (ExtH H12 H13) <|
    sbD H13 5 s4 fun r5 c2 H14 =>
    callD Try.prog 59 [(.int .i64 n23)] H14 nope fun v8 H15 =>
    tInt v8 .i32 fun n29 =>
    andD (ExtH H14 H15) <|
    newD H15 (.cells ⟨[(.slice (some ⟨r5, 0, none⟩) (ByteArray.size s4) c2), (.slice q2 q2n q2c), (.int .i64 n20), (.int .i64 n21), (.int .i32 n28), (.int .i32 n29), (.bool b6), (.bool b7), (.bool b8), (.int .i64 n24), (.int .i64 n25), (.int .i64 n26), (.int .i64 n27)]⟩ 123) fun r6 H16 =>
    R (.returned (.pointer (some ⟨r6, 0, none⟩))) H16) ∧
  (
    ldStr H1 ⟨r, 1, none⟩ fun s6 =>
    ldStr H1 ⟨r, 2, none⟩ fun s7 =>
    ldInt H1 ⟨r, 6, none⟩ .i64 fun n30 =>
    ldInt H1 ⟨r, 5, none⟩ .i64 fun n31 =>
    ldInt H1 ⟨r, 7, none⟩ .i64 fun n32 =>
    ldInt H1 ⟨r, 8, none⟩ .i64 fun n33 =>
    ldBool H1 ⟨r, 15, none⟩ fun b9 =>
    ldBool H1 ⟨r, 13, none⟩ fun b10 =>
    ldBool H1 ⟨r, 14, none⟩ fun b11 =>
    ldInt H1 ⟨r, 9, none⟩ .i64 fun n34 =>
    ldInt H1 ⟨r, 10, none⟩ .i64 fun n35 =>
    ldInt H1 ⟨r, 11, none⟩ .i64 fun n36 =>
    ldInt H1 ⟨r, 12, none⟩ .i64 fun n37 =>
    callD Try.prog 58 [(.string s7)] H1 nope fun v9 H17 =>
    tSl v9 fun q3 q3n q3c =>
    andD (ExtH H1 H17) <|
    callD Try.prog 59 [(.int .i64 n32)] H17 nope fun v10 H18 =>
    tInt v10 .i32 fun n38 =>
    andD (ExtH H17 H18) <|
    callD Try.prog 59 [(.int .i64 n33)] H18 nope fun v11 H19 =>
    tInt v11 .i32 fun n39 =>
    andD (ExtH H18 H19) <|
    sbD H19 5 s6 fun r7 c3 H20 =>
    newD H20 (.cells ⟨[(.slice (some ⟨r7, 0, none⟩) (ByteArray.size s6) c3), (.slice q3 q3n q3c), (.int .i64 n30), (.int .i64 n31), (.int .i32 n38), (.int .i32 n39), (.bool b9), (.bool b10), (.bool b11), (.int .i64 n34), (.int .i64 n35), (.int .i64 n36), (.int .i64 n37)]⟩ 123) fun r8 H21 =>
    R (.returned (.pointer (some ⟨r8, 0, none⟩))) H21)
theorem calls {r_0 : Int} {r_1 : ByteArray} {r_2 : ByteArray} {r_3 : ByteArray} {r_4 : Int} {r_5 : Int} {r_6 : Int} {r_7 : Int} {r_8 : Int} {r_9 : Int} {r_10 : Int} {r_11 : Int} {r_12 : Int} {r_13 : Bool} {r_14 : Bool} {r_15 : Bool} {r_16 : Bool} {r_17 : Bool} {r_18 : Option Addr} {r_18n : Nat} {r_18c : Nat} {r_19 : Option Addr} {r_19n : Nat} {r_19c : Nat} {r_20 : Option Addr} {r_20n : Nat} {r_20c : Nat} {H : Heap} {R : Ending → Heap → Prop} (h : go r_0 r_1 r_2 r_3 r_4 r_5 r_6 r_7 r_8 r_9 r_10 r_11 r_12 r_13 r_14 r_15 r_16 r_17 r_18 r_18n r_18c r_19 r_19n r_19c r_20 r_20n r_20c H R) : CallsH Try.prog 28 ⟨[(.agg ⟨[(.int .i64 r_0), (.string r_1), (.string r_2), (.string r_3), (.int .i64 r_4), (.int .i64 r_5), (.int .i64 r_6), (.int .i64 r_7), (.int .i64 r_8), (.int .i64 r_9), (.int .i64 r_10), (.int .i64 r_11), (.int .i64 r_12), (.bool r_13), (.bool r_14), (.bool r_15), (.bool r_16), (.bool r_17), (.slice r_18 r_18n r_18c), (.slice r_19 r_19n r_19c), (.slice r_20 r_20n r_20c)]⟩)]⟩ H R :=
  callsH_of_den (an := an) (fuel := 100000) (X := go r_0 r_1 r_2 r_3 r_4 r_5 r_6 r_7 r_8 r_9 r_10 r_11 r_12 r_13 r_14 r_15 r_16 r_17 r_18 r_18n r_18c r_19 r_19n r_19c r_20 r_20n r_20c H R) (c := body) mixed fn (by kernel_rfl) (by kernel_rfl) (by kernel_rfl) ok (by kernel_rfl) h
end F28
/-! ### 58 "pub-stadtholder/impl.bytesOf" -/
namespace F58
def an : Ann := { kinds := [(3001, .loud)], taus := [], pairs := [], lab := [] }
noncomputable def body : Code := (Try.f58.body).getD .skip
theorem fn : Try.prog.funcs[58]? = some Try.f58 := by kernel_rfl
theorem ok : codeOk an 7 body = true := by kernel_rfl
def go (s : ByteArray) (H : Heap) (R : Ending → Heap → Prop) : Prop :=
  iteB (eqS s (ByteArray.mk #[])) (
    R (.returned (.slice none 0 0)) H) <|
  sbD H 5 s fun r c H1 =>
  R (.returned (.slice (some ⟨r, 0, none⟩) (ByteArray.size s) c)) H1
theorem calls {s : ByteArray} {H : Heap} {R : Ending → Heap → Prop} (h : go s H R) : CallsH Try.prog 58 ⟨[(.string s)]⟩ H R :=
  callsH_of_den (an := an) (fuel := 100000) (X := go s H R) (c := body) mixed fn (by kernel_rfl) (by kernel_rfl) (by kernel_rfl) ok (by kernel_rfl) h
end F58
/-! ### 59 "pub-stadtholder/impl.order" -/
namespace F59
def an : Ann := { kinds := [], taus := [], pairs := [], lab := [] }
noncomputable def body : Code := (Try.f59.body).getD .skip
theorem fn : Try.prog.funcs[59]? = some Try.f59 := by kernel_rfl
theorem ok : codeOk an 11 body = true := by kernel_rfl
def go (n : Int) (H : Heap) (R : Ending → Heap → Prop) : Prop :=
  iteB (decide (n < (-2147483648 : Int))) (
    R (.returned (.int .i32 (-1 : Int))) H) <|
  iteB (decide (n > (2147483647 : Int))) (
    R (.returned (.int .i32 (-1 : Int))) H) <|
  R (.returned (.int .i32 (IntKind.wrap .i32 n))) H
theorem calls {n : Int} {H : Heap} {R : Ending → Heap → Prop} (h : go n H R) : CallsH Try.prog 59 ⟨[(.int .i64 n)]⟩ H R :=
  callsH_of_den (an := an) (fuel := 100000) (X := go n H R) (c := body) mixed fn (by kernel_rfl) (by kernel_rfl) (by kernel_rfl) ok (by kernel_rfl) h
end F59
/-! ### 27 "pub-stadtholder/impl.kvsIn" -/
namespace F27
def an : Ann := { kinds := [], taus := [], pairs := [], lab := [(40000004, [0, 3, 4])] }
noncomputable def body : Code := (Try.f27.body).getD .skip
theorem fn : Try.prog.funcs[27]? = some Try.f27 := by kernel_rfl
theorem ok : codeOk an 20 body = true := by kernel_rfl
noncomputable def L0t : List Item := [.code (sub [1, 1, 0, 1, 0, 0] body), .inLoop (sub [1, 1, 0, 1, 0, 0] body), .inBlock 0, .code (sub [1, 1, 1] body)]
def L0 (l : Option Addr) (ln : Nat) (lc : Nat) (out : Option Addr) (outn : Nat) (outc : Nat) (i : Int) (H : Heap) (R : Ending → Heap → Prop) : Prop :=
  GoL Try.prog 27 20 L0t [0, 3, 4] [(.slice l ln lc), (.slice out outn outc), (.int .i64 i)] H R
def L0n (l : Option Addr) (ln : Nat) (lc : Nat) (out : Option Addr) (outn : Nat) (outc : Nat) (i : Int) (H : Heap) (R : Ending → Heap → Prop) : Prop :=
  iteB (decide (i < ((ln : Nat) : Int))) (
    idxD l ln i fun a =>
    ldStr H (Addr.add a (Int.toNat i * 6)) fun s =>
    ldStr H (Addr.add (Addr.add a (Int.toNat i * 6)) 1) fun s1 =>
    ldInt H (Addr.add (Addr.add a (Int.toNat i * 6)) 2) .i64 fun n =>
    ldInt H (Addr.add (Addr.add a (Int.toNat i * 6)) 3) .i64 fun n1 =>
    ldInt H (Addr.add (Addr.add a (Int.toNat i * 6)) 4) .i64 fun n2 =>
    ldInt H (Addr.add (Addr.add a (Int.toNat i * 6)) 5) .i64 fun n3 =>
    callD Try.prog 57 [(.agg ⟨[(.string s), (.string s1), (.int .i64 n), (.int .i64 n1), (.int .i64 n2), (.int .i64 n3)]⟩)] H (panK R) fun v H1 =>
    tPtr v fun p =>
    newD H1 (.cells ⟨[(.pointer p)]⟩ 111) fun r H2 =>
    apD H2 1 8 [(.pointer none)] 111 out outn outc (some ⟨r, 0, none⟩) 1 fun q qn qc H3 =>
    L0 l ln lc q qn qc (IntKind.wrap .i64 (i + (1 : Int))) H3 R) <|
  R (.returned (.slice out outn outc)) H
theorem L0_step {l : Option Addr} {ln : Nat} {lc : Nat} {out : Option Addr} {outn : Nat} {outc : Nat} {i : Int} {H : Heap} {R : Ending → Heap → Prop} (h : L0n l ln lc out outn outc i H R) : L0 l ln lc out outn outc i H R :=
  goL_of_den (an := an) (fuel := 100000) (X := L0n l ln lc out outn outc i H R) mixed fn (by kernel_rfl) (fun ρ0 => by kernel_rfl) h
def go (l : Option Addr) (ln : Nat) (lc : Nat) (H : Heap) (R : Ending → Heap → Prop) : Prop :=
  L0 l ln lc none 0 0 (0 : Int) H R
theorem calls {l : Option Addr} {ln : Nat} {lc : Nat} {H : Heap} {R : Ending → Heap → Prop} (h : go l ln lc H R) : CallsH Try.prog 27 ⟨[(.slice l ln lc)]⟩ H R :=
  callsH_of_den (an := an) (fuel := 100000) (X := go l ln lc H R) (c := body) mixed fn (by kernel_rfl) (by kernel_rfl) (by kernel_rfl) ok (by kernel_rfl) h
end F27
/-! ### 57 "pub-stadtholder/impl.kvIn" -/
namespace F57
def an : Ann := { kinds := [(1002, .loud), (1005, .loud)], taus := [], pairs := [], lab := [] }
noncomputable def body : Code := (Try.f57.body).getD .skip
theorem fn : Try.prog.funcs[57]? = some Try.f57 := by kernel_rfl
theorem ok : codeOk an 19 body = true := by kernel_rfl
def go (x_0 : ByteArray) (x_1 : ByteArray) (x_2 : Int) (x_3 : Int) (x_4 : Int) (x_5 : Int) (H : Heap) (R : Ending → Heap → Prop) : Prop :=
  newD H (.cells ⟨[(.string x_0), (.string x_1), (.int .i64 x_2), (.int .i64 x_3), (.int .i64 x_4), (.int .i64 x_5)]⟩ 27) fun r H1 =>
  ldStr H1 ⟨r, 0, none⟩ fun s =>
  sbD H1 5 s fun r1 c H2 =>
  ldStr H2 ⟨r, 1, none⟩ fun s1 =>
  sbD H2 5 s1 fun r2 c1 H3 =>
  ldInt H3 ⟨r, 2, none⟩ .i64 fun n =>
  ldInt H3 ⟨r, 3, none⟩ .i64 fun n1 =>
  ldInt H3 ⟨r, 4, none⟩ .i64 fun n2 =>
  ldInt H3 ⟨r, 5, none⟩ .i64 fun n3 =>
  newD H3 (.cells ⟨[(.slice (some ⟨r1, 0, none⟩) (ByteArray.size s) c), (.int .i64 n), (.int .i64 n1), (.int .i64 n2), (.slice (some ⟨r2, 0, none⟩) (ByteArray.size s1) c1), (.int .i64 n3)]⟩ 165) fun r3 H4 =>
  R (.returned (.pointer (some ⟨r3, 0, none⟩))) H4
theorem calls {x_0 : ByteArray} {x_1 : ByteArray} {x_2 : Int} {x_3 : Int} {x_4 : Int} {x_5 : Int} {H : Heap} {R : Ending → Heap → Prop} (h : go x_0 x_1 x_2 x_3 x_4 x_5 H R) : CallsH Try.prog 57 ⟨[(.agg ⟨[(.string x_0), (.string x_1), (.int .i64 x_2), (.int .i64 x_3), (.int .i64 x_4), (.int .i64 x_5)]⟩)]⟩ H R :=
  callsH_of_den (an := an) (fuel := 100000) (X := go x_0 x_1 x_2 x_3 x_4 x_5 H R) (c := body) mixed fn (by kernel_rfl) (by kernel_rfl) (by kernel_rfl) ok (by kernel_rfl) h
end F57
/-! ### 26 "pub-stadtholder/pub/etcdserver/etcdserver/txn.ZzSort" -/
namespace F26
def an : Ann := { kinds := [], taus := [], pairs := [], lab := [] }
noncomputable def body : Code := (Try.f26.body).getD .skip
theorem fn : Try.prog.funcs[26]? = some Try.f26 := by kernel_rfl
theorem ok : codeOk an 16 body = true := by kernel_rfl
def go (kvs : Option Addr) (kvsn : Nat) (kvsc : Nat) (r : Option Addr) (H : Heap) (R : Ending → Heap → Prop) : Prop :=
  newD H (.cells ⟨[(.slice kvs kvsn kvsc), (.int .i64 (0 : Int)), (.int .i64 (0 : Int))]⟩ 114) fun r1 H1 =>
  callD Try.prog 56 [(.pointer (some ⟨r1, 0, none⟩)), (.pointer r), (.pointer none)] H1 (panK R) fun v H2 =>
  tTup v fun l =>
  tNil l <|
  ldSl H2 ⟨r1, 0, none⟩ fun q qn qc =>
  R (.returned (.slice q qn qc)) H2
theorem calls {kvs : Option Addr} {kvsn : Nat} {kvsc : Nat} {r : Option Addr} {H : Heap} {R : Ending → Heap → Prop} (h : go kvs kvsn kvsc r H R) : CallsH Try.prog 26 ⟨[(.slice kvs kvsn kvsc), (.pointer r)]⟩ H R :=
  callsH_of_den (an := an) (fuel := 100000) (X := go kvs kvsn kvsc r H R) (c := body) mixed fn (by kernel_rfl) (by kernel_rfl) (by kernel_rfl) ok (by kernel_rfl) h
end F26
/-! ### 56 "pub-stadtholder/pub/etcdserver/etcdserver/txn.sortRangeResults" -/
namespace F56
def an : Ann := { kinds := [], taus := [], pairs := [], lab := [(20000003, [0, 1]), (10000004, [0, 1, 6]), (10000017, [6, 7])] }
noncomputable def body : Code := (Try.f56.body).getD .skip
theorem fn : Try.prog.funcs[56]? = some Try.f56 := by kernel_rfl
theorem ok : codeOk an 115 body = true := by kernel_rfl
noncomputable def L0t : List Item := [.code (sub [1, 0, 1, 0] body), .code (sub [1, 1] body)]
def L0 (s0 : Option Addr) (s1 : Option Addr) (H : Heap) (R : Ending → Heap → Prop) : Prop :=
  GoL Try.prog 56 115 L0t [0, 1] [(.pointer s0), (.pointer s1)] H R
noncomputable def L1t : List Item := [.code (sub [1, 1] body)]
def L1 (s0 : Option Addr) (s1 : Option Addr) (s6 : Int) (H : Heap) (R : Ending → Heap → Prop) : Prop :=
  GoL Try.prog 56 115 L1t [0, 1, 6] [(.pointer s0), (.pointer s1), (.int .i32 s6)] H R
noncomputable def L2t : List Item := [.code (sub [1, 1, 1, 0, 1, 1] body)]
def L2 (s6 : Int) (s7 : IV) (H : Heap) (R : Ending → Heap → Prop) : Prop :=
  GoL Try.prog 56 115 L2t [6, 7] [(.int .i32 s6), (IV.v s7)] H R
def L0n (s0 : Option Addr) (s1 : Option Addr) (H : Heap) (R : Ending → Heap → Prop) : Prop :=
  L1 s0 s1 (1 : Int) H R
theorem L0_step {s0 : Option Addr} {s1 : Option Addr} {H : Heap} {R : Ending → Heap → Prop} (h : L0n s0 s1 H R) : L0 s0 s1 H R :=
  goL_of_den (an := an) (fuel := 100000) (X := L0n s0 s1 H R) mixed fn (by kernel_rfl) (fun ρ0 => by kernel_rfl) h
def L1n (s0 : Option Addr) (s1 : Option Addr) (s6 : Int) (H : Heap) (R : Ending → Heap → Prop) : Prop :=
  nilD s1 fun a =>
  ldInt H (Addr.add a 5) .i32 fun n =>
  callD Try.prog 74 [(.int .i32 n), (.int .i32 s6)] H (panK R) fun v H1 =>
  tBool v fun b =>
  iteB (!b) (
    nilD s1 fun a1 =>
    ldInt H1 (Addr.add a1 5) .i32 fun n1 =>
    iteB (n1 == (0 : Int)) (
      nilD s0 fun a2 =>
      ldSl H1 a2 fun q qn qc =>
      newD H1 (.cells ⟨[(.slice q qn qc)]⟩ 173) fun r H2 =>
      newD H2 (.cells ⟨[(.pointer (some ⟨r, 0, none⟩))]⟩ 175) fun r1 H3 =>
      L2 s6 (IV.mk 170 (.pointer (some ⟨r1, 0, none⟩))) H3 R) <|
    nilD s1 fun a3 =>
    ldInt H1 (Addr.add a3 5) .i32 fun n2 =>
    iteB (n2 == (1 : Int)) (
      nilD s0 fun a4 =>
      ldSl H1 a4 fun q1 q1n q1c =>
      newD H1 (.cells ⟨[(.slice q1 q1n q1c)]⟩ 173) fun r2 H4 =>
      newD H4 (.cells ⟨[(.pointer (some ⟨r2, 0, none⟩))]⟩ 177) fun r3 H5 =>
      L2 s6 (IV.mk 176 (.pointer (some ⟨r3, 0, none⟩))) H5 R) <|
    nilD s1 fun a5 =>
    ldInt H1 (Addr.add a5 5) .i32 fun n3 =>
    iteB (n3 == (2 : Int)) (
      nilD s0 fun a6 =>
      ldSl H1 a6 fun q2 q2n q2c =>
      newD H1 (.cells ⟨[(.slice q2 q2n q2c)]⟩ 173) fun r4 H6 =>
      newD H6 (.cells ⟨[(.pointer (some ⟨r4, 0, none⟩))]⟩ 179) fun r5 H7 =>
      L2 s6 (IV.mk 178 (.pointer (some ⟨r5, 0, none⟩))) H7 R) <|
    nilD s1 fun a7 =>
    ldInt H1 (Addr.add a7 5) .i32 fun n4 =>
    iteB (n4 == (3 : Int)) (
      nilD s0 fun a8 =>
      ldSl H1 a8 fun q3 q3n q3c =>
      newD H1 (.cells ⟨[(.slice q3 q3n q3c)]⟩ 173) fun r6 H8 =>
      newD H8 (.cells ⟨[(.pointer (some ⟨r6, 0, none⟩))]⟩ 181) fun r7 H9 =>
      L2 s6 (IV.mk 180 (.pointer (some ⟨r7, 0, none⟩))) H9 R) <|
    nilD s1 fun a9 =>
    ldInt H1 (Addr.add a9 5) .i32 fun n5 =>
    iteB (n5 == (4 : Int)) (
      nilD s0 fun a10 =>
      ldSl H1 a10 fun q4 q4n q4c =>
      newD H1 (.cells ⟨[(.slice q4 q4n q4c)]⟩ 173) fun r8 H10 =>
      newD H10 (.cells ⟨[(.pointer (some ⟨r8, 0, none⟩))]⟩ 183) fun r9 H11 =>
      L2 s6 (IV.mk 182 (.pointer (some ⟨r9, 0, none⟩))) H11 R) <|
    panD (.iface 9 (.string (ByteArray.mk #[117, 110, 101, 120, 112, 101, 99, 116, 101, 100, 32, 115, 111, 114, 116, 32, 116, 97, 114, 103, 101, 116]))) H1 (panK R)) <|
  R (.returned (.tuple ⟨[]⟩)) H1
theorem L1_step {s0 : Option Addr} {s1 : Option Addr} {s6 : Int} {H : Heap} {R : Ending → Heap → Prop} (h : L1n s0 s1 s6 H R) : L1 s0 s1 s6 H R :=
  goL_of_den (an := an) (fuel := 100000) (X := L1n s0 s1 s6 H R) mixed fn (by kernel_rfl) (fun ρ0 => by kernel_rfl) h
def L2n (s6 : Int) (s7 : IV) (H : Heap) (R : Ending → Heap → Prop) : Prop :=
  iteB (s6 == (1 : Int)) (
    callD Try.prog 75 [(IV.v s7)] H (panK R) fun v H1 =>
    tTup v fun l =>
    tNil l <|
    R (.returned (.tuple ⟨[]⟩)) H1) <|
  iteB (s6 == (2 : Int)) (
    callD Try.prog 76 [(IV.v s7)] H (panK R) fun v1 H2 =>
    tIf v1 fun i =>
    callD Try.prog 75 [(IV.v i)] H2 (panK R) fun v2 H3 =>
    tTup v2 fun l1 =>
    tNil l1 <|
    R (.returned (.tuple ⟨[]⟩)) H3) <|
  R (.returned (.tuple ⟨[]⟩)) H
theorem L2_step {s6 : Int} {s7 : IV} {H : Heap} {R : Ending → Heap → Prop} (h : L2n s6 s7 H R) : L2 s6 s7 H R :=
  goL_of_den (an := an) (fuel := 100000) (X := L2n s6 s7 H R) mixed fn (by kernel_rfl) (fun ρ0 => by kernel_rfl) h
def go (s0 : Option Addr) (s1 : Option Addr) (s2 : Option Addr) (H : Heap) (R : Ending → Heap → Prop) : Prop :=
  nilD s1 fun a =>
  ldInt H (Addr.add a 4) .i32 fun n =>
  nilD s1 fun a1 =>
  ldInt H (Addr.add a1 5) .i32 fun n1 =>
  iteB (n1 != (0 : Int)) (
    iteB (n == (0 : Int)) (
      L0 s0 s1 H R) <|
    L1 s0 s1 n H R) <|
  L1 s0 s1 n H R
theorem calls {s0 : Option Addr} {s1 : Option Addr} {s2 : Option Addr} {H : Heap} {R : Ending → Heap → Prop} (h : go s0 s1 s2 H R) : CallsH Try.prog 56 ⟨[(.pointer s0), (.pointer s1), (.pointer s2)]⟩ H R :=
  callsH_of_den (an := an) (fuel := 100000) (X := go s0 s1 s2 H R) (c := body) mixed fn (by kernel_rfl) (by kernel_rfl) (by kernel_rfl) ok (by kernel_rfl) h
end F56
/-! ### 74 "pub-stadtholder/pub/etcdserver/etcdserver/txn.IsDefaultOrdering" -/
namespace F74
def an : Ann := { kinds := [], taus := [], pairs := [], lab := [] }
noncomputable def body : Code := (Try.f74.body).getD .skip
theorem fn : Try.prog.funcs[74]? = some Try.f74 := by kernel_rfl
theorem ok : codeOk an 15 body = true := by kernel_rfl
def go (sortTarget : Int) (sortOrder : Int) (H : Heap) (R : Ending → Heap → Prop) : Prop :=
  iteB (sortOrder == (0 : Int)) (
    R (.returned (.bool true)) H) <|
  iteB (sortTarget == (0 : Int)) (
    R (.returned (.bool (sortOrder == (1 : Int)))) H) <|
  R (.returned (.bool false)) H
theorem calls {sortTarget : Int} {sortOrder : Int} {H : Heap} {R : Ending → Heap → Prop} (h : go sortTarget sortOrder H R) : CallsH Try.prog 74 ⟨[(.int .i32 sortTarget), (.int .i32 sortOrder)]⟩ H R :=
  callsH_of_den (an := an) (fuel := 100000) (X := go sortTarget sortOrder H R) (c := body) mixed fn (by kernel_rfl) (by kernel_rfl) (by kernel_rfl) ok (by kernel_rfl) h
end F74
/-! ### 75 "sort.Sort" -/
namespace F75
def an : Ann := { kinds := [], taus := [], pairs := [], lab := [] }
noncomputable def body : Code := (Try.f75.body).getD .skip
theorem fn : Try.prog.funcs[75]? = some Try.f75 := by kernel_rfl
theorem ok : codeOk an 15 body = true := by kernel_rfl
def go (data : IV) (H : Heap) (R : Ending → Heap → Prop) : Prop :=
  callI Try.prog (IV.v data) "Len" [] H (panK R) fun v H1 =>
  tInt v .i64 fun n =>
  iteB (decide (n ≤ (1 : Int))) (
    R (.returned (.tuple ⟨[]⟩)) H1) <|
  callD Try.prog 72 [(.int .u64 (IntKind.wrap .u64 n))] H1 (panK R) fun v1 H2 =>
  tInt v1 .i64 fun n1 =>
  callD Try.prog 91 [(IV.v data), (.int .i64 (0 : Int)), (.int .i64 n), (.int .i64 n1)] H2 (panK R) fun v2 H3 =>
  tTup v2 fun l =>
  tNil l <|
  R (.returned (.tuple ⟨[]⟩)) H3
theorem calls {data : IV} {H : Heap} {R : Ending → Heap → Prop} (h : go data H R) : CallsH Try.prog 75 ⟨[(IV.v data)]⟩ H R :=
  callsH_of_den (an := an) (fuel := 100000) (X := go data H R) (c := body) mixed fn (by kernel_rfl) (by kernel_rfl) (by kernel_rfl) ok (by kernel_rfl) h
end F75
/-! ### 76 "sort.Reverse" -/
namespace F76
def an : Ann := { kinds := [], taus := [], pairs := [], lab := [] }
noncomputable def body : Code := (Try.f76.body).getD .skip
theorem fn : Try.prog.funcs[76]? = some Try.f76 := by kernel_rfl
theorem ok : codeOk an 7 body = true := by kernel_rfl
def go (data : IV) (H : Heap) (R : Ending → Heap → Prop) : Prop :=
  guardB (isCell (IV.v data)) <|
  newD H (.cells ⟨[(IV.v data)]⟩ 233) fun r H1 =>
  R (.returned (.iface 231 (.pointer (some ⟨r, 0, none⟩)))) H1
theorem calls {data : IV} {H : Heap} {R : Ending → Heap → Prop} (h : go data H R) : CallsH Try.prog 76 ⟨[(IV.v data)]⟩ H R :=
  callsH_of_den (an := an) (fuel := 100000) (X := go data H R) (c := body) mixed fn (by kernel_rfl) (by kernel_rfl) (by kernel_rfl) ok (by kernel_rfl) h
end F76
/-! ### 72 "math/bits.Len" -/
namespace F72
def an : Ann := { kinds := [], taus := [], pairs := [], lab := [] }
noncomputable def body : Code := (Try.f72.body).getD .skip
theorem fn : Try.prog.funcs[72]? = some Try.f72 := by kernel_rfl
theorem ok : codeOk an 8 body = true := by kernel_rfl
def go (x : Int) (H : Heap) (R : Ending → Heap → Prop) : Prop :=
  callD Try.prog 90 [(.int .u64 x)] H (panK R) fun v H1 =>
  tInt v .i64 fun n =>
  R (.returned (.int .i64 n)) H1
theorem calls {x : Int} {H : Heap} {R : Ending → Heap → Prop} (h : go x H R) : CallsH Try.prog 72 ⟨[(.int .u64 x)]⟩ H R :=
  callsH_of_den (an := an) (fuel := 100000) (X := go x H R) (c := body) mixed fn (by kernel_rfl) (by kernel_rfl) (by kernel_rfl) ok (by kernel_rfl) h
end F72
/-! ### 89 "math/bits.Len32" -/
namespace F89
def an : Ann := { kinds := [], taus := [], pairs := [], lab := [(10000005, [0, 2]), (10000008, [0, 2])] }
noncomputable def body : Code := (Try.f89.body).getD .skip
theorem fn : Try.prog.funcs[89]? = some Try.f89 := by kernel_rfl
theorem ok : codeOk an 19 body = true := by kernel_rfl
noncomputable def L0t : List Item := [.code (sub [1, 1] body)]
def L0 (x : Int) (n : Int) (H : Heap) (R : Ending → Heap → Prop) : Prop :=
  GoL Try.prog 89 19 L0t [0, 2] [(.int .u32 x), (.int .i64 n)] H R
noncomputable def L1t : List Item := [.code (sub [1, 1, 1] body)]
def L1 (x : Int) (n : Int) (H : Heap) (R : Ending → Heap → Prop) : Prop :=
  GoL Try.prog 89 19 L1t [0, 2] [(.int .u32 x), (.int .i64 n)] H R
def L0n (x : Int) (n : Int) (H : Heap) (R : Ending → Heap → Prop) : Prop :=
  iteB (decide (x ≥ (256 : Int))) (
    shD (8 : Int) <|
    L1 (shrZ .u32 x (8 : Int)) (IntKind.wrap .i64 (n + (8 : Int))) H R) <|
  L1 x n H R
theorem L0_step {x : Int} {n : Int} {H : Heap} {R : Ending → Heap → Prop} (h : L0n x n H R) : L0 x n H R :=
  goL_of_den (an := an) (fuel := 100000) (X := L0n x n H R) mixed fn (by kernel_rfl) (fun ρ0 => by kernel_rfl) h
def L1n (x : Int) (n : Int) (H : Heap) (R : Ending → Heap → Prop) : Prop :=
  ixS (ByteArray.mk #[0, 1, 2, 2, 3, 3, 3, 3, 4, 4, 4, 4, 4, 4, 4, 4, 5, 5, 5, 5, 5, 5, 5, 5, 5, 5, 5, 5, 5, 5, 5, 5, 6, 6, 6, 6, 6, 6, 6, 6, 6, 6, 6, 6, 6, 6, 6, 6, 6, 6, 6, 6, 6, 6, 6, 6, 6, 6, 6, 6, 6, 6, 6, 6, 7, 7, 7, 7, 7, 7, 7, 7, 7, 7, 7, 7, 7, 7, 7, 7, 7, 7, 7, 7, 7, 7, 7, 7, 7, 7, 7, 7, 7, 7, 7, 7, 7, 7, 7, 7, 7, 7, 7, 7, 7, 7, 7, 7, 7, 7, 7, 7, 7, 7, 7, 7, 7, 7, 7, 7, 7, 7, 7, 7, 7, 7, 7, 7, 8, 8, 8, 8, 8, 8, 8, 8, 8, 8, 8, 8, 8, 8, 8, 8, 8, 8, 8, 8, 8, 8, 8, 8, 8, 8, 8, 8, 8, 8, 8, 8, 8, 8, 8, 8, 8, 8, 8, 8, 8, 8, 8, 8, 8, 8, 8, 8, 8, 8, 8, 8, 8, 8, 8, 8, 8, 8, 8, 8, 8, 8, 8, 8, 8, 8, 8, 8, 8, 8, 8, 8, 8, 8, 8, 8, 8, 8, 8, 8, 8, 8, 8, 8, 8, 8, 8, 8, 8, 8, 8, 8, 8, 8, 8, 8, 8, 8, 8, 8, 8, 8, 8, 8, 8, 8, 8, 8, 8, 8, 8, 8, 8, 8, 8, 8, 8, 8, 8, 8, 8, 8, 8, 8, 8, 8, 8, 8]) (IntKind.wrap .u8 x) fun b =>
  R (.returned (.int .i64 (IntKind.wrap .i64 (n + (IntKind.wrap .i64 ((UInt8.toNat b : Nat) : Int)))))) H
theorem L1_step {x : Int} {n : Int} {H : Heap} {R : Ending → Heap → Prop} (h : L1n x n H R) : L1 x n H R :=
  goL_of_den (an := an) (fuel := 100000) (X := L1n x n H R) mixed fn (by kernel_rfl) (fun ρ0 => by kernel_rfl) h
def go (x : Int) (H : Heap) (R : Ending → Heap → Prop) : Prop :=
  iteB (decide (x ≥ (65536 : Int))) (
    shD (16 : Int) <|
    L0 (shrZ .u32 x (16 : Int)) (16 : Int) H R) <|
  L0 x (0 : Int) H R
theorem calls {x : Int} {H : Heap} {R : Ending → Heap → Prop} (h : go x H R) : CallsH Try.prog 89 ⟨[(.int .u32 x)]⟩ H R :=
  callsH_of_den (an := an) (fuel := 100000) (X := go x H R) (c := body) mixed fn (by kernel_rfl) (by kernel_rfl) (by kernel_rfl) ok (by kernel_rfl) h
end F89
/-! ### 90 "math/bits.Len64" -/
namespace F90
def an : Ann := { kinds := [], taus := [], pairs := [], lab := [(10000005, [0, 2]), (10000008, [0, 2]), (10000011, [0, 2])] }
noncomputable def body : Code := (Try.f90.body).getD .skip
theorem fn : Try.prog.funcs[90]? = some Try.f90 := by kernel_rfl
theorem ok : codeOk an 25 body = true := by kernel_rfl
noncomputable def L0t : List Item := [.code (sub [1, 1] body)]
def L0 (x : Int) (n : Int) (H : Heap) (R : Ending → Heap → Prop) : Prop :=
  GoL Try.prog 90 25 L0t [0, 2] [(.int .u64 x), (.int .i64 n)] H R
noncomputable def L1t : List Item := [.code (sub [1, 1, 1] body)]
def L1 (x : Int) (n : Int) (H : Heap) (R : Ending → Heap → Prop) : Prop :=
  GoL Try.prog 90 25 L1t [0, 2] [(.int .u64 x), (.int .i64 n)] H R
noncomputable def L2t : List Item := [.code (sub [1, 1, 1, 1] body)]
def L2 (x : Int) (n : Int) (H : Heap) (R : Ending → Heap → Prop) : Prop :=
  GoL Try.prog 90 25 L2t [0, 2] [(.int .u64 x), (.int .i64 n)] H R
def L0n (x : Int) (n : Int) (H : Heap) (R : Ending → Heap → Prop) : Prop :=
  iteB (decide (x ≥ (65536 : Int))) (
    shD (16 : Int) <|
    L1 (shrZ .u64 x (16 : Int)) (IntKind.wrap .i64 (n + (16 : Int))) H R) <|
  L1 x n H R
theorem L0_step {x : Int} {n : Int} {H : Heap} {R : Ending → Heap → Prop} (h : L0n x n H R) : L0 x n H R :=
  goL_of_den (an := an) (fuel := 100000) (X := L0n x n H R) mixed fn (by kernel_rfl) (fun ρ0 => by kernel_rfl) h
def L1n (x : Int) (n : Int) (H : Heap) (R : Ending → Heap → Prop) : Prop :=
  iteB (decide (x ≥ (256 : Int))) (
    shD (8 : Int) <|
    L2 (shrZ .u64 x (8 : Int)) (IntKind.wrap .i64 (n + (8 : Int))) H R) <|
  L2 x n H R
theorem L1_step {x : Int} {n : Int} {H : Heap} {R : Ending → Heap → Prop} (h : L1n x n H R) : L1 x n H R :=
  goL_of_den (an := an) (fuel := 100000) (X := L1n x n H R) mixed fn (by kernel_rfl) (fun ρ0 => by kernel_rfl) h
def L2n (x : Int) (n : Int) (H : Heap) (R : Ending → Heap → Prop) : Prop :=
  ixS (ByteArray.mk #[0, 1, 2, 2, 3, 3, 3, 3, 4, 4, 4, 4, 4, 4, 4, 4, 5, 5, 5, 5, 5, 5, 5, 5, 5, 5, 5, 5, 5, 5, 5, 5, 6, 6, 6, 6, 6, 6, 6, 6, 6, 6, 6, 6, 6, 6, 6, 6, 6, 6, 6, 6, 6, 6, 6, 6, 6, 6, 6, 6, 6, 6, 6, 6, 7, 7, 7, 7, 7, 7, 7, 7, 7, 7, 7, 7, 7, 7, 7, 7, 7, 7, 7, 7, 7, 7, 7, 7, 7, 7, 7, 7, 7, 7, 7, 7, 7, 7, 7, 7, 7, 7, 7, 7, 7, 7, 7, 7, 7, 7, 7, 7, 7, 7, 7, 7, 7, 7, 7, 7, 7, 7, 7, 7, 7, 7, 7, 7, 8, 8, 8, 8, 8, 8, 8, 8, 8, 8, 8, 8, 8, 8, 8, 8, 8, 8, 8, 8, 8, 8, 8, 8, 8, 8, 8, 8, 8, 8, 8, 8, 8, 8, 8, 8, 8, 8, 8, 8, 8, 8, 8, 8, 8, 8, 8, 8, 8, 8, 8, 8, 8, 8, 8, 8, 8, 8, 8, 8, 8, 8, 8, 8, 8, 8, 8, 8, 8, 8, 8, 8, 8, 8, 8, 8, 8, 8, 8, 8, 8, 8, 8, 8, 8, 8, 8, 8, 8, 8, 8, 8, 8, 8, 8, 8, 8, 8, 8, 8, 8, 8, 8, 8, 8, 8, 8, 8, 8, 8, 8, 8, 8, 8, 8, 8, 8, 8, 8, 8, 8, 8, 8, 8, 8, 8, 8, 8]) (IntKind.wrap .u8 x) fun b =>
  R (.returned (.int .i64 (IntKind.wrap .i64 (n + (IntKind.wrap .i64 ((UInt8.toNat b : Nat) : Int)))))) H
theorem L2_step {x : Int} {n : Int} {H : Heap} {R : Ending → Heap → Prop} (h : L2n x n H R) : L2 x n H R :=
  goL_of_den (an := an) (fuel := 100000) (X := L2n x n H R) mixed fn (by kernel_rfl) (fun ρ0 => by kernel_rfl) h
def go (x : Int) (H : Heap) (R : Ending → Heap → Prop) : Prop :=
  iteB (decide (x ≥ (4294967296 : Int))) (
    shD (32 : Int) <|
    L0 (shrZ .u64 x (32 : Int)) (32 : Int) H R) <|
  L0 x (0 : Int) H R
theorem calls {x : Int} {H : Heap} {R : Ending → Heap → Prop} (h : go x H R) : CallsH Try.prog 90 ⟨[(.int .u64 x)]⟩ H R :=
  callsH_of_den (an := an) (fuel := 100000) (X := go x H R) (c := body) mixed fn (by kernel_rfl) (by kernel_rfl) (by kernel_rfl) ok (by kernel_rfl) h
end F90
/-! ### 91 "sort.pdqsort" -/
namespace F91
def an : Ann := { kinds := [], taus := [], pairs := [], lab := [(30000003, [0, 1, 2, 3, 8, 9]), (40000011, [0, 1, 2, 3, 8, 9, 10]), (40000016, [0, 1, 2, 3, 8, 9, 10, 11, 12]), (50000017, [0, 1, 2, 3, 8, 9, 10, 11]), (40000018, [0, 1, 2, 3, 8, 9, 10, 11]), (40000021, [0, 1, 2, 3, 10, 11]), (50000019, [0, 1, 2, 3, 8, 9, 11])] }
noncomputable def body : Code := (Try.f91.body).getD .skip
theorem fn : Try.prog.funcs[91]? = some Try.f91 := by kernel_rfl
theorem ok : codeOk an 129 body = true := by kernel_rfl
noncomputable def L0t : List Item := [.code (sub [1, 1, 0, 0] body), .inLoop (sub [1, 1, 0, 0] body), .inBlock 0]
def L0 (s0 : IV) (s1 : Int) (s2 : Int) (s3 : Int) (s8 : Bool) (s9 : Bool) (H : Heap) (R : Ending → Heap → Prop) : Prop :=
  GoL Try.prog 91 129 L0t [0, 1, 2, 3, 8, 9] [(IV.v s0), (.int .i64 s1), (.int .i64 s2), (.int .i64 s3), (.bool s8), (.bool s9)] H R
noncomputable def L1t : List Item := [.code (sub [1, 1, 0, 0, 0, 1, 1, 1, 1] body), .inBlock 1, .inLoop (sub [1, 1, 0, 0] body), .inBlock 0]
def L1 (s0 : IV) (s1 : Int) (s2 : Int) (s3 : Int) (s8 : Bool) (s9 : Bool) (s10 : Int) (H : Heap) (R : Ending → Heap → Prop) : Prop :=
  GoL Try.prog 91 129 L1t [0, 1, 2, 3, 8, 9, 10] [(IV.v s0), (.int .i64 s1), (.int .i64 s2), (.int .i64 s3), (.bool s8), (.bool s9), (.int .i64 s10)] H R
noncomputable def L2t : List Item := [.code (sub [1, 1, 0, 0, 0, 1, 1, 1, 1, 1, 1] body), .inBlock 1, .inLoop (sub [1, 1, 0, 0] body), .inBlock 0]
def L2 (s0 : IV) (s1 : Int) (s2 : Int) (s3 : Int) (s8 : Bool) (s9 : Bool) (s10 : Int) (s11 : Int) (s12 : Int) (H : Heap) (R : Ending → Heap → Prop) : Prop :=
  GoL Try.prog 91 129 L2t [0, 1, 2, 3, 8, 9, 10, 11, 12] [(IV.v s0), (.int .i64 s1), (.int .i64 s2), (.int .i64 s3), (.bool s8), (.bool s9), (.int .i64 s10), (.int .i64 s11), (.int .i64 s12)] H R
noncomputable def L3t : List Item := [.code (sub [1, 1, 0, 0, 0, 1, 1, 1, 1, 1, 1, 0, 1, 0] body), .code (sub [1, 1, 0, 0, 0, 1, 1, 1, 1, 1, 1, 1] body), .inBlock 1, .inLoop (sub [1, 1, 0, 0] body), .inBlock 0]
def L3 (s0 : IV) (s1 : Int) (s2 : Int) (s3 : Int) (s8 : Bool) (s9 : Bool) (s10 : Int) (s11 : Int) (H : Heap) (R : Ending → Heap → Prop) : Prop :=
  GoL Try.prog 91 129 L3t [0, 1, 2, 3, 8, 9, 10, 11] [(IV.v s0), (.int .i64 s1), (.int .i64 s2), (.int .i64 s3), (.bool s8), (.bool s9), (.int .i64 s10), (.int .i64 s11)] H R
noncomputable def L4t : List Item := [.code (sub [1, 1, 0, 0, 0, 1, 1, 1, 1, 1, 1, 1] body), .inBlock 1, .inLoop (sub [1, 1, 0, 0] body), .inBlock 0]
def L4 (s0 : IV) (s1 : Int) (s2 : Int) (s3 : Int) (s8 : Bool) (s9 : Bool) (s10 : Int) (s11 : Int) (H : Heap) (R : Ending → Heap → Prop) : Prop :=
  GoL Try.prog 91 129 L4t [0, 1, 2, 3, 8, 9, 10, 11] [(IV.v s0), (.int .i64 s1), (.int .i64 s2), (.int .i64 s3), (.bool s8), (.bool s9), (.int .i64 s10), (.int .i64 s11)] H R
noncomputable def L5t : List Item := [.code (sub [1, 1, 0, 0, 0, 1, 1, 1, 1, 1, 1, 1, 1] body), .inBlock 1, .inLoop (sub [1, 1, 0, 0] body), .inBlock 0]
def L5 (s0 : IV) (s1 : Int) (s2 : Int) (s3 : Int) (s10 : Int) (s11 : Int) (H : Heap) (R : Ending → Heap → Prop) : Prop :=
  GoL Try.prog 91 129 L5t [0, 1, 2, 3, 10, 11] [(IV.v s0), (.int .i64 s1), (.int .i64 s2), (.int .i64 s3), (.int .i64 s10), (.int .i64 s11)] H R
noncomputable def L6t : List Item := [.code (sub [1, 1, 0, 0, 0, 1, 1, 1, 1, 1, 1, 1, 0, 1, 0] body), .code (sub [1, 1, 0, 0, 0, 1, 1, 1, 1, 1, 1, 1, 1] body), .inBlock 1, .inLoop (sub [1, 1, 0, 0] body), .inBlock 0]
def L6 (s0 : IV) (s1 : Int) (s2 : Int) (s3 : Int) (s8 : Bool) (s9 : Bool) (s11 : Int) (H : Heap) (R : Ending → Heap → Prop) : Prop :=
  GoL Try.prog 91 129 L6t [0, 1, 2, 3, 8, 9, 11] [(IV.v s0), (.int .i64 s1), (.int .i64 s2), (.int .i64 s3), (.bool s8), (.bool s9), (.int .i64 s11)] H R
def L0n (s0 : IV) (s1 : Int) (s2 : Int) (s3 : Int) (s8 : Bool) (s9 : Bool) (H : Heap) (R : Ending → Heap → Prop) : Prop :=
  iteB (decide ((IntKind.wrap .i64 (s2 - s1)) ≤ (12 : Int))) (
    callD Try.prog 98 [(IV.v s0), (.int .i64 s1), (.int .i64 s2)] H (panK R) fun v H1 =>
    tTup v fun l =>
    tNil l <|
    R (.returned (.tuple ⟨[]⟩)) H1) <|
  iteB (s3 == (0 : Int)) (
    callD Try.prog 99 [(IV.v s0), (.int .i64 s1), (.int .i64 s2)] H (panK R) fun v1 H2 =>
    tTup v1 fun l1 =>
    tNil l1 <|
    R (.returned (.tuple ⟨[]⟩)) H2) <|
  iteB (!s8) (
    callD Try.prog 100 [(IV.v s0), (.int .i64 s1), (.int .i64 s2)] H (panK R) fun v2 H3 =>
    tTup v2 fun l2 =>
    tNil l2 <|
    L1 s0 s1 s2 (IntKind.wrap .i64 (s3 - (1 : Int))) s8 s9 (IntKind.wrap .i64 (s2 - s1)) H3 R) <|
  L1 s0 s1 s2 s3 s8 s9 (IntKind.wrap .i64 (s2 - s1)) H R
theorem L0_step {s0 : IV} {s1 : Int} {s2 : Int} {s3 : Int} {s8 : Bool} {s9 : Bool} {H : Heap} {R : Ending → Heap → Prop} (h : L0n s0 s1 s2 s3 s8 s9 H R) : L0 s0 s1 s2 s3 s8 s9 H R :=
  goL_of_den (an := an) (fuel := 100000) (X := L0n s0 s1 s2 s3 s8 s9 H R) mixed fn (by kernel_rfl) (fun ρ0 => by kernel_rfl) h
def L1n (s0 : IV) (s1 : Int) (s2 : Int) (s3 : Int) (s8 : Bool) (s9 : Bool) (s10 : Int) (H : Heap) (R : Ending → Heap → Prop) : Prop :=
  callD Try.prog 101 [(IV.v s0), (.int .i64 s1), (.int .i64 s2)] H (panK R) fun v H1 =>
  tTup v fun l =>
  tCons l fun c l1 =>
  tInt c .i64 fun n =>
  tCons l1 fun c1 l2 =>
  tInt c1 .i64 fun n1 =>
  tNil l2 <|
  iteB (n1 == (2 : Int)) (
    callD Try.prog 102 [(IV.v s0), (.int .i64 s1), (.int .i64 s2)] H1 (panK R) fun v1 H2 =>
    tTup v1 fun l3 =>
    tNil l3 <|
    L2 s0 s1 s2 s3 s8 s9 s10 (IntKind.wrap .i64 ((IntKind.wrap .i64 (s2 - (1 : Int))) - (IntKind.wrap .i64 (n - s1)))) (1 : Int) H2 R) <|
  L2 s0 s1 s2 s3 s8 s9 s10 n n1 H1 R
theorem L1_step {s0 : IV} {s1 : Int} {s2 : Int} {s3 : Int} {s8 : Bool} {s9 : Bool} {s10 : Int} {H : Heap} {R : Ending → Heap → Prop} (h : L1n s0 s1 s2 s3 s8 s9 s10 H R) : L1 s0 s1 s2 s3 s8 s9 s10 H R :=
  goL_of_den (an := an) (fuel := 100000) (X := L1n s0 s1 s2 s3 s8 s9 s10 H R) mixed fn (by kernel_rfl) (fun ρ0 => by kernel_rfl) h
def L2n (s0 : IV) (s1 : Int) (s2 : Int) (s3 : Int) (s8 : Bool) (s9 : Bool) (s10 : Int) (s11 : Int) (s12 : Int) (H : Heap) (R : Ending → Heap → Prop) : Prop :=
  iteB s8 (
    iteB s9 (
      iteB (s12 == (1 : Int)) (
        L3 s0 s1 s2 s3 s8 s9 s10 s11 H R) <|
      L4 s0 s1 s2 s3 s8 s9 s10 s11 H R) <|
    L4 s0 s1 s2 s3 s8 s9 s10 s11 H R) <|
  L4 s0 s1 s2 s3 s8 s9 s10 s11 H R
theorem L2_step {s0 : IV} {s1 : Int} {s2 : Int} {s3 : Int} {s8 : Bool} {s9 : Bool} {s10 : Int} {s11 : Int} {s12 : Int} {H : Heap} {R : Ending → Heap → Prop} (h : L2n s0 s1 s2 s3 s8 s9 s10 s11 s12 H R) : L2 s0 s1 s2 s3 s8 s9 s10 s11 s12 H R :=
  goL_of_den (an := an) (fuel := 100000) (X := L2n s0 s1 s2 s3 s8 s9 s10 s11 s12 H R) mixed fn (by kernel_rfl) (fun ρ0 => by kernel_rfl) h
def L3n (s0 : IV) (s1 : Int) (s2 : Int) (s3 : Int) (s8 : Bool) (s9 : Bool) (s10 : Int) (s11 : Int) (H : Heap) (R : Ending → Heap → Prop) : Prop :=
  callD Try.prog 103 [(IV.v s0), (.int .i64 s1), (.int .i64 s2)] H (panK R) fun v H1 =>
  tBool v fun b =>
  iteB b (
    R (.returned (.tuple ⟨[]⟩)) H1) <|
  L4 s0 s1 s2 s3 s8 s9 s10 s11 H1 R
theorem L3_step {s0 : IV} {s1 : Int} {s2 : Int} {s3 : Int} {s8 : Bool} {s9 : Bool} {s10 : Int} {s11 : Int} {H : Heap} {R : Ending → Heap → Prop} (h : L3n s0 s1 s2 s3 s8 s9 s10 s11 H R) : L3 s0 s1 s2 s3 s8 s9 s10 s11 H R :=
  goL_of_den (an := an) (fuel := 100000) (X := L3n s0 s1 s2 s3 s8 s9 s10 s11 H R) mixed fn (by kernel_rfl) (fun ρ0 => by kernel_rfl) h
def L4n (s0 : IV) (s1 : Int) (s2 : Int) (s3 : Int) (s8 : Bool) (s9 : Bool) (s10 : Int) (s11 : Int) (H : Heap) (R : Ending → Heap → Prop) : Prop :=
  iteB (decide (s1 > (0 : Int))) (
    callI Try.prog (IV.v s0) "Less" [(.int .i64 (IntKind.wrap .i64 (s1 - (1 : Int)))), (.int .i64 s11)] H (panK R) fun v H1 =>
    tBool v fun b =>
    iteB (!b) (
      L6 s0 s1 s2 s3 s8 s9 s11 H1 R) <|
    L5 s0 s1 s2 s3 s10 s11 H1 R) <|
  L5 s0 s1 s2 s3 s10 s11 H R
theorem L4_step {s0 : IV} {s1 : Int} {s2 : Int} {s3 : Int} {s8 : Bool} {s9 : Bool} {s10 : Int} {s11 : Int} {H : Heap} {R : Ending → Heap → Prop} (h : L4n s0 s1 s2 s3 s8 s9 s10 s11 H R) : L4 s0 s1 s2 s3 s8 s9 s10 s11 H R :=
  goL_of_den (an := an) (fuel := 100000) (X := L4n s0 s1 s2 s3 s8 s9 s10 s11 H R) mixed fn (by kernel_rfl) (fun ρ0 => by kernel_rfl) h
def L5n (s0 : IV) (s1 : Int) (s2 : Int) (s3 : Int) (s10 : Int) (s11 : Int) (H : Heap) (R : Ending → Heap → Prop) : Prop :=
  callD Try.prog 105 [(IV.v s0), (.int .i64 s1), (.int .i64 s2), (.int .i64 s11)] H (panK R) fun v H1 =>
  tTup v fun l =>
  tCons l fun c l1 =>
  tInt c .i64 fun n =>
  tCons l1 fun c1 l2 =>
  tBool c1 fun b =>
  tNil l2 <|
  divD (8 : Int) <|
  iteB (decide ((IntKind.wrap .i64 (n - s1)) < (IntKind.wrap .i64 (s2 - n)))) (
    callD Try.prog 91 [(IV.v s0), (.int .i64 s1), (.int .i64 n), (.int .i64 s3)] H1 (panK R) fun v1 H2 =>
    tTup v1 fun l3 =>
    tNil l3 <|
    L0 s0 (IntKind.wrap .i64 (n + (1 : Int))) s2 s3 (decide ((IntKind.wrap .i64 (n - s1)) ≥ (IntKind.wrap .i64 (Int.tdiv s10 (8 : Int))))) b H2 R) <|
  callD Try.prog 91 [(IV.v s0), (.int .i64 (IntKind.wrap .i64 (n + (1 : Int)))), (.int .i64 s2), (.int .i64 s3)] H1 (panK R) fun v2 H3 =>
  tTup v2 fun l4 =>
  tNil l4 <|
  L0 s0 s1 n s3 (decide ((IntKind.wrap .i64 (s2 - n)) ≥ (IntKind.wrap .i64 (Int.tdiv s10 (8 : Int))))) b H3 R
theorem L5_step {s0 : IV} {s1 : Int} {s2 : Int} {s3 : Int} {s10 : Int} {s11 : Int} {H : Heap} {R : Ending → Heap → Prop} (h : L5n s0 s1 s2 s3 s10 s11 H R) : L5 s0 s1 s2 s3 s10 s11 H R :=
  goL_of_den (an := an) (fuel := 100000) (X := L5n s0 s1 s2 s3 s10 s11 H R) mixed fn (by kernel_rfl) (fun ρ0 => by kernel_rfl) h
def L6n (s0 : IV) (s1 : Int) (s2 : Int) (s3 : Int) (s8 : Bool) (s9 : Bool) (s11 : Int) (H : Heap) (R : Ending → Heap → Prop) : Prop :=
  callD Try.prog 104 [(IV.v s0), (.int .i64 s1), (.int .i64 s2), (.int .i64 s11)] H (panK R) fun v H1 =>
  tInt v .i64 fun n =>
  L0 s0 n s2 s3 s8 s9 H1 R
theorem L6_step {s0 : IV} {s1 : Int} {s2 : Int} {s3 : Int} {s8 : Bool} {s9 : Bool} {s11 : Int} {H : Heap} {R : Ending → Heap → Prop} (h : L6n s0 s1 s2 s3 s8 s9 s11 H R) : L6 s0 s1 s2 s3 s8 s9 s11 H R :=
  goL_of_den (an := an) (fuel := 100000) (X := L6n s0 s1 s2 s3 s8 s9 s11 H R) mixed fn (by kernel_rfl) (fun ρ0 => by kernel_rfl) h
def go (s0 : IV) (s1 : Int) (s2 : Int) (s3 : Int) (H : Heap) (R : Ending → Heap → Prop) : Prop :=
  L0 s0 s1 s2 s3 true true H R
theorem calls {s0 : IV} {s1 : Int} {s2 : Int} {s3 : Int} {H : Heap} {R : Ending → Heap → Prop} (h : go s0 s1 s2 s3 H R) : CallsH Try.prog 91 ⟨[(IV.v s0), (.int .i64 s1), (.int .i64 s2), (.int .i64 s3)]⟩ H R :=
  callsH_of_den (an := an) (fuel := 100000) (X := go s0 s1 s2 s3 H R) (c := body) mixed fn (by kernel_rfl) (by kernel_rfl) (by kernel_rfl) ok (by kernel_rfl) h
end F91
/-! ### 98 "sort.insertionSort" -/
namespace F98
def an : Ann := { kinds := [], taus := [], pairs := [], lab := [(30000002, [0, 1, 2, 6]), (70000005, [0, 1, 2, 6, 7]), (30000003, [0, 1, 2, 6]), (70000007, [0, 1, 2, 6, 7])] }
noncomputable def body : Code := (Try.f98.body).getD .skip
theorem fn : Try.prog.funcs[98]? = some Try.f98 := by kernel_rfl
theorem ok : codeOk an 33 body = true := by kernel_rfl
noncomputable def L0t : List Item := [.code (sub [1, 0, 0] body), .inLoop (sub [1, 0, 0] body), .inBlock 0]
def L0 (data : IV) (a : Int) (b : Int) (i : Int) (H : Heap) (R : Ending → Heap → Prop) : Prop :=
  GoL Try.prog 98 33 L0t [0, 1, 2, 6] [(IV.v data), (.int .i64 a), (.int .i64 b), (.int .i64 i)] H R
noncomputable def L1t : List Item := [.code (sub [1, 0, 0, 1, 0, 0, 1, 0, 0] body), .inLoop (sub [1, 0, 0, 1, 0, 0, 1, 0, 0] body), .inBlock 2, .inBlock 1, .code (sub [1, 0, 0, 1, 1] body), .inLoop (sub [1, 0, 0] body), .inBlock 0]
def L1 (data : IV) (a : Int) (b : Int) (i : Int) (j : Int) (H : Heap) (R : Ending → Heap → Prop) : Prop :=
  GoL Try.prog 98 33 L1t [0, 1, 2, 6, 7] [(IV.v data), (.int .i64 a), (.int .i64 b), (.int .i64 i), (.int .i64 j)] H R
noncomputable def L2t : List Item := [.code (sub [1, 0, 0, 1, 1] body), .inLoop (sub [1, 0, 0] body), .inBlock 0]
def L2 (data : IV) (a : Int) (b : Int) (i : Int) (H : Heap) (R : Ending → Heap → Prop) : Prop :=
  GoL Try.prog 98 33 L2t [0, 1, 2, 6] [(IV.v data), (.int .i64 a), (.int .i64 b), (.int .i64 i)] H R
noncomputable def L3t : List Item := [.code (sub [1, 0, 0, 1, 0, 0, 1, 0, 0, 1] body), .inLoop (sub [1, 0, 0, 1, 0, 0, 1, 0, 0] body), .inBlock 2, .inBlock 1, .code (sub [1, 0, 0, 1, 1] body), .inLoop (sub [1, 0, 0] body), .inBlock 0]
def L3 (data : IV) (a : Int) (b : Int) (i : Int) (j : Int) (H : Heap) (R : Ending → Heap → Prop) : Prop :=
  GoL Try.prog 98 33 L3t [0, 1, 2, 6, 7] [(IV.v data), (.int .i64 a), (.int .i64 b), (.int .i64 i), (.int .i64 j)] H R
def L0n (data : IV) (a : Int) (b : Int) (i : Int) (H : Heap) (R : Ending → Heap → Prop) : Prop :=
  iteB (decide (i < b)) (
    L1 data a b i i H R) <|
  R (.returned (.tuple ⟨[]⟩)) H
theorem L0_step {data : IV} {a : Int} {b : Int} {i : Int} {H : Heap} {R : Ending → Heap → Prop} (h : L0n data a b i H R) : L0 data a b i H R :=
  goL_of_den (an := an) (fuel := 100000) (X := L0n data a b i H R) mixed fn (by kernel_rfl) (fun ρ0 => by kernel_rfl) h
def L1n (data : IV) (a : Int) (b : Int) (i : Int) (j : Int) (H : Heap) (R : Ending → Heap → Prop) : Prop :=
  iteB (decide (j > a)) (
    callI Try.prog (IV.v data) "Less" [(.int .i64 j), (.int .i64 (IntKind.wrap .i64 (j - (1 : Int))))] H (panK R) fun v H1 =>
    tBool v fun b1 =>
    iteB b1 (
      L3 data a b i j H1 R) <|
    L2 data a b i H1 R) <|
  L2 data a b i H R
theorem L1_step {data : IV} {a : Int} {b : Int} {i : Int} {j : Int} {H : Heap} {R : Ending → Heap → Prop} (h : L1n data a b i j H R) : L1 data a b i j H R :=
  goL_of_den (an := an) (fuel := 100000) (X := L1n data a b i j H R) mixed fn (by kernel_rfl) (fun ρ0 => by kernel_rfl) h
def L2n (data : IV) (a : Int) (b : Int) (i : Int) (H : Heap) (R : Ending → Heap → Prop) : Prop :=
  L0 data a b (IntKind.wrap .i64 (i + (1 : Int))) H R
theorem L2_step {data : IV} {a : Int} {b : Int} {i : Int} {H : Heap} {R : Ending → Heap → Prop} (h : L2n data a b i H R) : L2 data a b i H R :=
  goL_of_den (an := an) (fuel := 100000) (X := L2n data a b i H R) mixed fn (by kernel_rfl) (fun ρ0 => by kernel_rfl) h
def L3n (data : IV) (a : Int) (b : Int) (i : Int) (j : Int) (H : Heap) (R : Ending → Heap → Prop) : Prop :=
  callI Try.prog (IV.v data) "Swap" [(.int .i64 j), (.int .i64 (IntKind.wrap .i64 (j - (1 : Int))))] H (panK R) fun v H1 =>
  tTup v fun l =>
  tNil l <|
  L1 data a b i (IntKind.wrap .i64 (j - (1 : Int))) H1 R
theorem L3_step {data : IV} {a : Int} {b : Int} {i : Int} {j : Int} {H : Heap} {R : Ending → Heap → Prop} (h : L3n data a b i j H R) : L3 data a b i j H R :=
  goL_of_den (an := an) (fuel := 100000) (X := L3n data a b i j H R) mixed fn (by kernel_rfl) (fun ρ0 => by kernel_rfl) h
def go (data : IV) (a : Int) (b : Int) (H : Heap) (R : Ending → Heap → Prop) : Prop :=
  L0 data a b (IntKind.wrap .i64 (a + (1 : Int))) H R
theorem calls {data : IV} {a : Int} {b : Int} {H : Heap} {R : Ending → Heap → Prop} (h : go data a b H R) : CallsH Try.prog 98 ⟨[(IV.v data), (.int .i64 a), (.int .i64 b)]⟩ H R :=
  callsH_of_den (an := an) (fuel := 100000) (X := go data a b H R) (c := body) mixed fn (by kernel_rfl) (by kernel_rfl) (by kernel_rfl) ok (by kernel_rfl) h
end F98
/-! ### 139 "(*pub-stadtholder/pub/etcdserver/etcdserver/txn.kvSort).Len" -/
namespace F139
def an : Ann := { kinds := [], taus := [], pairs := [], lab := [] }
noncomputable def body : Code := (Try.f139.body).getD .skip
theorem fn : Try.prog.funcs[139]? = some Try.f139 := by kernel_rfl
theorem ok : codeOk an 8 body = true := by kernel_rfl
def go (s : Option Addr) (H : Heap) (R : Ending → Heap → Prop) : Prop :=
  nilD s fun a =>
  ldSl H a fun q qn qc =>
  R (.returned (.int .i64 ((qn : Nat) : Int))) H
theorem calls {s : Option Addr} {H : Heap} {R : Ending → Heap → Prop} (h : go s H R) : CallsH Try.prog 139 ⟨[(.pointer s)]⟩ H R :=
  callsH_of_den (an := an) (fuel := 100000) (X := go s H R) (c := body) mixed fn (by kernel_rfl) (by kernel_rfl) (by kernel_rfl) ok (by kernel_rfl) h
end F139
/-! ### 140 "(*pub-stadtholder/pub/etcdserver/etcdserver/txn.kvSortByKey).Less" -/
namespace F140
def an : Ann := { kinds := [], taus := [(1, [[0, 1, 2, 7, 13, 14, 15, 20, 3, 4, 5, 6, 8, 9, 10, 11, 12, 16, 17, 18, 19, 21, 22, 23, 24, 25, 26, 27, 28]])], pairs := [], lab := [] }
noncomputable def body : Code := (Try.f140.body).getD .skip
theorem fn : Try.prog.funcs[140]? = some Try.f140 := by kernel_rfl
theorem ok : codeOk an 35 body = true := by kernel_rfl
def go (s : Option Addr) (i : Int) (j : Int) (H : Heap) (R : Ending → Heap → Prop) : Prop :=
  nilD s fun a =>
  nilD s fun a1 =>
  ldPtr H a fun p =>
  nilD p fun a2 =>
  ldSl H a2 fun q qn qc =>
  idxD q qn i fun a3 =>
  ldPtr H (Addr.add a3 (Int.toNat i * 1)) fun p1 =>
  nilD p1 fun a4 =>
  ldSl H a4 fun q1 q1n q1c =>
  ldPtr H a1 fun p2 =>
  nilD p2 fun a5 =>
  ldSl H a5 fun q2 q2n q2c =>
  idxD q2 q2n j fun a6 =>
  ldPtr H (Addr.add a6 (Int.toNat j * 1)) fun p3 =>
  nilD p3 fun a7 =>
  ldSl H a7 fun q3 q3n q3c =>
  callD Try.prog 142 [(.slice q1 q1n q1c), (.slice q3 q3n q3c)] H (panK R) fun v H1 =>
  tInt v .i64 fun n =>
  R (.returned (.bool (decide (n < (0 : Int))))) H1
theorem calls {s : Option Addr} {i : Int} {j : Int} {H : Heap} {R : Ending → Heap → Prop} (h : go s i j H R) : CallsH Try.prog 140 ⟨[(.pointer s), (.int .i64 i), (.int .i64 j)]⟩ H R :=
  callsH_of_den (an := an) (fuel := 100000) (X := go s i j H R) (c := body) mixed fn (by kernel_rfl) (by kernel_rfl) (by kernel_rfl) ok (by kernel_rfl) h
end F140
/-! ### 141 "(*pub-stadtholder/pub/etcdserver/etcdserver/txn.kvSort).Swap" -/
namespace F141
def an : Ann := { kinds := [], taus := [(1, [[0, 1, 2, 4, 5, 6, 7, 9, 3, 8, 10, 11, 12, 13]])], pairs := [], lab := [] }
noncomputable def body : Code := (Try.f141.body).getD .skip
theorem fn : Try.prog.funcs[141]? = some Try.f141 := by kernel_rfl
theorem ok : codeOk an 34 body = true := by kernel_rfl
def go (s : Option Addr) (i : Int) (j : Int) (H : Heap) (R : Ending → Heap → Prop) : Prop :=
  nilD s fun a =>
  ldSl H a fun q qn qc =>
  idxD q qn i fun a1 =>
  ldPtr H (Addr.add a1 (Int.toNat i * 1)) fun p =>
  nilD s fun a2 =>
  nilD s fun a3 =>
  ldSl H a2 fun q1 q1n q1c =>
  ldSl H a3 fun q2 q2n q2c =>
  idxD q2 q2n j fun a4 =>
  ldPtr H (Addr.add a4 (Int.toNat j * 1)) fun p1 =>
  idxD q1 q1n i fun a5 =>
  st1 H (Addr.add a5 (Int.toNat i * 1)) (.pointer p1) fun H1 =>
  nilD s fun a6 =>
  ldSl H1 a6 fun q3 q3n q3c =>
  idxD q3 q3n j fun a7 =>
  st1 H1 (Addr.add a7 (Int.toNat j * 1)) (.pointer p) fun H2 =>
  R (.returned (.tuple ⟨[]⟩)) H2
theorem calls {s : Option Addr} {i : Int} {j : Int} {H : Heap} {R : Ending → Heap → Prop} (h : go s i j H R) : CallsH Try.prog 141 ⟨[(.pointer s), (.int .i64 i), (.int .i64 j)]⟩ H R :=
  callsH_of_den (an := an) (fuel := 100000) (X := go s i j H R) (c := body) mixed fn (by kernel_rfl) (by kernel_rfl) (by kernel_rfl) ok (by kernel_rfl) h
end F141
/-! ### 142 "bytes.Compare" -/
namespace F142
def an : Ann := { kinds := [], taus := [], pairs := [], lab := [] }
noncomputable def body : Code := (Try.f142.body).getD .skip
theorem fn : Try.prog.funcs[142]? = some Try.f142 := by kernel_rfl
theorem ok : codeOk an 8 body = true := by kernel_rfl
def go (a : Option Addr) (an1 : Nat) (ac : Nat) (b : Option Addr) (bn : Nat) (bc : Nat) (H : Heap) (R : Ending → Heap → Prop) : Prop :=
  callX Try.prog 143 [(.slice a an1 ac), (.slice b bn bc)] H (panK R) fun v H1 =>
  tInt v .i64 fun n =>
  R (.returned (.int .i64 n)) H1
theorem calls {a : Option Addr} {an1 : Nat} {ac : Nat} {b : Option Addr} {bn : Nat} {bc : Nat} {H : Heap} {R : Ending → Heap → Prop} (h : go a an1 ac b bn bc H R) : CallsH Try.prog 142 ⟨[(.slice a an1 ac), (.slice b bn bc)]⟩ H R :=
  callsH_of_den (an := an) (fuel := 100000) (X := go a an1 ac b bn bc H R) (c := body) mixed fn (by kernel_rfl) (by kernel_rfl) (by kernel_rfl) ok (by kernel_rfl) h
end F142
/-! ### 144 "(*pub-stadtholder/pub/etcdserver/etcdserver/txn.kvSortByVersion).Less" -/
namespace F144
def an : Ann := { kinds := [], taus := [(1, [[0, 1, 2, 7, 13, 14, 15, 20, 3, 4, 5, 6, 8, 9, 10, 11, 12, 16, 17, 18, 19, 21, 22, 23, 24, 25, 26, 27, 28]])], pairs := [], lab := [] }
noncomputable def body : Code := (Try.f144.body).getD .skip
theorem fn : Try.prog.funcs[144]? = some Try.f144 := by kernel_rfl
theorem ok : codeOk an 35 body = true := by kernel_rfl
def go (s : Option Addr) (i : Int) (j : Int) (H : Heap) (R : Ending → Heap → Prop) : Prop :=
  nilD s fun a =>
  nilD s fun a1 =>
  ldPtr H a fun p =>
  nilD p fun a2 =>
  ldSl H a2 fun q qn qc =>
  idxD q qn i fun a3 =>
  ldPtr H (Addr.add a3 (Int.toNat i * 1)) fun p1 =>
  nilD p1 fun a4 =>
  ldInt H (Addr.add a4 3) .i64 fun n =>
  ldPtr H a1 fun p2 =>
  nilD p2 fun a5 =>
  ldSl H a5 fun q1 q1n q1c =>
  idxD q1 q1n j fun a6 =>
  ldPtr H (Addr.add a6 (Int.toNat j * 1)) fun p3 =>
  nilD p3 fun a7 =>
  ldInt H (Addr.add a7 3) .i64 fun n1 =>
  R (.returned (.bool (decide ((IntKind.wrap .i64 (n - n1)) < (0 : Int))))) H
theorem calls {s : Option Addr} {i : Int} {j : Int} {H : Heap} {R : Ending → Heap → Prop} (h : go s i j H R) : CallsH Try.prog 144 ⟨[(.pointer s), (.int .i64 i), (.int .i64 j)]⟩ H R :=
  callsH_of_den (an := an) (fuel := 100000) (X := go s i j H R) (c := body) mixed fn (by kernel_rfl) (by kernel_rfl) (by kernel_rfl) ok (by kernel_rfl) h
end F144
/-! ### 145 "(*pub-stadtholder/pub/etcdserver/etcdserver/txn.kvSortByCreate).Less" -/
namespace F145
def an : Ann := { kinds := [], taus := [(1, [[0, 1, 2, 7, 13, 14, 15, 20, 3, 4, 5, 6, 8, 9, 10, 11, 12, 16, 17, 18, 19, 21, 22, 23, 24, 25, 26, 27, 28]])], pairs := [], lab := [] }
noncomputable def body : Code := (Try.f145.body).getD .skip
theorem fn : Try.prog.funcs[145]? = some Try.f145 := by kernel_rfl
theorem ok : codeOk an 35 body = true := by kernel_rfl
def go (s : Option Addr) (i : Int) (j : Int) (H : Heap) (R : Ending → Heap → Prop) : Prop :=
  nilD s fun a =>
  nilD s fun a1 =>
  ldPtr H a fun p =>
  nilD p fun a2 =>
  ldSl H a2 fun q qn qc =>
  idxD q qn i fun a3 =>
  ldPtr H (Addr.add a3 (Int.toNat i * 1)) fun p1 =>
  nilD p1 fun a4 =>
  ldInt H (Addr.add a4 1) .i64 fun n =>
  ldPtr H a1 fun p2 =>
  nilD p2 fun a5 =>
  ldSl H a5 fun q1 q1n q1c =>
  idxD q1 q1n j fun a6 =>
  ldPtr H (Addr.add a6 (Int.toNat j * 1)) fun p3 =>
  nilD p3 fun a7 =>
  ldInt H (Addr.add a7 1) .i64 fun n1 =>
  R (.returned (.bool (decide ((IntKind.wrap .i64 (n - n1)) < (0 : Int))))) H
theorem calls {s : Option Addr} {i : Int} {j : Int} {H : Heap} {R : Ending → Heap → Prop} (h : go s i j H R) : CallsH Try.prog 145 ⟨[(.pointer s), (.int .i64 i), (.int .i64 j)]⟩ H R :=
  callsH_of_den (an := an) (fuel := 100000) (X := go s i j H R) (c := body) mixed fn (by kernel_rfl) (by kernel_rfl) (by kernel_rfl) ok (by kernel_rfl) h
end F145
/-! ### 146 "(*pub-stadtholder/pub/etcdserver/etcdserver/txn.kvSortByMod).Less" -/
namespace F146
def an : Ann := { kinds := [], taus := [(1, [[0, 1, 2, 7, 13, 14, 15, 20, 3, 4, 5, 6, 8, 9, 10, 11, 12, 16, 17, 18, 19, 21, 22, 23, 24, 25, 26, 27, 28]])], pairs := [], lab := [] }
noncomputable def body : Code := (Try.f146.body).getD .skip
theorem fn : Try.prog.funcs[146]? = some Try.f146 := by kernel_rfl
theorem ok : codeOk an 35 body = true := by kernel_rfl
def go (s : Option Addr) (i : Int) (j : Int) (H : Heap) (R : Ending → Heap → Prop) : Prop :=
  nilD s fun a =>
  nilD s fun a1 =>
  ldPtr H a fun p =>
  nilD p fun a2 =>
  ldSl H a2 fun q qn qc =>
  idxD q qn i fun a3 =>
  ldPtr H (Addr.add a3 (Int.toNat i * 1)) fun p1 =>
  nilD p1 fun a4 =>
  ldInt H (Addr.add a4 2) .i64 fun n =>
  ldPtr H a1 fun p2 =>
  nilD p2 fun a5 =>
  ldSl H a5 fun q1 q1n q1c =>
  idxD q1 q1n j fun a6 =>
  ldPtr H (Addr.add a6 (Int.toNat j * 1)) fun p3 =>
  nilD p3 fun a7 =>
  ldInt H (Addr.add a7 2) .i64 fun n1 =>
  R (.returned (.bool (decide ((IntKind.wrap .i64 (n - n1)) < (0 : Int))))) H
theorem calls {s : Option Addr} {i : Int} {j : Int} {H : Heap} {R : Ending → Heap → Prop} (h : go s i j H R) : CallsH Try.prog 146 ⟨[(.pointer s), (.int .i64 i), (.int .i64 j)]⟩ H R :=
  callsH_of_den (an := an) (fuel := 100000) (X := go s i j H R) (c := body) mixed fn (by kernel_rfl) (by kernel_rfl) (by kernel_rfl) ok (by kernel_rfl) h
end F146
/-! ### 147 "(*pub-stadtholder/pub/etcdserver/etcdserver/txn.kvSortByValue).Less" -/
namespace F147
def an : Ann := { kinds := [], taus := [(1, [[0, 1, 2, 7, 13, 14, 15, 20, 3, 4, 5, 6, 8, 9, 10, 11, 12, 16, 17, 18, 19, 21, 22, 23, 24, 25, 26, 27, 28]])], pairs := [], lab := [] }
noncomputable def body : Code := (Try.f147.body).getD .skip
theorem fn : Try.prog.funcs[147]? = some Try.f147 := by kernel_rfl
theorem ok : codeOk an 35 body = true := by kernel_rfl
def go (s : Option Addr) (i : Int) (j : Int) (H : Heap) (R : Ending → Heap → Prop) : Prop :=
  nilD s fun a =>
  nilD s fun a1 =>
  ldPtr H a fun p =>
  nilD p fun a2 =>
  ldSl H a2 fun q qn qc =>
  idxD q qn i fun a3 =>
  ldPtr H (Addr.add a3 (Int.toNat i * 1)) fun p1 =>
  nilD p1 fun a4 =>
  ldSl H (Addr.add a4 4) fun q1 q1n q1c =>
  ldPtr H a1 fun p2 =>
  nilD p2 fun a5 =>
  ldSl H a5 fun q2 q2n q2c =>
  idxD q2 q2n j fun a6 =>
  ldPtr H (Addr.add a6 (Int.toNat j * 1)) fun p3 =>
  nilD p3 fun a7 =>
  ldSl H (Addr.add a7 4) fun q3 q3n q3c =>
  callD Try.prog 142 [(.slice q1 q1n q1c), (.slice q3 q3n q3c)] H (panK R) fun v H1 =>
  tInt v .i64 fun n =>
  R (.returned (.bool (decide (n < (0 : Int))))) H1
theorem calls {s : Option Addr} {i : Int} {j : Int} {H : Heap} {R : Ending → Heap → Prop} (h : go s i j H R) : CallsH Try.prog 147 ⟨[(.pointer s), (.int .i64 i), (.int .i64 j)]⟩ H R :=
  callsH_of_den (an := an) (fuel := 100000) (X := go s i j H R) (c := body) mixed fn (by kernel_rfl) (by kernel_rfl) (by kernel_rfl) ok (by kernel_rfl) h
end F147
/-! ### 148 "(sort.reverse).Less" -/
namespace F148
def an : Ann := { kinds := [], taus := [], pairs := [], lab := [] }
noncomputable def body : Code := (Try.f148.body).getD .skip
theorem fn : Try.prog.funcs[148]? = some Try.f148 := by kernel_rfl
theorem ok : codeOk an 12 body = true := by kernel_rfl
def go (r_0 : IV) (i : Int) (j : Int) (H : Heap) (R : Ending → Heap → Prop) : Prop :=
  newD H (.cells ⟨[(IV.v r_0)]⟩ 233) fun r H1 =>
  ldIf H1 ⟨r, 0, none⟩ fun i1 =>
  callI Try.prog (IV.v i1) "Less" [(.int .i64 j), (.int .i64 i)] H1 (panK R) fun v H2 =>
  tBool v fun b =>
  R (.returned (.bool b)) H2
theorem calls {r_0 : IV} {i : Int} {j : Int} {H : Heap} {R : Ending → Heap → Prop} (h : go r_0 i j H R) : CallsH Try.prog 148 ⟨[(.agg ⟨[(IV.v r_0)]⟩), (.int .i64 i), (.int .i64 j)]⟩ H R :=
  callsH_of_den (an := an) (fuel := 100000) (X := go r_0 i j H R) (c := body) mixed fn (by kernel_rfl) (by kernel_rfl) (by kernel_rfl) ok (by kernel_rfl) h
end F148
/-! ### 25 "pub-stadtholder/impl.kvsOf" -/
namespace F25
def an : Ann := { kinds := [], taus := [], pairs := [], lab := [(40000004, [0, 3, 4])] }
noncomputable def body : Code := (Try.f25.body).getD .skip
theorem fn : Try.prog.funcs[25]? = some Try.f25 := by kernel_rfl
theorem ok : codeOk an 20 body = true := by kernel_rfl
noncomputable def L0t : List Item := [.code (sub [1, 1, 0, 1, 0, 0] body), .inLoop (sub [1, 1, 0, 1, 0, 0] body), .inBlock 0, .code (sub [1, 1, 1] body)]
def L0 (l : Option Addr) (ln : Nat) (lc : Nat) (out : Option Addr) (outn : Nat) (outc : Nat) (i : Int) (H : Heap) (R : Ending → Heap → Prop) : Prop :=
  GoL Try.prog 25 20 L0t [0, 3, 4] [(.slice l ln lc), (.slice out outn outc), (.int .i64 i)] H R
def L0n (l : Option Addr) (ln : Nat) (lc : Nat) (out : Option Addr) (outn : Nat) (outc : Nat) (i : Int) (H : Heap) (R : Ending → Heap → Prop) : Prop :=
  iteB (decide (i < ((ln : Nat) : Int))) (
    idxD l ln i fun a =>
    ldPtr H (Addr.add a (Int.toNat i * 1)) fun p =>
    callD Try.prog 55 [(.pointer p)] H (panK R) fun v H1 =>
    tAgg v fun l1 =>
    tCons l1 fun c l2 =>
    tStr c fun s =>
    tCons l2 fun c1 l3 =>
    tStr c1 fun s1 =>
    tCons l3 fun c2 l4 =>
    tInt c2 .i64 fun n =>
    tCons l4 fun c3 l5 =>
    tInt c3 .i64 fun n1 =>
    tCons l5 fun c4 l6 =>
    tInt c4 .i64 fun n2 =>
    tCons l6 fun c5 l7 =>
    tInt c5 .i64 fun n3 =>
    tNil l7 <|
    newD H1 (.cells ⟨[(.string s), (.string s1), (.int .i64 n), (.int .i64 n1), (.int .i64 n2), (.int .i64 n3)]⟩ 27) fun r H2 =>
    apD H2 6 64 [(.string (ByteArray.mk #[])), (.string (ByteArray.mk #[])), (.int .i64 (0 : Int)), (.int .i64 (0 : Int)), (.int .i64 (0 : Int)), (.int .i64 (0 : Int))] 27 out outn outc (some ⟨r, 0, none⟩) 1 fun q qn qc H3 =>
    L0 l ln lc q qn qc (IntKind.wrap .i64 (i + (1 : Int))) H3 R) <|
  R (.returned (.slice out outn outc)) H
theorem L0_step {l : Option Addr} {ln : Nat} {lc : Nat} {out : Option Addr} {outn : Nat} {outc : Nat} {i : Int} {H : Heap} {R : Ending → Heap → Prop} (h : L0n l ln lc out outn outc i H R) : L0 l ln lc out outn outc i H R :=
  goL_of_den (an := an) (fuel := 100000) (X := L0n l ln lc out outn outc i H R) mixed fn (by kernel_rfl) (fun ρ0 => by kernel_rfl) h
def go (l : Option Addr) (ln : Nat) (lc : Nat) (H : Heap) (R : Ending → Heap → Prop) : Prop :=
  L0 l ln lc none 0 0 (0 : Int) H R
theorem calls {l : Option Addr} {ln : Nat} {lc : Nat} {H : Heap} {R : Ending → Heap → Prop} (h : go l ln lc H R) : CallsH Try.prog 25 ⟨[(.slice l ln lc)]⟩ H R :=
  callsH_of_den (an := an) (fuel := 100000) (X := go l ln lc H R) (c := body) mixed fn (by kernel_rfl) (by kernel_rfl) (by kernel_rfl) ok (by kernel_rfl) h
end F25
/-! ### 55 "pub-stadtholder/impl.kvOf" -/
namespace F55
def an : Ann := { kinds := [(1004, .read), (1009, .read)], taus := [(1, [[0, 1, 2, 5, 6, 7, 10, 11, 12, 14, 15, 16, 18, 19, 20, 22, 23, 24, 3, 4, 8, 9, 13, 17, 21, 25, 26, 27]])], pairs := [], lab := [] }
noncomputable def body : Code := (Try.f55.body).getD .skip
theorem fn : Try.prog.funcs[55]? = some Try.f55 := by kernel_rfl
theorem ok : codeOk an 30 body = true := by kernel_rfl
def go (x : Option Addr) (H : Heap) (R : Ending → Heap → Prop) : Prop :=
  newD H (.cells ⟨[(.string (ByteArray.mk #[])), (.string (ByteArray.mk #[])), (.int .i64 (0 : Int)), (.int .i64 (0 : Int)), (.int .i64 (0 : Int)), (.int .i64 (0 : Int))]⟩ 27) fun r H1 =>
  nilD x fun a =>
  nilD x fun a1 =>
  nilD x fun a2 =>
  nilD x fun a3 =>
  nilD x fun a4 =>
  nilD x fun a5 =>
  ldSl H1 a fun q qn qc =>
  bsD H1 q qn fun s =>
  ldSl H1 (Addr.add a1 4) fun q1 q1n q1c =>
  bsD H1 q1 q1n fun s1 =>
  ldInt H1 (Addr.add a2 1) .i64 fun n =>
  ldInt H1 (Addr.add a3 2) .i64 fun n1 =>
  ldInt H1 (Addr.add a4 3) .i64 fun n2 =>
  ldInt H1 (Addr.add a5 5) .i64 fun n3 =>
  st1 H1 ⟨r, 0, none⟩ (.string s) fun H2 =>
  st1 H2 ⟨r, 1, none⟩ (.string s1) fun H3 =>
  st1 H3 ⟨r, 2, none⟩ (.int .i64 n) fun H4 =>
  st1 H4 ⟨r, 3, none⟩ (.int .i64 n1) fun H5 =>
  st1 H5 ⟨r, 4, none⟩ (.int .i64 n2) fun H6 =>
  st1 H6 ⟨r, 5, none⟩ (.int .i64 n3) fun H7 =>
  ldStr H7 ⟨r, 0, none⟩ fun s2 =>
  ldStr H7 ⟨r, 1, none⟩ fun s3 =>
  ldInt H7 ⟨r, 2, none⟩ .i64 fun n4 =>
  ldInt H7 ⟨r, 3, none⟩ .i64 fun n5 =>
  ldInt H7 ⟨r, 4, none⟩ .i64 fun n6 =>
  ldInt H7 ⟨r, 5, none⟩ .i64 fun n7 =>
  R (.returned (.agg ⟨[(.string s2), (.string s3), (.int .i64 n4), (.int .i64 n5), (.int .i64 n6), (.int .i64 n7)]⟩)) H7
theorem calls {x : Option Addr} {H : Heap} {R : Ending → Heap → Prop} (h : go x H R) : CallsH Try.prog 55 ⟨[(.pointer x)]⟩ H R :=
  callsH_of_den (an := an) (fuel := 100000) (X := go x H R) (c := body) mixed fn (by kernel_rfl) (by kernel_rfl) (by kernel_rfl) ok (by kernel_rfl) h
end F55
/-! ### 9 "pub-stadtholder/laws.txnKVs" -/
namespace F9
def an : Ann := { kinds := [], taus := [(6, [[0, 1, 2, 4, 5, 6, 3, 7, 8]])], pairs := [], lab := [(40000005, [0, 1, 12, 13])] }
noncomputable def body : Code := (Try.f9.body).getD .skip
theorem fn : Try.prog.funcs[9]? = some Try.f9 := by kernel_rfl
theorem ok : codeOk an 26 body = true := by kernel_rfl
noncomputable def L0t : List Item := [.code (sub [1, 1, 0, 1, 0, 0] body), .inLoop (sub [1, 1, 0, 1, 0, 0] body), .inBlock 0, .code (sub [1, 1, 1] body)]
def L0 (a : Option Addr) (an1 : Nat) (ac : Nat) (b : Option Addr) (bn : Nat) (bc : Nat) (s12 : Int) (s13 : Int) (H : Heap) (R : Ending → Heap → Prop) : Prop :=
  GoL Try.prog 9 26 L0t [0, 1, 12, 13] [(.slice a an1 ac), (.slice b bn bc), (.int .i64 s12), (.int .i64 s13)] H R
def L0n (a : Option Addr) (an1 : Nat) (ac : Nat) (b : Option Addr) (bn : Nat) (bc : Nat) (s12 : Int) (s13 : Int) (H : Heap) (R : Ending → Heap → Prop) : Prop :=
  iteB (decide (s13 < s12)) (
    idxD a an1 s13 fun a1 =>
    idxD b bn s13 fun a2 =>
    ldStr H (Addr.add a1 (Int.toNat s13 * 6)) fun s =>
    ldStr H (Addr.add (Addr.add a1 (Int.toNat s13 * 6)) 1) fun s1 =>
    ldInt H (Addr.add (Addr.add a1 (Int.toNat s13 * 6)) 2) .i64 fun n =>
    ldInt H (Addr.add (Addr.add a1 (Int.toNat s13 * 6)) 3) .i64 fun n1 =>
    ldInt H (Addr.add (Addr.add a1 (Int.toNat s13 * 6)) 4) .i64 fun n2 =>
    ldInt H (Addr.add (Addr.add a1 (Int.toNat s13 * 6)) 5) .i64 fun n3 =>
    ldStr H (Addr.add a2 (Int.toNat s13 * 6)) fun s2 =>
    ldStr H (Addr.add (Addr.add a2 (Int.toNat s13 * 6)) 1) fun s3 =>
    ldInt H (Addr.add (Addr.add a2 (Int.toNat s13 * 6)) 2) .i64 fun n4 =>
    ldInt H (Addr.add (Addr.add a2 (Int.toNat s13 * 6)) 3) .i64 fun n5 =>
    ldInt H (Addr.add (Addr.add a2 (Int.toNat s13 * 6)) 4) .i64 fun n6 =>
    ldInt H (Addr.add (Addr.add a2 (Int.toNat s13 * 6)) 5) .i64 fun n7 =>
    rawB Try.prog .neq 27 (.agg ⟨[(.string s), (.string s1), (.int .i64 n), (.int .i64 n1), (.int .i64 n2), (.int .i64 n3)]⟩) (.agg ⟨[(.string s2), (.string s3), (.int .i64 n4), (.int .i64 n5), (.int .i64 n6), (.int .i64 n7)]⟩) fun b1 =>
    iteB (!b1) (
      R (.returned (.bool false)) H) <|
    L0 a an1 ac b bn bc s12 (IntKind.wrap .i64 (s13 + (1 : Int))) H R) <|
  R (.returned (.bool true)) H
theorem L0_step {a : Option Addr} {an1 : Nat} {ac : Nat} {b : Option Addr} {bn : Nat} {bc : Nat} {s12 : Int} {s13 : Int} {H : Heap} {R : Ending → Heap → Prop} (h : L0n a an1 ac b bn bc s12 s13 H R) : L0 a an1 ac b bn bc s12 s13 H R :=
  goL_of_den (an := an) (fuel := 100000) (X := L0n a an1 ac b bn bc s12 s13 H R) mixed fn (by kernel_rfl) (fun ρ0 => by kernel_rfl) h
def go (a : Option Addr) (an1 : Nat) (ac : Nat) (b : Option Addr) (bn : Nat) (bc : Nat) (H : Heap) (R : Ending → Heap → Prop) : Prop :=
  iteB (((an1 : Nat) : Int) != ((bn : Nat) : Int)) (
    R (.returned (.bool false)) H) <|
  L0 a an1 ac b bn bc ((an1 : Nat) : Int) (0 : Int) H R
theorem calls {a : Option Addr} {an1 : Nat} {ac : Nat} {b : Option Addr} {bn : Nat} {bc : Nat} {H : Heap} {R : Ending → Heap → Prop} (h : go a an1 ac b bn bc H R) : CallsH Try.prog 9 ⟨[(.slice a an1 ac), (.slice b bn bc)]⟩ H R :=
  callsH_of_den (an := an) (fuel := 100000) (X := go a an1 ac b bn bc H R) (c := body) mixed fn (by kernel_rfl) (by kernel_rfl) (by kernel_rfl) ok (by kernel_rfl) h
end F9
/-! ### 10 "pub-stadtholder/spec.TxnSorted" -/
namespace F10
def an : Ann := { kinds := [], taus := [(11, [[0, 1, 2, 3, 5, 6, 7, 9, 4, 8, 10, 11]])], pairs := [], lab := [(20000003, [0, 2]), (10000004, [0, 1, 2]), (40000008, [0, 1, 2, 7, 8]), (90000011, [0, 1, 2, 7, 8, 9]), (100000015, [0, 1, 2, 7, 8, 9, 10]), (60000017, [0, 1, 2, 7, 8, 9])] }
noncomputable def body : Code := (Try.f10.body).getD .skip
theorem fn : Try.prog.funcs[10]? = some Try.f10 := by kernel_rfl
theorem ok : codeOk an 68 body = true := by kernel_rfl
noncomputable def L0t : List Item := [.code (sub [1, 0, 1, 0] body), .code (sub [1, 1] body)]
def L0 (s0 : Option Addr) (s0n : Nat) (s0c : Nat) (s2 : Int) (H : Heap) (R : Ending → Heap → Prop) : Prop :=
  GoL Try.prog 10 68 L0t [0, 2] [(.slice s0 s0n s0c), (.int .i64 s2)] H R
noncomputable def L1t : List Item := [.code (sub [1, 1] body)]
def L1 (s0 : Option Addr) (s0n : Nat) (s0c : Nat) (s1 : Int) (s2 : Int) (H : Heap) (R : Ending → Heap → Prop) : Prop :=
  GoL Try.prog 10 68 L1t [0, 1, 2] [(.slice s0 s0n s0c), (.int .i64 s1), (.int .i64 s2)] H R
noncomputable def L2t : List Item := [.code (sub [1, 1, 1, 1, 0, 1, 0, 0] body), .inLoop (sub [1, 1, 1, 1, 0, 1, 0, 0] body), .inBlock 0, .code (sub [1, 1, 1, 1, 1] body)]
def L2 (s0 : Option Addr) (s0n : Nat) (s0c : Nat) (s1 : Int) (s2 : Int) (s7 : Option Addr) (s7n : Nat) (s7c : Nat) (s8 : Int) (H : Heap) (R : Ending → Heap → Prop) : Prop :=
  GoL Try.prog 10 68 L2t [0, 1, 2, 7, 8] [(.slice s0 s0n s0c), (.int .i64 s1), (.int .i64 s2), (.slice s7 s7n s7c), (.int .i64 s8)] H R
noncomputable def L3t : List Item := [.code (sub [1, 1, 1, 1, 0, 1, 0, 0, 1, 0, 0, 1, 0, 0, 0] body), .inLoop (sub [1, 1, 1, 1, 0, 1, 0, 0, 1, 0, 0, 1, 0, 0, 0] body), .inBlock 2, .code (sub [1, 1, 1, 1, 0, 1, 0, 0, 1, 0, 0, 1, 1] body), .inBlock 1, .code (sub [1, 1, 1, 1, 0, 1, 0, 0, 1, 1] body), .inLoop (sub [1, 1, 1, 1, 0, 1, 0, 0] body), .inBlock 0, .code (sub [1, 1, 1, 1, 1] body)]
def L3 (s0 : Option Addr) (s0n : Nat) (s0c : Nat) (s1 : Int) (s2 : Int) (s7 : Option Addr) (s7n : Nat) (s7c : Nat) (s8 : Int) (s9 : Int) (H : Heap) (R : Ending → Heap → Prop) : Prop :=
  GoL Try.prog 10 68 L3t [0, 1, 2, 7, 8, 9] [(.slice s0 s0n s0c), (.int .i64 s1), (.int .i64 s2), (.slice s7 s7n s7c), (.int .i64 s8), (.int .i64 s9)] H R
noncomputable def L4t : List Item := [.code (sub [1, 1, 1, 1, 0, 1, 0, 0, 1, 0, 0, 1, 0, 0, 0, 1, 0, 1, 1] body), .inBlock 3, .inLoop (sub [1, 1, 1, 1, 0, 1, 0, 0, 1, 0, 0, 1, 0, 0, 0] body), .inBlock 2, .code (sub [1, 1, 1, 1, 0, 1, 0, 0, 1, 0, 0, 1, 1] body), .inBlock 1, .code (sub [1, 1, 1, 1, 0, 1, 0, 0, 1, 1] body), .inLoop (sub [1, 1, 1, 1, 0, 1, 0, 0] body), .inBlock 0, .code (sub [1, 1, 1, 1, 1] body)]
def L4 (s0 : Option Addr) (s0n : Nat) (s0c : Nat) (s1 : Int) (s2 : Int) (s7 : Option Addr) (s7n : Nat) (s7c : Nat) (s8 : Int) (s9 : Int) (s10 : Int) (H : Heap) (R : Ending → Heap → Prop) : Prop :=
  GoL Try.prog 10 68 L4t [0, 1, 2, 7, 8, 9, 10] [(.slice s0 s0n s0c), (.int .i64 s1), (.int .i64 s2), (.slice s7 s7n s7c), (.int .i64 s8), (.int .i64 s9), (.int .i64 s10)] H R
noncomputable def L5t : List Item := [.code (sub [1, 1, 1, 1, 0, 1, 0, 0, 1, 0, 0, 1, 1] body), .inBlock 1, .code (sub [1, 1, 1, 1, 0, 1, 0, 0, 1, 1] body), .inLoop (sub [1, 1, 1, 1, 0, 1, 0, 0] body), .inBlock 0, .code (sub [1, 1, 1, 1, 1] body)]
def L5 (s0 : Option Addr) (s0n : Nat) (s0c : Nat) (s1 : Int) (s2 : Int) (s7 : Option Addr) (s7n : Nat) (s7c : Nat) (s8 : Int) (s9 : Int) (H : Heap) (R : Ending → Heap → Prop) : Prop :=
  GoL Try.prog 10 68 L5t [0, 1, 2, 7, 8, 9] [(.slice s0 s0n s0c), (.int .i64 s1), (.int .i64 s2), (.slice s7 s7n s7c), (.int .i64 s8), (.int .i64 s9)] H R
def L0n (s0 : Option Addr) (s0n : Nat) (s0c : Nat) (s2 : Int) (H : Heap) (R : Ending → Heap → Prop) : Prop :=
  L1 s0 s0n s0c (1 : Int) s2 H R
theorem L0_step {s0 : Option Addr} {s0n : Nat} {s0c : Nat} {s2 : Int} {H : Heap} {R : Ending → Heap → Prop} (h : L0n s0 s0n s0c s2 H R) : L0 s0 s0n s0c s2 H R :=
  goL_of_den (an := an) (fuel := 100000) (X := L0n s0 s0n s0c s2 H R) mixed fn (by kernel_rfl) (fun ρ0 => by kernel_rfl) h
def L1n (s0 : Option Addr) (s0n : Nat) (s0c : Nat) (s1 : Int) (s2 : Int) (H : Heap) (R : Ending → Heap → Prop) : Prop :=
  iteB (s1 == (0 : Int)) (
    R (.returned (.slice s0 s0n s0c)) H) <|
  L2 s0 s0n s0c s1 s2 none 0 0 (0 : Int) H R
theorem L1_step {s0 : Option Addr} {s0n : Nat} {s0c : Nat} {s1 : Int} {s2 : Int} {H : Heap} {R : Ending → Heap → Prop} (h : L1n s0 s0n s0c s1 s2 H R) : L1 s0 s0n s0c s1 s2 H R :=
  goL_of_den (an := an) (fuel := 100000) (X := L1n s0 s0n s0c s1 s2 H R) mixed fn (by kernel_rfl) (fun ρ0 => by kernel_rfl) h
def L2n (s0 : Option Addr) (s0n : Nat) (s0c : Nat) (s1 : Int) (s2 : Int) (s7 : Option Addr) (s7n : Nat) (s7c : Nat) (s8 : Int) (H : Heap) (R : Ending → Heap → Prop) : Prop :=
  iteB (decide (s8 < ((s0n : Nat) : Int))) (
    L3 s0 s0n s0c s1 s2 s7 s7n s7c s8 ((s7n : Nat) : Int) H R) <|
  R (.returned (.slice s7 s7n s7c)) H
theorem L2_step {s0 : Option Addr} {s0n : Nat} {s0c : Nat} {s1 : Int} {s2 : Int} {s7 : Option Addr} {s7n : Nat} {s7c : Nat} {s8 : Int} {H : Heap} {R : Ending → Heap → Prop} (h : L2n s0 s0n s0c s1 s2 s7 s7n s7c s8 H R) : L2 s0 s0n s0c s1 s2 s7 s7n s7c s8 H R :=
  goL_of_den (an := an) (fuel := 100000) (X := L2n s0 s0n s0c s1 s2 s7 s7n s7c s8 H R) mixed fn (by kernel_rfl) (fun ρ0 => by kernel_rfl) h
def L3n (s0 : Option Addr) (s0n : Nat) (s0c : Nat) (s1 : Int) (s2 : Int) (s7 : Option Addr) (s7n : Nat) (s7c : Nat) (s8 : Int) (s9 : Int) (H : Heap) (R : Ending → Heap → Prop) : Prop :=
  iteB (decide (s9 > (0 : Int))) (
    idxD s7 s7n (IntKind.wrap .i64 (s9 - (1 : Int))) fun a =>
    idxD s0 s0n s8 fun a1 =>
    ldStr H (Addr.add a (Int.toNat (IntKind.wrap .i64 (s9 - (1 : Int))) * 6)) fun s =>
    ldStr H (Addr.add (Addr.add a (Int.toNat (IntKind.wrap .i64 (s9 - (1 : Int))) * 6)) 1) fun s3 =>
    ldInt H (Addr.add (Addr.add a (Int.toNat (IntKind.wrap .i64 (s9 - (1 : Int))) * 6)) 2) .i64 fun n =>
    ldInt H (Addr.add (Addr.add a (Int.toNat (IntKind.wrap .i64 (s9 - (1 : Int))) * 6)) 3) .i64 fun n1 =>
    ldInt H (Addr.add (Addr.add a (Int.toNat (IntKind.wrap .i64 (s9 - (1 : Int))) * 6)) 4) .i64 fun n2 =>
    ldInt H (Addr.add (Addr.add a (Int.toNat (IntKind.wrap .i64 (s9 - (1 : Int))) * 6)) 5) .i64 fun n3 =>
    ldStr H (Addr.add a1 (Int.toNat s8 * 6)) fun s4 =>
    ldStr H (Addr.add (Addr.add a1 (Int.toNat s8 * 6)) 1) fun s5 =>
    ldInt H (Addr.add (Addr.add a1 (Int.toNat s8 * 6)) 2) .i64 fun n4 =>
    ldInt H (Addr.add (Addr.add a1 (Int.toNat s8 * 6)) 3) .i64 fun n5 =>
    ldInt H (Addr.add (Addr.add a1 (Int.toNat s8 * 6)) 4) .i64 fun n6 =>
    ldInt H (Addr.add (Addr.add a1 (Int.toNat s8 * 6)) 5) .i64 fun n7 =>
    callD Try.prog 29 [(.agg ⟨[(.string s), (.string s3), (.int .i64 n), (.int .i64 n1), (.int .i64 n2), (.int .i64 n3)]⟩), (.agg ⟨[(.string s4), (.string s5), (.int .i64 n4), (.int .i64 n5), (.int .i64 n6), (.int .i64 n7)]⟩), (.int .i64 s2)] H (panK R) fun v H1 =>
    tInt v .i64 fun n8 =>
    iteB (s1 == (2 : Int)) (
      L4 s0 s0n s0c s1 s2 s7 s7n s7c s8 s9 (IntKind.wrap .i64 (0 - n8)) H1 R) <|
    L4 s0 s0n s0c s1 s2 s7 s7n s7c s8 s9 n8 H1 R) <|
  L5 s0 s0n s0c s1 s2 s7 s7n s7c s8 s9 H R
theorem L3_step {s0 : Option Addr} {s0n : Nat} {s0c : Nat} {s1 : Int} {s2 : Int} {s7 : Option Addr} {s7n : Nat} {s7c : Nat} {s8 : Int} {s9 : Int} {H : Heap} {R : Ending → Heap → Prop} (h : L3n s0 s0n s0c s1 s2 s7 s7n s7c s8 s9 H R) : L3 s0 s0n s0c s1 s2 s7 s7n s7c s8 s9 H R :=
  goL_of_den (an := an) (fuel := 100000) (X := L3n s0 s0n s0c s1 s2 s7 s7n s7c s8 s9 H R) mixed fn (by kernel_rfl) (fun ρ0 => by kernel_rfl) h
def L4n (s0 : Option Addr) (s0n : Nat) (s0c : Nat) (s1 : Int) (s2 : Int) (s7 : Option Addr) (s7n : Nat) (s7c : Nat) (s8 : Int) (s9 : Int) (s10 : Int) (H : Heap) (R : Ending → Heap → Prop) : Prop :=
  iteB (decide (s10 ≤ (0 : Int))) (
    L5 s0 s0n s0c s1 s2 s7 s7n s7c s8 s9 H R) <|
  L3 s0 s0n s0c s1 s2 s7 s7n s7c s8 (IntKind.wrap .i64 (s9 - (1 : Int))) H R
theorem L4_step {s0 : Option Addr} {s0n : Nat} {s0c : Nat} {s1 : Int} {s2 : Int} {s7 : Option Addr} {s7n : Nat} {s7c : Nat} {s8 : Int} {s9 : Int} {s10 : Int} {H : Heap} {R : Ending → Heap → Prop} (h : L4n s0 s0n s0c s1 s2 s7 s7n s7c s8 s9 s10 H R) : L4 s0 s0n s0c s1 s2 s7 s7n s7c s8 s9 s10 H R :=
  goL_of_den (an := an) (fuel := 100000) (X := L4n s0 s0n s0c s1 s2 s7 s7n s7c s8 s9 s10 H R) mixed fn (by kernel_rfl) (fun ρ0 => by kernel_rfl) h
def L5n (s0 : Option Addr) (s0n : Nat) (s0c : Nat) (s1 : Int) (s2 : Int) (s7 : Option Addr) (s7n : Nat) (s7c : Nat) (s8 : Int) (s9 : Int) (H : Heap) (R : Ending → Heap → Prop) : Prop :=
  bndD s9 s7c fun k =>
  apD H 6 64 [(.string (ByteArray.mk #[])), (.string (ByteArray.mk #[])), (.int .i64 (0 : Int)), (.int .i64 (0 : Int)), (.int .i64 (0 : Int)), (.int .i64 (0 : Int))] 27 none 0 0 (slP s7 0 s7c 6) k fun q qn qc H1 =>
  idxD s0 s0n s8 fun a =>
  ldStr H1 (Addr.add a (Int.toNat s8 * 6)) fun s =>
  ldStr H1 (Addr.add (Addr.add a (Int.toNat s8 * 6)) 1) fun s3 =>
  ldInt H1 (Addr.add (Addr.add a (Int.toNat s8 * 6)) 2) .i64 fun n =>
  ldInt H1 (Addr.add (Addr.add a (Int.toNat s8 * 6)) 3) .i64 fun n1 =>
  ldInt H1 (Addr.add (Addr.add a (Int.toNat s8 * 6)) 4) .i64 fun n2 =>
  ldInt H1 (Addr.add (Addr.add a (Int.toNat s8 * 6)) 5) .i64 fun n3 =>
  newD H1 (.cells ⟨[(.string s), (.string s3), (.int .i64 n), (.int .i64 n1), (.int .i64 n2), (.int .i64 n3)]⟩ 27) fun r H2 =>
  apD H2 6 64 [(.string (ByteArray.mk #[])), (.string (ByteArray.mk #[])), (.int .i64 (0 : Int)), (.int .i64 (0 : Int)), (.int .i64 (0 : Int)), (.int .i64 (0 : Int))] 27 q qn qc (some ⟨r, 0, none⟩) 1 fun q1 q1n q1c H3 =>
  bndD s9 s7n fun k1 =>
  apD H3 6 64 [(.string (ByteArray.mk #[])), (.string (ByteArray.mk #[])), (.int .i64 (0 : Int)), (.int .i64 (0 : Int)), (.int .i64 (0 : Int)), (.int .i64 (0 : Int))] 27 q1 q1n q1c (slP s7 k1 s7c 6) (s7n - k1) fun q2 q2n q2c H4 =>
  L2 s0 s0n s0c s1 s2 q2 q2n q2c (IntKind.wrap .i64 (s8 + (1 : Int))) H4 R
theorem L5_step {s0 : Option Addr} {s0n : Nat} {s0c : Nat} {s1 : Int} {s2 : Int} {s7 : Option Addr} {s7n : Nat} {s7c : Nat} {s8 : Int} {s9 : Int} {H : Heap} {R : Ending → Heap → Prop} (h : L5n s0 s0n s0c s1 s2 s7 s7n s7c s8 s9 H R) : L5 s0 s0n s0c s1 s2 s7 s7n s7c s8 s9 H R :=
  goL_of_den (an := an) (fuel := 100000) (X := L5n s0 s0n s0c s1 s2 s7 s7n s7c s8 s9 H R) mixed fn (by kernel_rfl) (fun ρ0 => by kernel_rfl) h
def go (s0 : Option Addr) (s0n : Nat) (s0c : Nat) (s1 : Int) (s2 : Int) (H : Heap) (R : Ending → Heap → Prop) : Prop :=
  iteB (s1 == (0 : Int)) (
    iteB (s2 != (0 : Int)) (
      L0 s0 s0n s0c s2 H R) <|
    L1 s0 s0n s0c s1 s2 H R) <|
  L1 s0 s0n s0c s1 s2 H R
theorem calls {s0 : Option Addr} {s0n : Nat} {s0c : Nat} {s1 : Int} {s2 : Int} {H : Heap} {R : Ending → Heap → Prop} (h : go s0 s0n s0c s1 s2 H R) : CallsH Try.prog 10 ⟨[(.slice s0 s0n s0c), (.int .i64 s1), (.int .i64 s2)]⟩ H R :=
  callsH_of_den (an := an) (fuel := 100000) (X := go s0 s0n s0c s1 s2 H R) (c := body) mixed fn (by kernel_rfl) (by kernel_rfl) (by kernel_rfl) ok (by kernel_rfl) h
end F10
/-! ### 29 "pub-stadtholder/spec.kvOrder" -/
namespace F29
def an : Ann := { kinds := [], taus := [], pairs := [], lab := [] }
noncomputable def body : Code := (Try.f29.body).getD .skip
theorem fn : Try.prog.funcs[29]? = some Try.f29 := by kernel_rfl
theorem ok : codeOk an 41 body = true := by kernel_rfl
def go (a_0 : ByteArray) (a_1 : ByteArray) (a_2 : Int) (a_3 : Int) (a_4 : Int) (a_5 : Int) (b_0 : ByteArray) (b_1 : ByteArray) (b_2 : Int) (b_3 : Int) (b_4 : Int) (b_5 : Int) (target : Int) (H : Heap) (R : Ending → Heap → Prop) : Prop :=
  newD H (.cells ⟨[(.string a_0), (.string a_1), (.int .i64 a_2), (.int .i64 a_3), (.int .i64 a_4), (.int .i64 a_5)]⟩ 27) fun r H1 =>
  newD H1 (.cells ⟨[(.string b_0), (.string b_1), (.int .i64 b_2), (.int .i64 b_3), (.int .i64 b_4), (.int .i64 b_5)]⟩ 27) fun r1 H2 =>
  iteB (target == (1 : Int)) (
    ldInt H2 ⟨r, 4, none⟩ .i64 fun n =>
    ldInt H2 ⟨r1, 4, none⟩ .i64 fun n1 =>
    callD Try.prog 60 [(.int .i64 n), (.int .i64 n1)] H2 (panK R) fun v H3 =>
    tInt v .i64 fun n2 =>
    R (.returned (.int .i64 n2)) H3) <|
  iteB (target == (2 : Int)) (
    ldInt H2 ⟨r, 2, none⟩ .i64 fun n3 =>
    ldInt H2 ⟨r1, 2, none⟩ .i64 fun n4 =>
    callD Try.prog 60 [(.int .i64 n3), (.int .i64 n4)] H2 (panK R) fun v1 H4 =>
    tInt v1 .i64 fun n5 =>
    R (.returned (.int .i64 n5)) H4) <|
  iteB (target == (3 : Int)) (
    ldInt H2 ⟨r, 3, none⟩ .i64 fun n6 =>
    ldInt H2 ⟨r1, 3, none⟩ .i64 fun n7 =>
    callD Try.prog 60 [(.int .i64 n6), (.int .i64 n7)] H2 (panK R) fun v2 H5 =>
    tInt v2 .i64 fun n8 =>
    R (.returned (.int .i64 n8)) H5) <|
  iteB (target == (4 : Int)) (
    ldStr H2 ⟨r, 1, none⟩ fun s =>
    ldStr H2 ⟨r1, 1, none⟩ fun s1 =>
    callD Try.prog 61 [(.string s), (.string s1)] H2 (panK R) fun v3 H6 =>
    tInt v3 .i64 fun n9 =>
    R (.returned (.int .i64 n9)) H6) <|
  ldStr H2 ⟨r, 0, none⟩ fun s2 =>
  ldStr H2 ⟨r1, 0, none⟩ fun s3 =>
  callD Try.prog 61 [(.string s2), (.string s3)] H2 (panK R) fun v4 H7 =>
  tInt v4 .i64 fun n10 =>
  R (.returned (.int .i64 n10)) H7
theorem calls {a_0 : ByteArray} {a_1 : ByteArray} {a_2 : Int} {a_3 : Int} {a_4 : Int} {a_5 : Int} {b_0 : ByteArray} {b_1 : ByteArray} {b_2 : Int} {b_3 : Int} {b_4 : Int} {b_5 : Int} {target : Int} {H : Heap} {R : Ending → Heap → Prop} (h : go a_0 a_1 a_2 a_3 a_4 a_5 b_0 b_1 b_2 b_3 b_4 b_5 target H R) : CallsH Try.prog 29 ⟨[(.agg ⟨[(.string a_0), (.string a_1), (.int .i64 a_2), (.int .i64 a_3), (.int .i64 a_4), (.int .i64 a_5)]⟩), (.agg ⟨[(.string b_0), (.string b_1), (.int .i64 b_2), (.int .i64 b_3), (.int .i64 b_4), (.int .i64 b_5)]⟩), (.int .i64 target)]⟩ H R :=
  callsH_of_den (an := an) (fuel := 100000) (X := go a_0 a_1 a_2 a_3 a_4 a_5 b_0 b_1 b_2 b_3 b_4 b_5 target H R) (c := body) mixed fn (by kernel_rfl) (by kernel_rfl) (by kernel_rfl) ok (by kernel_rfl) h
end F29
/-! ### 60 "pub-stadtholder/spec.numberOrder" -/
namespace F60
def an : Ann := { kinds := [], taus := [], pairs := [], lab := [] }
noncomputable def body : Code := (Try.f60.body).getD .skip
theorem fn : Try.prog.funcs[60]? = some Try.f60 := by kernel_rfl
theorem ok : codeOk an 11 body = true := by kernel_rfl
def go (a : Int) (b : Int) (H : Heap) (R : Ending → Heap → Prop) : Prop :=
  iteB (decide (a < b)) (
    R (.returned (.int .i64 (-1 : Int))) H) <|
  iteB (decide (a > b)) (
    R (.returned (.int .i64 (1 : Int))) H) <|
  R (.returned (.int .i64 (0 : Int))) H
theorem calls {a : Int} {b : Int} {H : Heap} {R : Ending → Heap → Prop} (h : go a b H R) : CallsH Try.prog 60 ⟨[(.int .i64 a), (.int .i64 b)]⟩ H R :=
  callsH_of_den (an := an) (fuel := 100000) (X := go a b H R) (c := body) mixed fn (by kernel_rfl) (by kernel_rfl) (by kernel_rfl) ok (by kernel_rfl) h
end F60
/-! ### 61 "pub-stadtholder/spec.textOrder" -/
namespace F61
def an : Ann := { kinds := [], taus := [], pairs := [], lab := [] }
noncomputable def body : Code := (Try.f61.body).getD .skip
theorem fn : Try.prog.funcs[61]? = some Try.f61 := by kernel_rfl
theorem ok : codeOk an 11 body = true := by kernel_rfl
def go (a : ByteArray) (b : ByteArray) (H : Heap) (R : Ending → Heap → Prop) : Prop :=
  iteB (ltS a b) (
    R (.returned (.int .i64 (-1 : Int))) H) <|
  iteB (!(ltS a b || eqS a b)) (
    R (.returned (.int .i64 (1 : Int))) H) <|
  R (.returned (.int .i64 (0 : Int))) H
theorem calls {a : ByteArray} {b : ByteArray} {H : Heap} {R : Ending → Heap → Prop} (h : go a b H R) : CallsH Try.prog 61 ⟨[(.string a), (.string b)]⟩ H R :=
  callsH_of_den (an := an) (fuel := 100000) (X := go a b H R) (c := body) mixed fn (by kernel_rfl) (by kernel_rfl) (by kernel_rfl) ok (by kernel_rfl) h
end F61
/-! ### 4 "pub-stadtholder/laws.FnCheckOne" -/
namespace F4
def an : Ann := { kinds := [(5002, .grow)], taus := [(5, [[1, 4, 0, 3, 2, 5, 6, 7, 8, 9, 10]])], pairs := [], lab := [(10000006, [1, 2])] }
noncomputable def body : Code := (Try.f4.body).getD .skip
theorem fn : Try.prog.funcs[4]? = some Try.f4 := by kernel_rfl
theorem ok : codeOk an 27 body = true := by kernel_rfl
noncomputable def L0t : List Item := [.code (sub [1, 1, 1] body)]
def L0 (most : Int) (r : Nat) (H : Heap) (R : Ending → Heap → Prop) : Prop :=
  GoL Try.prog 4 27 L0t [1, 2] [(.int .i64 most), (.pointer (some ⟨r, 0, none⟩))] H R
def L0n (most : Int) (r : Nat) (H : Heap) (R : Ending → Heap → Prop) : Prop :=
  ldInt H ⟨r, 0, none⟩ .i64 fun n =>
  ldStr H ⟨r, 1, none⟩ fun s =>
  ldStr H ⟨r, 2, none⟩ fun s1 =>
  ldStr H ⟨r, 3, none⟩ fun s2 =>
  ldInt H ⟨r, 4, none⟩ .i64 fun n1 =>
  ldInt H ⟨r, 5, none⟩ .i64 fun n2 =>
  ldInt H ⟨r, 6, none⟩ .i64 fun n3 =>
  ldInt H ⟨r, 7, none⟩ .i64 fun n4 =>
  ldInt H ⟨r, 8, none⟩ .i64 fun n5 =>
  ldInt H ⟨r, 9, none⟩ .i64 fun n6 =>
  ldInt H ⟨r, 10, none⟩ .i64 fun n7 =>
  ldInt H ⟨r, 11, none⟩ .i64 fun n8 =>
  ldInt H ⟨r, 12, none⟩ .i64 fun n9 =>
  ldBool H ⟨r, 13, none⟩ fun b =>
  ldBool H ⟨r, 14, none⟩ fun b1 =>
  ldBool H ⟨r, 15, none⟩ fun b2 =>
  ldBool H ⟨r, 16, none⟩ fun b3 =>
  ldBool H ⟨r, 17, none⟩ fun b4 =>
  ldSl H ⟨r, 18, none⟩ fun q qn qc =>
  ldSl H ⟨r, 19, none⟩ fun q1 q1n q1c =>
  ldSl H ⟨r, 20, none⟩ fun q2 q2n q2c =>
  ldInt H ⟨r, 0, none⟩ .i64 fun n10 =>
  ldStr H ⟨r, 1, none⟩ fun s3 =>
  ldStr H ⟨r, 2, none⟩ fun s4 =>
  ldStr H ⟨r, 3, none⟩ fun s5 =>
  ldInt H ⟨r, 4, none⟩ .i64 fun n11 =>
  ldInt H ⟨r, 5, none⟩ .i64 fun n12 =>
  ldInt H ⟨r, 6, none⟩ .i64 fun n13 =>
  ldInt H ⟨r, 7, none⟩ .i64 fun n14 =>
  ldInt H ⟨r, 8, none⟩ .i64 fun n15 =>
  ldInt H ⟨r, 9, none⟩ .i64 fun n16 =>
  ldInt H ⟨r, 10, none⟩ .i64 fun n17 =>
  ldInt H ⟨r, 11, none⟩ .i64 fun n18 =>
  ldInt H ⟨r, 12, none⟩ .i64 fun n19 =>
  ldBool H ⟨r, 13, none⟩ fun b5 =>
  ldBool H ⟨r, 14, none⟩ fun b6 =>
  ldBool H ⟨r, 15, none⟩ fun b7 =>
  ldBool H ⟨r, 16, none⟩ fun b8 =>
  ldBool H ⟨r, 17, none⟩ fun b9 =>
  ldSl H ⟨r, 18, none⟩ fun q3 q3n q3c =>
  ldSl H ⟨r, 19, none⟩ fun q4 q4n q4c =>
  ldSl H ⟨r, 20, none⟩ fun q5 q5n q5c =>
  callD Try.prog 13 [(.agg ⟨[(.int .i64 n), (.string s), (.string s1), (.string s2), (.int .i64 n1), (.int .i64 n2), (.int .i64 n3), (.int .i64 n4), (.int .i64 n5), (.int .i64 n6), (.int .i64 n7), (.int .i64 n8), (.int .i64 n9), (.bool b), (.bool b1), (.bool b2), (.bool b3), (.bool b4), (.slice q qn qc), (.slice q1 q1n q1c), (.slice q2 q2n q2c)]⟩), (.int .i64 most)] H nope fun v H1 =>
  tInt v .i64 fun n20 =>
  andD (ExtH H H1) <|
  callD Try.prog 14 [(.agg ⟨[(.int .i64 n10), (.string s3), (.string s4), (.string s5), (.int .i64 n11), (.int .i64 n12), (.int .i64 n13), (.int .i64 n14), (.int .i64 n15), (.int .i64 n16), (.int .i64 n17), (.int .i64 n18), (.int .i64 n19), (.bool b5), (.bool b6), (.bool b7), (.bool b8), (.bool b9), (.slice q3 q3n q3c), (.slice q4 q4n q4c), (.slice q5 q5n q5c)]⟩), (.int .i64 most)] H1 (panK R) fun v1 H2 =>
  tInt v1 .i64 fun n21 =>
  iteB (n20 == n21) (
    callD Try.prog 12 [] H2 (panK R) fun v2 H3 =>
    tBool v2 fun b10 =>
    R (.returned (.bool b10)) H3) <|
  R (.returned (.bool false)) H2
theorem L0_step {most : Int} {r : Nat} {H : Heap} {R : Ending → Heap → Prop} (h : L0n most r H R) : L0 most r H R :=
  goL_of_den (an := an) (fuel := 100000) (X := L0n most r H R) mixed fn (by kernel_rfl) (fun ρ0 => by kernel_rfl) h
def go (r_0 : Int) (r_1 : ByteArray) (r_2 : ByteArray) (r_3 : ByteArray) (r_4 : Int) (r_5 : Int) (r_6 : Int) (r_7 : Int) (r_8 : Int) (r_9 : Int) (r_10 : Int) (r_11 : Int) (r_12 : Int) (r_13 : Bool) (r_14 : Bool) (r_15 : Bool) (r_16 : Bool) (r_17 : Bool) (r_18 : Option Addr) (r_18n : Nat) (r_18c : Nat) (r_19 : Option Addr) (r_19n : Nat) (r_19c : Nat) (r_20 : Option Addr) (r_20n : Nat) (r_20c : Nat) (most : Int) (H : Heap) (R : Ending → Heap → Prop) : Prop :=
  newD H (.cells ⟨[(.int .i64 r_0), (.string r_1), (.string r_2), (.string r_3), (.int .i64 r_4), (.int .i64 r_5), (.int .i64 r_6), (.int .i64 r_7), (.int .i64 r_8), (.int .i64 r_9), (.int .i64 r_10), (.int .i64 r_11), (.int .i64 r_12), (.bool r_13), (.bool r_14), (.bool r_15), (.bool r_16), (.bool r_17), (.slice r_18 r_18n r_18c), (.slice r_19 r_19n r_19c), (.slice r_20 r_20n r_20c)]⟩ 33) fun r H1 =>
  ldInt H1 ⟨r, 0, none⟩ .i64 fun n =>
  ldStr H1 ⟨r, 1, none⟩ fun s =>
  ldStr H1 ⟨r, 2, none⟩ fun s1 =>
  ldStr H1 ⟨r, 3, none⟩ fun s2 =>
  ldInt H1 ⟨r, 4, none⟩ .i64 fun n1 =>
  ldInt H1 ⟨r, 5, none⟩ .i64 fun n2 =>
  ldInt H1 ⟨r, 6, none⟩ .i64 fun n3 =>
  ldInt H1 ⟨r, 7, none⟩ .i64 fun n4 =>
  ldInt H1 ⟨r, 8, none⟩ .i64 fun n5 =>
  ldInt H1 ⟨r, 9, none⟩ .i64 fun n6 =>
  ldInt H1 ⟨r, 10, none⟩ .i64 fun n7 =>
  ldInt H1 ⟨r, 11, none⟩ .i64 fun n8 =>
  ldInt H1 ⟨r, 12, none⟩ .i64 fun n9 =>
  ldBool H1 ⟨r, 13, none⟩ fun b =>
  ldBool H1 ⟨r, 14, none⟩ fun b1 =>
  ldBool H1 ⟨r, 15, none⟩ fun b2 =>
  ldBool H1 ⟨r, 16, none⟩ fun b3 =>
  ldBool H1 ⟨r, 17, none⟩ fun b4 =>
  ldSl H1 ⟨r, 18, none⟩ fun q qn qc =>
  ldSl H1 ⟨r, 19, none⟩ fun q1 q1n q1c =>
  ldSl H1 ⟨r, 20, none⟩ fun q2 q2n q2c =>
  callD Try.prog 11 [(.agg ⟨[(.int .i64 n), (.string s), (.string s1), (.string s2), (.int .i64 n1), (.int .i64 n2), (.int .i64 n3), (.int .i64 n4), (.int .i64 n5), (.int .i64 n6), (.int .i64 n7), (.int .i64 n8), (.int .i64 n9), (.bool b), (.bool b1), (.bool b2), (.bool b3), (.bool b4), (.slice q qn qc), (.slice q1 q1n q1c), (.slice q2 q2n q2c)]⟩)] H1 (panK R) fun v H2 =>
  tBool v fun b5 =>
  iteB (!b5) (
    R (.returned (.bool true)) H2) <|
  ldInt H2 ⟨r, 0, none⟩ .i64 fun n10 =>
  iteB (decide (n10 < (1 : Int))) (
    callD Try.prog 12 [] H2 (panK R) fun v1 H3 =>
    tBool v1 fun b6 =>
    R (.returned (.bool b6)) H3) <|
  ldInt H2 ⟨r, 0, none⟩ .i64 fun n11 =>
  iteB (decide (n11 > (3 : Int))) (
    callD Try.prog 12 [] H2 (panK R) fun v2 H4 =>
    tBool v2 fun b7 =>
    R (.returned (.bool b7)) H4) <|
  L0 most r H2 R
theorem calls {r_0 : Int} {r_1 : ByteArray} {r_2 : ByteArray} {r_3 : ByteArray} {r_4 : Int} {r_5 : Int} {r_6 : Int} {r_7 : Int} {r_8 : Int} {r_9 : Int} {r_10 : Int} {r_11 : Int} {r_12 : Int} {r_13 : Bool} {r_14 : Bool} {r_15 : Bool} {r_16 : Bool} {r_17 : Bool} {r_18 : Option Addr} {r_18n : Nat} {r_18c : Nat} {r_19 : Option Addr} {r_19n : Nat} {r_19c : Nat} {r_20 : Option Addr} {r_20n : Nat} {r_20c : Nat} {most : Int} {H : Heap} {R : Ending → Heap → Prop} (h : go r_0 r_1 r_2 r_3 r_4 r_5 r_6 r_7 r_8 r_9 r_10 r_11 r_12 r_13 r_14 r_15 r_16 r_17 r_18 r_18n r_18c r_19 r_19n r_19c r_20 r_20n r_20c most H R) : CallsH Try.prog 4 ⟨[(.agg ⟨[(.int .i64 r_0), (.string r_1), (.string r_2), (.string r_3), (.int .i64 r_4), (.int .i64 r_5), (.int .i64 r_6), (.int .i64 r_7), (.int .i64 r_8), (.int .i64 r_9), (.int .i64 r_10), (.int .i64 r_11), (.int .i64 r_12), (.bool r_13), (.bool r_14), (.bool r_15), (.bool r_16), (.bool r_17), (.slice r_18 r_18n r_18c), (.slice r_19 r_19n r_19c), (.slice r_20 r_20n r_20c)]⟩), (.int .i64 most)]⟩ H R :=
  callsH_of_den (an := an) (fuel := 100000) (X := go r_0 r_1 r_2 r_3 r_4 r_5 r_6 r_7 r_8 r_9 r_10 r_11 r_12 r_13 r_14 r_15 r_16 r_17 r_18 r_18n r_18c r_19 r_19n r_19c r_20 r_20n r_20c most H R) (c := body) mixed fn (by kernel_rfl) (by kernel_rfl) (by kernel_rfl) ok (by kernel_rfl) h
end F4
/-! ### 11 "pub-stadtholder/laws.zzFits8" -/
namespace F11
def an : Ann := { kinds := [], taus := [], pairs := [], lab := [] }
noncomputable def body : Code := (Try.f11.body).getD .skip
theorem fn : Try.prog.funcs[11]? = some Try.f11 := by kernel_rfl
theorem ok : codeOk an 27 body = true := by kernel_rfl
def go (x_0 : Int) (x_1 : ByteArray) (x_2 : ByteArray) (x_3 : ByteArray) (x_4 : Int) (x_5 : Int) (x_6 : Int) (x_7 : Int) (x_8 : Int) (x_9 : Int) (x_10 : Int) (x_11 : Int) (x_12 : Int) (x_13 : Bool) (x_14 : Bool) (x_15 : Bool) (x_16 : Bool) (x_17 : Bool) (x_18 : Option Addr) (x_18n : Nat) (x_18c : Nat) (x_19 : Option Addr) (x_19n : Nat) (x_19c : Nat) (x_20 : Option Addr) (x_20n : Nat) (x_20c : Nat) (H : Heap) (R : Ending → Heap → Prop) : Prop :=
  newD H (.cells ⟨[(.int .i64 x_0), (.string x_1), (.string x_2), (.string x_3), (.int .i64 x_4), (.int .i64 x_5), (.int .i64 x_6), (.int .i64 x_7), (.int .i64 x_8), (.int .i64 x_9), (.int .i64 x_10), (.int .i64 x_11), (.int .i64 x_12), (.bool x_13), (.bool x_14), (.bool x_15), (.bool x_16), (.bool x_17), (.slice x_18 x_18n x_18c), (.slice x_19 x_19n x_19c), (.slice x_20 x_20n x_20c)]⟩ 33) fun r H1 =>
  ldStr H1 ⟨r, 1, none⟩ fun s =>
  iteB (decide (((ByteArray.size s : Nat) : Int) > (2147483647 : Int))) (
    R (.returned (.bool false)) H1) <|
  ldStr H1 ⟨r, 2, none⟩ fun s1 =>
  iteB (decide (((ByteArray.size s1 : Nat) : Int) > (2147483647 : Int))) (
    R (.returned (.bool false)) H1) <|
  ldStr H1 ⟨r, 3, none⟩ fun s2 =>
  iteB (decide (((ByteArray.size s2 : Nat) : Int) > (2147483647 : Int))) (
    R (.returned (.bool false)) H1) <|
  ldSl H1 ⟨r, 18, none⟩ fun q qn qc =>
  callD Try.prog 30 [(.slice q qn qc)] H1 (panK R) fun v H2 =>
  tBool v fun b =>
  iteB (!b) (
    R (.returned (.bool false)) H2) <|
  ldSl H2 ⟨r, 19, none⟩ fun q1 q1n q1c =>
  iteB (decide (((q1n : Nat) : Int) > (2147483647 : Int))) (
    R (.returned (.bool false)) H2) <|
  ldSl H2 ⟨r, 20, none⟩ fun q2 q2n q2c =>
  iteB (decide (((q2n : Nat) : Int) > (2147483647 : Int))) (
    R (.returned (.bool false)) H2) <|
  R (.returned (.bool true)) H2
theorem calls {x_0 : Int} {x_1 : ByteArray} {x_2 : ByteArray} {x_3 : ByteArray} {x_4 : Int} {x_5 : Int} {x_6 : Int} {x_7 : Int} {x_8 : Int} {x_9 : Int} {x_10 : Int} {x_11 : Int} {x_12 : Int} {x_13 : Bool} {x_14 : Bool} {x_15 : Bool} {x_16 : Bool} {x_17 : Bool} {x_18 : Option Addr} {x_18n : Nat} {x_18c : Nat} {x_19 : Option Addr} {x_19n : Nat} {x_19c : Nat} {x_20 : Option Addr} {x_20n : Nat} {x_20c : Nat} {H : Heap} {R : Ending → Heap → Prop} (h : go x_0 x_1 x_2 x_3 x_4 x_5 x_6 x_7 x_8 x_9 x_10 x_11 x_12 x_13 x_14 x_15 x_16 x_17 x_18 x_18n x_18c x_19 x_19n x_19c x_20 x_20n x_20c H R) : CallsH Try.prog 11 ⟨[(.agg ⟨[(.int .i64 x_0), (.string x_1), (.string x_2), (.string x_3), (.int .i64 x_4), (.int .i64 x_5), (.int .i64 x_6), (.int .i64 x_7), (.int .i64 x_8), (.int .i64 x_9), (.int .i64 x_10), (.int .i64 x_11), (.int .i64 x_12), (.bool x_13), (.bool x_14), (.bool x_15), (.bool x_16), (.bool x_17), (.slice x_18 x_18n x_18c), (.slice x_19 x_19n x_19c), (.slice x_20 x_20n x_20c)]⟩)]⟩ H R :=
  callsH_of_den (an := an) (fuel := 100000) (X := go x_0 x_1 x_2 x_3 x_4 x_5 x_6 x_7 x_8 x_9 x_10 x_11 x_12 x_13 x_14 x_15 x_16 x_17 x_18 x_18n x_18c x_19 x_19n x_19c x_20 x_20n x_20c H R) (c := body) mixed fn (by kernel_rfl) (by kernel_rfl) (by kernel_rfl) ok (by kernel_rfl) h
end F11
/-! ### 30 "pub-stadtholder/laws.zzFits9" -/
namespace F30
def an : Ann := { kinds := [], taus := [], pairs := [], lab := [(40000005, [8, 9, 10])] }
noncomputable def body : Code := (Try.f30.body).getD .skip
theorem fn : Try.prog.funcs[30]? = some Try.f30 := by kernel_rfl
theorem ok : codeOk an 18 body = true := by kernel_rfl
noncomputable def L0t : List Item := [.code (sub [1, 1, 0, 1, 0, 0] body), .inLoop (sub [1, 1, 0, 1, 0, 0] body), .inBlock 0, .code (sub [1, 1, 1] body)]
def L0 (s8 : Option Addr) (s8n : Nat) (s8c : Nat) (s9 : Int) (s10 : Int) (H : Heap) (R : Ending → Heap → Prop) : Prop :=
  GoL Try.prog 30 18 L0t [8, 9, 10] [(.slice s8 s8n s8c), (.int .i64 s9), (.int .i64 s10)] H R
def L0n (s8 : Option Addr) (s8n : Nat) (s8c : Nat) (s9 : Int) (s10 : Int) (H : Heap) (R : Ending → Heap → Prop) : Prop :=
  iteB (decide (s10 < s9)) (
    idxD s8 s8n s10 fun a =>
    ldInt H (Addr.add a (Int.toNat s10 * 7)) .i64 fun n =>
    ldInt H (Addr.add (Addr.add a (Int.toNat s10 * 7)) 1) .i64 fun n1 =>
    ldStr H (Addr.add (Addr.add a (Int.toNat s10 * 7)) 2) fun s =>
    ldStr H (Addr.add (Addr.add a (Int.toNat s10 * 7)) 3) fun s1 =>
    ldInt H (Addr.add (Addr.add a (Int.toNat s10 * 7)) 4) .i64 fun n2 =>
    ldStr H (Addr.add (Addr.add a (Int.toNat s10 * 7)) 5) fun s2 =>
    ldBool H (Addr.add (Addr.add a (Int.toNat s10 * 7)) 6) fun b =>
    newD H (.cells ⟨[(.int .i64 (0 : Int)), (.int .i64 (0 : Int)), (.string (ByteArray.mk #[])), (.string (ByteArray.mk #[])), (.int .i64 (0 : Int)), (.string (ByteArray.mk #[])), (.bool false)]⟩ 82) fun r H1 =>
    st1 H1 ⟨r, 0, none⟩ (.int .i64 n) fun H2 =>
    st1 H2 ⟨r, 1, none⟩ (.int .i64 n1) fun H3 =>
    st1 H3 ⟨r, 2, none⟩ (.string s) fun H4 =>
    st1 H4 ⟨r, 3, none⟩ (.string s1) fun H5 =>
    st1 H5 ⟨r, 4, none⟩ (.int .i64 n2) fun H6 =>
    st1 H6 ⟨r, 5, none⟩ (.string s2) fun H7 =>
    st1 H7 ⟨r, 6, none⟩ (.bool b) fun H8 =>
    ldInt H8 ⟨r, 0, none⟩ .i64 fun n3 =>
    ldInt H8 ⟨r, 1, none⟩ .i64 fun n4 =>
    ldStr H8 ⟨r, 2, none⟩ fun s3 =>
    ldStr H8 ⟨r, 3, none⟩ fun s4 =>
    ldInt H8 ⟨r, 4, none⟩ .i64 fun n5 =>
    ldStr H8 ⟨r, 5, none⟩ fun s5 =>
    ldBool H8 ⟨r, 6, none⟩ fun b1 =>
    callD Try.prog 62 [(.agg ⟨[(.int .i64 n3), (.int .i64 n4), (.string s3), (.string s4), (.int .i64 n5), (.string s5), (.bool b1)]⟩)] H8 (panK R) fun v H9 =>
    tBool v fun b2 =>
    iteB (!b2) (
      R (.returned (.bool false)) H9) <|
    L0 s8 s8n s8c s9 (IntKind.wrap .i64 (s10 + (1 : Int))) H9 R) <|
  R (.returned (.bool true)) H
theorem L0_step {s8 : Option Addr} {s8n : Nat} {s8c : Nat} {s9 : Int} {s10 : Int} {H : Heap} {R : Ending → Heap → Prop} (h : L0n s8 s8n s8c s9 s10 H R) : L0 s8 s8n s8c s9 s10 H R :=
  goL_of_den (an := an) (fuel := 100000) (X := L0n s8 s8n s8c s9 s10 H R) mixed fn (by kernel_rfl) (fun ρ0 => by kernel_rfl) h
def go (x : Option Addr) (xn : Nat) (xc : Nat) (H : Heap) (R : Ending → Heap → Prop) : Prop :=
  iteB (decide (((xn : Nat) : Int) > (2147483647 : Int))) (
    R (.returned (.bool false)) H) <|
  L0 x xn xc ((xn : Nat) : Int) (0 : Int) H R
theorem calls {x : Option Addr} {xn : Nat} {xc : Nat} {H : Heap} {R : Ending → Heap → Prop} (h : go x xn xc H R) : CallsH Try.prog 30 ⟨[(.slice x xn xc)]⟩ H R :=
  callsH_of_den (an := an) (fuel := 100000) (X := go x xn xc H R) (c := body) mixed fn (by kernel_rfl) (by kernel_rfl) (by kernel_rfl) ok (by kernel_rfl) h
end F30
/-! ### 62 "pub-stadtholder/laws.zzFits10" -/
namespace F62
def an : Ann := { kinds := [], taus := [], pairs := [], lab := [] }
noncomputable def body : Code := (Try.f62.body).getD .skip
theorem fn : Try.prog.funcs[62]? = some Try.f62 := by kernel_rfl
theorem ok : codeOk an 15 body = true := by kernel_rfl
def go (x_0 : Int) (x_1 : Int) (x_2 : ByteArray) (x_3 : ByteArray) (x_4 : Int) (x_5 : ByteArray) (x_6 : Bool) (H : Heap) (R : Ending → Heap → Prop) : Prop :=
  newD H (.cells ⟨[(.int .i64 x_0), (.int .i64 x_1), (.string x_2), (.string x_3), (.int .i64 x_4), (.string x_5), (.bool x_6)]⟩ 82) fun r H1 =>
  ldStr H1 ⟨r, 2, none⟩ fun s =>
  iteB (decide (((ByteArray.size s : Nat) : Int) > (2147483647 : Int))) (
    R (.returned (.bool false)) H1) <|
  ldStr H1 ⟨r, 3, none⟩ fun s1 =>
  iteB (decide (((ByteArray.size s1 : Nat) : Int) > (2147483647 : Int))) (
    R (.returned (.bool false)) H1) <|
  ldStr H1 ⟨r, 5, none⟩ fun s2 =>
  iteB (decide (((ByteArray.size s2 : Nat) : Int) > (2147483647 : Int))) (
    R (.returned (.bool false)) H1) <|
  R (.returned (.bool true)) H1
theorem calls {x_0 : Int} {x_1 : Int} {x_2 : ByteArray} {x_3 : ByteArray} {x_4 : Int} {x_5 : ByteArray} {x_6 : Bool} {H : Heap} {R : Ending → Heap → Prop} (h : go x_0 x_1 x_2 x_3 x_4 x_5 x_6 H R) : CallsH Try.prog 62 ⟨[(.agg ⟨[(.int .i64 x_0), (.int .i64 x_1), (.string x_2), (.string x_3), (.int .i64 x_4), (.string x_5), (.bool x_6)]⟩)]⟩ H R :=
  callsH_of_den (an := an) (fuel := 100000) (X := go x_0 x_1 x_2 x_3 x_4 x_5 x_6 H R) (c := body) mixed fn (by kernel_rfl) (by kernel_rfl) (by kernel_rfl) ok (by kernel_rfl) h
end F62
/-! ### 12 "pub-stadtholder/laws.ckLive" -/
namespace F12
def an : Ann := { kinds := [], taus := [], pairs := [], lab := [] }
noncomputable def body : Code := (Try.f12.body).getD .skip
theorem fn : Try.prog.funcs[12]? = some Try.f12 := by kernel_rfl
theorem ok : codeOk an 9 body = true := by kernel_rfl
def go  (H : Heap) (R : Ending → Heap → Prop) : Prop :=
  callD Try.prog 13 [(.agg ⟨[(.int .i64 (2 : Int)), (.string (ByteArray.mk #[])), (.string (ByteArray.mk #[])), (.string (ByteArray.mk #[])), (.int .i64 (0 : Int)), (.int .i64 (0 : Int)), (.int .i64 (0 : Int)), (.int .i64 (0 : Int)), (.int .i64 (0 : Int)), (.int .i64 (0 : Int)), (.int .i64 (0 : Int)), (.int .i64 (0 : Int)), (.int .i64 (0 : Int)), (.bool false), (.bool false), (.bool false), (.bool false), (.bool false), (.slice none 0 0), (.slice none 0 0), (.slice none 0 0)]⟩), (.int .i64 (3 : Int))] H (panK R) fun v H1 =>
  tInt v .i64 fun n =>
  iteB (n == (1 : Int)) (
    callD Try.prog 13 [(.agg ⟨[(.int .i64 (2 : Int)), (.string (ByteArray.mk #[107])), (.string (ByteArray.mk #[])), (.string (ByteArray.mk #[])), (.int .i64 (0 : Int)), (.int .i64 (0 : Int)), (.int .i64 (0 : Int)), (.int .i64 (0 : Int)), (.int .i64 (0 : Int)), (.int .i64 (0 : Int)), (.int .i64 (0 : Int)), (.int .i64 (0 : Int)), (.int .i64 (0 : Int)), (.bool false), (.bool false), (.bool false), (.bool false), (.bool false), (.slice none 0 0), (.slice none 0 0), (.slice none 0 0)]⟩), (.int .i64 (3 : Int))] H1 (panK R) fun v1 H2 =>
    tInt v1 .i64 fun n1 =>
    R (.returned (.bool (n1 == (0 : Int)))) H2) <|
  R (.returned (.bool false)) H1
theorem calls  {H : Heap} {R : Ending → Heap → Prop} (h : go  H R) : CallsH Try.prog 12 ⟨[]⟩ H R :=
  callsH_of_den (an := an) (fuel := 100000) (X := go  H R) (c := body) mixed fn (by kernel_rfl) (by kernel_rfl) (by kernel_rfl) ok (by kernel_rfl) h
end F12
/-! ### 13 "pub-stadtholder/impl.Check" -/
namespace F13
def an : Ann := { kinds := [], taus := [], pairs := [], lab := [] }
noncomputable def body : Code := (Try.f13.body).getD .skip
theorem fn : Try.prog.funcs[13]? = some Try.f13 := by kernel_rfl
theorem ok : codeOk an 32 body = true := by kernel_rfl
def go (r_0 : Int) (r_1 : ByteArray) (r_2 : ByteArray) (r_3 : ByteArray) (r_4 : Int) (r_5 : Int) (r_6 : Int) (r_7 : Int) (r_8 : Int) (r_9 : Int) (r_10 : Int) (r_11 : Int) (r_12 : Int) (r_13 : Bool) (r_14 : Bool) (r_15 : Bool) (r_16 : Bool) (r_17 : Bool) (r_18 : Option Addr) (r_18n : Nat) (r_18c : Nat) (r_19 : Option Addr) (r_19n : Nat) (r_19c : Nat) (r_20 : Option Addr) (r_20n : Nat) (r_20c : Nat) (most : Int) (H : Heap) (R : Ending → Heap → Prop) : Prop :=
  newD H (.cells ⟨[(.int .i64 r_0), (.string r_1), (.string r_2), (.string r_3), (.int .i64 r_4), (.int .i64 r_5), (.int .i64 r_6), (.int .i64 r_7), (.int .i64 r_8), (.int .i64 r_9), (.int .i64 r_10), (.int .i64 r_11), (.int .i64 r_12), (.bool r_13), (.bool r_14), (.bool r_15), (.bool r_16), (.bool r_17), (.slice r_18 r_18n r_18c), (.slice r_19 r_19n r_19c), (.slice r_20 r_20n r_20c)]⟩ 33) fun r H1 =>
  ldInt H1 ⟨r, 0, none⟩ .i64 fun n =>
  iteB (n == (1 : Int)) (
    ldInt H1 ⟨r, 0, none⟩ .i64 fun n1 =>
    ldStr H1 ⟨r, 1, none⟩ fun s =>
    ldStr H1 ⟨r, 2, none⟩ fun s1 =>
    ldStr H1 ⟨r, 3, none⟩ fun s2 =>
    ldInt H1 ⟨r, 4, none⟩ .i64 fun n2 =>
    ldInt H1 ⟨r, 5, none⟩ .i64 fun n3 =>
    ldInt H1 ⟨r, 6, none⟩ .i64 fun n4 =>
    ldInt H1 ⟨r, 7, none⟩ .i64 fun n5 =>
    ldInt H1 ⟨r, 8, none⟩ .i64 fun n6 =>
    ldInt H1 ⟨r, 9, none⟩ .i64 fun n7 =>
    ldInt H1 ⟨r, 10, none⟩ .i64 fun n8 =>
    ldInt H1 ⟨r, 11, none⟩ .i64 fun n9 =>
    ldInt H1 ⟨r, 12, none⟩ .i64 fun n10 =>
    ldBool H1 ⟨r, 13, none⟩ fun b =>
    ldBool H1 ⟨r, 14, none⟩ fun b1 =>
    ldBool H1 ⟨r, 15, none⟩ fun b2 =>
    ldBool H1 ⟨r, 16, none⟩ fun b3 =>
    ldBool H1 ⟨r, 17, none⟩ fun b4 =>
    ldSl H1 ⟨r, 18, none⟩ fun q qn qc =>
    ldSl H1 ⟨r, 19, none⟩ fun q1 q1n q1c =>
    ldSl H1 ⟨r, 20, none⟩ fun q2 q2n q2c =>
    callD Try.prog 28 [(.agg ⟨[(.int .i64 n1), (.string s), (.string s1), (.string s2), (.int .i64 n2), (.int .i64 n3), (.int .i64 n4), (.int .i64 n5), (.int .i64 n6), (.int .i64 n7), (.int .i64 n8), (.int .i64 n9), (.int .i64 n10), (.bool b), (.bool b1), (.bool b2), (.bool b3), (.bool b4), (.slice q qn qc), (.slice q1 q1n q1c), (.slice q2 q2n q2c)]⟩)] H1 (panK R) fun v H2 =>
    tPtr v fun p =>
    callD Try.prog 32 [(.pointer p)] H2 (panK R) fun v1 H3 =>
    tIf v1 fun i =>
    callD Try.prog 31 [(IV.v i)] H3 (panK R) fun v2 H4 =>
    tInt v2 .i64 fun n11 =>
    R (.returned (.int .i64 n11)) H4) <|
  iteB (n == (2 : Int)) (
    ldInt H1 ⟨r, 0, none⟩ .i64 fun n12 =>
    ldStr H1 ⟨r, 1, none⟩ fun s3 =>
    ldStr H1 ⟨r, 2, none⟩ fun s4 =>
    ldStr H1 ⟨r, 3, none⟩ fun s5 =>
    ldInt H1 ⟨r, 4, none⟩ .i64 fun n13 =>
    ldInt H1 ⟨r, 5, none⟩ .i64 fun n14 =>
    ldInt H1 ⟨r, 6, none⟩ .i64 fun n15 =>
    ldInt H1 ⟨r, 7, none⟩ .i64 fun n16 =>
    ldInt H1 ⟨r, 8, none⟩ .i64 fun n17 =>
    ldInt H1 ⟨r, 9, none⟩ .i64 fun n18 =>
    ldInt H1 ⟨r, 10, none⟩ .i64 fun n19 =>
    ldInt H1 ⟨r, 11, none⟩ .i64 fun n20 =>
    ldInt H1 ⟨r, 12, none⟩ .i64 fun n21 =>
    ldBool H1 ⟨r, 13, none⟩ fun b5 =>
    ldBool H1 ⟨r, 14, none⟩ fun b6 =>
    ldBool H1 ⟨r, 15, none⟩ fun b7 =>
    ldBool H1 ⟨r, 16, none⟩ fun b8 =>
    ldBool H1 ⟨r, 17, none⟩ fun b9 =>
    ldSl H1 ⟨r, 18, none⟩ fun q3 q3n q3c =>
    ldSl H1 ⟨r, 19, none⟩ fun q4 q4n q4c =>
    ldSl H1 ⟨r, 20, none⟩ fun q5 q5n q5c =>
    callD Try.prog 34 [(.agg ⟨[(.int .i64 n12), (.string s3), (.string s4), (.string s5), (.int .i64 n13), (.int .i64 n14), (.int .i64 n15), (.int .i64 n16), (.int .i64 n17), (.int .i64 n18), (.int .i64 n19), (.int .i64 n20), (.int .i64 n21), (.bool b5), (.bool b6), (.bool b7), (.bool b8), (.bool b9), (.slice q3 q3n q3c), (.slice q4 q4n q4c), (.slice q5 q5n q5c)]⟩)] H1 (panK R) fun v3 H5 =>
    tPtr v3 fun p1 =>
    callD Try.prog 33 [(.pointer p1)] H5 (panK R) fun v4 H6 =>
    tIf v4 fun i1 =>
    callD Try.prog 31 [(IV.v i1)] H6 (panK R) fun v5 H7 =>
    tInt v5 .i64 fun n22 =>
    R (.returned (.int .i64 n22)) H7) <|
  iteB (n == (3 : Int)) (
    ldInt H1 ⟨r, 0, none⟩ .i64 fun n23 =>
    ldStr H1 ⟨r, 1, none⟩ fun s6 =>
    ldStr H1 ⟨r, 2, none⟩ fun s7 =>
    ldStr H1 ⟨r, 3, none⟩ fun s8 =>
    ldInt H1 ⟨r, 4, none⟩ .i64 fun n24 =>
    ldInt H1 ⟨r, 5, none⟩ .i64 fun n25 =>
    ldInt H1 ⟨r, 6, none⟩ .i64 fun n26 =>
    ldInt H1 ⟨r, 7, none⟩ .i64 fun n27 =>
    ldInt H1 ⟨r, 8, none⟩ .i64 fun n28 =>
    ldInt H1 ⟨r, 9, none⟩ .i64 fun n29 =>
    ldInt H1 ⟨r, 10, none⟩ .i64 fun n30 =>
    ldInt H1 ⟨r, 11, none⟩ .i64 fun n31 =>
    ldInt H1 ⟨r, 12, none⟩ .i64 fun n32 =>
    ldBool H1 ⟨r, 13, none⟩ fun b10 =>
    ldBool H1 ⟨r, 14, none⟩ fun b11 =>
    ldBool H1 ⟨r, 15, none⟩ fun b12 =>
    ldBool H1 ⟨r, 16, none⟩ fun b13 =>
    ldBool H1 ⟨r, 17, none⟩ fun b14 =>
    ldSl H1 ⟨r, 18, none⟩ fun q6 q6n q6c =>
    ldSl H1 ⟨r, 19, none⟩ fun q7 q7n q7c =>
    ldSl H1 ⟨r, 20, none⟩ fun q8 q8n q8c =>
    callD Try.prog 36 [(.agg ⟨[(.int .i64 n23), (.string s6), (.string s7), (.string s8), (.int .i64 n24), (.int .i64 n25), (.int .i64 n26), (.int .i64 n27), (.int .i64 n28), (.int .i64 n29), (.int .i64 n30), (.int .i64 n31), (.int .i64 n32), (.bool b10), (.bool b11), (.bool b12), (.bool b13), (.bool b14), (.slice q6 q6n q6c), (.slice q7 q7n q7c), (.slice q8 q8n q8c)]⟩)] H1 (panK R) fun v6 H8 =>
    tPtr v6 fun p2 =>
    callD Try.prog 35 [(.pointer p2)] H8 (panK R) fun v7 H9 =>
    tIf v7 fun i2 =>
    callD Try.prog 31 [(IV.v i2)] H9 (panK R) fun v8 H10 =>
    tInt v8 .i64 fun n33 =>
    R (.returned (.int .i64 n33)) H10) <|
  iteB (n == (4 : Int)) (
    ldInt H1 ⟨r, 0, none⟩ .i64 fun n34 =>
    ldStr H1 ⟨r, 1, none⟩ fun s9 =>
    ldStr H1 ⟨r, 2, none⟩ fun s10 =>
    ldStr H1 ⟨r, 3, none⟩ fun s11 =>
    ldInt H1 ⟨r, 4, none⟩ .i64 fun n35 =>
    ldInt H1 ⟨r, 5, none⟩ .i64 fun n36 =>
    ldInt H1 ⟨r, 6, none⟩ .i64 fun n37 =>
    ldInt H1 ⟨r, 7, none⟩ .i64 fun n38 =>
    ldInt H1 ⟨r, 8, none⟩ .i64 fun n39 =>
    ldInt H1 ⟨r, 9, none⟩ .i64 fun n40 =>
    ldInt H1 ⟨r, 10, none⟩ .i64 fun n41 =>
    ldInt H1 ⟨r, 11, none⟩ .i64 fun n42 =>
    ldInt H1 ⟨r, 12, none⟩ .i64 fun n43 =>
    ldBool H1 ⟨r, 13, none⟩ fun b15 =>
    ldBool H1 ⟨r, 14, none⟩ fun b16 =>
    ldBool H1 ⟨r, 15, none⟩ fun b17 =>
    ldBool H1 ⟨r, 16, none⟩ fun b18 =>
    ldBool H1 ⟨r, 17, none⟩ fun b19 =>
    ldSl H1 ⟨r, 18, none⟩ fun q9 q9n q9c =>
    ldSl H1 ⟨r, 19, none⟩ fun q10 q10n q10c =>
    ldSl H1 ⟨r, 20, none⟩ fun q11 q11n q11c =>
    callD Try.prog 38 [(.agg ⟨[(.int .i64 n34), (.string s9), (.string s10), (.string s11), (.int .i64 n35), (.int .i64 n36), (.int .i64 n37), (.int .i64 n38), (.int .i64 n39), (.int .i64 n40), (.int .i64 n41), (.int .i64 n42), (.int .i64 n43), (.bool b15), (.bool b16), (.bool b17), (.bool b18), (.bool b19), (.slice q9 q9n q9c), (.slice q10 q10n q10c), (.slice q11 q11n q11c)]⟩)] H1 (panK R) fun v9 H11 =>
    tPtr v9 fun p3 =>
    callD Try.prog 37 [(.pointer p3), (.int .i64 most)] H11 (panK R) fun v10 H12 =>
    tIf v10 fun i3 =>
    callD Try.prog 31 [(IV.v i3)] H12 (panK R) fun v11 H13 =>
    tInt v11 .i64 fun n44 =>
    R (.returned (.int .i64 n44)) H13) <|
  R (.returned (.int .i64 (8 : Int))) H1
theorem calls {r_0 : Int} {r_1 : ByteArray} {r_2 : ByteArray} {r_3 : ByteArray} {r_4 : Int} {r_5 : Int} {r_6 : Int} {r_7 : Int} {r_8 : Int} {r_9 : Int} {r_10 : Int} {r_11 : Int} {r_12 : Int} {r_13 : Bool} {r_14 : Bool} {r_15 : Bool} {r_16 : Bool} {r_17 : Bool} {r_18 : Option Addr} {r_18n : Nat} {r_18c : Nat} {r_19 : Option Addr} {r_19n : Nat} {r_19c : Nat} {r_20 : Option Addr} {r_20n : Nat} {r_20c : Nat} {most : Int} {H : Heap} {R : Ending → Heap → Prop} (h : go r_0 r_1 r_2 r_3 r_4 r_5 r_6 r_7 r_8 r_9 r_10 r_11 r_12 r_13 r_14 r_15 r_16 r_17 r_18 r_18n r_18c r_19 r_19n r_19c r_20 r_20n r_20c most H R) : CallsH Try.prog 13 ⟨[(.agg ⟨[(.int .i64 r_0), (.string r_1), (.string r_2), (.string r_3), (.int .i64 r_4), (.int .i64 r_5), (.int .i64 r_6), (.int .i64 r_7), (.int .i64 r_8), (.int .i64 r_9), (.int .i64 r_10), (.int .i64 r_11), (.int .i64 r_12), (.bool r_13), (.bool r_14), (.bool r_15), (.bool r_16), (.bool r_17), (.slice r_18 r_18n r_18c), (.slice r_19 r_19n r_19c), (.slice r_20 r_20n r_20c)]⟩), (.int .i64 most)]⟩ H R :=
  callsH_of_den (an := an) (fuel := 100000) (X := go r_0 r_1 r_2 r_3 r_4 r_5 r_6 r_7 r_8 r_9 r_10 r_11 r_12 r_13 r_14 r_15 r_16 r_17 r_18 r_18n r_18c r_19 r_19n r_19c r_20 r_20n r_20c most H R) (c := body) mixed fn (by kernel_rfl) (by kernel_rfl) (by kernel_rfl) ok (by kernel_rfl) h
end F13
/-! ### 31 "pub-stadtholder/impl.checkKind" -/
namespace F31
def an : Ann := { kinds := [], taus := [], pairs := [], lab := [] }
noncomputable def body : Code := (Try.f31.body).getD .skip
theorem fn : Try.prog.funcs[31]? = some Try.f31 := by kernel_rfl
theorem ok : codeOk an 27 body = true := by kernel_rfl
def go (err : IV) (H : Heap) (R : Ending → Heap → Prop) : Prop :=
  ifNilD (IV.v err) fun b =>
  iteB b (
    R (.returned (.int .i64 (0 : Int))) H) <|
  rawI Try.prog .eql 70 (IV.v err) (.iface 127 (.string (ByteArray.mk #[101, 116, 99, 100, 115, 101, 114, 118, 101, 114, 58, 32, 107, 101, 121, 32, 105, 115, 32, 110, 111, 116, 32, 112, 114, 111, 118, 105, 100, 101, 100]))) fun b1 =>
  iteB b1 (
    R (.returned (.int .i64 (1 : Int))) H) <|
  rawI Try.prog .eql 70 (IV.v err) (.iface 127 (.string (ByteArray.mk #[101, 116, 99, 100, 115, 101, 114, 118, 101, 114, 58, 32, 118, 97, 108, 117, 101, 32, 105, 115, 32, 112, 114, 111, 118, 105, 100, 101, 100]))) fun b2 =>
  iteB b2 (
    R (.returned (.int .i64 (2 : Int))) H) <|
  rawI Try.prog .eql 70 (IV.v err) (.iface 127 (.string (ByteArray.mk #[101, 116, 99, 100, 115, 101, 114, 118, 101, 114, 58, 32, 108, 101, 97, 115, 101, 32, 105, 115, 32, 112, 114, 111, 118, 105, 100, 101, 100]))) fun b3 =>
  iteB b3 (
    R (.returned (.int .i64 (3 : Int))) H) <|
  rawI Try.prog .eql 70 (IV.v err) (.iface 127 (.string (ByteArray.mk #[101, 116, 99, 100, 115, 101, 114, 118, 101, 114, 58, 32, 116, 111, 111, 32, 109, 97, 110, 121, 32, 111, 112, 101, 114, 97, 116, 105, 111, 110, 115, 32, 105, 110, 32, 116, 120, 110, 32, 114, 101, 113, 117, 101, 115, 116]))) fun b4 =>
  iteB b4 (
    R (.returned (.int .i64 (4 : Int))) H) <|
  rawI Try.prog .eql 70 (IV.v err) (.iface 127 (.string (ByteArray.mk #[101, 116, 99, 100, 115, 101, 114, 118, 101, 114, 58, 32, 100, 117, 112, 108, 105, 99, 97, 116, 101, 32, 107, 101, 121, 32, 103, 105, 118, 101, 110, 32, 105, 110, 32, 116, 120, 110, 32, 114, 101, 113, 117, 101, 115, 116]))) fun b5 =>
  iteB b5 (
    R (.returned (.int .i64 (5 : Int))) H) <|
  rawI Try.prog .eql 70 (IV.v err) (.iface 127 (.string (ByteArray.mk #[101, 116, 99, 100, 115, 101, 114, 118, 101, 114, 58, 32, 105, 110, 118, 97, 108, 105, 100, 32, 115, 111, 114, 116, 32, 111, 112, 116, 105, 111, 110]))) fun b6 =>
  iteB b6 (
    R (.returned (.int .i64 (6 : Int))) H) <|
  rawI Try.prog .eql 70 (IV.v err) (.iface 127 (.string (ByteArray.mk #[101, 116, 99, 100, 115, 101, 114, 118, 101, 114, 58, 32, 107, 101, 121, 32, 110, 111, 116, 32, 102, 111, 117, 110, 100]))) fun b7 =>
  iteB b7 (
    R (.returned (.int .i64 (7 : Int))) H) <|
  R (.returned (.int .i64 (8 : Int))) H
theorem calls {err : IV} {H : Heap} {R : Ending → Heap → Prop} (h : go err H R) : CallsH Try.prog 31 ⟨[(IV.v err)]⟩ H R :=
  callsH_of_den (an := an) (fuel := 100000) (X := go err H R) (c := body) mixed fn (by kernel_rfl) (by kernel_rfl) (by kernel_rfl) ok (by kernel_rfl) h
end F31
/-! ### 14 "pub-stadtholder/spec.Refused" -/
namespace F14
def an : Ann := { kinds := [(29000, .grow), (29003, .grow)], taus := [(29, [[1, 4, 8, 2, 5, 0, 3, 6, 7]])], pairs := [], lab := [(40000025, [1, 2, 5, 79, 80, 81]), (40000031, [1, 5, 95, 96, 97]), (50000014, [2])] }
noncomputable def body : Code := (Try.f14.body).getD .skip
theorem fn : Try.prog.funcs[14]? = some Try.f14 := by kernel_rfl
theorem ok : codeOk an 110 body = true := by kernel_rfl
noncomputable def L0t : List Item := [.code (sub [1, 1, 1, 1, 0, 1, 0, 0] body), .inLoop (sub [1, 1, 1, 1, 0, 1, 0, 0] body), .inBlock 3, .code (sub [1, 1, 1, 1, 1] body)]
def L0 (s1 : Int) (s2 : Nat) (s5 : Int) (s79 : Option Addr) (s79n : Nat) (s79c : Nat) (s80 : Int) (s81 : Int) (H : Heap) (R : Ending → Heap → Prop) : Prop :=
  GoL Try.prog 14 110 L0t [1, 2, 5, 79, 80, 81] [(.int .i64 s1), (.pointer (some ⟨s2, 0, none⟩)), (.int .i64 s5), (.slice s79 s79n s79c), (.int .i64 s80), (.int .i64 s81)] H R
noncomputable def L1t : List Item := [.code (sub [1, 1, 1, 1, 1, 0, 1, 0, 0] body), .inLoop (sub [1, 1, 1, 1, 1, 0, 1, 0, 0] body), .inBlock 5, .code (sub [1, 1, 1, 1, 1, 1] body)]
def L1 (s1 : Int) (s5 : Int) (s95 : Option Addr) (s95n : Nat) (s95c : Nat) (s96 : Int) (s97 : Int) (H : Heap) (R : Ending → Heap → Prop) : Prop :=
  GoL Try.prog 14 110 L1t [1, 5, 95, 96, 97] [(.int .i64 s1), (.int .i64 s5), (.slice s95 s95n s95c), (.int .i64 s96), (.int .i64 s97)] H R
noncomputable def L2t : List Item := [.code (sub [1, 0, 1, 0, 1, 1, 1, 0, 0, 0, 1, 1, 1, 1] body), .inBlock 2, .code (sub [1, 0, 1, 0, 1, 1, 1, 0, 1] body), .inBlock 0, .code (sub [1, 1] body)]
def L2 (s2 : Nat) (H : Heap) (R : Ending → Heap → Prop) : Prop :=
  GoL Try.prog 14 110 L2t [2] [(.pointer (some ⟨s2, 0, none⟩))] H R
def L0n (s1 : Int) (s2 : Nat) (s5 : Int) (s79 : Option Addr) (s79n : Nat) (s79c : Nat) (s80 : Int) (s81 : Int) (H : Heap) (R : Ending → Heap → Prop) : Prop :=
  iteB (decide (s81 < s80)) (
    idxD s79 s79n s81 fun a =>
    ldInt H (Addr.add a (Int.toNat s81 * 7)) .i64 fun n =>
    ldInt H (Addr.add (Addr.add a (Int.toNat s81 * 7)) 1) .i64 fun n1 =>
    ldStr H (Addr.add (Addr.add a (Int.toNat s81 * 7)) 2) fun s =>
    ldStr H (Addr.add (Addr.add a (Int.toNat s81 * 7)) 3) fun s3 =>
    ldInt H (Addr.add (Addr.add a (Int.toNat s81 * 7)) 4) .i64 fun n2 =>
    ldStr H (Addr.add (Addr.add a (Int.toNat s81 * 7)) 5) fun s4 =>
    ldBool H (Addr.add (Addr.add a (Int.toNat s81 * 7)) 6) fun b =>
    newD H (.cells ⟨[(.int .i64 (0 : Int)), (.int .i64 (0 : Int)), (.string (ByteArray.mk #[])), (.string (ByteArray.mk #[])), (.int .i64 (0 : Int)), (.string (ByteArray.mk #[])), (.bool false)]⟩ 82) fun r H1 =>
    st1 H1 ⟨r, 0, none⟩ (.int .i64 n) fun H2 =>
    st1 H2 ⟨r, 1, none⟩ (.int .i64 n1) fun H3 =>
    st1 H3 ⟨r, 2, none⟩ (.string s) fun H4 =>
    st1 H4 ⟨r, 3, none⟩ (.string s3) fun H5 =>
    st1 H5 ⟨r, 4, none⟩ (.int .i64 n2) fun H6 =>
    st1 H6 ⟨r, 5, none⟩ (.string s4) fun H7 =>
    st1 H7 ⟨r, 6, none⟩ (.bool b) fun H8 =>
    ldStr H8 ⟨r, 2, none⟩ fun s6 =>
    iteB (eqS s6 (ByteArray.mk #[])) (
      R (.returned (.int .i64 (1 : Int))) H8) <|
    L0 s1 s2 s5 s79 s79n s79c s80 (IntKind.wrap .i64 (s81 + (1 : Int))) H8 R) <|
  ldSl H ⟨s2, 19, none⟩ fun q qn qc =>
  ldSl H ⟨s2, 20, none⟩ fun q1 q1n q1c =>
  newD H (.cells ⟨[]⟩ 33) fun r1 H9 =>
  apD H9 21 208 [(.int .i64 (0 : Int)), (.string (ByteArray.mk #[])), (.string (ByteArray.mk #[])), (.string (ByteArray.mk #[])), (.int .i64 (0 : Int)), (.int .i64 (0 : Int)), (.int .i64 (0 : Int)), (.int .i64 (0 : Int)), (.int .i64 (0 : Int)), (.int .i64 (0 : Int)), (.int .i64 (0 : Int)), (.int .i64 (0 : Int)), (.int .i64 (0 : Int)), (.bool false), (.bool false), (.bool false), (.bool false), (.bool false), (.slice none 0 0), (.slice none 0 0), (.slice none 0 0)] 33 (some ⟨r1, 0, none⟩) 0 0 q qn fun q2 q2n q2c H10 =>
  andD (ExtH H9 H10) <|
  apD H10 21 208 [(.int .i64 (0 : Int)), (.string (ByteArray.mk #[])), (.string (ByteArray.mk #[])), (.string (ByteArray.mk #[])), (.int .i64 (0 : Int)), (.int .i64 (0 : Int)), (.int .i64 (0 : Int)), (.int .i64 (0 : Int)), (.int .i64 (0 : Int)), (.int .i64 (0 : Int)), (.int .i64 (0 : Int)), (.int .i64 (0 : Int)), (.int .i64 (0 : Int)), (.bool false), (.bool false), (.bool false), (.bool false), (.bool false), (.slice none 0 0), (.slice none 0 0), (.slice none 0 0)] 33 q2 q2n q2c q1 q1n fun q3 q3n q3c H11 =>
  L1 s1 s5 q3 q3n q3c ((q3n : Nat) : Int) (0 : Int) H11 R
theorem L0_step {s1 : Int} {s2 : Nat} {s5 : Int} {s79 : Option Addr} {s79n : Nat} {s79c : Nat} {s80 : Int} {s81 : Int} {H : Heap} {R : Ending → Heap → Prop} (h : L0n s1 s2 s5 s79 s79n s79c s80 s81 H R) : L0 s1 s2 s5 s79 s79n s79c s80 s81 H R :=
  goL_of_den (an := an) (fuel := 100000) (X := L0n s1 s2 s5 s79 s79n s79c s80 s81 H R) mixed fn (by kernel_rfl) (fun ρ0 => by kernel_rfl) h
def L1n (s1 : Int) (s5 : Int) (s95 : Option Addr) (s95n : Nat) (s95c : Nat) (s96 : Int) (s97 : Int) (H : Heap) (R : Ending → Heap → Prop) : Prop :=
  iteB (decide (s97 < s96)) (
    idxD s95 s95n s97 fun a =>
    ldInt H (Addr.add a (Int.toNat s97 * 21)) .i64 fun n =>
    ldStr H (Addr.add (Addr.add a (Int.toNat s97 * 21)) 1) fun s =>
    ldStr H (Addr.add (Addr.add a (Int.toNat s97 * 21)) 2) fun s2 =>
    ldStr H (Addr.add (Addr.add a (Int.toNat s97 * 21)) 3) fun s3 =>
    ldInt H (Addr.add (Addr.add a (Int.toNat s97 * 21)) 4) .i64 fun n1 =>
    ldInt H (Addr.add (Addr.add a (Int.toNat s97 * 21)) 5) .i64 fun n2 =>
    ldInt H (Addr.add (Addr.add a (Int.toNat s97 * 21)) 6) .i64 fun n3 =>
    ldInt H (Addr.add (Addr.add a (Int.toNat s97 * 21)) 7) .i64 fun n4 =>
    ldInt H (Addr.add (Addr.add a (Int.toNat s97 * 21)) 8) .i64 fun n5 =>
    ldInt H (Addr.add (Addr.add a (Int.toNat s97 * 21)) 9) .i64 fun n6 =>
    ldInt H (Addr.add (Addr.add a (Int.toNat s97 * 21)) 10) .i64 fun n7 =>
    ldInt H (Addr.add (Addr.add a (Int.toNat s97 * 21)) 11) .i64 fun n8 =>
    ldInt H (Addr.add (Addr.add a (Int.toNat s97 * 21)) 12) .i64 fun n9 =>
    ldBool H (Addr.add (Addr.add a (Int.toNat s97 * 21)) 13) fun b =>
    ldBool H (Addr.add (Addr.add a (Int.toNat s97 * 21)) 14) fun b1 =>
    ldBool H (Addr.add (Addr.add a (Int.toNat s97 * 21)) 15) fun b2 =>
    ldBool H (Addr.add (Addr.add a (Int.toNat s97 * 21)) 16) fun b3 =>
    ldBool H (Addr.add (Addr.add a (Int.toNat s97 * 21)) 17) fun b4 =>
    ldSl H (Addr.add (Addr.add a (Int.toNat s97 * 21)) 18) fun q qn qc =>
    ldSl H (Addr.add (Addr.add a (Int.toNat s97 * 21)) 19) fun q1 q1n q1c =>
    ldSl H (Addr.add (Addr.add a (Int.toNat s97 * 21)) 20) fun q2 q2n q2c =>
    newD H (.cells ⟨[(.int .i64 (0 : Int)), (.string (ByteArray.mk #[])), (.string (ByteArray.mk #[])), (.string (ByteArray.mk #[])), (.int .i64 (0 : Int)), (.int .i64 (0 : Int)), (.int .i64 (0 : Int)), (.int .i64 (0 : Int)), (.int .i64 (0 : Int)), (.int .i64 (0 : Int)), (.int .i64 (0 : Int)), (.int .i64 (0 : Int)), (.int .i64 (0 : Int)), (.bool false), (.bool false), (.bool false), (.bool false), (.bool false), (.slice none 0 0), (.slice none 0 0), (.slice none 0 0)]⟩ 33) fun r H1 =>
    st1 H1 ⟨r, 0, none⟩ (.int .i64 n) fun H2 =>
    st1 H2 ⟨r, 1, none⟩ (.string s) fun H3 =>
    st1 H3 ⟨r, 2, none⟩ (.string s2) fun H4 =>
    st1 H4 ⟨r, 3, none⟩ (.string s3) fun H5 =>
    st1 H5 ⟨r, 4, none⟩ (.int .i64 n1) fun H6 =>
    st1 H6 ⟨r, 5, none⟩ (.int .i64 n2) fun H7 =>
    st1 H7 ⟨r, 6, none⟩ (.int .i64 n3) fun H8 =>
    st1 H8 ⟨r, 7, none⟩ (.int .i64 n4) fun H9 =>
    st1 H9 ⟨r, 8, none⟩ (.int .i64 n5) fun H10 =>
    st1 H10 ⟨r, 9, none⟩ (.int .i64 n6) fun H11 =>
    st1 H11 ⟨r, 10, none⟩ (.int .i64 n7) fun H12 =>
    st1 H12 ⟨r, 11, none⟩ (.int .i64 n8) fun H13 =>
    st1 H13 ⟨r, 12, none⟩ (.int .i64 n9) fun H14 =>
    st1 H14 ⟨r, 13, none⟩ (.bool b) fun H15 =>
    st1 H15 ⟨r, 14, none⟩ (.bool b1) fun H16 =>
    st1 H16 ⟨r, 15, none⟩ (.bool b2) fun H17 =>
    st1 H17 ⟨r, 16, none⟩ (.bool b3) fun H18 =>
    st1 H18 ⟨r, 17, none⟩ (.bool b4) fun H19 =>
    st1 H19 ⟨r, 18, none⟩ (.slice q qn qc) fun H20 =>
    st1 H20 ⟨r, 19, none⟩ (.slice q1 q1n q1c) fun H21 =>
    st1 H21 ⟨r, 20, none⟩ (.slice q2 q2n q2c) fun H22 =>
    ldInt H22 ⟨r, 0, none⟩ .i64 fun n10 =>
    ldStr H22 ⟨r, 1, none⟩ fun s4 =>
    ldStr H22 ⟨r, 2, none⟩ fun s6 =>
    ldStr H22 ⟨r, 3, none⟩ fun s7 =>
    ldInt H22 ⟨r, 4, none⟩ .i64 fun n11 =>
    ldInt H22 ⟨r, 5, none⟩ .i64 fun n12 =>
    ldInt H22 ⟨r, 6, none⟩ .i64 fun n13 =>
    ldInt H22 ⟨r, 7, none⟩ .i64 fun n14 =>
    ldInt H22 ⟨r, 8, none⟩ .i64 fun n15 =>
    ldInt H22 ⟨r, 9, none⟩ .i64 fun n16 =>
    ldInt H22 ⟨r, 10, none⟩ .i64 fun n17 =>
    ldInt H22 ⟨r, 11, none⟩ .i64 fun n18 =>
    ldInt H22 ⟨r, 12, none⟩ .i64 fun n19 =>
    ldBool H22 ⟨r, 13, none⟩ fun b5 =>
    ldBool H22 ⟨r, 14, none⟩ fun b6 =>
    ldBool H22 ⟨r, 15, none⟩ fun b7 =>
    ldBool H22 ⟨r, 16, none⟩ fun b8 =>
    ldBool H22 ⟨r, 17, none⟩ fun b9 =>
    ldSl H22 ⟨r, 18, none⟩ fun q3 q3n q3c =>
    ldSl H22 ⟨r, 19, none⟩ fun q4 q4n q4c =>
    ldSl H22 ⟨r, 20, none⟩ fun q5 q5n q5c =>
    callD Try.prog 14 [(.agg ⟨[(.int .i64 n10), (.string s4), (.string s6), (.string s7), (.int .i64 n11), (.int .i64 n12), (.int .i64 n13), (.int .i64 n14), (.int .i64 n15), (.int .i64 n16), (.int .i64 n17), (.int .i64 n18), (.int .i64 n19), (.bool b5), (.bool b6), (.bool b7), (.bool b8), (.bool b9), (.slice q3 q3n q3c), (.slice q4 q4n q4c), (.slice q5 q5n q5c)]⟩), (.int .i64 (IntKind.wrap .i64 (s1 - s5)))] H22 (panK R) fun v H23 =>
    tInt v .i64 fun n20 =>
    iteB (n20 != (0 : Int)) (
      R (.returned (.int .i64 n20)) H23) <|
    L1 s1 s5 s95 s95n s95c s96 (IntKind.wrap .i64 (s97 + (1 : Int))) H23 R) <|
  R (.returned (.int .i64 (0 : Int))) H
theorem L1_step {s1 : Int} {s5 : Int} {s95 : Option Addr} {s95n : Nat} {s95c : Nat} {s96 : Int} {s97 : Int} {H : Heap} {R : Ending → Heap → Prop} (h : L1n s1 s5 s95 s95n s95c s96 s97 H R) : L1 s1 s5 s95 s95n s95c s96 s97 H R :=
  goL_of_den (an := an) (fuel := 100000) (X := L1n s1 s5 s95 s95n s95c s96 s97 H R) mixed fn (by kernel_rfl) (fun ρ0 => by kernel_rfl) h
def L2n (s2 : Nat) (H : Heap) (R : Ending → Heap → Prop) : Prop :=
  ldBool H ⟨s2, 17, none⟩ fun b =>
  iteB b (
    ldInt H ⟨s2, 4, none⟩ .i64 fun n =>
    iteB (n != (0 : Int)) (
      R (.returned (.int .i64 (3 : Int))) H) <|
    R (.returned (.int .i64 (0 : Int))) H) <|
  R (.returned (.int .i64 (0 : Int))) H
theorem L2_step {s2 : Nat} {H : Heap} {R : Ending → Heap → Prop} (h : L2n s2 H R) : L2 s2 H R :=
  goL_of_den (an := an) (fuel := 100000) (X := L2n s2 H R) mixed fn (by kernel_rfl) (fun ρ0 => by kernel_rfl) h
def go (s0_0 : Int) (s0_1 : ByteArray) (s0_2 : ByteArray) (s0_3 : ByteArray) (s0_4 : Int) (s0_5 : Int) (s0_6 : Int) (s0_7 : Int) (s0_8 : Int) (s0_9 : Int) (s0_10 : Int) (s0_11 : Int) (s0_12 : Int) (s0_13 : Bool) (s0_14 : Bool) (s0_15 : Bool) (s0_16 : Bool) (s0_17 : Bool) (s0_18 : Option Addr) (s0_18n : Nat) (s0_18c : Nat) (s0_19 : Option Addr) (s0_19n : Nat) (s0_19c : Nat) (s0_20 : Option Addr) (s0_20n : Nat) (s0_20c : Nat) (s1 : Int) (H : Heap) (R : Ending → Heap → Prop) : Prop :=
  newD H (.cells ⟨[(.int .i64 s0_0), (.string s0_1), (.string s0_2), (.string s0_3), (.int .i64 s0_4), (.int .i64 s0_5), (.int .i64 s0_6), (.int .i64 s0_7), (.int .i64 s0_8), (.int .i64 s0_9), (.int .i64 s0_10), (.int .i64 s0_11), (.int .i64 s0_12), (.bool s0_13), (.bool s0_14), (.bool s0_15), (.bool s0_16), (.bool s0_17), (.slice s0_18 s0_18n s0_18c), (.slice s0_19 s0_19n s0_19c), (.slice s0_20 s0_20n s0_20c)]⟩ 33) fun r H1 =>
  ldInt H1 ⟨r, 0, none⟩ .i64 fun n =>
  iteB (n == (1 : Int)) (
    ldStr H1 ⟨r, 1, none⟩ fun s =>
    iteB (eqS s (ByteArray.mk #[])) (
      R (.returned (.int .i64 (1 : Int))) H1) <|
    ldInt H1 ⟨r, 7, none⟩ .i64 fun n1 =>
    iteB (decide (n1 < (0 : Int))) (
      R (.returned (.int .i64 (6 : Int))) H1) <|
    ldInt H1 ⟨r, 7, none⟩ .i64 fun n2 =>
    iteB (decide (n2 > (2 : Int))) (
      R (.returned (.int .i64 (6 : Int))) H1) <|
    ldInt H1 ⟨r, 8, none⟩ .i64 fun n3 =>
    iteB (decide (n3 < (0 : Int))) (
      R (.returned (.int .i64 (6 : Int))) H1) <|
    ldInt H1 ⟨r, 8, none⟩ .i64 fun n4 =>
    iteB (decide (n4 > (4 : Int))) (
      R (.returned (.int .i64 (6 : Int))) H1) <|
    R (.returned (.int .i64 (0 : Int))) H1) <|
  iteB (n == (2 : Int)) (
    ldStr H1 ⟨r, 1, none⟩ fun s2 =>
    iteB (eqS s2 (ByteArray.mk #[])) (
      R (.returned (.int .i64 (1 : Int))) H1) <|
    ldBool H1 ⟨r, 16, none⟩ fun b =>
    iteB b (
      ldStr H1 ⟨r, 3, none⟩ fun s3 =>
      iteB (!eqS s3 (ByteArray.mk #[])) (
        R (.returned (.int .i64 (2 : Int))) H1) <|
      L2 r H1 R) <|
    L2 r H1 R) <|
  iteB (n == (3 : Int)) (
    ldStr H1 ⟨r, 1, none⟩ fun s4 =>
    iteB (eqS s4 (ByteArray.mk #[])) (
      R (.returned (.int .i64 (1 : Int))) H1) <|
    R (.returned (.int .i64 (0 : Int))) H1) <|
  ldSl H1 ⟨r, 18, none⟩ fun q qn qc =>
  ldSl H1 ⟨r, 19, none⟩ fun q1 q1n q1c =>
  ldSl H1 ⟨r, 20, none⟩ fun q2 q2n q2c =>
  iteB (decide ((if ((q2n : Nat) : Int) > (if ((q1n : Nat) : Int) > ((qn : Nat) : Int) then ((q1n : Nat) : Int) else ((qn : Nat) : Int)) then ((q2n : Nat) : Int) else (if ((q1n : Nat) : Int) > ((qn : Nat) : Int) then ((q1n : Nat) : Int) else ((qn : Nat) : Int))) > s1)) (
    R (.returned (.int .i64 (4 : Int))) H1) <|
  ldSl H1 ⟨r, 18, none⟩ fun q3 q3n q3c =>
  L0 s1 r (if ((q2n : Nat) : Int) > (if ((q1n : Nat) : Int) > ((qn : Nat) : Int) then ((q1n : Nat) : Int) else ((qn : Nat) : Int)) then ((q2n : Nat) : Int) else (if ((q1n : Nat) : Int) > ((qn : Nat) : Int) then ((q1n : Nat) : Int) else ((qn : Nat) : Int))) q3 q3n q3c ((q3n : Nat) : Int) (0 : Int) H1 R
theorem calls {s0_0 : Int} {s0_1 : ByteArray} {s0_2 : ByteArray} {s0_3 : ByteArray} {s0_4 : Int} {s0_5 : Int} {s0_6 : Int} {s0_7 : Int} {s0_8 : Int} {s0_9 : Int} {s0_10 : Int} {s0_11 : Int} {s0_12 : Int} {s0_13 : Bool} {s0_14 : Bool} {s0_15 : Bool} {s0_16 : Bool} {s0_17 : Bool} {s0_18 : Option Addr} {s0_18n : Nat} {s0_18c : Nat} {s0_19 : Option Addr} {s0_19n : Nat} {s0_19c : Nat} {s0_20 : Option Addr} {s0_20n : Nat} {s0_20c : Nat} {s1 : Int} {H : Heap} {R : Ending → Heap → Prop} (h : go s0_0 s0_1 s0_2 s0_3 s0_4 s0_5 s0_6 s0_7 s0_8 s0_9 s0_10 s0_11 s0_12 s0_13 s0_14 s0_15 s0_16 s0_17 s0_18 s0_18n s0_18c s0_19 s0_19n s0_19c s0_20 s0_20n s0_20c s1 H R) : CallsH Try.prog 14 ⟨[(.agg ⟨[(.int .i64 s0_0), (.string s0_1), (.string s0_2), (.string s0_3), (.int .i64 s0_4), (.int .i64 s0_5), (.int .i64 s0_6), (.int .i64 s0_7), (.int .i64 s0_8), (.int .i64 s0_9), (.int .i64 s0_10), (.int .i64 s0_11), (.int .i64 s0_12), (.bool s0_13), (.bool s0_14), (.bool s0_15), (.bool s0_16), (.bool s0_17), (.slice s0_18 s0_18n s0_18c), (.slice s0_19 s0_19n s0_19c), (.slice s0_20 s0_20n s0_20c)]⟩), (.int .i64 s1)]⟩ H R :=
  callsH_of_den (an := an) (fuel := 100000) (X := go s0_0 s0_1 s0_2 s0_3 s0_4 s0_5 s0_6 s0_7 s0_8 s0_9 s0_10 s0_11 s0_12 s0_13 s0_14 s0_15 s0_16 s0_17 s0_18 s0_18n s0_18c s0_19 s0_19n s0_19c s0_20 s0_20n s0_20c s1 H R) (c := body) mixed fn (by kernel_rfl) (by kernel_rfl) (by kernel_rfl) ok (by kernel_rfl) h
end F14
/-! ### 32 "pub-stadtholder/pub/etcdserver/etcdserver/api/v3rpc.ZzRange" -/
namespace F32
def an : Ann := { kinds := [], taus := [], pairs := [], lab := [] }
noncomputable def body : Code := (Try.f32.body).getD .skip
theorem fn : Try.prog.funcs[32]? = some Try.f32 := by kernel_rfl
theorem ok : codeOk an 5 body = true := by kernel_rfl
def go (r : Option Addr) (H : Heap) (R : Ending → Heap → Prop) : Prop :=
  callD Try.prog 63 [(.pointer r)] H (panK R) fun v H1 =>
  tIf v fun i =>
  R (.returned (IV.v i)) H1
theorem calls {r : Option Addr} {H : Heap} {R : Ending → Heap → Prop} (h : go r H R) : CallsH Try.prog 32 ⟨[(.pointer r)]⟩ H R :=
  callsH_of_den (an := an) (fuel := 100000) (X := go r H R) (c := body) mixed fn (by kernel_rfl) (by kernel_rfl) (by kernel_rfl) ok (by kernel_rfl) h
end F32
/-! ### 33 "pub-stadtholder/pub/etcdserver/etcdserver/api/v3rpc.ZzPut" -/
namespace F33
def an : Ann := { kinds := [], taus := [], pairs := [], lab := [] }
noncomputable def body : Code := (Try.f33.body).getD .skip
theorem fn : Try.prog.funcs[33]? = some Try.f33 := by kernel_rfl
theorem ok : codeOk an 5 body = true := by kernel_rfl
def go (r : Option Addr) (H : Heap) (R : Ending → Heap → Prop) : Prop :=
  callD Try.prog 64 [(.pointer r)] H (panK R) fun v H1 =>
  tIf v fun i =>
  R (.returned (IV.v i)) H1
theorem calls {r : Option Addr} {H : Heap} {R : Ending → Heap → Prop} (h : go r H R) : CallsH Try.prog 33 ⟨[(.pointer r)]⟩ H R :=
  callsH_of_den (an := an) (fuel := 100000) (X := go r H R) (c := body) mixed fn (by kernel_rfl) (by kernel_rfl) (by kernel_rfl) ok (by kernel_rfl) h
end F33
/-! ### 34 "pub-stadtholder/impl.putIn" -/
namespace F34
def an : Ann := { kinds := [(1002, .loud), (1005, .loud)], taus := [], pairs := [], lab := [] }
noncomputable def body : Code := (Try.f34.body).getD .skip
theorem fn : Try.prog.funcs[34]? = some Try.f34 := by kernel_rfl
theorem ok : codeOk an 19 body = true := by kernel_rfl
def go (r_0 : Int) (r_1 : ByteArray) (r_2 : ByteArray) (r_3 : ByteArray) (r_4 : Int) (r_5 : Int) (r_6 : Int) (r_7 : Int) (r_8 : Int) (r_9 : Int) (r_10 : Int) (r_11 : Int) (r_12 : Int) (r_13 : Bool) (r_14 : Bool) (r_15 : Bool) (r_16 : Bool) (r_17 : Bool) (r_18 : Option Addr) (r_18n : Nat) (r_18c : Nat) (r_19 : Option Addr) (r_19n : Nat) (r_19c : Nat) (r_20 : Option Addr) (r_20n : Nat) (r_20c : Nat) (H : Heap) (R : Ending → Heap → Prop) : Prop :=
  newD H (.cells ⟨[(.int .i64 r_0), (.string r_1), (.string r_2), (.string r_3), (.int .i64 r_4), (.int .i64 r_5), (.int .i64 r_6), (.int .i64 r_7), (.int .i64 r_8), (.int .i64 r_9), (.int .i64 r_10), (.int .i64 r_11), (.int .i64 r_12), (.bool r_13), (.bool r_14), (.bool r_15), (.bool r_16), (.bool r_17), (.slice r_18 r_18n r_18c), (.slice r_19 r_19n r_19c), (.slice r_20 r_20n r_20c)]⟩ 33) fun r H1 =>
  ldStr H1 ⟨r, 1, none⟩ fun s =>
  sbD H1 5 s fun r1 c H2 =>
  ldStr H2 ⟨r, 3, none⟩ fun s1 =>
  sbD H2 5 s1 fun r2 c1 H3 =>
  ldInt H3 ⟨r, 4, none⟩ .i64 fun n =>
  ldBool H3 ⟨r, 15, none⟩ fun b =>
  ldBool H3 ⟨r, 16, none⟩ fun b1 =>
  ldBool H3 ⟨r, 17, none⟩ fun b2 =>
  newD H3 (.cells ⟨[(.slice (some ⟨r1, 0, none⟩) (ByteArray.size s) c), (.slice (some ⟨r2, 0, none⟩) (ByteArray.size s1) c1), (.int .i64 n), (.bool b), (.bool b1), (.bool b2)]⟩ 129) fun r3 H4 =>
  R (.returned (.pointer (some ⟨r3, 0, none⟩))) H4
theorem calls {r_0 : Int} {r_1 : ByteArray} {r_2 : ByteArray} {r_3 : ByteArray} {r_4 : Int} {r_5 : Int} {r_6 : Int} {r_7 : Int} {r_8 : Int} {r_9 : Int} {r_10 : Int} {r_11 : Int} {r_12 : Int} {r_13 : Bool} {r_14 : Bool} {r_15 : Bool} {r_16 : Bool} {r_17 : Bool} {r_18 : Option Addr} {r_18n : Nat} {r_18c : Nat} {r_19 : Option Addr} {r_19n : Nat} {r_19c : Nat} {r_20 : Option Addr} {r_20n : Nat} {r_20c : Nat} {H : Heap} {R : Ending → Heap → Prop} (h : go r_0 r_1 r_2 r_3 r_4 r_5 r_6 r_7 r_8 r_9 r_10 r_11 r_12 r_13 r_14 r_15 r_16 r_17 r_18 r_18n r_18c r_19 r_19n r_19c r_20 r_20n r_20c H R) : CallsH Try.prog 34 ⟨[(.agg ⟨[(.int .i64 r_0), (.string r_1), (.string r_2), (.string r_3), (.int .i64 r_4), (.int .i64 r_5), (.int .i64 r_6), (.int .i64 r_7), (.int .i64 r_8), (.int .i64 r_9), (.int .i64 r_10), (.int .i64 r_11), (.int .i64 r_12), (.bool r_13), (.bool r_14), (.bool r_15), (.bool r_16), (.bool r_17), (.slice r_18 r_18n r_18c), (.slice r_19 r_19n r_19c), (.slice r_20 r_20n r_20c)]⟩)]⟩ H R :=
  callsH_of_den (an := an) (fuel := 100000) (X := go r_0 r_1 r_2 r_3 r_4 r_5 r_6 r_7 r_8 r_9 r_10 r_11 r_12 r_13 r_14 r_15 r_16 r_17 r_18 r_18n r_18c r_19 r_19n r_19c r_20 r_20n r_20c H R) (c := body) mixed fn (by kernel_rfl) (by kernel_rfl) (by kernel_rfl) ok (by kernel_rfl) h
end F34
/-! ### 35 "pub-stadtholder/pub/etcdserver/etcdserver/api/v3rpc.ZzDelete" -/
namespace F35
def an : Ann := { kinds := [], taus := [], pairs := [], lab := [] }
noncomputable def body : Code := (Try.f35.body).getD .skip
theorem fn : Try.prog.funcs[35]? = some Try.f35 := by kernel_rfl
theorem ok : codeOk an 5 body = true := by kernel_rfl
def go (r : Option Addr) (H : Heap) (R : Ending → Heap → Prop) : Prop :=
  callD Try.prog 65 [(.pointer r)] H (panK R) fun v H1 =>
  tIf v fun i =>
  R (.returned (IV.v i)) H1
theorem calls {r : Option Addr} {H : Heap} {R : Ending → Heap → Prop} (h : go r H R) : CallsH Try.prog 35 ⟨[(.pointer r)]⟩ H R :=
  callsH_of_den (an := an) (fuel := 100000) (X := go r H R) (c := body) mixed fn (by kernel_rfl) (by kernel_rfl) (by kernel_rfl) ok (by kernel_rfl) h
end F35
/-! ### 36 "pub-stadtholder/impl.deleteIn" -/
namespace F36
def an : Ann := { kinds := [(1002, .grow), (1005, .grow), (1009, .grow)], taus := [(1, [[0, 3, 6, 1, 4, 7, 2, 5, 8, 9, 10], [0, 3, 6, 1, 4, 7, 5, 2, 8, 9, 10]])], pairs := [(1, [(2, 5)])], lab := [] }
noncomputable def body : Code := (Try.f36.body).getD .skip
theorem fn : Try.prog.funcs[36]? = some Try.f36 := by kernel_rfl
theorem ok : codeOk an 13 body = true := by kernel_rfl
def go (r_0 : Int) (r_1 : ByteArray) (r_2 : ByteArray) (r_3 : ByteArray) (r_4 : Int) (r_5 : Int) (r_6 : Int) (r_7 : Int) (r_8 : Int) (r_9 : Int) (r_10 : Int) (r_11 : Int) (r_12 : Int) (r_13 : Bool) (r_14 : Bool) (r_15 : Bool) (r_16 : Bool) (r_17 : Bool) (r_18 : Option Addr) (r_18n : Nat) (r_18c : Nat) (r_19 : Option Addr) (r_19n : Nat) (r_19c : Nat) (r_20 : Option Addr) (r_20n : Nat) (r_20c : Nat) (H : Heap) (R : Ending → Heap → Prop) : Prop :=
  newD H (.cells ⟨[(.int .i64 r_0), (.string r_1), (.string r_2), (.string r_3), (.int .i64 r_4), (.int .i64 r_5), (.int .i64 r_6), (.int .i64 r_7), (.int .i64 r_8), (.int .i64 r_9), (.int .i64 r_10), (.int .i64 r_11), (.int .i64 r_12), (.bool r_13), (.bool r_14), (.bool r_15), (.bool r_16), (.bool r_17), (.slice r_18 r_18n r_18c), (.slice r_19 r_19n r_19c), (.slice r_20 r_20n r_20c)]⟩ 33) fun r H1 =>
  (
    ldStr H1 ⟨r, 1, none⟩ fun s =>
    ldStr H1 ⟨r, 2, none⟩ fun s1 =>
    ldBool H1 ⟨r, 15, none⟩ fun b =>
    sbD H1 5 s fun r1 c H2 =>
    callD Try.prog 58 [(.string s1)] H2 nope fun v H3 =>
    tSl v fun q qn qc =>
    andD (ExtH H2 H3) <|
    newD H3 (.cells ⟨[(.slice (some ⟨r1, 0, none⟩) (ByteArray.size s) c), (.slice q qn qc), (.bool b)]⟩ 131) fun r2 H4 =>
    R (.returned (.pointer (some ⟨r2, 0, none⟩))) H4) ∧
  (
    ldStr H1 ⟨r, 1, none⟩ fun s2 =>
    ldStr H1 ⟨r, 2, none⟩ fun s3 =>
    ldBool H1 ⟨r, 15, none⟩ fun b1 =>
    callD Try.prog 58 [(.string s3)] H1 nope fun v1 H5 =>
    tSl v1 fun q1 q1n q1c =>
    andD (ExtH H1 H5) <|
    sbD H5 5 s2 fun r3 c1 H6 =>
    newD H6 (.cells ⟨[(.slice (some ⟨r3, 0, none⟩) (ByteArray.size s2) c1), (.slice q1 q1n q1c), (.bool b1)]⟩ 131) fun r4 H7 =>
    R (.returned (.pointer (some ⟨r4, 0, none⟩))) H7)
theorem calls {r_0 : Int} {r_1 : ByteArray} {r_2 : ByteArray} {r_3 : ByteArray} {r_4 : Int} {r_5 : Int} {r_6 : Int} {r_7 : Int} {r_8 : Int} {r_9 : Int} {r_10 : Int} {r_11 : Int} {r_12 : Int} {r_13 : Bool} {r_14 : Bool} {r_15 : Bool} {r_16 : Bool} {r_17 : Bool} {r_18 : Option Addr} {r_18n : Nat} {r_18c : Nat} {r_19 : Option Addr} {r_19n : Nat} {r_19c : Nat} {r_20 : Option Addr} {r_20n : Nat} {r_20c : Nat} {H : Heap} {R : Ending → Heap → Prop} (h : go r_0 r_1 r_2 r_3 r_4 r_5 r_6 r_7 r_8 r_9 r_10 r_11 r_12 r_13 r_14 r_15 r_16 r_17 r_18 r_18n r_18c r_19 r_19n r_19c r_20 r_20n r_20c H R) : CallsH Try.prog 36 ⟨[(.agg ⟨[(.int .i64 r_0), (.string r_1), (.string r_2), (.string r_3), (.int .i64 r_4), (.int .i64 r_5), (.int .i64 r_6), (.int .i64 r_7), (.int .i64 r_8), (.int .i64 r_9), (.int .i64 r_10), (.int .i64 r_11), (.int .i64 r_12), (.bool r_13), (.bool r_14), (.bool r_15), (.bool r_16), (.bool r_17), (.slice r_18 r_18n r_18c), (.slice r_19 r_19n r_19c), (.slice r_20 r_20n r_20c)]⟩)]⟩ H R :=
  callsH_of_den (an := an) (fuel := 100000) (X := go r_0 r_1 r_2 r_3 r_4 r_5 r_6 r_7 r_8 r_9 r_10 r_11 r_12 r_13 r_14 r_15 r_16 r_17 r_18 r_18n r_18c r_19 r_19n r_19c r_20 r_20n r_20c H R) (c := body) mixed fn (by kernel_rfl) (by kernel_rfl) (by kernel_rfl) ok (by kernel_rfl) h
end F36
/-! ### 63 "pub-stadtholder/pub/etcdserver/etcdserver/api/v3rpc.checkRangeRequest" -/
namespace F63
def an : Ann := { kinds := [], taus := [], pairs := [], lab := [(10000006, [0])] }
noncomputable def body : Code := (Try.f63.body).getD .skip
theorem fn : Try.prog.funcs[63]? = some Try.f63 := by kernel_rfl
theorem ok : codeOk an 36 body = true := by kernel_rfl
noncomputable def L0t : List Item := [.code (sub [1, 1, 1] body)]
def L0 (r : Option Addr) (H : Heap) (R : Ending → Heap → Prop) : Prop :=
  GoL Try.prog 63 36 L0t [0] [(.pointer r)] H R
def L0n (r : Option Addr) (H : Heap) (R : Ending → Heap → Prop) : Prop :=
  nilD r fun a =>
  ldInt H (Addr.add a 5) .i32 fun n =>
  iteB (decide (n < (0 : Int))) (
    R (.returned (.iface 127 (.string (ByteArray.mk #[101, 116, 99, 100, 115, 101, 114, 118, 101, 114, 58, 32, 105, 110, 118, 97, 108, 105, 100, 32, 115, 111, 114, 116, 32, 111, 112, 116, 105, 111, 110])))) H) <|
  nilD r fun a1 =>
  ldInt H (Addr.add a1 5) .i32 fun n1 =>
  iteB (decide (n1 > (4 : Int))) (
    R (.returned (.iface 127 (.string (ByteArray.mk #[101, 116, 99, 100, 115, 101, 114, 118, 101, 114, 58, 32, 105, 110, 118, 97, 108, 105, 100, 32, 115, 111, 114, 116, 32, 111, 112, 116, 105, 111, 110])))) H) <|
  R (.returned .nilIface) H
theorem L0_step {r : Option Addr} {H : Heap} {R : Ending → Heap → Prop} (h : L0n r H R) : L0 r H R :=
  goL_of_den (an := an) (fuel := 100000) (X := L0n r H R) mixed fn (by kernel_rfl) (fun ρ0 => by kernel_rfl) h
def go (r : Option Addr) (H : Heap) (R : Ending → Heap → Prop) : Prop :=
  nilD r fun a =>
  ldSl H a fun q qn qc =>
  iteB (((qn : Nat) : Int) == (0 : Int)) (
    R (.returned (.iface 127 (.string (ByteArray.mk #[101, 116, 99, 100, 115, 101, 114, 118, 101, 114, 58, 32, 107, 101, 121, 32, 105, 115, 32, 110, 111, 116, 32, 112, 114, 111, 118, 105, 100, 101, 100])))) H) <|
  nilD r fun a1 =>
  ldInt H (Addr.add a1 4) .i32 fun n =>
  iteB (decide (n < (0 : Int))) (
    R (.returned (.iface 127 (.string (ByteArray.mk #[101, 116, 99, 100, 115, 101, 114, 118, 101, 114, 58, 32, 105, 110, 118, 97, 108, 105, 100, 32, 115, 111, 114, 116, 32, 111, 112, 116, 105, 111, 110])))) H) <|
  nilD r fun a2 =>
  ldInt H (Addr.add a2 4) .i32 fun n1 =>
  iteB (decide (n1 > (2 : Int))) (
    R (.returned (.iface 127 (.string (ByteArray.mk #[101, 116, 99, 100, 115, 101, 114, 118, 101, 114, 58, 32, 105, 110, 118, 97, 108, 105, 100, 32, 115, 111, 114, 116, 32, 111, 112, 116, 105, 111, 110])))) H) <|
  L0 r H R
theorem calls {r : Option Addr} {H : Heap} {R : Ending → Heap → Prop} (h : go r H R) : CallsH Try.prog 63 ⟨[(.pointer r)]⟩ H R :=
  callsH_of_den (an := an) (fuel := 100000) (X := go r H R) (c := body) mixed fn (by kernel_rfl) (by kernel_rfl) (by kernel_rfl) ok (by kernel_rfl) h
end F63
/-! ### 64 "pub-stadtholder/pub/etcdserver/etcdserver/api/v3rpc.checkPutRequest" -/
namespace F64
def an : Ann := { kinds := [], taus := [], pairs := [], lab := [(10000006, [0])] }
noncomputable def body : Code := (Try.f64.body).getD .skip
theorem fn : Try.prog.funcs[64]? = some Try.f64 := by kernel_rfl
theorem ok : codeOk an 35 body = true := by kernel_rfl
noncomputable def L0t : List Item := [.code (sub [1, 1, 1] body)]
def L0 (r : Option Addr) (H : Heap) (R : Ending → Heap → Prop) : Prop :=
  GoL Try.prog 64 35 L0t [0] [(.pointer r)] H R
def L0n (r : Option Addr) (H : Heap) (R : Ending → Heap → Prop) : Prop :=
  nilD r fun a =>
  ldBool H (Addr.add a 5) fun b =>
  iteB b (
    nilD r fun a1 =>
    ldInt H (Addr.add a1 2) .i64 fun n =>
    iteB (n != (0 : Int)) (
      R (.returned (.iface 127 (.string (ByteArray.mk #[101, 116, 99, 100, 115, 101, 114, 118, 101, 114, 58, 32, 108, 101, 97, 115, 101, 32, 105, 115, 32, 112, 114, 111, 118, 105, 100, 101, 100])))) H) <|
    R (.returned .nilIface) H) <|
  R (.returned .nilIface) H
theorem L0_step {r : Option Addr} {H : Heap} {R : Ending → Heap → Prop} (h : L0n r H R) : L0 r H R :=
  goL_of_den (an := an) (fuel := 100000) (X := L0n r H R) mixed fn (by kernel_rfl) (fun ρ0 => by kernel_rfl) h
def go (r : Option Addr) (H : Heap) (R : Ending → Heap → Prop) : Prop :=
  nilD r fun a =>
  ldSl H a fun q qn qc =>
  iteB (((qn : Nat) : Int) == (0 : Int)) (
    R (.returned (.iface 127 (.string (ByteArray.mk #[101, 116, 99, 100, 115, 101, 114, 118, 101, 114, 58, 32, 107, 101, 121, 32, 105, 115, 32, 110, 111, 116, 32, 112, 114, 111, 118, 105, 100, 101, 100])))) H) <|
  nilD r fun a1 =>
  ldBool H (Addr.add a1 4) fun b =>
  iteB b (
    nilD r fun a2 =>
    ldSl H (Addr.add a2 1) fun q1 q1n q1c =>
    iteB (((q1n : Nat) : Int) != (0 : Int)) (
      R (.returned (.iface 127 (.string (ByteArray.mk #[101, 116, 99, 100, 115, 101, 114, 118, 101, 114, 58, 32, 118, 97, 108, 117, 101, 32, 105, 115, 32, 112, 114, 111, 118, 105, 100, 101, 100])))) H) <|
    L0 r H R) <|
  L0 r H R
theorem calls {r : Option Addr} {H : Heap} {R : Ending → Heap → Prop} (h : go r H R) : CallsH Try.prog 64 ⟨[(.pointer r)]⟩ H R :=
  callsH_of_den (an := an) (fuel := 100000) (X := go r H R) (c := body) mixed fn (by kernel_rfl) (by kernel_rfl) (by kernel_rfl) ok (by kernel_rfl) h
end F64
/-! ### 65 "pub-stadtholder/pub/etcdserver/etcdserver/api/v3rpc.checkDeleteRequest" -/
namespace F65
def an : Ann := { kinds := [], taus := [], pairs := [], lab := [] }
noncomputable def body : Code := (Try.f65.body).getD .skip
theorem fn : Try.prog.funcs[65]? = some Try.f65 := by kernel_rfl
theorem ok : codeOk an 10 body = true := by kernel_rfl
def go (r : Option Addr) (H : Heap) (R : Ending → Heap → Prop) : Prop :=
  nilD r fun a =>
  ldSl H a fun q qn qc =>
  iteB (((qn : Nat) : Int) == (0 : Int)) (
    R (.returned (.iface 127 (.string (ByteArray.mk #[101, 116, 99, 100, 115, 101, 114, 118, 101, 114, 58, 32, 107, 101, 121, 32, 105, 115, 32, 110, 111, 116, 32, 112, 114, 111, 118, 105, 100, 101, 100])))) H) <|
  R (.returned .nilIface) H
theorem calls {r : Option Addr} {H : Heap} {R : Ending → Heap → Prop} (h : go r H R) : CallsH Try.prog 65 ⟨[(.pointer r)]⟩ H R :=
  callsH_of_den (an := an) (fuel := 100000) (X := go r H R) (c := body) mixed fn (by kernel_rfl) (by kernel_rfl) (by kernel_rfl) ok (by kernel_rfl) h
end F65
end Go.Proofs.Ytcejmnfjkdjobaa
