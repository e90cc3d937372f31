/- What functions of this seat do, each proved by a walk; no condition. -/
import Derived.Test.YtkenjnllegbmjaaGreatLN3
import Derived.KernelRfl
set_option linter.unusedVariables false
namespace Go.Proofs.YtkenjnllegbmjaaGreat
open Go Go.Den Go.Proofs
/-! ### 15 "pub-stadtholder/pub/etcdserver/lease.ZzNew" -/
namespace F15
def an : Ann := { kinds := [], taus := [], pairs := [], lab := [] }
noncomputable def body : Code := (Tryz.f15.body).getD .skip
theorem fn : Tryz.prog.funcs[15]? = some Tryz.f15 := by kernel_rfl
theorem ok : codeOk an 12 body = true := by kernel_rfl
def go (b : IV) (clock : Option Addr) (cfg_0 : Int) (cfg_1 : Int) (cfg_2 : Int) (cfg_3 : Bool) (cfg_4 : Int) (H : Heap) (R : Ending → Heap → Prop) : Prop :=
  newD H (.cells ⟨[(.int .i64 cfg_0), (.int .i64 cfg_1), (.int .i64 cfg_2), (.bool cfg_3), (.int .i64 cfg_4)]⟩ 61) fun r H1 =>
  ldInt H1 ⟨r, 0, none⟩ .i64 fun n =>
  ldInt H1 ⟨r, 1, none⟩ .i64 fun n1 =>
  ldInt H1 ⟨r, 2, none⟩ .i64 fun n2 =>
  ldBool H1 ⟨r, 3, none⟩ fun b1 =>
  ldInt H1 ⟨r, 4, none⟩ .i64 fun n3 =>
  callD Tryz.prog 30 [(.pointer none), (IV.v b), (.pointer clock), (.agg ⟨[(.int .i64 n), (.int .i64 n1), (.int .i64 n2), (.bool b1), (.int .i64 n3)]⟩)] H1 (panK R) fun v H2 =>
  tPtr v fun p =>
  R (.returned (.iface 118 (.pointer p))) H2
theorem calls {b : IV} {clock : Option Addr} {cfg_0 : Int} {cfg_1 : Int} {cfg_2 : Int} {cfg_3 : Bool} {cfg_4 : Int} {H : Heap} {R : Ending → Heap → Prop} (h : go b clock cfg_0 cfg_1 cfg_2 cfg_3 cfg_4 H R) : CallsH Tryz.prog 15 ⟨[(IV.v b), (.pointer clock), (.agg ⟨[(.int .i64 cfg_0), (.int .i64 cfg_1), (.int .i64 cfg_2), (.bool cfg_3), (.int .i64 cfg_4)]⟩)]⟩ H R :=
  callsH_of_den (an := an) (fuel := 100000) (X := go b clock cfg_0 cfg_1 cfg_2 cfg_3 cfg_4 H R) (c := body) mixed fn (by kernel_rfl) (by kernel_rfl) (by kernel_rfl) ok (by kernel_rfl) h
end F15
/-! ### 18 "pub-stadtholder/impl.kind" -/
namespace F18
def an : Ann := { kinds := [(4001, .read), (6001, .read), (8001, .read), (10001, .read), (12001, .read), (14001, .read), (15001, .read), (17001, .read), (19001, .read), (21001, .read)], taus := [], pairs := [], lab := [(30000018, [3])] }
noncomputable def body : Code := (Tryz.f18.body).getD .skip
theorem fn : Tryz.prog.funcs[18]? = some Tryz.f18 := by kernel_rfl
theorem ok : codeOk an 35 body = true := by kernel_rfl
noncomputable def L0t : List Item := [.code (sub [1, 0, 1, 0, 1, 1, 1, 1, 1, 1, 1, 1, 1, 1, 1, 1, 1, 1] body), .inBlock 0, .code (sub [1, 1] body)]
def L0 (s3 : IV) (H : Heap) (R : Ending → Heap → Prop) : Prop :=
  GoL Tryz.prog 18 35 L0t [3] [(IV.v s3)] H R
def L0n (s3 : IV) (H : Heap) (R : Ending → Heap → Prop) : Prop :=
  rawR Tryz.prog H .eql 74 (IV.v s3) (.iface 120 (.string (ByteArray.mk #[109, 118, 99, 99, 58, 32, 100, 117, 112, 108, 105, 99, 97, 116, 101, 32, 119, 97, 116, 99, 104, 32, 73, 68, 32, 112, 114, 111, 118, 105, 100, 101, 100, 32, 111, 110, 32, 116, 104, 101, 32, 87, 97, 116, 99, 104, 83, 116, 114, 101, 97, 109]))) fun b =>
  iteB b (
    R (.returned (.int .i64 (7 : Int))) H) <|
  rawR Tryz.prog H .eql 74 (IV.v s3) (.iface 120 (.string (ByteArray.mk #[109, 118, 99, 99, 58, 32, 119, 97, 116, 99, 104, 101, 114, 32, 114, 97, 110, 103, 101, 32, 105, 115, 32, 101, 109, 112, 116, 121]))) fun b1 =>
  iteB b1 (
    R (.returned (.int .i64 (8 : Int))) H) <|
  rawR Tryz.prog H .eql 74 (IV.v s3) (.iface 121 (.string (ByteArray.mk #[110, 111, 116, 32, 97, 32, 112, 114, 105, 109, 97, 114, 121, 32, 108, 101, 115, 115, 111, 114]))) fun b2 =>
  iteB b2 (
    R (.returned (.int .i64 (9 : Int))) H) <|
  R (.returned (.int .i64 (11 : Int))) H
theorem L0_step {s3 : IV} {H : Heap} {R : Ending → Heap → Prop} (h : L0n s3 H R) : L0 s3 H R :=
  goL_of_den (an := an) (fuel := 100000) (X := L0n s3 H R) mixed fn (by kernel_rfl) (fun ρ0 => by kernel_rfl) h
def go (err : IV) (H : Heap) (R : Ending → Heap → Prop) : Prop :=
  ifNilD (IV.v err) fun b =>
  iteB b (
    R (.returned (.int .i64 (0 : Int))) H) <|
  rawR Tryz.prog H .eql 74 (IV.v err) (.iface 120 (.string (ByteArray.mk #[109, 118, 99, 99, 58, 32, 114, 101, 113, 117, 105, 114, 101, 100, 32, 114, 101, 118, 105, 115, 105, 111, 110, 32, 104, 97, 115, 32, 98, 101, 101, 110, 32, 99, 111, 109, 112, 97, 99, 116, 101, 100]))) fun b1 =>
  iteB b1 (
    R (.returned (.int .i64 (1 : Int))) H) <|
  rawR Tryz.prog H .eql 74 (IV.v err) (.iface 120 (.string (ByteArray.mk #[109, 118, 99, 99, 58, 32, 114, 101, 113, 117, 105, 114, 101, 100, 32, 114, 101, 118, 105, 115, 105, 111, 110, 32, 105, 115, 32, 97, 32, 102, 117, 116, 117, 114, 101, 32, 114, 101, 118, 105, 115, 105, 111, 110]))) fun b2 =>
  iteB b2 (
    R (.returned (.int .i64 (2 : Int))) H) <|
  rawR Tryz.prog H .eql 74 (IV.v err) (.iface 121 (.string (ByteArray.mk #[108, 101, 97, 115, 101, 32, 110, 111, 116, 32, 102, 111, 117, 110, 100]))) fun b3 =>
  iteB b3 (
    R (.returned (.int .i64 (3 : Int))) H) <|
  rawR Tryz.prog H .eql 74 (IV.v err) (.iface 121 (.string (ByteArray.mk #[108, 101, 97, 115, 101, 32, 97, 108, 114, 101, 97, 100, 121, 32, 101, 120, 105, 115, 116, 115]))) fun b4 =>
  iteB b4 (
    R (.returned (.int .i64 (4 : Int))) H) <|
  rawR Tryz.prog H .eql 74 (IV.v err) (.iface 121 (.string (ByteArray.mk #[116, 111, 111, 32, 108, 97, 114, 103, 101, 32, 108, 101, 97, 115, 101, 32, 84, 84, 76]))) fun b5 =>
  iteB b5 (
    R (.returned (.int .i64 (5 : Int))) H) <|
  rawR Tryz.prog H .eql 74 (IV.v err) (.iface 120 (.string (ByteArray.mk #[109, 118, 99, 99, 58, 32, 114, 101, 118, 105, 115, 105, 111, 110, 32, 110, 111, 116, 32, 102, 111, 117, 110, 100]))) fun b6 =>
  iteB b6 (
    iteB b6 (
      R (.returned (.int .i64 (6 : Int))) H) <|
    L0 err H R) <|
  rawR Tryz.prog H .eql 74 (IV.v err) (.iface 120 (.string (ByteArray.mk #[109, 118, 99, 99, 58, 32, 119, 97, 116, 99, 104, 101, 114, 32, 100, 111, 101, 115, 32, 110, 111, 116, 32, 101, 120, 105, 115, 116]))) fun b7 =>
  iteB b7 (
    R (.returned (.int .i64 (6 : Int))) H) <|
  L0 err H R
theorem calls {err : IV} {H : Heap} {R : Ending → Heap → Prop} (h : go err H R) : CallsH Tryz.prog 18 ⟨[(IV.v err)]⟩ H R :=
  callsH_of_den (an := an) (fuel := 100000) (X := go err H R) (c := body) mixed fn (by kernel_rfl) (by kernel_rfl) (by kernel_rfl) ok (by kernel_rfl) h
end F18
/-! ### 37 "math/bits.Len" -/
namespace F37
def an : Ann := { kinds := [], taus := [], pairs := [], lab := [] }
noncomputable def body : Code := (Tryz.f37.body).getD .skip
theorem fn : Tryz.prog.funcs[37]? = some Tryz.f37 := by kernel_rfl
theorem ok : codeOk an 8 body = true := by kernel_rfl
def go (x : Int) (H : Heap) (R : Ending → Heap → Prop) : Prop :=
  callD Tryz.prog 56 [(.int .u64 x)] H (panK R) fun v H1 =>
  tInt v .i64 fun n =>
  R (.returned (.int .i64 n)) H1
theorem calls {x : Int} {H : Heap} {R : Ending → Heap → Prop} (h : go x H R) : CallsH Tryz.prog 37 ⟨[(.int .u64 x)]⟩ H R :=
  callsH_of_den (an := an) (fuel := 100000) (X := go x H R) (c := body) mixed fn (by kernel_rfl) (by kernel_rfl) (by kernel_rfl) ok (by kernel_rfl) h
end F37
/-! ### 56 "math/bits.Len64" -/
namespace F56
def an : Ann := { kinds := [], taus := [], pairs := [], lab := [(10000005, [0, 2]), (10000008, [0, 2]), (10000011, [0, 2])] }
noncomputable def body : Code := (Tryz.f56.body).getD .skip
theorem fn : Tryz.prog.funcs[56]? = some Tryz.f56 := by kernel_rfl
theorem ok : codeOk an 25 body = true := by kernel_rfl
noncomputable def L0t : List Item := [.code (sub [1, 1] body)]
def L0 (x : Int) (n : Int) (H : Heap) (R : Ending → Heap → Prop) : Prop :=
  GoL Tryz.prog 56 25 L0t [0, 2] [(.int .u64 x), (.int .i64 n)] H R
noncomputable def L1t : List Item := [.code (sub [1, 1, 1] body)]
def L1 (x : Int) (n : Int) (H : Heap) (R : Ending → Heap → Prop) : Prop :=
  GoL Tryz.prog 56 25 L1t [0, 2] [(.int .u64 x), (.int .i64 n)] H R
noncomputable def L2t : List Item := [.code (sub [1, 1, 1, 1] body)]
def L2 (x : Int) (n : Int) (H : Heap) (R : Ending → Heap → Prop) : Prop :=
  GoL Tryz.prog 56 25 L2t [0, 2] [(.int .u64 x), (.int .i64 n)] H R
def L0n (x : Int) (n : Int) (H : Heap) (R : Ending → Heap → Prop) : Prop :=
  iteB (decide (x ≥ (65536 : Int))) (
    shD (16 : Int) <|
    L1 (shrZ .u64 x (16 : Int)) (IntKind.wrap .i64 (n + (16 : Int))) H R) <|
  L1 x n H R
theorem L0_step {x : Int} {n : Int} {H : Heap} {R : Ending → Heap → Prop} (h : L0n x n H R) : L0 x n H R :=
  goL_of_den (an := an) (fuel := 100000) (X := L0n x n H R) mixed fn (by kernel_rfl) (fun ρ0 => by kernel_rfl) h
def L1n (x : Int) (n : Int) (H : Heap) (R : Ending → Heap → Prop) : Prop :=
  iteB (decide (x ≥ (256 : Int))) (
    shD (8 : Int) <|
    L2 (shrZ .u64 x (8 : Int)) (IntKind.wrap .i64 (n + (8 : Int))) H R) <|
  L2 x n H R
theorem L1_step {x : Int} {n : Int} {H : Heap} {R : Ending → Heap → Prop} (h : L1n x n H R) : L1 x n H R :=
  goL_of_den (an := an) (fuel := 100000) (X := L1n x n H R) mixed fn (by kernel_rfl) (fun ρ0 => by kernel_rfl) h
def L2n (x : Int) (n : Int) (H : Heap) (R : Ending → Heap → Prop) : Prop :=
  ixS (ByteArray.mk #[0, 1, 2, 2, 3, 3, 3, 3, 4, 4, 4, 4, 4, 4, 4, 4, 5, 5, 5, 5, 5, 5, 5, 5, 5, 5, 5, 5, 5, 5, 5, 5, 6, 6, 6, 6, 6, 6, 6, 6, 6, 6, 6, 6, 6, 6, 6, 6, 6, 6, 6, 6, 6, 6, 6, 6, 6, 6, 6, 6, 6, 6, 6, 6, 7, 7, 7, 7, 7, 7, 7, 7, 7, 7, 7, 7, 7, 7, 7, 7, 7, 7, 7, 7, 7, 7, 7, 7, 7, 7, 7, 7, 7, 7, 7, 7, 7, 7, 7, 7, 7, 7, 7, 7, 7, 7, 7, 7, 7, 7, 7, 7, 7, 7, 7, 7, 7, 7, 7, 7, 7, 7, 7, 7, 7, 7, 7, 7, 8, 8, 8, 8, 8, 8, 8, 8, 8, 8, 8, 8, 8, 8, 8, 8, 8, 8, 8, 8, 8, 8, 8, 8, 8, 8, 8, 8, 8, 8, 8, 8, 8, 8, 8, 8, 8, 8, 8, 8, 8, 8, 8, 8, 8, 8, 8, 8, 8, 8, 8, 8, 8, 8, 8, 8, 8, 8, 8, 8, 8, 8, 8, 8, 8, 8, 8, 8, 8, 8, 8, 8, 8, 8, 8, 8, 8, 8, 8, 8, 8, 8, 8, 8, 8, 8, 8, 8, 8, 8, 8, 8, 8, 8, 8, 8, 8, 8, 8, 8, 8, 8, 8, 8, 8, 8, 8, 8, 8, 8, 8, 8, 8, 8, 8, 8, 8, 8, 8, 8, 8, 8, 8, 8, 8, 8, 8, 8]) (IntKind.wrap .u8 x) fun b =>
  R (.returned (.int .i64 (IntKind.wrap .i64 (n + (IntKind.wrap .i64 ((UInt8.toNat b : Nat) : Int)))))) H
theorem L2_step {x : Int} {n : Int} {H : Heap} {R : Ending → Heap → Prop} (h : L2n x n H R) : L2 x n H R :=
  goL_of_den (an := an) (fuel := 100000) (X := L2n x n H R) mixed fn (by kernel_rfl) (fun ρ0 => by kernel_rfl) h
def go (x : Int) (H : Heap) (R : Ending → Heap → Prop) : Prop :=
  iteB (decide (x ≥ (4294967296 : Int))) (
    shD (32 : Int) <|
    L0 (shrZ .u64 x (32 : Int)) (32 : Int) H R) <|
  L0 x (0 : Int) H R
theorem calls {x : Int} {H : Heap} {R : Ending → Heap → Prop} (h : go x H R) : CallsH Tryz.prog 56 ⟨[(.int .u64 x)]⟩ H R :=
  callsH_of_den (an := an) (fuel := 100000) (X := go x H R) (c := body) mixed fn (by kernel_rfl) (by kernel_rfl) (by kernel_rfl) ok (by kernel_rfl) h
end F56
/-! ### 55 "math/bits.Len32" -/
namespace F55
def an : Ann := { kinds := [], taus := [], pairs := [], lab := [(10000005, [0, 2]), (10000008, [0, 2])] }
noncomputable def body : Code := (Tryz.f55.body).getD .skip
theorem fn : Tryz.prog.funcs[55]? = some Tryz.f55 := by kernel_rfl
theorem ok : codeOk an 19 body = true := by kernel_rfl
noncomputable def L0t : List Item := [.code (sub [1, 1] body)]
def L0 (x : Int) (n : Int) (H : Heap) (R : Ending → Heap → Prop) : Prop :=
  GoL Tryz.prog 55 19 L0t [0, 2] [(.int .u32 x), (.int .i64 n)] H R
noncomputable def L1t : List Item := [.code (sub [1, 1, 1] body)]
def L1 (x : Int) (n : Int) (H : Heap) (R : Ending → Heap → Prop) : Prop :=
  GoL Tryz.prog 55 19 L1t [0, 2] [(.int .u32 x), (.int .i64 n)] H R
def L0n (x : Int) (n : Int) (H : Heap) (R : Ending → Heap → Prop) : Prop :=
  iteB (decide (x ≥ (256 : Int))) (
    shD (8 : Int) <|
    L1 (shrZ .u32 x (8 : Int)) (IntKind.wrap .i64 (n + (8 : Int))) H R) <|
  L1 x n H R
theorem L0_step {x : Int} {n : Int} {H : Heap} {R : Ending → Heap → Prop} (h : L0n x n H R) : L0 x n H R :=
  goL_of_den (an := an) (fuel := 100000) (X := L0n x n H R) mixed fn (by kernel_rfl) (fun ρ0 => by kernel_rfl) h
def L1n (x : Int) (n : Int) (H : Heap) (R : Ending → Heap → Prop) : Prop :=
  ixS (ByteArray.mk #[0, 1, 2, 2, 3, 3, 3, 3, 4, 4, 4, 4, 4, 4, 4, 4, 5, 5, 5, 5, 5, 5, 5, 5, 5, 5, 5, 5, 5, 5, 5, 5, 6, 6, 6, 6, 6, 6, 6, 6, 6, 6, 6, 6, 6, 6, 6, 6, 6, 6, 6, 6, 6, 6, 6, 6, 6, 6, 6, 6, 6, 6, 6, 6, 7, 7, 7, 7, 7, 7, 7, 7, 7, 7, 7, 7, 7, 7, 7, 7, 7, 7, 7, 7, 7, 7, 7, 7, 7, 7, 7, 7, 7, 7, 7, 7, 7, 7, 7, 7, 7, 7, 7, 7, 7, 7, 7, 7, 7, 7, 7, 7, 7, 7, 7, 7, 7, 7, 7, 7, 7, 7, 7, 7, 7, 7, 7, 7, 8, 8, 8, 8, 8, 8, 8, 8, 8, 8, 8, 8, 8, 8, 8, 8, 8, 8, 8, 8, 8, 8, 8, 8, 8, 8, 8, 8, 8, 8, 8, 8, 8, 8, 8, 8, 8, 8, 8, 8, 8, 8, 8, 8, 8, 8, 8, 8, 8, 8, 8, 8, 8, 8, 8, 8, 8, 8, 8, 8, 8, 8, 8, 8, 8, 8, 8, 8, 8, 8, 8, 8, 8, 8, 8, 8, 8, 8, 8, 8, 8, 8, 8, 8, 8, 8, 8, 8, 8, 8, 8, 8, 8, 8, 8, 8, 8, 8, 8, 8, 8, 8, 8, 8, 8, 8, 8, 8, 8, 8, 8, 8, 8, 8, 8, 8, 8, 8, 8, 8, 8, 8, 8, 8, 8, 8, 8, 8]) (IntKind.wrap .u8 x) fun b =>
  R (.returned (.int .i64 (IntKind.wrap .i64 (n + (IntKind.wrap .i64 ((UInt8.toNat b : Nat) : Int)))))) H
theorem L1_step {x : Int} {n : Int} {H : Heap} {R : Ending → Heap → Prop} (h : L1n x n H R) : L1 x n H R :=
  goL_of_den (an := an) (fuel := 100000) (X := L1n x n H R) mixed fn (by kernel_rfl) (fun ρ0 => by kernel_rfl) h
def go (x : Int) (H : Heap) (R : Ending → Heap → Prop) : Prop :=
  iteB (decide (x ≥ (65536 : Int))) (
    shD (16 : Int) <|
    L0 (shrZ .u32 x (16 : Int)) (16 : Int) H R) <|
  L0 x (0 : Int) H R
theorem calls {x : Int} {H : Heap} {R : Ending → Heap → Prop} (h : go x H R) : CallsH Tryz.prog 55 ⟨[(.int .u32 x)]⟩ H R :=
  callsH_of_den (an := an) (fuel := 100000) (X := go x H R) (c := body) mixed fn (by kernel_rfl) (by kernel_rfl) (by kernel_rfl) ok (by kernel_rfl) h
end F55
/-! ### 83 "cmp.isNaN[string]" -/
namespace F83
def an : Ann := { kinds := [], taus := [], pairs := [], lab := [] }
noncomputable def body : Code := (Tryz.f83.body).getD .skip
theorem fn : Tryz.prog.funcs[83]? = some Tryz.f83 := by kernel_rfl
theorem ok : codeOk an 6 body = true := by kernel_rfl
def go (x : ByteArray) (H : Heap) (R : Ending → Heap → Prop) : Prop :=
  R (.returned (.bool (!eqS x x))) H
theorem calls {x : ByteArray} {H : Heap} {R : Ending → Heap → Prop} (h : go x H R) : CallsH Tryz.prog 83 ⟨[(.string x)]⟩ H R :=
  callsH_of_den (an := an) (fuel := 100000) (X := go x H R) (c := body) mixed fn (by kernel_rfl) (by kernel_rfl) (by kernel_rfl) ok (by kernel_rfl) h
end F83
/-! ### 52 "cmp.Less[string]" -/
namespace F52
def an : Ann := { kinds := [], taus := [], pairs := [], lab := [] }
noncomputable def body : Code := (Tryz.f52.body).getD .skip
theorem fn : Tryz.prog.funcs[52]? = some Tryz.f52 := by kernel_rfl
theorem ok : codeOk an 17 body = true := by kernel_rfl
def go (x : ByteArray) (y : ByteArray) (H : Heap) (R : Ending → Heap → Prop) : Prop :=
  callD Tryz.prog 83 [(.string x)] H (panK R) fun v H1 =>
  tBool v fun b =>
  iteB b (
    callD Tryz.prog 83 [(.string y)] H1 (panK R) fun v1 H2 =>
    tBool v1 fun b1 =>
    iteB (!b1) (
      R (.returned (.bool true)) H2) <|
    R (.returned (.bool (ltS x y))) H2) <|
  R (.returned (.bool (ltS x y))) H1
theorem calls {x : ByteArray} {y : ByteArray} {H : Heap} {R : Ending → Heap → Prop} (h : go x y H R) : CallsH Tryz.prog 52 ⟨[(.string x), (.string y)]⟩ H R :=
  callsH_of_den (an := an) (fuel := 100000) (X := go x y H R) (c := body) mixed fn (by kernel_rfl) (by kernel_rfl) (by kernel_rfl) ok (by kernel_rfl) h
end F52
/-! ### 63 "cmp.Less[int64]" -/
namespace F63
def an : Ann := { kinds := [], taus := [], pairs := [], lab := [] }
noncomputable def body : Code := (Tryz.f63.body).getD .skip
theorem fn : Tryz.prog.funcs[63]? = some Tryz.f63 := by kernel_rfl
theorem ok : codeOk an 17 body = true := by kernel_rfl
def go (x : Int) (y : Int) (H : Heap) (R : Ending → Heap → Prop) : Prop :=
  callD Tryz.prog 87 [(.int .i64 x)] H (panK R) fun v H1 =>
  tBool v fun b =>
  iteB b (
    callD Tryz.prog 87 [(.int .i64 y)] H1 (panK R) fun v1 H2 =>
    tBool v1 fun b1 =>
    iteB (!b1) (
      R (.returned (.bool true)) H2) <|
    R (.returned (.bool (decide (x < y)))) H2) <|
  R (.returned (.bool (decide (x < y)))) H1
theorem calls {x : Int} {y : Int} {H : Heap} {R : Ending → Heap → Prop} (h : go x y H R) : CallsH Tryz.prog 63 ⟨[(.int .i64 x), (.int .i64 y)]⟩ H R :=
  callsH_of_den (an := an) (fuel := 100000) (X := go x y H R) (c := body) mixed fn (by kernel_rfl) (by kernel_rfl) (by kernel_rfl) ok (by kernel_rfl) h
end F63
/-! ### 87 "cmp.isNaN[int64]" -/
namespace F87
def an : Ann := { kinds := [], taus := [], pairs := [], lab := [] }
noncomputable def body : Code := (Tryz.f87.body).getD .skip
theorem fn : Tryz.prog.funcs[87]? = some Tryz.f87 := by kernel_rfl
theorem ok : codeOk an 6 body = true := by kernel_rfl
def go (x : Int) (H : Heap) (R : Ending → Heap → Prop) : Prop :=
  R (.returned (.bool (x != x))) H
theorem calls {x : Int} {H : Heap} {R : Ending → Heap → Prop} (h : go x H R) : CallsH Tryz.prog 87 ⟨[(.int .i64 x)]⟩ H R :=
  callsH_of_den (an := an) (fuel := 100000) (X := go x H R) (c := body) mixed fn (by kernel_rfl) (by kernel_rfl) (by kernel_rfl) ok (by kernel_rfl) h
end F87
/-! ### 19 "(*pub-stadtholder/pub/etcdserver/lease.Lease).TTL" -/
namespace F19
def an : Ann := { kinds := [], taus := [], pairs := [], lab := [] }
noncomputable def body : Code := (Tryz.f19.body).getD .skip
theorem fn : Tryz.prog.funcs[19]? = some Tryz.f19 := by kernel_rfl
theorem ok : codeOk an 7 body = true := by kernel_rfl
def go (l : Option Addr) (H : Heap) (R : Ending → Heap → Prop) : Prop :=
  nilD l fun a =>
  ldInt H (Addr.add a 2) .i64 fun n =>
  R (.returned (.int .i64 n)) H
theorem calls {l : Option Addr} {H : Heap} {R : Ending → Heap → Prop} (h : go l H R) : CallsH Tryz.prog 19 ⟨[(.pointer l)]⟩ H R :=
  callsH_of_den (an := an) (fuel := 100000) (X := go l H R) (c := body) mixed fn (by kernel_rfl) (by kernel_rfl) (by kernel_rfl) ok (by kernel_rfl) h
end F19
/-! ### 21 "(*pub-stadtholder/pub/etcdserver/lease.Lease).Remaining" -/
namespace F21
def an : Ann := { kinds := [(1002, .read), (2002, .read), (5008, .grow)], taus := [(5, [[0, 1, 2, 4, 5, 6, 3, 7, 8, 9, 10]])], pairs := [], lab := [] }
noncomputable def body : Code := (Tryz.f21.body).getD .skip
theorem fn : Tryz.prog.funcs[21]? = some Tryz.f21 := by kernel_rfl
theorem ok : codeOk an 25 body = true := by kernel_rfl
def go (l : Option Addr) (H : Heap) (R : Ending → Heap → Prop) : Prop :=
  nilD l fun a =>
  zfD Tryz.prog H 102 4 (.pointer (some a)) fun a1 =>
  callD Tryz.prog 31 [(.pointer (some a1))] H (panK R) fun v H1 =>
  tTup v fun l1 =>
  tNil l1 <|
  noPan R <|
  guardB (idleF Tryz.prog 32) <|
  nilD l fun a2 =>
  zfD Tryz.prog H1 102 4 (.pointer (some a2)) fun a3 =>
  nilD l fun a4 =>
  ldInt H1 (Addr.add a4 4) .i64 fun n =>
  ldInt H1 (Addr.add (Addr.add a4 4) 1) .i64 fun n1 =>
  ldBool H1 (Addr.add (Addr.add a4 4) 2) fun b =>
  callD Tryz.prog 33 [(.agg ⟨[(.int .i64 n), (.int .i64 n1), (.bool b)]⟩)] H1 (panK R) fun v1 H2 =>
  tBool v1 fun b1 =>
  iteB b1 (
    R (.returned (.int .i64 (9223372036854775807 : Int))) H2) <|
  nilD l fun a5 =>
  nilD l fun a6 =>
  ldInt H2 (Addr.add a5 4) .i64 fun n2 =>
  ldInt H2 (Addr.add (Addr.add a5 4) 1) .i64 fun n3 =>
  ldBool H2 (Addr.add (Addr.add a5 4) 2) fun b2 =>
  ldPtr H2 (Addr.add a6 1) fun p =>
  callD Tryz.prog 35 [(.pointer p)] H2 nope fun v2 H3 =>
  tAgg v2 fun l2 =>
  tCons l2 fun c l3 =>
  tInt c .i64 fun n4 =>
  tCons l3 fun c1 l4 =>
  tInt c1 .i64 fun n5 =>
  tCons l4 fun c2 l5 =>
  tBool c2 fun b3 =>
  tNil l5 <|
  andD (ExtH H2 H3) <|
  callD Tryz.prog 34 [(.agg ⟨[(.int .i64 n2), (.int .i64 n3), (.bool b2)]⟩), (.agg ⟨[(.int .i64 n4), (.int .i64 n5), (.bool b3)]⟩)] H3 (panK R) fun v3 H4 =>
  tInt v3 .i64 fun n6 =>
  R (.returned (.int .i64 n6)) H4
theorem calls {l : Option Addr} {H : Heap} {R : Ending → Heap → Prop} (h : go l H R) : CallsH Tryz.prog 21 ⟨[(.pointer l)]⟩ H R :=
  callsH_of_den (an := an) (fuel := 100000) (X := go l H R) (c := body) mixed fn (by kernel_rfl) (by kernel_rfl) (by kernel_rfl) ok (by kernel_rfl) h
end F21
/-! ### 22 "(*pub-stadtholder/pub/etcdserver/lease.Lease).Demoted" -/
namespace F22
def an : Ann := { kinds := [(1002, .read), (2002, .read)], taus := [], pairs := [], lab := [] }
noncomputable def body : Code := (Tryz.f22.body).getD .skip
theorem fn : Tryz.prog.funcs[22]? = some Tryz.f22 := by kernel_rfl
theorem ok : codeOk an 16 body = true := by kernel_rfl
def go (l : Option Addr) (H : Heap) (R : Ending → Heap → Prop) : Prop :=
  nilD l fun a =>
  zfD Tryz.prog H 102 4 (.pointer (some a)) fun a1 =>
  callD Tryz.prog 31 [(.pointer (some a1))] H (panK R) fun v H1 =>
  tTup v fun l1 =>
  tNil l1 <|
  noPan R <|
  guardB (idleF Tryz.prog 32) <|
  nilD l fun a2 =>
  zfD Tryz.prog H1 102 4 (.pointer (some a2)) fun a3 =>
  nilD l fun a4 =>
  ldInt H1 (Addr.add a4 4) .i64 fun n =>
  ldInt H1 (Addr.add (Addr.add a4 4) 1) .i64 fun n1 =>
  ldBool H1 (Addr.add (Addr.add a4 4) 2) fun b =>
  rawB Tryz.prog .eql 42 (.agg ⟨[(.int .i64 n), (.int .i64 n1), (.bool b)]⟩) (.agg ⟨[(.int .i64 (0 : Int)), (.int .i64 (0 : Int)), (.bool false)]⟩) fun b1 =>
  R (.returned (.bool b1)) H1
theorem calls {l : Option Addr} {H : Heap} {R : Ending → Heap → Prop} (h : go l H R) : CallsH Tryz.prog 22 ⟨[(.pointer l)]⟩ H R :=
  callsH_of_den (an := an) (fuel := 100000) (X := go l H R) (c := body) mixed fn (by kernel_rfl) (by kernel_rfl) (by kernel_rfl) ok (by kernel_rfl) h
end F22
/-! ### 23 "(*pub-stadtholder/pub/etcdserver/lease.Lease).Keys" -/
namespace F23
def an : Ann := { kinds := [(1002, .read), (2004, .heavy 0), (3004, .heavy 0), (4000, .heavy 99), (5000, .heavy 99), (7002, .read)], taus := [], pairs := [], lab := [(40000005, [0, 3, 19])] }
noncomputable def body : Code := (Tryz.f23.body).getD .skip
theorem fn : Tryz.prog.funcs[23]? = some Tryz.f23 := by kernel_rfl
theorem ok : codeOk an 34 body = true := by kernel_rfl
noncomputable def L0t : List Item := [.code (sub [1, 1, 1, 0, 1, 0, 0] body), .inLoop (sub [1, 1, 1, 0, 1, 0, 0] body), .inBlock 0, .code (sub [1, 1, 1, 1] body)]
def L0 (l : Option Addr) (keys : Option Addr) (keysn : Nat) (keysc : Nat) (s19 : Option Addr) (H : Heap) (R : Ending → Heap → Prop) : Prop :=
  GoL Tryz.prog 23 34 L0t [0, 3, 19] [(.pointer l), (.slice keys keysn keysc), (.pointer s19)] H R
def L0n (l : Option Addr) (keys : Option Addr) (keysn : Nat) (keysc : Nat) (s19 : Option Addr) (H : Heap) (R : Ending → Heap → Prop) : Prop :=
  valD Tryz.prog (Instr.next (.pointer s19) false 0) H (panK R) fun v H1 =>
  tTup v fun l1 =>
  tCons l1 fun c l2 =>
  tBool c fun b =>
  iteB b (
    tCons l2 fun c1 l3 =>
    tAgg c1 fun l5 =>
    tCons l5 fun c3 l6 =>
    tStr c3 fun s =>
    tNil l6 <|
    tCons l3 fun c2 l4 =>
    tAgg c2 fun l7 =>
    tNil l7 <|
    tNil l4 <|
    valD Tryz.prog (Instr.entry (.pointer s19)) H1 (panK R) fun v1 H2 =>
    tTup v1 fun l8 =>
    tCons l8 fun c4 l9 =>
    tAgg c4 fun l11 =>
    tCons l11 fun c6 l12 =>
    tStr c6 fun s1 =>
    tNil l12 <|
    tCons l9 fun c5 l10 =>
    tAgg c5 fun l13 =>
    tNil l13 <|
    tNil l10 <|
    newD H2 (.cells ⟨[(.string (ByteArray.mk #[]))]⟩ 95) fun r H3 =>
    st1 H3 ⟨r, 0, none⟩ (.string s1) fun H4 =>
    ldStr H4 ⟨r, 0, none⟩ fun s2 =>
    newD H4 (.cells ⟨[(.string s2)]⟩ 9) fun r1 H5 =>
    apD H5 1 16 [(.string (ByteArray.mk #[]))] 9 keys keysn keysc (some ⟨r1, 0, none⟩) 1 fun q qn qc H6 =>
    L0 l q qn qc s19 H6 R) <|
  tNil l2 <|
  nilD l fun a =>
  zfD Tryz.prog H1 102 6 (.pointer (some a)) fun a1 =>
  callD Tryz.prog 32 [(.pointer (some a1))] H1 (panK R) fun v2 H7 =>
  tTup v2 fun l14 =>
  tNil l14 <|
  R (.returned (.slice keys keysn keysc)) H7
theorem L0_step {l : Option Addr} {keys : Option Addr} {keysn : Nat} {keysc : Nat} {s19 : Option Addr} {H : Heap} {R : Ending → Heap → Prop} (h : L0n l keys keysn keysc s19 H R) : L0 l keys keysn keysc s19 H R :=
  goL_of_den (an := an) (fuel := 100000) (X := L0n l keys keysn keysc s19 H R) mixed fn (by kernel_rfl) (fun ρ0 => by kernel_rfl) h
def go (l : Option Addr) (H : Heap) (R : Ending → Heap → Prop) : Prop :=
  nilD l fun a =>
  zfD Tryz.prog H 102 6 (.pointer (some a)) fun a1 =>
  callD Tryz.prog 31 [(.pointer (some a1))] H (panK R) fun v H1 =>
  tTup v fun l1 =>
  tNil l1 <|
  nilD l fun a2 =>
  ldMap H1 (Addr.add a2 7) fun m =>
  valD Tryz.prog (Builtin.len_ #[99] 3 ⟨[(.map m)]⟩) H1 (panK R) fun v1 H2 =>
  tInt v1 .i64 fun n =>
  mkD H2 16 [(.string (ByteArray.mk #[]))] 9 (0 : Int) n fun r k c H3 =>
  nilD l fun a3 =>
  ldMap H3 (Addr.add a3 7) fun m1 =>
  valD Tryz.prog (Instr.range 99 (.map m1)) H3 (panK R) fun v2 H4 =>
  tPtr v2 fun p =>
  L0 l (some ⟨r, 0, none⟩) k c p H4 R
theorem calls {l : Option Addr} {H : Heap} {R : Ending → Heap → Prop} (h : go l H R) : CallsH Tryz.prog 23 ⟨[(.pointer l)]⟩ H R :=
  callsH_of_den (an := an) (fuel := 100000) (X := go l H R) (c := body) mixed fn (by kernel_rfl) (by kernel_rfl) (by kernel_rfl) ok (by kernel_rfl) h
end F23
/-! ### 24 "slices.Sort[[]string,string]" -/
namespace F24
def an : Ann := { kinds := [], taus := [], pairs := [], lab := [] }
noncomputable def body : Code := (Tryz.f24.body).getD .skip
theorem fn : Tryz.prog.funcs[24]? = some Tryz.f24 := by kernel_rfl
theorem ok : codeOk an 11 body = true := by kernel_rfl
def go (x : Option Addr) (xn : Nat) (xc : Nat) (H : Heap) (R : Ending → Heap → Prop) : Prop :=
  callD Tryz.prog 37 [(.int .u64 (IntKind.wrap .u64 ((xn : Nat) : Int)))] H (panK R) fun v H1 =>
  tInt v .i64 fun n =>
  callD Tryz.prog 36 [(.slice x xn xc), (.int .i64 (0 : Int)), (.int .i64 ((xn : Nat) : Int)), (.int .i64 n)] H1 (panK R) fun v1 H2 =>
  tTup v1 fun l =>
  tNil l <|
  R (.returned (.tuple ⟨[]⟩)) H2
theorem calls {x : Option Addr} {xn : Nat} {xc : Nat} {H : Heap} {R : Ending → Heap → Prop} (h : go x xn xc H R) : CallsH Tryz.prog 24 ⟨[(.slice x xn xc)]⟩ H R :=
  callsH_of_den (an := an) (fuel := 100000) (X := go x xn xc H R) (c := body) mixed fn (by kernel_rfl) (by kernel_rfl) (by kernel_rfl) ok (by kernel_rfl) h
end F24
/-! ### 25 "slices.Sort[[]int64,int64]" -/
namespace F25
def an : Ann := { kinds := [], taus := [], pairs := [], lab := [] }
noncomputable def body : Code := (Tryz.f25.body).getD .skip
theorem fn : Tryz.prog.funcs[25]? = some Tryz.f25 := by kernel_rfl
theorem ok : codeOk an 11 body = true := by kernel_rfl
def go (x : Option Addr) (xn : Nat) (xc : Nat) (H : Heap) (R : Ending → Heap → Prop) : Prop :=
  callD Tryz.prog 37 [(.int .u64 (IntKind.wrap .u64 ((xn : Nat) : Int)))] H (panK R) fun v H1 =>
  tInt v .i64 fun n =>
  callD Tryz.prog 38 [(.slice x xn xc), (.int .i64 (0 : Int)), (.int .i64 ((xn : Nat) : Int)), (.int .i64 n)] H1 (panK R) fun v1 H2 =>
  tTup v1 fun l =>
  tNil l <|
  R (.returned (.tuple ⟨[]⟩)) H2
theorem calls {x : Option Addr} {xn : Nat} {xc : Nat} {H : Heap} {R : Ending → Heap → Prop} (h : go x xn xc H R) : CallsH Tryz.prog 25 ⟨[(.slice x xn xc)]⟩ H R :=
  callsH_of_den (an := an) (fuel := 100000) (X := go x xn xc H R) (c := body) mixed fn (by kernel_rfl) (by kernel_rfl) (by kernel_rfl) ok (by kernel_rfl) h
end F25
/-! ### 26 "pub-stadtholder/pub/etcdserver/lease.ZzWaits" -/
namespace F26
def an : Ann := { kinds := [(1001, .heavy 0), (2005, .heavy 0)], taus := [], pairs := [], lab := [] }
noncomputable def body : Code := (Tryz.f26.body).getD .skip
theorem fn : Tryz.prog.funcs[26]? = some Tryz.f26 := by kernel_rfl
theorem ok : codeOk an 25 body = true := by kernel_rfl
def go (l : IV) (id : Int) (H : Heap) (R : Ending → Heap → Prop) : Prop :=
  valD Tryz.prog (Instr.typeAssert (IV.v l) 49 118 false) H (panK R) fun v H1 =>
  tPtr v fun p =>
  nilD p fun a =>
  ldMap H1 (Addr.add a 1) fun m =>
  valD Tryz.prog (Instr.lookup 128 (.map m) (.int .i64 id) false) H1 (panK R) fun v1 H2 =>
  tPtr v1 fun p1 =>
  callD Tryz.prog 39 [(.pointer p)] H2 (panK R) fun v2 H3 =>
  tBool v2 fun b =>
  iteB b (
    iteB (!(Option.isNone p1)) (
      callD Tryz.prog 40 [(.pointer p1)] H3 (panK R) fun v3 H4 =>
      tBool v3 fun b1 =>
      R (.returned (.bool b1)) H4) <|
    R (.returned (.bool false)) H3) <|
  R (.returned (.bool false)) H3
theorem calls {l : IV} {id : Int} {H : Heap} {R : Ending → Heap → Prop} (h : go l id H R) : CallsH Tryz.prog 26 ⟨[(IV.v l), (.int .i64 id)]⟩ H R :=
  callsH_of_den (an := an) (fuel := 100000) (X := go l id H R) (c := body) mixed fn (by kernel_rfl) (by kernel_rfl) (by kernel_rfl) ok (by kernel_rfl) h
end F26
/-! ### 27 "pub-stadtholder/pub/etcdserver/lease.ZzExpired" -/
namespace F27
def an : Ann := { kinds := [(1001, .heavy 0)], taus := [], pairs := [], lab := [(40000007, [6, 16, 17, 18])] }
noncomputable def body : Code := (Tryz.f27.body).getD .skip
theorem fn : Tryz.prog.funcs[27]? = some Tryz.f27 := by kernel_rfl
theorem ok : codeOk an 31 body = true := by kernel_rfl
noncomputable def L0t : List Item := [.code (sub [1, 1, 1, 1, 0, 1, 0, 0] body), .inLoop (sub [1, 1, 1, 1, 0, 1, 0, 0] body), .inBlock 0, .code (sub [1, 1, 1, 1, 1] body)]
def L0 (out : Option Addr) (outn : Nat) (outc : Nat) (s16 : Option Addr) (s16n : Nat) (s16c : Nat) (s17 : Int) (s18 : Int) (H : Heap) (R : Ending → Heap → Prop) : Prop :=
  GoL Tryz.prog 27 31 L0t [6, 16, 17, 18] [(.slice out outn outc), (.slice s16 s16n s16c), (.int .i64 s17), (.int .i64 s18)] H R
def L0n (out : Option Addr) (outn : Nat) (outc : Nat) (s16 : Option Addr) (s16n : Nat) (s16c : Nat) (s17 : Int) (s18 : Int) (H : Heap) (R : Ending → Heap → Prop) : Prop :=
  iteB (decide (s18 < s17)) (
    idxD s16 s16n s18 fun a =>
    ldPtr H (Addr.add a (Int.toNat s18 * 1)) fun p =>
    nilD p fun a1 =>
    ldInt H a1 .i64 fun n =>
    newD H (.cells ⟨[(.int .i64 n)]⟩ 79) fun r H1 =>
    apD H1 1 8 [(.int .i64 (0 : Int))] 79 out outn outc (some ⟨r, 0, none⟩) 1 fun q qn qc H2 =>
    L0 q qn qc s16 s16n s16c s17 (IntKind.wrap .i64 (s18 + (1 : Int))) H2 R) <|
  R (.returned (.slice out outn outc)) H
theorem L0_step {out : Option Addr} {outn : Nat} {outc : Nat} {s16 : Option Addr} {s16n : Nat} {s16c : Nat} {s17 : Int} {s18 : Int} {H : Heap} {R : Ending → Heap → Prop} (h : L0n out outn outc s16 s16n s16c s17 s18 H R) : L0 out outn outc s16 s16n s16c s17 s18 H R :=
  goL_of_den (an := an) (fuel := 100000) (X := L0n out outn outc s16 s16n s16c s17 s18 H R) mixed fn (by kernel_rfl) (fun ρ0 => by kernel_rfl) h
def go (l : IV) (limit : Int) (H : Heap) (R : Ending → Heap → Prop) : Prop :=
  valD Tryz.prog (Instr.typeAssert (IV.v l) 49 118 false) H (panK R) fun v H1 =>
  tPtr v fun p =>
  callD Tryz.prog 39 [(.pointer p)] H1 (panK R) fun v1 H2 =>
  tBool v1 fun b =>
  iteB (!b) (
    R (.returned (.slice none 0 0)) H2) <|
  callD Tryz.prog 41 [(.pointer p), (.int .i64 limit)] H2 (panK R) fun v2 H3 =>
  tSl v2 fun q qn qc =>
  L0 none 0 0 q qn qc ((qn : Nat) : Int) (0 : Int) H3 R
theorem calls {l : IV} {limit : Int} {H : Heap} {R : Ending → Heap → Prop} (h : go l limit H R) : CallsH Tryz.prog 27 ⟨[(IV.v l), (.int .i64 limit)]⟩ H R :=
  callsH_of_den (an := an) (fuel := 100000) (X := go l limit H R) (c := body) mixed fn (by kernel_rfl) (by kernel_rfl) (by kernel_rfl) ok (by kernel_rfl) h
end F27
/-! ### 30 "pub-stadtholder/pub/etcdserver/lease.newLessor" -/
namespace F30
def an : Ann := { kinds := [(10012, .heavy 0), (10013, .heavy 0), (10014, .heavy 0)], taus := [(10, [[4, 5, 7, 8, 9, 10, 15], [16, 17, 18]])], pairs := [], lab := [(10000007, [0, 1, 2, 7, 9, 10, 11]), (10000009, [0, 1, 2, 7, 9, 10, 11]), (10000011, [0, 1, 2, 7, 9, 10, 11]), (10000012, [2, 12])], free := [(10, [(0, 128), (1, 132), (2, 129), (3, 131), (6, 2), (11, 4), (12, 135), (13, 100), (14, 100)])] }
noncomputable def body : Code := (Tryz.f30.body).getD .skip
theorem fn : Tryz.prog.funcs[30]? = some Tryz.f30 := by kernel_rfl
theorem ok : codeOk an 50 body = true := by kernel_rfl
noncomputable def L0t : List Item := [.code (sub [1, 1, 1, 1, 1] body)]
def L0 (lg : Option Addr) (b : IV) (clock : Option Addr) (cfg : Nat) (checkpointInterval : Int) (expiredLeaseRetryInterval : Int) (leaseRevokeRate : Int) (H : Heap) (R : Ending → Heap → Prop) : Prop :=
  GoL Tryz.prog 30 50 L0t [0, 1, 2, 7, 9, 10, 11] [(.pointer lg), (IV.v b), (.pointer clock), (.pointer (some ⟨cfg, 0, none⟩)), (.int .i64 checkpointInterval), (.int .i64 expiredLeaseRetryInterval), (.int .i64 leaseRevokeRate)] H R
noncomputable def L1t : List Item := [.code (sub [1, 1, 1, 1, 1, 1] body)]
def L1 (lg : Option Addr) (b : IV) (clock : Option Addr) (cfg : Nat) (checkpointInterval : Int) (expiredLeaseRetryInterval : Int) (leaseRevokeRate : Int) (H : Heap) (R : Ending → Heap → Prop) : Prop :=
  GoL Tryz.prog 30 50 L1t [0, 1, 2, 7, 9, 10, 11] [(.pointer lg), (IV.v b), (.pointer clock), (.pointer (some ⟨cfg, 0, none⟩)), (.int .i64 checkpointInterval), (.int .i64 expiredLeaseRetryInterval), (.int .i64 leaseRevokeRate)] H R
noncomputable def L2t : List Item := [.code (sub [1, 1, 1, 1, 1, 1, 1] body)]
def L2 (lg : Option Addr) (b : IV) (clock : Option Addr) (cfg : Nat) (checkpointInterval : Int) (expiredLeaseRetryInterval : Int) (leaseRevokeRate : Int) (H : Heap) (R : Ending → Heap → Prop) : Prop :=
  GoL Tryz.prog 30 50 L2t [0, 1, 2, 7, 9, 10, 11] [(.pointer lg), (IV.v b), (.pointer clock), (.pointer (some ⟨cfg, 0, none⟩)), (.int .i64 checkpointInterval), (.int .i64 expiredLeaseRetryInterval), (.int .i64 leaseRevokeRate)] H R
noncomputable def L3t : List Item := [.code (sub [1, 1, 1, 1, 1, 1, 1, 1] body)]
def L3 (clock : Option Addr) (l : Nat) (H : Heap) (R : Ending → Heap → Prop) : Prop :=
  GoL Tryz.prog 30 50 L3t [2, 12] [(.pointer clock), (.pointer (some ⟨l, 0, none⟩))] H R
def L0n (lg : Option Addr) (b : IV) (clock : Option Addr) (cfg : Nat) (checkpointInterval : Int) (expiredLeaseRetryInterval : Int) (leaseRevokeRate : Int) (H : Heap) (R : Ending → Heap → Prop) : Prop :=
  iteB (expiredLeaseRetryInterval == (0 : Int)) (
    L1 lg b clock cfg checkpointInterval (3000000000 : Int) leaseRevokeRate H R) <|
  L1 lg b clock cfg checkpointInterval expiredLeaseRetryInterval leaseRevokeRate H R
theorem L0_step {lg : Option Addr} {b : IV} {clock : Option Addr} {cfg : Nat} {checkpointInterval : Int} {expiredLeaseRetryInterval : Int} {leaseRevokeRate : Int} {H : Heap} {R : Ending → Heap → Prop} (h : L0n lg b clock cfg checkpointInterval expiredLeaseRetryInterval leaseRevokeRate H R) : L0 lg b clock cfg checkpointInterval expiredLeaseRetryInterval leaseRevokeRate H R :=
  goL_of_den (an := an) (fuel := 100000) (X := L0n lg b clock cfg checkpointInterval expiredLeaseRetryInterval leaseRevokeRate H R) mixed fn (by kernel_rfl) (fun ρ0 => by kernel_rfl) h
def L1n (lg : Option Addr) (b : IV) (clock : Option Addr) (cfg : Nat) (checkpointInterval : Int) (expiredLeaseRetryInterval : Int) (leaseRevokeRate : Int) (H : Heap) (R : Ending → Heap → Prop) : Prop :=
  iteB (leaseRevokeRate == (0 : Int)) (
    L2 lg b clock cfg checkpointInterval expiredLeaseRetryInterval (1000 : Int) H R) <|
  L2 lg b clock cfg checkpointInterval expiredLeaseRetryInterval leaseRevokeRate H R
theorem L1_step {lg : Option Addr} {b : IV} {clock : Option Addr} {cfg : Nat} {checkpointInterval : Int} {expiredLeaseRetryInterval : Int} {leaseRevokeRate : Int} {H : Heap} {R : Ending → Heap → Prop} (h : L1n lg b clock cfg checkpointInterval expiredLeaseRetryInterval leaseRevokeRate H R) : L1 lg b clock cfg checkpointInterval expiredLeaseRetryInterval leaseRevokeRate H R :=
  goL_of_den (an := an) (fuel := 100000) (X := L1n lg b clock cfg checkpointInterval expiredLeaseRetryInterval leaseRevokeRate H R) mixed fn (by kernel_rfl) (fun ρ0 => by kernel_rfl) h
def L2n (lg : Option Addr) (b : IV) (clock : Option Addr) (cfg : Nat) (checkpointInterval : Int) (expiredLeaseRetryInterval : Int) (leaseRevokeRate : Int) (H : Heap) (R : Ending → Heap → Prop) : Prop :=
  AnyO [(0, fun H1 K => newD H1 (.map #[] 0) fun r H2 => K (.map (some r)) H2), (1, fun H3 K1 => newD H3 (.map #[] 0) fun r1 H4 => K1 (.map (some r1)) H4), (2, fun H5 K2 => callD Tryz.prog 44 [] H5 (panK R) fun v H6 => tPtr v fun p => K2 (.pointer p) H6), (3, fun H7 K3 => mkD H7 8 [(.pointer none)] 189 (0 : Int) (0 : Int) fun r2 k c H8 => K3 (.slice (some ⟨r2, 0, none⟩) k c) H8), (6, fun H9 K4 => ldInt H9 ⟨cfg, 0, none⟩ .i64 fun n => K4 (.int .i64 n) H9), (11, fun H10 K5 => ldBool H10 ⟨cfg, 3, none⟩ fun b1 => K5 (.bool b1) H10), (12, fun H11 K6 => valD Tryz.prog (Instr.makeChan 135 (.int .i64 (16 : Int))) H11 (panK R) fun v1 H12 => tCh v1 fun r3 => K6 (.chan r3) H12), (13, fun H13 K7 => valD Tryz.prog (Instr.makeChan 100 (.int .i64 (0 : Int))) H13 (panK R) fun v2 H14 => tCh v2 fun r4 => K7 (.chan r4) H14), (14, fun H15 K8 => valD Tryz.prog (Instr.makeChan 100 (.int .i64 (0 : Int))) H15 (panK R) fun v3 H16 => tCh v3 fun r5 => K8 (.chan r5) H16)] H fun l H17 =>
  tCons l fun c1 l1 =>
  tMap c1 fun m =>
  tCons l1 fun c2 l2 =>
  tMap c2 fun m1 =>
  tCons l2 fun c3 l3 =>
  tPtr c3 fun p1 =>
  tCons l3 fun c4 l4 =>
  tSl c4 fun q qn qc =>
  tCons l4 fun c5 l5 =>
  tInt c5 .i64 fun n1 =>
  tCons l5 fun c6 l6 =>
  tBool c6 fun b2 =>
  tCons l6 fun c7 l7 =>
  tCh c7 fun m2 =>
  tCons l7 fun c8 l8 =>
  tCh c8 fun m3 =>
  tCons l8 fun c9 l9 =>
  tCh c9 fun m4 =>
  tNil l9 <|
  guardB (isCell (IV.v b)) <|
  newD H17 (.cells ⟨[(.chan none), (.map m), (.pointer p1), (.slice q qn qc), (.map m1), .nilFunc, .nilFunc, (IV.v b), (.int .i64 n1), (.int .i64 leaseRevokeRate), (.chan m2), (.chan m3), (.chan m4), (.pointer lg), (.int .i64 checkpointInterval), (.int .i64 expiredLeaseRetryInterval), (.bool b2), (.pointer none)]⟩ 138) fun r6 H18 =>
  L3 clock r6 H18 R
theorem L2_step {lg : Option Addr} {b : IV} {clock : Option Addr} {cfg : Nat} {checkpointInterval : Int} {expiredLeaseRetryInterval : Int} {leaseRevokeRate : Int} {H : Heap} {R : Ending → Heap → Prop} (h : L2n lg b clock cfg checkpointInterval expiredLeaseRetryInterval leaseRevokeRate H R) : L2 lg b clock cfg checkpointInterval expiredLeaseRetryInterval leaseRevokeRate H R :=
  goL_of_den (an := an) (fuel := 100000) (X := L2n lg b clock cfg checkpointInterval expiredLeaseRetryInterval leaseRevokeRate H R) mixed fn (by kernel_rfl) (fun ρ0 => by kernel_rfl) h
def L3n (clock : Option Addr) (l : Nat) (H : Heap) (R : Ending → Heap → Prop) : Prop :=
  st1 H ⟨l, 17, none⟩ (.pointer clock) fun H1 =>
  callD Tryz.prog 45 [(.pointer (some ⟨l, 0, none⟩))] H1 (panK R) fun v H2 =>
  tTup v fun l1 =>
  tNil l1 <|
  R (.returned (.pointer (some ⟨l, 0, none⟩))) H2
theorem L3_step {clock : Option Addr} {l : Nat} {H : Heap} {R : Ending → Heap → Prop} (h : L3n clock l H R) : L3 clock l H R :=
  goL_of_den (an := an) (fuel := 100000) (X := L3n clock l H R) mixed fn (by kernel_rfl) (fun ρ0 => by kernel_rfl) h
def go (lg : Option Addr) (b : IV) (clock : Option Addr) (cfg_0 : Int) (cfg_1 : Int) (cfg_2 : Int) (cfg_3 : Bool) (cfg_4 : Int) (H : Heap) (R : Ending → Heap → Prop) : Prop :=
  newD H (.cells ⟨[(.int .i64 cfg_0), (.int .i64 cfg_1), (.int .i64 cfg_2), (.bool cfg_3), (.int .i64 cfg_4)]⟩ 61) fun r H1 =>
  ldInt H1 ⟨r, 1, none⟩ .i64 fun n =>
  ldInt H1 ⟨r, 2, none⟩ .i64 fun n1 =>
  ldInt H1 ⟨r, 4, none⟩ .i64 fun n2 =>
  iteB (n == (0 : Int)) (
    L0 lg b clock r (300000000000 : Int) n1 n2 H1 R) <|
  L0 lg b clock r n n1 n2 H1 R
theorem calls {lg : Option Addr} {b : IV} {clock : Option Addr} {cfg_0 : Int} {cfg_1 : Int} {cfg_2 : Int} {cfg_3 : Bool} {cfg_4 : Int} {H : Heap} {R : Ending → Heap → Prop} (h : go lg b clock cfg_0 cfg_1 cfg_2 cfg_3 cfg_4 H R) : CallsH Tryz.prog 30 ⟨[(.pointer lg), (IV.v b), (.pointer clock), (.agg ⟨[(.int .i64 cfg_0), (.int .i64 cfg_1), (.int .i64 cfg_2), (.bool cfg_3), (.int .i64 cfg_4)]⟩)]⟩ H R :=
  callsH_of_den (an := an) (fuel := 100000) (X := go lg b clock cfg_0 cfg_1 cfg_2 cfg_3 cfg_4 H R) (c := body) mixed fn (by kernel_rfl) (by kernel_rfl) (by kernel_rfl) ok (by kernel_rfl) h
end F30
/-! ### 36 "slices.pdqsortOrdered[string]" -/
namespace F36
def an : Ann := { kinds := [], taus := [(17, [[0, 1, 2, 3, 4, 5, 6, 8, 9, 10, 7, 11, 12, 13, 14]])], pairs := [], lab := [(30000003, [0, 1, 2, 3, 8, 9]), (40000011, [0, 1, 2, 3, 8, 9, 10]), (40000016, [0, 1, 2, 3, 8, 9, 10, 11, 12]), (50000017, [0, 1, 2, 3, 8, 9, 10, 11]), (40000018, [0, 1, 2, 3, 8, 9, 10, 11]), (40000021, [0, 1, 2, 3, 10, 11]), (50000019, [0, 1, 2, 3, 8, 9, 11])] }
noncomputable def body : Code := (Tryz.f36.body).getD .skip
theorem fn : Tryz.prog.funcs[36]? = some Tryz.f36 := by kernel_rfl
theorem ok : codeOk an 134 body = true := by kernel_rfl
noncomputable def L0t : List Item := [.code (sub [1, 1, 0, 0] body), .inLoop (sub [1, 1, 0, 0] body), .inBlock 0]
def L0 (s0 : Option Addr) (s0n : Nat) (s0c : Nat) (s1 : Int) (s2 : Int) (s3 : Int) (s8 : Bool) (s9 : Bool) (H : Heap) (R : Ending → Heap → Prop) : Prop :=
  GoL Tryz.prog 36 134 L0t [0, 1, 2, 3, 8, 9] [(.slice s0 s0n s0c), (.int .i64 s1), (.int .i64 s2), (.int .i64 s3), (.bool s8), (.bool s9)] H R
noncomputable def L1t : List Item := [.code (sub [1, 1, 0, 0, 0, 1, 1, 1, 1] body), .inBlock 1, .inLoop (sub [1, 1, 0, 0] body), .inBlock 0]
def L1 (s0 : Option Addr) (s0n : Nat) (s0c : Nat) (s1 : Int) (s2 : Int) (s3 : Int) (s8 : Bool) (s9 : Bool) (s10 : Int) (H : Heap) (R : Ending → Heap → Prop) : Prop :=
  GoL Tryz.prog 36 134 L1t [0, 1, 2, 3, 8, 9, 10] [(.slice s0 s0n s0c), (.int .i64 s1), (.int .i64 s2), (.int .i64 s3), (.bool s8), (.bool s9), (.int .i64 s10)] H R
noncomputable def L2t : List Item := [.code (sub [1, 1, 0, 0, 0, 1, 1, 1, 1, 1, 1] body), .inBlock 1, .inLoop (sub [1, 1, 0, 0] body), .inBlock 0]
def L2 (s0 : Option Addr) (s0n : Nat) (s0c : Nat) (s1 : Int) (s2 : Int) (s3 : Int) (s8 : Bool) (s9 : Bool) (s10 : Int) (s11 : Int) (s12 : Int) (H : Heap) (R : Ending → Heap → Prop) : Prop :=
  GoL Tryz.prog 36 134 L2t [0, 1, 2, 3, 8, 9, 10, 11, 12] [(.slice s0 s0n s0c), (.int .i64 s1), (.int .i64 s2), (.int .i64 s3), (.bool s8), (.bool s9), (.int .i64 s10), (.int .i64 s11), (.int .i64 s12)] H R
noncomputable def L3t : List Item := [.code (sub [1, 1, 0, 0, 0, 1, 1, 1, 1, 1, 1, 0, 1, 0] body), .code (sub [1, 1, 0, 0, 0, 1, 1, 1, 1, 1, 1, 1] body), .inBlock 1, .inLoop (sub [1, 1, 0, 0] body), .inBlock 0]
def L3 (s0 : Option Addr) (s0n : Nat) (s0c : Nat) (s1 : Int) (s2 : Int) (s3 : Int) (s8 : Bool) (s9 : Bool) (s10 : Int) (s11 : Int) (H : Heap) (R : Ending → Heap → Prop) : Prop :=
  GoL Tryz.prog 36 134 L3t [0, 1, 2, 3, 8, 9, 10, 11] [(.slice s0 s0n s0c), (.int .i64 s1), (.int .i64 s2), (.int .i64 s3), (.bool s8), (.bool s9), (.int .i64 s10), (.int .i64 s11)] H R
noncomputable def L4t : List Item := [.code (sub [1, 1, 0, 0, 0, 1, 1, 1, 1, 1, 1, 1] body), .inBlock 1, .inLoop (sub [1, 1, 0, 0] body), .inBlock 0]
def L4 (s0 : Option Addr) (s0n : Nat) (s0c : Nat) (s1 : Int) (s2 : Int) (s3 : Int) (s8 : Bool) (s9 : Bool) (s10 : Int) (s11 : Int) (H : Heap) (R : Ending → Heap → Prop) : Prop :=
  GoL Tryz.prog 36 134 L4t [0, 1, 2, 3, 8, 9, 10, 11] [(.slice s0 s0n s0c), (.int .i64 s1), (.int .i64 s2), (.int .i64 s3), (.bool s8), (.bool s9), (.int .i64 s10), (.int .i64 s11)] H R
noncomputable def L5t : List Item := [.code (sub [1, 1, 0, 0, 0, 1, 1, 1, 1, 1, 1, 1, 1] body), .inBlock 1, .inLoop (sub [1, 1, 0, 0] body), .inBlock 0]
def L5 (s0 : Option Addr) (s0n : Nat) (s0c : Nat) (s1 : Int) (s2 : Int) (s3 : Int) (s10 : Int) (s11 : Int) (H : Heap) (R : Ending → Heap → Prop) : Prop :=
  GoL Tryz.prog 36 134 L5t [0, 1, 2, 3, 10, 11] [(.slice s0 s0n s0c), (.int .i64 s1), (.int .i64 s2), (.int .i64 s3), (.int .i64 s10), (.int .i64 s11)] H R
noncomputable def L6t : List Item := [.code (sub [1, 1, 0, 0, 0, 1, 1, 1, 1, 1, 1, 1, 0, 1, 0] body), .code (sub [1, 1, 0, 0, 0, 1, 1, 1, 1, 1, 1, 1, 1] body), .inBlock 1, .inLoop (sub [1, 1, 0, 0] body), .inBlock 0]
def L6 (s0 : Option Addr) (s0n : Nat) (s0c : Nat) (s1 : Int) (s2 : Int) (s3 : Int) (s8 : Bool) (s9 : Bool) (s11 : Int) (H : Heap) (R : Ending → Heap → Prop) : Prop :=
  GoL Tryz.prog 36 134 L6t [0, 1, 2, 3, 8, 9, 11] [(.slice s0 s0n s0c), (.int .i64 s1), (.int .i64 s2), (.int .i64 s3), (.bool s8), (.bool s9), (.int .i64 s11)] H R
def L0n (s0 : Option Addr) (s0n : Nat) (s0c : Nat) (s1 : Int) (s2 : Int) (s3 : Int) (s8 : Bool) (s9 : Bool) (H : Heap) (R : Ending → Heap → Prop) : Prop :=
  iteB (decide ((IntKind.wrap .i64 (s2 - s1)) ≤ (12 : Int))) (
    callD Tryz.prog 46 [(.slice s0 s0n s0c), (.int .i64 s1), (.int .i64 s2)] H (panK R) fun v H1 =>
    tTup v fun l =>
    tNil l <|
    R (.returned (.tuple ⟨[]⟩)) H1) <|
  iteB (s3 == (0 : Int)) (
    callD Tryz.prog 47 [(.slice s0 s0n s0c), (.int .i64 s1), (.int .i64 s2)] H (panK R) fun v1 H2 =>
    tTup v1 fun l1 =>
    tNil l1 <|
    R (.returned (.tuple ⟨[]⟩)) H2) <|
  iteB (!s8) (
    callD Tryz.prog 48 [(.slice s0 s0n s0c), (.int .i64 s1), (.int .i64 s2)] H (panK R) fun v2 H3 =>
    tTup v2 fun l2 =>
    tNil l2 <|
    L1 s0 s0n s0c s1 s2 (IntKind.wrap .i64 (s3 - (1 : Int))) s8 s9 (IntKind.wrap .i64 (s2 - s1)) H3 R) <|
  L1 s0 s0n s0c s1 s2 s3 s8 s9 (IntKind.wrap .i64 (s2 - s1)) H R
theorem L0_step {s0 : Option Addr} {s0n : Nat} {s0c : Nat} {s1 : Int} {s2 : Int} {s3 : Int} {s8 : Bool} {s9 : Bool} {H : Heap} {R : Ending → Heap → Prop} (h : L0n s0 s0n s0c s1 s2 s3 s8 s9 H R) : L0 s0 s0n s0c s1 s2 s3 s8 s9 H R :=
  goL_of_den (an := an) (fuel := 100000) (X := L0n s0 s0n s0c s1 s2 s3 s8 s9 H R) mixed fn (by kernel_rfl) (fun ρ0 => by kernel_rfl) h
def L1n (s0 : Option Addr) (s0n : Nat) (s0c : Nat) (s1 : Int) (s2 : Int) (s3 : Int) (s8 : Bool) (s9 : Bool) (s10 : Int) (H : Heap) (R : Ending → Heap → Prop) : Prop :=
  callD Tryz.prog 49 [(.slice s0 s0n s0c), (.int .i64 s1), (.int .i64 s2)] H (panK R) fun v H1 =>
  tTup v fun l =>
  tCons l fun c l1 =>
  tInt c .i64 fun n =>
  tCons l1 fun c1 l2 =>
  tInt c1 .i64 fun n1 =>
  tNil l2 <|
  iteB (n1 == (2 : Int)) (
    callD Tryz.prog 50 [(.slice s0 s0n s0c), (.int .i64 s1), (.int .i64 s2)] H1 (panK R) fun v1 H2 =>
    tTup v1 fun l3 =>
    tNil l3 <|
    L2 s0 s0n s0c s1 s2 s3 s8 s9 s10 (IntKind.wrap .i64 ((IntKind.wrap .i64 (s2 - (1 : Int))) - (IntKind.wrap .i64 (n - s1)))) (1 : Int) H2 R) <|
  L2 s0 s0n s0c s1 s2 s3 s8 s9 s10 n n1 H1 R
theorem L1_step {s0 : Option Addr} {s0n : Nat} {s0c : Nat} {s1 : Int} {s2 : Int} {s3 : Int} {s8 : Bool} {s9 : Bool} {s10 : Int} {H : Heap} {R : Ending → Heap → Prop} (h : L1n s0 s0n s0c s1 s2 s3 s8 s9 s10 H R) : L1 s0 s0n s0c s1 s2 s3 s8 s9 s10 H R :=
  goL_of_den (an := an) (fuel := 100000) (X := L1n s0 s0n s0c s1 s2 s3 s8 s9 s10 H R) mixed fn (by kernel_rfl) (fun ρ0 => by kernel_rfl) h
def L2n (s0 : Option Addr) (s0n : Nat) (s0c : Nat) (s1 : Int) (s2 : Int) (s3 : Int) (s8 : Bool) (s9 : Bool) (s10 : Int) (s11 : Int) (s12 : Int) (H : Heap) (R : Ending → Heap → Prop) : Prop :=
  iteB s8 (
    iteB s9 (
      iteB (s12 == (1 : Int)) (
        L3 s0 s0n s0c s1 s2 s3 s8 s9 s10 s11 H R) <|
      L4 s0 s0n s0c s1 s2 s3 s8 s9 s10 s11 H R) <|
    L4 s0 s0n s0c s1 s2 s3 s8 s9 s10 s11 H R) <|
  L4 s0 s0n s0c s1 s2 s3 s8 s9 s10 s11 H R
theorem L2_step {s0 : Option Addr} {s0n : Nat} {s0c : Nat} {s1 : Int} {s2 : Int} {s3 : Int} {s8 : Bool} {s9 : Bool} {s10 : Int} {s11 : Int} {s12 : Int} {H : Heap} {R : Ending → Heap → Prop} (h : L2n s0 s0n s0c s1 s2 s3 s8 s9 s10 s11 s12 H R) : L2 s0 s0n s0c s1 s2 s3 s8 s9 s10 s11 s12 H R :=
  goL_of_den (an := an) (fuel := 100000) (X := L2n s0 s0n s0c s1 s2 s3 s8 s9 s10 s11 s12 H R) mixed fn (by kernel_rfl) (fun ρ0 => by kernel_rfl) h
def L3n (s0 : Option Addr) (s0n : Nat) (s0c : Nat) (s1 : Int) (s2 : Int) (s3 : Int) (s8 : Bool) (s9 : Bool) (s10 : Int) (s11 : Int) (H : Heap) (R : Ending → Heap → Prop) : Prop :=
  callD Tryz.prog 51 [(.slice s0 s0n s0c), (.int .i64 s1), (.int .i64 s2)] H (panK R) fun v H1 =>
  tBool v fun b =>
  iteB b (
    R (.returned (.tuple ⟨[]⟩)) H1) <|
  L4 s0 s0n s0c s1 s2 s3 s8 s9 s10 s11 H1 R
theorem L3_step {s0 : Option Addr} {s0n : Nat} {s0c : Nat} {s1 : Int} {s2 : Int} {s3 : Int} {s8 : Bool} {s9 : Bool} {s10 : Int} {s11 : Int} {H : Heap} {R : Ending → Heap → Prop} (h : L3n s0 s0n s0c s1 s2 s3 s8 s9 s10 s11 H R) : L3 s0 s0n s0c s1 s2 s3 s8 s9 s10 s11 H R :=
  goL_of_den (an := an) (fuel := 100000) (X := L3n s0 s0n s0c s1 s2 s3 s8 s9 s10 s11 H R) mixed fn (by kernel_rfl) (fun ρ0 => by kernel_rfl) h
def L4n (s0 : Option Addr) (s0n : Nat) (s0c : Nat) (s1 : Int) (s2 : Int) (s3 : Int) (s8 : Bool) (s9 : Bool) (s10 : Int) (s11 : Int) (H : Heap) (R : Ending → Heap → Prop) : Prop :=
  iteB (decide (s1 > (0 : Int))) (
    idxD s0 s0n (IntKind.wrap .i64 (s1 - (1 : Int))) fun a =>
    idxD s0 s0n s11 fun a1 =>
    ldStr H (Addr.add a (Int.toNat (IntKind.wrap .i64 (s1 - (1 : Int))) * 1)) fun s =>
    ldStr H (Addr.add a1 (Int.toNat s11 * 1)) fun s4 =>
    callD Tryz.prog 52 [(.string s), (.string s4)] H (panK R) fun v H1 =>
    tBool v fun b =>
    iteB (!b) (
      L6 s0 s0n s0c s1 s2 s3 s8 s9 s11 H1 R) <|
    L5 s0 s0n s0c s1 s2 s3 s10 s11 H1 R) <|
  L5 s0 s0n s0c s1 s2 s3 s10 s11 H R
theorem L4_step {s0 : Option Addr} {s0n : Nat} {s0c : Nat} {s1 : Int} {s2 : Int} {s3 : Int} {s8 : Bool} {s9 : Bool} {s10 : Int} {s11 : Int} {H : Heap} {R : Ending → Heap → Prop} (h : L4n s0 s0n s0c s1 s2 s3 s8 s9 s10 s11 H R) : L4 s0 s0n s0c s1 s2 s3 s8 s9 s10 s11 H R :=
  goL_of_den (an := an) (fuel := 100000) (X := L4n s0 s0n s0c s1 s2 s3 s8 s9 s10 s11 H R) mixed fn (by kernel_rfl) (fun ρ0 => by kernel_rfl) h
def L5n (s0 : Option Addr) (s0n : Nat) (s0c : Nat) (s1 : Int) (s2 : Int) (s3 : Int) (s10 : Int) (s11 : Int) (H : Heap) (R : Ending → Heap → Prop) : Prop :=
  callD Tryz.prog 54 [(.slice s0 s0n s0c), (.int .i64 s1), (.int .i64 s2), (.int .i64 s11)] H (panK R) fun v H1 =>
  tTup v fun l =>
  tCons l fun c l1 =>
  tInt c .i64 fun n =>
  tCons l1 fun c1 l2 =>
  tBool c1 fun b =>
  tNil l2 <|
  divD (8 : Int) <|
  iteB (decide ((IntKind.wrap .i64 (n - s1)) < (IntKind.wrap .i64 (s2 - n)))) (
    callD Tryz.prog 36 [(.slice s0 s0n s0c), (.int .i64 s1), (.int .i64 n), (.int .i64 s3)] H1 (panK R) fun v1 H2 =>
    tTup v1 fun l3 =>
    tNil l3 <|
    L0 s0 s0n s0c (IntKind.wrap .i64 (n + (1 : Int))) s2 s3 (decide ((IntKind.wrap .i64 (n - s1)) ≥ (IntKind.wrap .i64 (Int.tdiv s10 (8 : Int))))) b H2 R) <|
  callD Tryz.prog 36 [(.slice s0 s0n s0c), (.int .i64 (IntKind.wrap .i64 (n + (1 : Int)))), (.int .i64 s2), (.int .i64 s3)] H1 (panK R) fun v2 H3 =>
  tTup v2 fun l4 =>
  tNil l4 <|
  L0 s0 s0n s0c s1 n s3 (decide ((IntKind.wrap .i64 (s2 - n)) ≥ (IntKind.wrap .i64 (Int.tdiv s10 (8 : Int))))) b H3 R
theorem L5_step {s0 : Option Addr} {s0n : Nat} {s0c : Nat} {s1 : Int} {s2 : Int} {s3 : Int} {s10 : Int} {s11 : Int} {H : Heap} {R : Ending → Heap → Prop} (h : L5n s0 s0n s0c s1 s2 s3 s10 s11 H R) : L5 s0 s0n s0c s1 s2 s3 s10 s11 H R :=
  goL_of_den (an := an) (fuel := 100000) (X := L5n s0 s0n s0c s1 s2 s3 s10 s11 H R) mixed fn (by kernel_rfl) (fun ρ0 => by kernel_rfl) h
def L6n (s0 : Option Addr) (s0n : Nat) (s0c : Nat) (s1 : Int) (s2 : Int) (s3 : Int) (s8 : Bool) (s9 : Bool) (s11 : Int) (H : Heap) (R : Ending → Heap → Prop) : Prop :=
  callD Tryz.prog 53 [(.slice s0 s0n s0c), (.int .i64 s1), (.int .i64 s2), (.int .i64 s11)] H (panK R) fun v H1 =>
  tInt v .i64 fun n =>
  L0 s0 s0n s0c n s2 s3 s8 s9 H1 R
theorem L6_step {s0 : Option Addr} {s0n : Nat} {s0c : Nat} {s1 : Int} {s2 : Int} {s3 : Int} {s8 : Bool} {s9 : Bool} {s11 : Int} {H : Heap} {R : Ending → Heap → Prop} (h : L6n s0 s0n s0c s1 s2 s3 s8 s9 s11 H R) : L6 s0 s0n s0c s1 s2 s3 s8 s9 s11 H R :=
  goL_of_den (an := an) (fuel := 100000) (X := L6n s0 s0n s0c s1 s2 s3 s8 s9 s11 H R) mixed fn (by kernel_rfl) (fun ρ0 => by kernel_rfl) h
def go (s0 : Option Addr) (s0n : Nat) (s0c : Nat) (s1 : Int) (s2 : Int) (s3 : Int) (H : Heap) (R : Ending → Heap → Prop) : Prop :=
  L0 s0 s0n s0c s1 s2 s3 true true H R
theorem calls {s0 : Option Addr} {s0n : Nat} {s0c : Nat} {s1 : Int} {s2 : Int} {s3 : Int} {H : Heap} {R : Ending → Heap → Prop} (h : go s0 s0n s0c s1 s2 s3 H R) : CallsH Tryz.prog 36 ⟨[(.slice s0 s0n s0c), (.int .i64 s1), (.int .i64 s2), (.int .i64 s3)]⟩ H R :=
  callsH_of_den (an := an) (fuel := 100000) (X := go s0 s0n s0c s1 s2 s3 H R) (c := body) mixed fn (by kernel_rfl) (by kernel_rfl) (by kernel_rfl) ok (by kernel_rfl) h
end F36
/-! ### 38 "slices.pdqsortOrdered[int64]" -/
namespace F38
def an : Ann := { kinds := [], taus := [(17, [[0, 1, 2, 3, 4, 5, 6, 8, 9, 10, 7, 11, 12, 13, 14]])], pairs := [], lab := [(30000003, [0, 1, 2, 3, 8, 9]), (40000011, [0, 1, 2, 3, 8, 9, 10]), (40000016, [0, 1, 2, 3, 8, 9, 10, 11, 12]), (50000017, [0, 1, 2, 3, 8, 9, 10, 11]), (40000018, [0, 1, 2, 3, 8, 9, 10, 11]), (40000021, [0, 1, 2, 3, 10, 11]), (50000019, [0, 1, 2, 3, 8, 9, 11])] }
noncomputable def body : Code := (Tryz.f38.body).getD .skip
theorem fn : Tryz.prog.funcs[38]? = some Tryz.f38 := by kernel_rfl
theorem ok : codeOk an 134 body = true := by kernel_rfl
noncomputable def L0t : List Item := [.code (sub [1, 1, 0, 0] body), .inLoop (sub [1, 1, 0, 0] body), .inBlock 0]
def L0 (s0 : Option Addr) (s0n : Nat) (s0c : Nat) (s1 : Int) (s2 : Int) (s3 : Int) (s8 : Bool) (s9 : Bool) (H : Heap) (R : Ending → Heap → Prop) : Prop :=
  GoL Tryz.prog 38 134 L0t [0, 1, 2, 3, 8, 9] [(.slice s0 s0n s0c), (.int .i64 s1), (.int .i64 s2), (.int .i64 s3), (.bool s8), (.bool s9)] H R
noncomputable def L1t : List Item := [.code (sub [1, 1, 0, 0, 0, 1, 1, 1, 1] body), .inBlock 1, .inLoop (sub [1, 1, 0, 0] body), .inBlock 0]
def L1 (s0 : Option Addr) (s0n : Nat) (s0c : Nat) (s1 : Int) (s2 : Int) (s3 : Int) (s8 : Bool) (s9 : Bool) (s10 : Int) (H : Heap) (R : Ending → Heap → Prop) : Prop :=
  GoL Tryz.prog 38 134 L1t [0, 1, 2, 3, 8, 9, 10] [(.slice s0 s0n s0c), (.int .i64 s1), (.int .i64 s2), (.int .i64 s3), (.bool s8), (.bool s9), (.int .i64 s10)] H R
noncomputable def L2t : List Item := [.code (sub [1, 1, 0, 0, 0, 1, 1, 1, 1, 1, 1] body), .inBlock 1, .inLoop (sub [1, 1, 0, 0] body), .inBlock 0]
def L2 (s0 : Option Addr) (s0n : Nat) (s0c : Nat) (s1 : Int) (s2 : Int) (s3 : Int) (s8 : Bool) (s9 : Bool) (s10 : Int) (s11 : Int) (s12 : Int) (H : Heap) (R : Ending → Heap → Prop) : Prop :=
  GoL Tryz.prog 38 134 L2t [0, 1, 2, 3, 8, 9, 10, 11, 12] [(.slice s0 s0n s0c), (.int .i64 s1), (.int .i64 s2), (.int .i64 s3), (.bool s8), (.bool s9), (.int .i64 s10), (.int .i64 s11), (.int .i64 s12)] H R
noncomputable def L3t : List Item := [.code (sub [1, 1, 0, 0, 0, 1, 1, 1, 1, 1, 1, 0, 1, 0] body), .code (sub [1, 1, 0, 0, 0, 1, 1, 1, 1, 1, 1, 1] body), .inBlock 1, .inLoop (sub [1, 1, 0, 0] body), .inBlock 0]
def L3 (s0 : Option Addr) (s0n : Nat) (s0c : Nat) (s1 : Int) (s2 : Int) (s3 : Int) (s8 : Bool) (s9 : Bool) (s10 : Int) (s11 : Int) (H : Heap) (R : Ending → Heap → Prop) : Prop :=
  GoL Tryz.prog 38 134 L3t [0, 1, 2, 3, 8, 9, 10, 11] [(.slice s0 s0n s0c), (.int .i64 s1), (.int .i64 s2), (.int .i64 s3), (.bool s8), (.bool s9), (.int .i64 s10), (.int .i64 s11)] H R
noncomputable def L4t : List Item := [.code (sub [1, 1, 0, 0, 0, 1, 1, 1, 1, 1, 1, 1] body), .inBlock 1, .inLoop (sub [1, 1, 0, 0] body), .inBlock 0]
def L4 (s0 : Option Addr) (s0n : Nat) (s0c : Nat) (s1 : Int) (s2 : Int) (s3 : Int) (s8 : Bool) (s9 : Bool) (s10 : Int) (s11 : Int) (H : Heap) (R : Ending → Heap → Prop) : Prop :=
  GoL Tryz.prog 38 134 L4t [0, 1, 2, 3, 8, 9, 10, 11] [(.slice s0 s0n s0c), (.int .i64 s1), (.int .i64 s2), (.int .i64 s3), (.bool s8), (.bool s9), (.int .i64 s10), (.int .i64 s11)] H R
noncomputable def L5t : List Item := [.code (sub [1, 1, 0, 0, 0, 1, 1, 1, 1, 1, 1, 1, 1] body), .inBlock 1, .inLoop (sub [1, 1, 0, 0] body), .inBlock 0]
def L5 (s0 : Option Addr) (s0n : Nat) (s0c : Nat) (s1 : Int) (s2 : Int) (s3 : Int) (s10 : Int) (s11 : Int) (H : Heap) (R : Ending → Heap → Prop) : Prop :=
  GoL Tryz.prog 38 134 L5t [0, 1, 2, 3, 10, 11] [(.slice s0 s0n s0c), (.int .i64 s1), (.int .i64 s2), (.int .i64 s3), (.int .i64 s10), (.int .i64 s11)] H R
noncomputable def L6t : List Item := [.code (sub [1, 1, 0, 0, 0, 1, 1, 1, 1, 1, 1, 1, 0, 1, 0] body), .code (sub [1, 1, 0, 0, 0, 1, 1, 1, 1, 1, 1, 1, 1] body), .inBlock 1, .inLoop (sub [1, 1, 0, 0] body), .inBlock 0]
def L6 (s0 : Option Addr) (s0n : Nat) (s0c : Nat) (s1 : Int) (s2 : Int) (s3 : Int) (s8 : Bool) (s9 : Bool) (s11 : Int) (H : Heap) (R : Ending → Heap → Prop) : Prop :=
  GoL Tryz.prog 38 134 L6t [0, 1, 2, 3, 8, 9, 11] [(.slice s0 s0n s0c), (.int .i64 s1), (.int .i64 s2), (.int .i64 s3), (.bool s8), (.bool s9), (.int .i64 s11)] H R
def L0n (s0 : Option Addr) (s0n : Nat) (s0c : Nat) (s1 : Int) (s2 : Int) (s3 : Int) (s8 : Bool) (s9 : Bool) (H : Heap) (R : Ending → Heap → Prop) : Prop :=
  iteB (decide ((IntKind.wrap .i64 (s2 - s1)) ≤ (12 : Int))) (
    callD Tryz.prog 57 [(.slice s0 s0n s0c), (.int .i64 s1), (.int .i64 s2)] H (panK R) fun v H1 =>
    tTup v fun l =>
    tNil l <|
    R (.returned (.tuple ⟨[]⟩)) H1) <|
  iteB (s3 == (0 : Int)) (
    callD Tryz.prog 58 [(.slice s0 s0n s0c), (.int .i64 s1), (.int .i64 s2)] H (panK R) fun v1 H2 =>
    tTup v1 fun l1 =>
    tNil l1 <|
    R (.returned (.tuple ⟨[]⟩)) H2) <|
  iteB (!s8) (
    callD Tryz.prog 59 [(.slice s0 s0n s0c), (.int .i64 s1), (.int .i64 s2)] H (panK R) fun v2 H3 =>
    tTup v2 fun l2 =>
    tNil l2 <|
    L1 s0 s0n s0c s1 s2 (IntKind.wrap .i64 (s3 - (1 : Int))) s8 s9 (IntKind.wrap .i64 (s2 - s1)) H3 R) <|
  L1 s0 s0n s0c s1 s2 s3 s8 s9 (IntKind.wrap .i64 (s2 - s1)) H R
theorem L0_step {s0 : Option Addr} {s0n : Nat} {s0c : Nat} {s1 : Int} {s2 : Int} {s3 : Int} {s8 : Bool} {s9 : Bool} {H : Heap} {R : Ending → Heap → Prop} (h : L0n s0 s0n s0c s1 s2 s3 s8 s9 H R) : L0 s0 s0n s0c s1 s2 s3 s8 s9 H R :=
  goL_of_den (an := an) (fuel := 100000) (X := L0n s0 s0n s0c s1 s2 s3 s8 s9 H R) mixed fn (by kernel_rfl) (fun ρ0 => by kernel_rfl) h
def L1n (s0 : Option Addr) (s0n : Nat) (s0c : Nat) (s1 : Int) (s2 : Int) (s3 : Int) (s8 : Bool) (s9 : Bool) (s10 : Int) (H : Heap) (R : Ending → Heap → Prop) : Prop :=
  callD Tryz.prog 60 [(.slice s0 s0n s0c), (.int .i64 s1), (.int .i64 s2)] H (panK R) fun v H1 =>
  tTup v fun l =>
  tCons l fun c l1 =>
  tInt c .i64 fun n =>
  tCons l1 fun c1 l2 =>
  tInt c1 .i64 fun n1 =>
  tNil l2 <|
  iteB (n1 == (2 : Int)) (
    callD Tryz.prog 61 [(.slice s0 s0n s0c), (.int .i64 s1), (.int .i64 s2)] H1 (panK R) fun v1 H2 =>
    tTup v1 fun l3 =>
    tNil l3 <|
    L2 s0 s0n s0c s1 s2 s3 s8 s9 s10 (IntKind.wrap .i64 ((IntKind.wrap .i64 (s2 - (1 : Int))) - (IntKind.wrap .i64 (n - s1)))) (1 : Int) H2 R) <|
  L2 s0 s0n s0c s1 s2 s3 s8 s9 s10 n n1 H1 R
theorem L1_step {s0 : Option Addr} {s0n : Nat} {s0c : Nat} {s1 : Int} {s2 : Int} {s3 : Int} {s8 : Bool} {s9 : Bool} {s10 : Int} {H : Heap} {R : Ending → Heap → Prop} (h : L1n s0 s0n s0c s1 s2 s3 s8 s9 s10 H R) : L1 s0 s0n s0c s1 s2 s3 s8 s9 s10 H R :=
  goL_of_den (an := an) (fuel := 100000) (X := L1n s0 s0n s0c s1 s2 s3 s8 s9 s10 H R) mixed fn (by kernel_rfl) (fun ρ0 => by kernel_rfl) h
def L2n (s0 : Option Addr) (s0n : Nat) (s0c : Nat) (s1 : Int) (s2 : Int) (s3 : Int) (s8 : Bool) (s9 : Bool) (s10 : Int) (s11 : Int) (s12 : Int) (H : Heap) (R : Ending → Heap → Prop) : Prop :=
  iteB s8 (
    iteB s9 (
      iteB (s12 == (1 : Int)) (
        L3 s0 s0n s0c s1 s2 s3 s8 s9 s10 s11 H R) <|
      L4 s0 s0n s0c s1 s2 s3 s8 s9 s10 s11 H R) <|
    L4 s0 s0n s0c s1 s2 s3 s8 s9 s10 s11 H R) <|
  L4 s0 s0n s0c s1 s2 s3 s8 s9 s10 s11 H R
theorem L2_step {s0 : Option Addr} {s0n : Nat} {s0c : Nat} {s1 : Int} {s2 : Int} {s3 : Int} {s8 : Bool} {s9 : Bool} {s10 : Int} {s11 : Int} {s12 : Int} {H : Heap} {R : Ending → Heap → Prop} (h : L2n s0 s0n s0c s1 s2 s3 s8 s9 s10 s11 s12 H R) : L2 s0 s0n s0c s1 s2 s3 s8 s9 s10 s11 s12 H R :=
  goL_of_den (an := an) (fuel := 100000) (X := L2n s0 s0n s0c s1 s2 s3 s8 s9 s10 s11 s12 H R) mixed fn (by kernel_rfl) (fun ρ0 => by kernel_rfl) h
def L3n (s0 : Option Addr) (s0n : Nat) (s0c : Nat) (s1 : Int) (s2 : Int) (s3 : Int) (s8 : Bool) (s9 : Bool) (s10 : Int) (s11 : Int) (H : Heap) (R : Ending → Heap → Prop) : Prop :=
  callD Tryz.prog 62 [(.slice s0 s0n s0c), (.int .i64 s1), (.int .i64 s2)] H (panK R) fun v H1 =>
  tBool v fun b =>
  iteB b (
    R (.returned (.tuple ⟨[]⟩)) H1) <|
  L4 s0 s0n s0c s1 s2 s3 s8 s9 s10 s11 H1 R
theorem L3_step {s0 : Option Addr} {s0n : Nat} {s0c : Nat} {s1 : Int} {s2 : Int} {s3 : Int} {s8 : Bool} {s9 : Bool} {s10 : Int} {s11 : Int} {H : Heap} {R : Ending → Heap → Prop} (h : L3n s0 s0n s0c s1 s2 s3 s8 s9 s10 s11 H R) : L3 s0 s0n s0c s1 s2 s3 s8 s9 s10 s11 H R :=
  goL_of_den (an := an) (fuel := 100000) (X := L3n s0 s0n s0c s1 s2 s3 s8 s9 s10 s11 H R) mixed fn (by kernel_rfl) (fun ρ0 => by kernel_rfl) h
def L4n (s0 : Option Addr) (s0n : Nat) (s0c : Nat) (s1 : Int) (s2 : Int) (s3 : Int) (s8 : Bool) (s9 : Bool) (s10 : Int) (s11 : Int) (H : Heap) (R : Ending → Heap → Prop) : Prop :=
  iteB (decide (s1 > (0 : Int))) (
    idxD s0 s0n (IntKind.wrap .i64 (s1 - (1 : Int))) fun a =>
    idxD s0 s0n s11 fun a1 =>
    ldInt H (Addr.add a (Int.toNat (IntKind.wrap .i64 (s1 - (1 : Int))) * 1)) .i64 fun n =>
    ldInt H (Addr.add a1 (Int.toNat s11 * 1)) .i64 fun n1 =>
    callD Tryz.prog 63 [(.int .i64 n), (.int .i64 n1)] H (panK R) fun v H1 =>
    tBool v fun b =>
    iteB (!b) (
      L6 s0 s0n s0c s1 s2 s3 s8 s9 s11 H1 R) <|
    L5 s0 s0n s0c s1 s2 s3 s10 s11 H1 R) <|
  L5 s0 s0n s0c s1 s2 s3 s10 s11 H R
theorem L4_step {s0 : Option Addr} {s0n : Nat} {s0c : Nat} {s1 : Int} {s2 : Int} {s3 : Int} {s8 : Bool} {s9 : Bool} {s10 : Int} {s11 : Int} {H : Heap} {R : Ending → Heap → Prop} (h : L4n s0 s0n s0c s1 s2 s3 s8 s9 s10 s11 H R) : L4 s0 s0n s0c s1 s2 s3 s8 s9 s10 s11 H R :=
  goL_of_den (an := an) (fuel := 100000) (X := L4n s0 s0n s0c s1 s2 s3 s8 s9 s10 s11 H R) mixed fn (by kernel_rfl) (fun ρ0 => by kernel_rfl) h
def L5n (s0 : Option Addr) (s0n : Nat) (s0c : Nat) (s1 : Int) (s2 : Int) (s3 : Int) (s10 : Int) (s11 : Int) (H : Heap) (R : Ending → Heap → Prop) : Prop :=
  callD Tryz.prog 65 [(.slice s0 s0n s0c), (.int .i64 s1), (.int .i64 s2), (.int .i64 s11)] H (panK R) fun v H1 =>
  tTup v fun l =>
  tCons l fun c l1 =>
  tInt c .i64 fun n =>
  tCons l1 fun c1 l2 =>
  tBool c1 fun b =>
  tNil l2 <|
  divD (8 : Int) <|
  iteB (decide ((IntKind.wrap .i64 (n - s1)) < (IntKind.wrap .i64 (s2 - n)))) (
    callD Tryz.prog 38 [(.slice s0 s0n s0c), (.int .i64 s1), (.int .i64 n), (.int .i64 s3)] H1 (panK R) fun v1 H2 =>
    tTup v1 fun l3 =>
    tNil l3 <|
    L0 s0 s0n s0c (IntKind.wrap .i64 (n + (1 : Int))) s2 s3 (decide ((IntKind.wrap .i64 (n - s1)) ≥ (IntKind.wrap .i64 (Int.tdiv s10 (8 : Int))))) b H2 R) <|
  callD Tryz.prog 38 [(.slice s0 s0n s0c), (.int .i64 (IntKind.wrap .i64 (n + (1 : Int)))), (.int .i64 s2), (.int .i64 s3)] H1 (panK R) fun v2 H3 =>
  tTup v2 fun l4 =>
  tNil l4 <|
  L0 s0 s0n s0c s1 n s3 (decide ((IntKind.wrap .i64 (s2 - n)) ≥ (IntKind.wrap .i64 (Int.tdiv s10 (8 : Int))))) b H3 R
theorem L5_step {s0 : Option Addr} {s0n : Nat} {s0c : Nat} {s1 : Int} {s2 : Int} {s3 : Int} {s10 : Int} {s11 : Int} {H : Heap} {R : Ending → Heap → Prop} (h : L5n s0 s0n s0c s1 s2 s3 s10 s11 H R) : L5 s0 s0n s0c s1 s2 s3 s10 s11 H R :=
  goL_of_den (an := an) (fuel := 100000) (X := L5n s0 s0n s0c s1 s2 s3 s10 s11 H R) mixed fn (by kernel_rfl) (fun ρ0 => by kernel_rfl) h
def L6n (s0 : Option Addr) (s0n : Nat) (s0c : Nat) (s1 : Int) (s2 : Int) (s3 : Int) (s8 : Bool) (s9 : Bool) (s11 : Int) (H : Heap) (R : Ending → Heap → Prop) : Prop :=
  callD Tryz.prog 64 [(.slice s0 s0n s0c), (.int .i64 s1), (.int .i64 s2), (.int .i64 s11)] H (panK R) fun v H1 =>
  tInt v .i64 fun n =>
  L0 s0 s0n s0c n s2 s3 s8 s9 H1 R
theorem L6_step {s0 : Option Addr} {s0n : Nat} {s0c : Nat} {s1 : Int} {s2 : Int} {s3 : Int} {s8 : Bool} {s9 : Bool} {s11 : Int} {H : Heap} {R : Ending → Heap → Prop} (h : L6n s0 s0n s0c s1 s2 s3 s8 s9 s11 H R) : L6 s0 s0n s0c s1 s2 s3 s8 s9 s11 H R :=
  goL_of_den (an := an) (fuel := 100000) (X := L6n s0 s0n s0c s1 s2 s3 s8 s9 s11 H R) mixed fn (by kernel_rfl) (fun ρ0 => by kernel_rfl) h
def go (s0 : Option Addr) (s0n : Nat) (s0c : Nat) (s1 : Int) (s2 : Int) (s3 : Int) (H : Heap) (R : Ending → Heap → Prop) : Prop :=
  L0 s0 s0n s0c s1 s2 s3 true true H R
theorem calls {s0 : Option Addr} {s0n : Nat} {s0c : Nat} {s1 : Int} {s2 : Int} {s3 : Int} {H : Heap} {R : Ending → Heap → Prop} (h : go s0 s0n s0c s1 s2 s3 H R) : CallsH Tryz.prog 38 ⟨[(.slice s0 s0n s0c), (.int .i64 s1), (.int .i64 s2), (.int .i64 s3)]⟩ H R :=
  callsH_of_den (an := an) (fuel := 100000) (X := go s0 s0n s0c s1 s2 s3 H R) (c := body) mixed fn (by kernel_rfl) (by kernel_rfl) (by kernel_rfl) ok (by kernel_rfl) h
end F38
/-! ### 39 "(*pub-stadtholder/pub/etcdserver/lease.lessor).isPrimary" -/
namespace F39
def an : Ann := { kinds := [], taus := [], pairs := [], lab := [] }
noncomputable def body : Code := (Tryz.f39.body).getD .skip
theorem fn : Tryz.prog.funcs[39]? = some Tryz.f39 := by kernel_rfl
theorem ok : codeOk an 8 body = true := by kernel_rfl
def go (le : Option Addr) (H : Heap) (R : Ending → Heap → Prop) : Prop :=
  nilD le fun a =>
  ldCh H a fun m =>
  R (.returned (.bool (!(Option.isNone m)))) H
theorem calls {le : Option Addr} {H : Heap} {R : Ending → Heap → Prop} (h : go le H R) : CallsH Tryz.prog 39 ⟨[(.pointer le)]⟩ H R :=
  callsH_of_den (an := an) (fuel := 100000) (X := go le H R) (c := body) mixed fn (by kernel_rfl) (by kernel_rfl) (by kernel_rfl) ok (by kernel_rfl) h
end F39
/-! ### 40 "(*pub-stadtholder/pub/etcdserver/lease.Lease).expired" -/
namespace F40
def an : Ann := { kinds := [], taus := [], pairs := [], lab := [] }
noncomputable def body : Code := (Tryz.f40.body).getD .skip
theorem fn : Tryz.prog.funcs[40]? = some Tryz.f40 := by kernel_rfl
theorem ok : codeOk an 6 body = true := by kernel_rfl
def go (l : Option Addr) (H : Heap) (R : Ending → Heap → Prop) : Prop :=
  callD Tryz.prog 21 [(.pointer l)] H (panK R) fun v H1 =>
  tInt v .i64 fun n =>
  R (.returned (.bool (decide (n ≤ (0 : Int))))) H1
theorem calls {l : Option Addr} {H : Heap} {R : Ending → Heap → Prop} (h : go l H R) : CallsH Tryz.prog 40 ⟨[(.pointer l)]⟩ H R :=
  callsH_of_den (an := an) (fuel := 100000) (X := go l H R) (c := body) mixed fn (by kernel_rfl) (by kernel_rfl) (by kernel_rfl) ok (by kernel_rfl) h
end F40
/-! ### 41 "(*pub-stadtholder/pub/etcdserver/lease.lessor).findExpiredLeases" -/
namespace F41
def an : Ann := { kinds := [], taus := [], pairs := [], lab := [(40000003, [0, 1, 5]), (50000005, [0, 1, 5, 6, 7])] }
noncomputable def body : Code := (Tryz.f41.body).getD .skip
theorem fn : Tryz.prog.funcs[41]? = some Tryz.f41 := by kernel_rfl
theorem ok : codeOk an 32 body = true := by kernel_rfl
noncomputable def L0t : List Item := [.code (sub [1, 1, 0, 0, 0] body), .inLoop (sub [1, 1, 0, 0, 0] body), .inBlock 0, .code (sub [1, 1, 1] body)]
def L0 (le : Option Addr) (limit : Int) (leases : Option Addr) (leasesn : Nat) (leasesc : Nat) (H : Heap) (R : Ending → Heap → Prop) : Prop :=
  GoL Tryz.prog 41 32 L0t [0, 1, 5] [(.pointer le), (.int .i64 limit), (.slice leases leasesn leasesc)] H R
noncomputable def L1t : List Item := [.code (sub [1, 1, 0, 0, 0, 0, 1, 1] body), .inBlock 1, .inLoop (sub [1, 1, 0, 0, 0] body), .inBlock 0, .code (sub [1, 1, 1] body)]
def L1 (le : Option Addr) (limit : Int) (leases : Option Addr) (leasesn : Nat) (leasesc : Nat) (l : Option Addr) (next : Bool) (H : Heap) (R : Ending → Heap → Prop) : Prop :=
  GoL Tryz.prog 41 32 L1t [0, 1, 5, 6, 7] [(.pointer le), (.int .i64 limit), (.slice leases leasesn leasesc), (.pointer l), (.bool next)] H R
def L0n (le : Option Addr) (limit : Int) (leases : Option Addr) (leasesn : Nat) (leasesc : Nat) (H : Heap) (R : Ending → Heap → Prop) : Prop :=
  callD Tryz.prog 66 [(.pointer le)] H (panK R) fun v H1 =>
  tTup v fun l =>
  tCons l fun c l1 =>
  tPtr c fun p =>
  tCons l1 fun c1 l2 =>
  tBool c1 fun b =>
  tNil l2 <|
  iteB (Option.isNone p) (
    iteB (!b) (
      R (.returned (.slice leases leasesn leasesc)) H1) <|
    L1 le limit leases leasesn leasesc p b H1 R) <|
  L1 le limit leases leasesn leasesc p b H1 R
theorem L0_step {le : Option Addr} {limit : Int} {leases : Option Addr} {leasesn : Nat} {leasesc : Nat} {H : Heap} {R : Ending → Heap → Prop} (h : L0n le limit leases leasesn leasesc H R) : L0 le limit leases leasesn leasesc H R :=
  goL_of_den (an := an) (fuel := 100000) (X := L0n le limit leases leasesn leasesc H R) mixed fn (by kernel_rfl) (fun ρ0 => by kernel_rfl) h
def L1n (le : Option Addr) (limit : Int) (leases : Option Addr) (leasesn : Nat) (leasesc : Nat) (l : Option Addr) (next : Bool) (H : Heap) (R : Ending → Heap → Prop) : Prop :=
  iteB next (
    L0 le limit leases leasesn leasesc H R) <|
  callD Tryz.prog 40 [(.pointer l)] H (panK R) fun v H1 =>
  tBool v fun b =>
  iteB b (
    newD H1 (.cells ⟨[(.pointer l)]⟩ 84) fun r H2 =>
    apD H2 1 8 [(.pointer none)] 84 leases leasesn leasesc (some ⟨r, 0, none⟩) 1 fun q qn qc H3 =>
    iteB (((qn : Nat) : Int) == limit) (
      R (.returned (.slice q qn qc)) H3) <|
    L0 le limit q qn qc H3 R) <|
  L0 le limit leases leasesn leasesc H1 R
theorem L1_step {le : Option Addr} {limit : Int} {leases : Option Addr} {leasesn : Nat} {leasesc : Nat} {l : Option Addr} {next : Bool} {H : Heap} {R : Ending → Heap → Prop} (h : L1n le limit leases leasesn leasesc l next H R) : L1 le limit leases leasesn leasesc l next H R :=
  goL_of_den (an := an) (fuel := 100000) (X := L1n le limit leases leasesn leasesc l next H R) mixed fn (by kernel_rfl) (fun ρ0 => by kernel_rfl) h
def go (le : Option Addr) (limit : Int) (H : Heap) (R : Ending → Heap → Prop) : Prop :=
  mkD H 8 [(.pointer none)] 84 (0 : Int) (16 : Int) fun r k c H1 =>
  L0 le limit (some ⟨r, 0, none⟩) k c H1 R
theorem calls {le : Option Addr} {limit : Int} {H : Heap} {R : Ending → Heap → Prop} (h : go le limit H R) : CallsH Tryz.prog 41 ⟨[(.pointer le), (.int .i64 limit)]⟩ H R :=
  callsH_of_den (an := an) (fuel := 100000) (X := go le limit H R) (c := body) mixed fn (by kernel_rfl) (by kernel_rfl) (by kernel_rfl) ok (by kernel_rfl) h
end F41
/-! ### 44 "pub-stadtholder/pub/etcdserver/lease.newLeaseExpiredNotifier" -/
namespace F44
def an : Ann := { kinds := [], taus := [], pairs := [], lab := [] }
noncomputable def body : Code := (Tryz.f44.body).getD .skip
theorem fn : Tryz.prog.funcs[44]? = some Tryz.f44 := by kernel_rfl
theorem ok : codeOk an 5 body = true := by kernel_rfl
def go  (H : Heap) (R : Ending → Heap → Prop) : Prop :=
  newD H (.map #[] 0) fun r H1 =>
  mkD H1 8 [(.pointer none)] 189 (0 : Int) (0 : Int) fun r1 k c H2 =>
  newD H2 (.cells ⟨[(.map (some r)), (.slice (some ⟨r1, 0, none⟩) k c)]⟩ 207) fun r2 H3 =>
  R (.returned (.pointer (some ⟨r2, 0, none⟩))) H3
theorem calls  {H : Heap} {R : Ending → Heap → Prop} (h : go  H R) : CallsH Tryz.prog 44 ⟨[]⟩ H R :=
  callsH_of_den (an := an) (fuel := 100000) (X := go  H R) (c := body) mixed fn (by kernel_rfl) (by kernel_rfl) (by kernel_rfl) ok (by kernel_rfl) h
end F44
/-! ### 45 "(*pub-stadtholder/pub/etcdserver/lease.lessor).initAndRecover" -/
namespace F45
def an : Ann := { kinds := [(11003, .pure), (11009, .pure), (11010, .pure), (11014, .pure), (11016, .pure), (11020, .pure), (11022, .pure), (11023, .pure)], taus := [(9, [[0, 1, 2, 4, 5, 6, 3, 7, 8]]), (11, [[10, 0, 1, 2, 3, 4, 5, 6, 7, 8, 9, 11, 12, 13, 14, 15, 16, 17, 18, 19, 20, 21, 22, 23]])], pairs := [], lab := [(40000007, [0, 20, 21, 22]), (60000012, [0, 5, 6, 20, 21, 22])] }
noncomputable def body : Code := (Tryz.f45.body).getD .skip
theorem fn : Tryz.prog.funcs[45]? = some Tryz.f45 := by kernel_rfl
theorem ok : codeOk an 85 body = true := by kernel_rfl
noncomputable def L0t : List Item := [.code (sub [1, 1, 1, 1, 1, 0, 1, 0, 0] body), .inLoop (sub [1, 1, 1, 1, 1, 0, 1, 0, 0] body), .inBlock 0, .code (sub [1, 1, 1, 1, 1, 1] body)]
def L0 (s0 : Option Addr) (s20 : Option Addr) (s20n : Nat) (s20c : Nat) (s21 : Int) (s22 : Int) (H : Heap) (R : Ending → Heap → Prop) : Prop :=
  GoL Tryz.prog 45 85 L0t [0, 20, 21, 22] [(.pointer s0), (.slice s20 s20n s20c), (.int .i64 s21), (.int .i64 s22)] H R
noncomputable def L1t : List Item := [.code (sub [1, 1, 1, 1, 1, 0, 1, 0, 0, 1, 1, 0, 0, 1, 1, 1] body), .inBlock 1, .code (sub [1, 1, 1, 1, 1, 0, 1, 0, 0, 1, 1, 1] body), .inLoop (sub [1, 1, 1, 1, 1, 0, 1, 0, 0] body), .inBlock 0, .code (sub [1, 1, 1, 1, 1, 1] body)]
def L1 (s0 : Option Addr) (s5 : Option Addr) (s6 : Int) (s20 : Option Addr) (s20n : Nat) (s20c : Nat) (s21 : Int) (s22 : Int) (H : Heap) (R : Ending → Heap → Prop) : Prop :=
  GoL Tryz.prog 45 85 L1t [0, 5, 6, 20, 21, 22] [(.pointer s0), (.pointer s5), (.int .i64 s6), (.slice s20 s20n s20c), (.int .i64 s21), (.int .i64 s22)] H R
def L0n (s0 : Option Addr) (s20 : Option Addr) (s20n : Nat) (s20c : Nat) (s21 : Int) (s22 : Int) (H : Heap) (R : Ending → Heap → Prop) : Prop :=
  iteB (decide (s22 < s21)) (
    idxD s20 s20n s22 fun a =>
    ldPtr H (Addr.add a (Int.toNat s22 * 1)) fun p =>
    nilD p fun a1 =>
    ldInt H a1 .i64 fun n =>
    nilD p fun a2 =>
    nilD s0 fun a3 =>
    ldInt H (Addr.add a2 1) .i64 fun n1 =>
    ldInt H (Addr.add a3 8) .i64 fun n2 =>
    iteB (decide (n1 < n2)) (
      nilD s0 fun a4 =>
      ldInt H (Addr.add a4 8) .i64 fun n3 =>
      nilD p fun a5 =>
      st1 H (Addr.add a5 1) (.int .i64 n3) fun H1 =>
      L1 s0 p n s20 s20n s20c s21 s22 H1 R) <|
    L1 s0 p n s20 s20n s20c s21 s22 H R) <|
  nilD s0 fun a6 =>
  ldPtr H (Addr.add a6 2) fun p1 =>
  callD Tryz.prog 76 [(.pointer p1)] H (panK R) fun v H2 =>
  tTup v fun l =>
  tNil l <|
  nilD s0 fun a7 =>
  callD Tryz.prog 77 [(.iface 194 (.pointer (some (Addr.add a7 3))))] H2 (panK R) fun v1 H3 =>
  tTup v1 fun l1 =>
  tNil l1 <|
  nilD s0 fun a8 =>
  ldIf H3 (Addr.add a8 7) fun i =>
  callI Tryz.prog (IV.v i) "ForceCommit" [] H3 (panK R) fun v2 H4 =>
  tTup v2 fun l2 =>
  tNil l2 <|
  R (.returned (.tuple ⟨[]⟩)) H4
theorem L0_step {s0 : Option Addr} {s20 : Option Addr} {s20n : Nat} {s20c : Nat} {s21 : Int} {s22 : Int} {H : Heap} {R : Ending → Heap → Prop} (h : L0n s0 s20 s20n s20c s21 s22 H R) : L0 s0 s20 s20n s20c s21 s22 H R :=
  goL_of_den (an := an) (fuel := 100000) (X := L0n s0 s20 s20n s20c s21 s22 H R) mixed fn (by kernel_rfl) (fun ρ0 => by kernel_rfl) h
def L1n (s0 : Option Addr) (s5 : Option Addr) (s6 : Int) (s20 : Option Addr) (s20n : Nat) (s20c : Nat) (s21 : Int) (s22 : Int) (H : Heap) (R : Ending → Heap → Prop) : Prop :=
  False
theorem L1_step {s0 : Option Addr} {s5 : Option Addr} {s6 : Int} {s20 : Option Addr} {s20n : Nat} {s20c : Nat} {s21 : Int} {s22 : Int} {H : Heap} {R : Ending → Heap → Prop} (h : L1n s0 s5 s6 s20 s20n s20c s21 s22 H R) : L1 s0 s5 s6 s20 s20n s20c s21 s22 H R :=
  goL_of_den (an := an) (fuel := 100000) (X := L1n s0 s5 s6 s20 s20n s20c s21 s22 H R) mixed fn (by kernel_rfl) (fun ρ0 => by kernel_rfl) h
def go (s0 : Option Addr) (H : Heap) (R : Ending → Heap → Prop) : Prop :=
  nilD s0 fun a =>
  ldIf H (Addr.add a 7) fun i =>
  callI Tryz.prog (IV.v i) "BatchTx" [] H (panK R) fun v H1 =>
  tIf v fun i1 =>
  callI Tryz.prog (IV.v i1) "LockOutsideApply" [] H1 (panK R) fun v1 H2 =>
  tTup v1 fun l =>
  tNil l <|
  callD Tryz.prog 74 [(IV.v i1)] H2 (panK R) fun v2 H3 =>
  tTup v2 fun l1 =>
  tNil l1 <|
  callD Tryz.prog 75 [(IV.v i1)] H3 (panK R) fun v3 H4 =>
  tSl v3 fun q qn qc =>
  callI Tryz.prog (IV.v i1) "Unlock" [] H4 (panK R) fun v4 H5 =>
  tTup v4 fun l2 =>
  tNil l2 <|
  L0 s0 q qn qc ((qn : Nat) : Int) (0 : Int) H5 R
theorem calls {s0 : Option Addr} {H : Heap} {R : Ending → Heap → Prop} (h : go s0 H R) : CallsH Tryz.prog 45 ⟨[(.pointer s0)]⟩ H R :=
  callsH_of_den (an := an) (fuel := 100000) (X := go s0 H R) (c := body) mixed fn (by kernel_rfl) (by kernel_rfl) (by kernel_rfl) ok (by kernel_rfl) h
end F45
/-! ### 66 "(*pub-stadtholder/pub/etcdserver/lease.lessor).expireExists" -/
namespace F66
def an : Ann := { kinds := [(4008, .heavy 0)], taus := [(4, [[0, 1, 2, 4, 5, 6, 3, 7, 8, 9]]), (9, [[1, 2, 3, 0, 4, 5]]), (11, [[0, 2, 3, 4, 1, 5, 6, 7, 8, 9]])], pairs := [], lab := [] }
noncomputable def body : Code := (Tryz.f66.body).getD .skip
theorem fn : Tryz.prog.funcs[66]? = some Tryz.f66 := by kernel_rfl
theorem ok : codeOk an 60 body = true := by kernel_rfl
def go (le : Option Addr) (H : Heap) (R : Ending → Heap → Prop) : Prop :=
  nilD le fun a =>
  ldPtr H (Addr.add a 2) fun p =>
  callD Tryz.prog 88 [(.pointer p)] H (panK R) fun v H1 =>
  tInt v .i64 fun n =>
  iteB (n == (0 : Int)) (
    R (.returned (.tuple ⟨[(.pointer none), (.bool false)]⟩)) H1) <|
  nilD le fun a1 =>
  ldPtr H1 (Addr.add a1 2) fun p1 =>
  callD Tryz.prog 89 [(.pointer p1)] H1 (panK R) fun v1 H2 =>
  tPtr v1 fun p2 =>
  nilD le fun a2 =>
  nilD p2 fun a3 =>
  ldMap H2 (Addr.add a2 1) fun m =>
  ldInt H2 a3 .i64 fun n1 =>
  valD Tryz.prog (Instr.lookup 128 (.map m) (.int .i64 n1) false) H2 (panK R) fun v2 H3 =>
  tPtr v2 fun p3 =>
  iteB (Option.isNone p3) (
    nilD le fun a4 =>
    ldPtr H3 (Addr.add a4 2) fun p4 =>
    callD Tryz.prog 90 [(.pointer p4)] H3 (panK R) fun v3 H4 =>
    tPtr v3 fun p5 =>
    R (.returned (.tuple ⟨[(.pointer none), (.bool true)]⟩)) H4) <|
  nilD le fun a5 =>
  ldPtr H3 (Addr.add a5 17) fun p6 =>
  callD Tryz.prog 35 [(.pointer p6)] H3 (panK R) fun v4 H5 =>
  tAgg v4 fun l =>
  tCons l fun c l1 =>
  tInt c .i64 fun n2 =>
  tCons l1 fun c1 l2 =>
  tInt c1 .i64 fun n3 =>
  tCons l2 fun c2 l3 =>
  tBool c2 fun b =>
  tNil l3 <|
  newD H5 (.cells ⟨[(.int .i64 (0 : Int)), (.int .i64 (0 : Int)), (.bool false)]⟩ 42) fun r H6 =>
  st1 H6 ⟨r, 0, none⟩ (.int .i64 n2) fun H7 =>
  st1 H7 ⟨r, 1, none⟩ (.int .i64 n3) fun H8 =>
  st1 H8 ⟨r, 2, none⟩ (.bool b) fun H9 =>
  nilD p2 fun a6 =>
  ldInt H9 ⟨r, 0, none⟩ .i64 fun n4 =>
  ldInt H9 ⟨r, 1, none⟩ .i64 fun n5 =>
  ldBool H9 ⟨r, 2, none⟩ fun b1 =>
  ldInt H9 (Addr.add a6 1) .i64 fun n6 =>
  ldInt H9 (Addr.add (Addr.add a6 1) 1) .i64 fun n7 =>
  ldBool H9 (Addr.add (Addr.add a6 1) 2) fun b2 =>
  callD Tryz.prog 70 [(.agg ⟨[(.int .i64 n4), (.int .i64 n5), (.bool b1)]⟩), (.agg ⟨[(.int .i64 n6), (.int .i64 n7), (.bool b2)]⟩)] H9 (panK R) fun v5 H10 =>
  tBool v5 fun b3 =>
  iteB b3 (
    R (.returned (.tuple ⟨[(.pointer none), (.bool false)]⟩)) H10) <|
  nilD le fun a7 =>
  ldInt H10 ⟨r, 0, none⟩ .i64 fun n8 =>
  ldInt H10 ⟨r, 1, none⟩ .i64 fun n9 =>
  ldBool H10 ⟨r, 2, none⟩ fun b4 =>
  ldInt H10 (Addr.add a7 15) .i64 fun n10 =>
  callD Tryz.prog 13 [(.agg ⟨[(.int .i64 n8), (.int .i64 n9), (.bool b4)]⟩), (.int .i64 n10)] H10 (panK R) fun v6 H11 =>
  tAgg v6 fun l4 =>
  tCons l4 fun c3 l5 =>
  tInt c3 .i64 fun n11 =>
  tCons l5 fun c4 l6 =>
  tInt c4 .i64 fun n12 =>
  tCons l6 fun c5 l7 =>
  tBool c5 fun b5 =>
  tNil l7 <|
  nilD p2 fun a8 =>
  st1 H11 (Addr.add a8 1) (.int .i64 n11) fun H12 =>
  st1 H12 (Addr.add (Addr.add a8 1) 1) (.int .i64 n12) fun H13 =>
  st1 H13 (Addr.add (Addr.add a8 1) 2) (.bool b5) fun H14 =>
  nilD le fun a9 =>
  ldPtr H14 (Addr.add a9 2) fun p7 =>
  callD Tryz.prog 91 [(.pointer p7), (.pointer p2)] H14 (panK R) fun v7 H15 =>
  tTup v7 fun l8 =>
  tNil l8 <|
  R (.returned (.tuple ⟨[(.pointer p3), (.bool false)]⟩)) H15
theorem calls {le : Option Addr} {H : Heap} {R : Ending → Heap → Prop} (h : go le H R) : CallsH Tryz.prog 66 ⟨[(.pointer le)]⟩ H R :=
  callsH_of_den (an := an) (fuel := 100000) (X := go le H R) (c := body) mixed fn (by kernel_rfl) (by kernel_rfl) (by kernel_rfl) ok (by kernel_rfl) h
end F66
/-! ### 74 "pub-stadtholder/pub/etcdserver/storage/schema.UnsafeCreateLeaseBucket" -/
namespace F74
def an : Ann := { kinds := [], taus := [(0, [[0, 2, 3, 4, 1, 5]])], pairs := [], lab := [] }
noncomputable def body : Code := (Tryz.f74.body).getD .skip
theorem fn : Tryz.prog.funcs[74]? = some Tryz.f74 := by kernel_rfl
theorem ok : codeOk an 8 body = true := by kernel_rfl
def go (tx : IV) (H : Heap) (R : Ending → Heap → Prop) : Prop :=
  nilM Tryz.prog "UnsafeCreateBucket" ⟨[(IV.v tx)]⟩ <|
  callD Tryz.prog 98 [] H (panK R) fun v H1 =>
  tIf v fun i =>
  callI Tryz.prog (IV.v tx) "UnsafeCreateBucket" [(IV.v i)] H1 (panK R) fun v1 H2 =>
  tTup v1 fun l =>
  tNil l <|
  R (.returned (.tuple ⟨[]⟩)) H2
theorem calls {tx : IV} {H : Heap} {R : Ending → Heap → Prop} (h : go tx H R) : CallsH Tryz.prog 74 ⟨[(IV.v tx)]⟩ H R :=
  callsH_of_den (an := an) (fuel := 100000) (X := go tx H R) (c := body) mixed fn (by kernel_rfl) (by kernel_rfl) (by kernel_rfl) ok (by kernel_rfl) h
end F74
/-! ### 75 "pub-stadtholder/pub/etcdserver/storage/schema.MustUnsafeGetAllLeases" -/
namespace F75
def an : Ann := { kinds := [], taus := [(2, [[0, 2, 3, 4, 5, 1, 6, 7]])], pairs := [], lab := [] }
noncomputable def body : Code := (Tryz.f75.body).getD .skip
theorem fn : Tryz.prog.funcs[75]? = some Tryz.f75 := by kernel_rfl
theorem ok : codeOk an 17 body = true := by kernel_rfl
def go (tx : IV) (H : Heap) (R : Ending → Heap → Prop) : Prop :=
  mkD H 8 [(.pointer none)] 211 (0 : Int) (0 : Int) fun r k c H1 =>
  newD H1 (.cells ⟨[(.slice none 0 0)]⟩ 209) fun r1 H2 =>
  st1 H2 ⟨r1, 0, none⟩ (.slice (some ⟨r, 0, none⟩) k c) fun H3 =>
  nilM Tryz.prog "UnsafeForEach" ⟨[(IV.v tx)]⟩ <|
  callD Tryz.prog 98 [] H3 (panK R) fun v H4 =>
  tIf v fun i =>
  callI Tryz.prog (IV.v tx) "UnsafeForEach" [(IV.v i), (.func (.func 99) ⟨[]⟩ ⟨[(.pointer (some ⟨r1, 0, none⟩))]⟩)] H4 (panK R) fun v1 H5 =>
  tIf v1 fun i1 =>
  ifNilD (IV.v i1) fun b =>
  iteB (!b) (
    panD (IV.v i1) H5 (panK R)) <|
  ldSl H5 ⟨r1, 0, none⟩ fun q qn qc =>
  R (.returned (.slice q qn qc)) H5
theorem calls {tx : IV} {H : Heap} {R : Ending → Heap → Prop} (h : go tx H R) : CallsH Tryz.prog 75 ⟨[(IV.v tx)]⟩ H R :=
  callsH_of_den (an := an) (fuel := 100000) (X := go tx H R) (c := body) mixed fn (by kernel_rfl) (by kernel_rfl) (by kernel_rfl) ok (by kernel_rfl) h
end F75
/-! ### 76 "(*pub-stadtholder/pub/etcdserver/lease.LeaseExpiredNotifier).Init" -/
namespace F76
def an : Ann := { kinds := [(5009, .heavy 0)], taus := [(5, [[0, 1, 2, 4, 5, 6, 8, 3, 7, 9]])], pairs := [], lab := [(30000004, [0, 16, 17, 18])] }
noncomputable def body : Code := (Tryz.f76.body).getD .skip
theorem fn : Tryz.prog.funcs[76]? = some Tryz.f76 := by kernel_rfl
theorem ok : codeOk an 32 body = true := by kernel_rfl
noncomputable def L0t : List Item := [.code (sub [1, 1, 1, 0, 0] body), .inLoop (sub [1, 1, 1, 0, 0] body), .inBlock 0]
def L0 (mq : Option Addr) (s16 : Option Addr) (s16n : Nat) (s16c : Nat) (s17 : Int) (s18 : Int) (H : Heap) (R : Ending → Heap → Prop) : Prop :=
  GoL Tryz.prog 76 32 L0t [0, 16, 17, 18] [(.pointer mq), (.slice s16 s16n s16c), (.int .i64 s17), (.int .i64 s18)] H R
def L0n (mq : Option Addr) (s16 : Option Addr) (s16n : Nat) (s16c : Nat) (s17 : Int) (s18 : Int) (H : Heap) (R : Ending → Heap → Prop) : Prop :=
  iteB (decide (s18 < s17)) (
    idxD s16 s16n s18 fun a =>
    ldPtr H (Addr.add a (Int.toNat s18 * 1)) fun p =>
    nilD mq fun a1 =>
    nilD p fun a2 =>
    ldMap H a1 fun m =>
    ldInt H a2 .i64 fun n =>
    uniD Tryz.prog (Instr.mapUpdate 205 (.map m) (.int .i64 n) (.pointer p)) H (panK R) fun H1 =>
    L0 mq s16 s16n s16c s17 (IntKind.wrap .i64 (s18 + (1 : Int))) H1 R) <|
  R (.returned (.tuple ⟨[]⟩)) H
theorem L0_step {mq : Option Addr} {s16 : Option Addr} {s16n : Nat} {s16c : Nat} {s17 : Int} {s18 : Int} {H : Heap} {R : Ending → Heap → Prop} (h : L0n mq s16 s16n s16c s17 s18 H R) : L0 mq s16 s16n s16c s17 s18 H R :=
  goL_of_den (an := an) (fuel := 100000) (X := L0n mq s16 s16n s16c s17 s18 H R) mixed fn (by kernel_rfl) (fun ρ0 => by kernel_rfl) h
def go (mq : Option Addr) (H : Heap) (R : Ending → Heap → Prop) : Prop :=
  nilD mq fun a =>
  callD Tryz.prog 77 [(.iface 194 (.pointer (some (Addr.add a 1))))] H (panK R) fun v H1 =>
  tTup v fun l =>
  tNil l <|
  newD H1 (.map #[] 0) fun r H2 =>
  nilD mq fun a1 =>
  st1 H2 a1 (.map (some r)) fun H3 =>
  nilD mq fun a2 =>
  ldSl H3 (Addr.add a2 1) fun q qn qc =>
  L0 mq q qn qc ((qn : Nat) : Int) (0 : Int) H3 R
theorem calls {mq : Option Addr} {H : Heap} {R : Ending → Heap → Prop} (h : go mq H R) : CallsH Tryz.prog 76 ⟨[(.pointer mq)]⟩ H R :=
  callsH_of_den (an := an) (fuel := 100000) (X := go mq H R) (c := body) mixed fn (by kernel_rfl) (by kernel_rfl) (by kernel_rfl) ok (by kernel_rfl) h
end F76
/-! ### 77 "container/heap.Init" -/
namespace F77
def an : Ann := { kinds := [], taus := [], pairs := [], lab := [(30000003, [0, 2, 3])] }
noncomputable def body : Code := (Tryz.f77.body).getD .skip
theorem fn : Tryz.prog.funcs[77]? = some Tryz.f77 := by kernel_rfl
theorem ok : codeOk an 17 body = true := by kernel_rfl
noncomputable def L0t : List Item := [.code (sub [1, 1, 0, 0] body), .inLoop (sub [1, 1, 0, 0] body), .inBlock 0]
def L0 (h1 : IV) (n : Int) (i : Int) (H : Heap) (R : Ending → Heap → Prop) : Prop :=
  GoL Tryz.prog 77 17 L0t [0, 2, 3] [(IV.v h1), (.int .i64 n), (.int .i64 i)] H R
def L0n (h1 : IV) (n : Int) (i : Int) (H : Heap) (R : Ending → Heap → Prop) : Prop :=
  iteB (decide (i ≥ (0 : Int))) (
    callD Tryz.prog 92 [(IV.v h1), (.int .i64 i), (.int .i64 n)] H (panK R) fun v H1 =>
    tBool v fun b =>
    L0 h1 n (IntKind.wrap .i64 (i - (1 : Int))) H1 R) <|
  R (.returned (.tuple ⟨[]⟩)) H
theorem L0_step {h1 : IV} {n : Int} {i : Int} {H : Heap} {R : Ending → Heap → Prop} (h : L0n h1 n i H R) : L0 h1 n i H R :=
  goL_of_den (an := an) (fuel := 100000) (X := L0n h1 n i H R) mixed fn (by kernel_rfl) (fun ρ0 => by kernel_rfl) h
def go (h1 : IV) (H : Heap) (R : Ending → Heap → Prop) : Prop :=
  callI Tryz.prog (IV.v h1) "Len" [] H (panK R) fun v H1 =>
  tInt v .i64 fun n =>
  divD (2 : Int) <|
  L0 h1 n (IntKind.wrap .i64 ((IntKind.wrap .i64 (Int.tdiv n (2 : Int))) - (1 : Int))) H1 R
theorem calls {h1 : IV} {H : Heap} {R : Ending → Heap → Prop} (h : go h1 H R) : CallsH Tryz.prog 77 ⟨[(IV.v h1)]⟩ H R :=
  callsH_of_den (an := an) (fuel := 100000) (X := go h1 H R) (c := body) mixed fn (by kernel_rfl) (by kernel_rfl) (by kernel_rfl) ok (by kernel_rfl) h
end F77
/-! ### 91 "(*pub-stadtholder/pub/etcdserver/lease.LeaseExpiredNotifier).RegisterOrUpdate" -/
namespace F91
def an : Ann := { kinds := [(8, .heavy 0), (5009, .heavy 0)], taus := [(0, [[0, 1, 2, 4, 5, 6, 3, 7, 8, 9, 10, 11, 12, 13]]), (3, [[0, 1, 2, 3, 4, 5, 6, 7, 8]]), (5, [[0, 1, 2, 4, 5, 6, 8, 3, 7, 9]])], pairs := [], lab := [] }
noncomputable def body : Code := (Tryz.f91.body).getD .skip
theorem fn : Tryz.prog.funcs[91]? = some Tryz.f91 := by kernel_rfl
theorem ok : codeOk an 51 body = true := by kernel_rfl
def go (mq : Option Addr) (item : Option Addr) (H : Heap) (R : Ending → Heap → Prop) : Prop :=
  nilD mq fun a =>
  nilD item fun a1 =>
  ldMap H a fun m =>
  ldInt H a1 .i64 fun n =>
  valD Tryz.prog (Instr.lookup 205 (.map m) (.int .i64 n) true) H (panK R) fun v H1 =>
  tTup v fun l =>
  tCons l fun c l1 =>
  tPtr c fun p =>
  tCons l1 fun c1 l2 =>
  tBool c1 fun b =>
  tNil l2 <|
  iteB b (
    nilD item fun a2 =>
    ldInt H1 (Addr.add a2 1) .i64 fun n1 =>
    ldInt H1 (Addr.add (Addr.add a2 1) 1) .i64 fun n2 =>
    ldBool H1 (Addr.add (Addr.add a2 1) 2) fun b1 =>
    nilD p fun a3 =>
    st1 H1 (Addr.add a3 1) (.int .i64 n1) fun H2 =>
    st1 H2 (Addr.add (Addr.add a3 1) 1) (.int .i64 n2) fun H3 =>
    st1 H3 (Addr.add (Addr.add a3 1) 2) (.bool b1) fun H4 =>
    nilD mq fun a4 =>
    nilD p fun a5 =>
    ldInt H4 (Addr.add a5 4) .i64 fun n3 =>
    callD Tryz.prog 103 [(.iface 194 (.pointer (some (Addr.add a4 1)))), (.int .i64 n3)] H4 (panK R) fun v1 H5 =>
    tTup v1 fun l3 =>
    tNil l3 <|
    R (.returned (.tuple ⟨[]⟩)) H5) <|
  nilD mq fun a6 =>
  callD Tryz.prog 104 [(.iface 194 (.pointer (some (Addr.add a6 1)))), (.iface 189 (.pointer item))] H1 (panK R) fun v2 H6 =>
  tTup v2 fun l4 =>
  tNil l4 <|
  nilD mq fun a7 =>
  nilD item fun a8 =>
  ldMap H6 a7 fun m1 =>
  ldInt H6 a8 .i64 fun n4 =>
  uniD Tryz.prog (Instr.mapUpdate 205 (.map m1) (.int .i64 n4) (.pointer item)) H6 (panK R) fun H7 =>
  R (.returned (.tuple ⟨[]⟩)) H7
theorem calls {mq : Option Addr} {item : Option Addr} {H : Heap} {R : Ending → Heap → Prop} (h : go mq item H R) : CallsH Tryz.prog 91 ⟨[(.pointer mq), (.pointer item)]⟩ H R :=
  callsH_of_den (an := an) (fuel := 100000) (X := go mq item H R) (c := body) mixed fn (by kernel_rfl) (by kernel_rfl) (by kernel_rfl) ok (by kernel_rfl) h
end F91
/-! ### 92 "container/heap.down" -/
namespace F92
def an : Ann := { kinds := [], taus := [], pairs := [], lab := [(40000003, [0, 1, 2, 7]), (50000005, [0, 1, 2, 7, 8]), (60000008, [0, 1, 2, 7, 10]), (50000009, [0, 1, 2, 7, 9])] }
noncomputable def body : Code := (Tryz.f92.body).getD .skip
theorem fn : Tryz.prog.funcs[92]? = some Tryz.f92 := by kernel_rfl
theorem ok : codeOk an 48 body = true := by kernel_rfl
noncomputable def L0t : List Item := [.code (sub [1, 1, 0, 0, 0] body), .inLoop (sub [1, 1, 0, 0, 0] body), .inBlock 0, .code (sub [1, 1, 1] body)]
def L0 (h1 : IV) (i0 : Int) (n : Int) (i : Int) (H : Heap) (R : Ending → Heap → Prop) : Prop :=
  GoL Tryz.prog 92 48 L0t [0, 1, 2, 7] [(IV.v h1), (.int .i64 i0), (.int .i64 n), (.int .i64 i)] H R
noncomputable def L1t : List Item := [.code (sub [1, 1, 0, 0, 0, 0, 1, 1] body), .inBlock 1, .inLoop (sub [1, 1, 0, 0, 0] body), .inBlock 0, .code (sub [1, 1, 1] body)]
def L1 (h1 : IV) (i0 : Int) (n : Int) (i : Int) (j1 : Int) (H : Heap) (R : Ending → Heap → Prop) : Prop :=
  GoL Tryz.prog 92 48 L1t [0, 1, 2, 7, 8] [(IV.v h1), (.int .i64 i0), (.int .i64 n), (.int .i64 i), (.int .i64 j1)] H R
noncomputable def L2t : List Item := [.code (sub [1, 1, 0, 0, 0, 0, 1, 1, 1, 0, 1, 1, 0] body), .code (sub [1, 1, 0, 0, 0, 0, 1, 1, 1, 1] body), .inBlock 1, .inLoop (sub [1, 1, 0, 0, 0] body), .inBlock 0, .code (sub [1, 1, 1] body)]
def L2 (h1 : IV) (i0 : Int) (n : Int) (i : Int) (j2 : Int) (H : Heap) (R : Ending → Heap → Prop) : Prop :=
  GoL Tryz.prog 92 48 L2t [0, 1, 2, 7, 10] [(IV.v h1), (.int .i64 i0), (.int .i64 n), (.int .i64 i), (.int .i64 j2)] H R
noncomputable def L3t : List Item := [.code (sub [1, 1, 0, 0, 0, 0, 1, 1, 1, 1] body), .inBlock 1, .inLoop (sub [1, 1, 0, 0, 0] body), .inBlock 0, .code (sub [1, 1, 1] body)]
def L3 (h1 : IV) (i0 : Int) (n : Int) (i : Int) (j : Int) (H : Heap) (R : Ending → Heap → Prop) : Prop :=
  GoL Tryz.prog 92 48 L3t [0, 1, 2, 7, 9] [(IV.v h1), (.int .i64 i0), (.int .i64 n), (.int .i64 i), (.int .i64 j)] H R
def L0n (h1 : IV) (i0 : Int) (n : Int) (i : Int) (H : Heap) (R : Ending → Heap → Prop) : Prop :=
  iteB (decide ((IntKind.wrap .i64 ((IntKind.wrap .i64 ((2 : Int) * i)) + (1 : Int))) ≥ n)) (
    R (.returned (.bool (decide (i > i0)))) H) <|
  iteB (decide ((IntKind.wrap .i64 ((IntKind.wrap .i64 ((2 : Int) * i)) + (1 : Int))) < (0 : Int))) (
    R (.returned (.bool (decide (i > i0)))) H) <|
  L1 h1 i0 n i (IntKind.wrap .i64 ((IntKind.wrap .i64 ((2 : Int) * i)) + (1 : Int))) H R
theorem L0_step {h1 : IV} {i0 : Int} {n : Int} {i : Int} {H : Heap} {R : Ending → Heap → Prop} (h : L0n h1 i0 n i H R) : L0 h1 i0 n i H R :=
  goL_of_den (an := an) (fuel := 100000) (X := L0n h1 i0 n i H R) mixed fn (by kernel_rfl) (fun ρ0 => by kernel_rfl) h
def L1n (h1 : IV) (i0 : Int) (n : Int) (i : Int) (j1 : Int) (H : Heap) (R : Ending → Heap → Prop) : Prop :=
  iteB (decide ((IntKind.wrap .i64 (j1 + (1 : Int))) < n)) (
    callI Tryz.prog (IV.v h1) "Less" [(.int .i64 (IntKind.wrap .i64 (j1 + (1 : Int)))), (.int .i64 j1)] H (panK R) fun v H1 =>
    tBool v fun b =>
    iteB b (
      L2 h1 i0 n i (IntKind.wrap .i64 (j1 + (1 : Int))) H1 R) <|
    L3 h1 i0 n i j1 H1 R) <|
  L3 h1 i0 n i j1 H R
theorem L1_step {h1 : IV} {i0 : Int} {n : Int} {i : Int} {j1 : Int} {H : Heap} {R : Ending → Heap → Prop} (h : L1n h1 i0 n i j1 H R) : L1 h1 i0 n i j1 H R :=
  goL_of_den (an := an) (fuel := 100000) (X := L1n h1 i0 n i j1 H R) mixed fn (by kernel_rfl) (fun ρ0 => by kernel_rfl) h
def L2n (h1 : IV) (i0 : Int) (n : Int) (i : Int) (j2 : Int) (H : Heap) (R : Ending → Heap → Prop) : Prop :=
  L3 h1 i0 n i j2 H R
theorem L2_step {h1 : IV} {i0 : Int} {n : Int} {i : Int} {j2 : Int} {H : Heap} {R : Ending → Heap → Prop} (h : L2n h1 i0 n i j2 H R) : L2 h1 i0 n i j2 H R :=
  goL_of_den (an := an) (fuel := 100000) (X := L2n h1 i0 n i j2 H R) mixed fn (by kernel_rfl) (fun ρ0 => by kernel_rfl) h
def L3n (h1 : IV) (i0 : Int) (n : Int) (i : Int) (j : Int) (H : Heap) (R : Ending → Heap → Prop) : Prop :=
  callI Tryz.prog (IV.v h1) "Less" [(.int .i64 j), (.int .i64 i)] H (panK R) fun v H1 =>
  tBool v fun b =>
  iteB (!b) (
    R (.returned (.bool (decide (i > i0)))) H1) <|
  callI Tryz.prog (IV.v h1) "Swap" [(.int .i64 i), (.int .i64 j)] H1 (panK R) fun v1 H2 =>
  tTup v1 fun l =>
  tNil l <|
  L0 h1 i0 n j H2 R
theorem L3_step {h1 : IV} {i0 : Int} {n : Int} {i : Int} {j : Int} {H : Heap} {R : Ending → Heap → Prop} (h : L3n h1 i0 n i j H R) : L3 h1 i0 n i j H R :=
  goL_of_den (an := an) (fuel := 100000) (X := L3n h1 i0 n i j H R) mixed fn (by kernel_rfl) (fun ρ0 => by kernel_rfl) h
def go (h1 : IV) (i0 : Int) (n : Int) (H : Heap) (R : Ending → Heap → Prop) : Prop :=
  L0 h1 i0 n i0 H R
theorem calls {h1 : IV} {i0 : Int} {n : Int} {H : Heap} {R : Ending → Heap → Prop} (h : go h1 i0 n H R) : CallsH Tryz.prog 92 ⟨[(IV.v h1), (.int .i64 i0), (.int .i64 n)]⟩ H R :=
  callsH_of_den (an := an) (fuel := 100000) (X := go h1 i0 n H R) (c := body) mixed fn (by kernel_rfl) (by kernel_rfl) (by kernel_rfl) ok (by kernel_rfl) h
end F92
/-! ### 103 "container/heap.Fix" -/
namespace F103
def an : Ann := { kinds := [], taus := [], pairs := [], lab := [] }
noncomputable def body : Code := (Tryz.f103.body).getD .skip
theorem fn : Tryz.prog.funcs[103]? = some Tryz.f103 := by kernel_rfl
theorem ok : codeOk an 13 body = true := by kernel_rfl
def go (h1 : IV) (i : Int) (H : Heap) (R : Ending → Heap → Prop) : Prop :=
  callI Tryz.prog (IV.v h1) "Len" [] H (panK R) fun v H1 =>
  tInt v .i64 fun n =>
  callD Tryz.prog 92 [(IV.v h1), (.int .i64 i), (.int .i64 n)] H1 (panK R) fun v1 H2 =>
  tBool v1 fun b =>
  iteB (!b) (
    callD Tryz.prog 112 [(IV.v h1), (.int .i64 i)] H2 (panK R) fun v2 H3 =>
    tTup v2 fun l =>
    tNil l <|
    R (.returned (.tuple ⟨[]⟩)) H3) <|
  R (.returned (.tuple ⟨[]⟩)) H2
theorem calls {h1 : IV} {i : Int} {H : Heap} {R : Ending → Heap → Prop} (h : go h1 i H R) : CallsH Tryz.prog 103 ⟨[(IV.v h1), (.int .i64 i)]⟩ H R :=
  callsH_of_den (an := an) (fuel := 100000) (X := go h1 i H R) (c := body) mixed fn (by kernel_rfl) (by kernel_rfl) (by kernel_rfl) ok (by kernel_rfl) h
end F103
/-! ### 104 "container/heap.Push" -/
namespace F104
def an : Ann := { kinds := [], taus := [], pairs := [], lab := [] }
noncomputable def body : Code := (Tryz.f104.body).getD .skip
theorem fn : Tryz.prog.funcs[104]? = some Tryz.f104 := by kernel_rfl
theorem ok : codeOk an 12 body = true := by kernel_rfl
def go (h1 : IV) (x : IV) (H : Heap) (R : Ending → Heap → Prop) : Prop :=
  callI Tryz.prog (IV.v h1) "Push" [(IV.v x)] H (panK R) fun v H1 =>
  tTup v fun l =>
  tNil l <|
  callI Tryz.prog (IV.v h1) "Len" [] H1 (panK R) fun v1 H2 =>
  tInt v1 .i64 fun n =>
  callD Tryz.prog 112 [(IV.v h1), (.int .i64 (IntKind.wrap .i64 (n - (1 : Int))))] H2 (panK R) fun v2 H3 =>
  tTup v2 fun l1 =>
  tNil l1 <|
  R (.returned (.tuple ⟨[]⟩)) H3
theorem calls {h1 : IV} {x : IV} {H : Heap} {R : Ending → Heap → Prop} (h : go h1 x H R) : CallsH Tryz.prog 104 ⟨[(IV.v h1), (IV.v x)]⟩ H R :=
  callsH_of_den (an := an) (fuel := 100000) (X := go h1 x H R) (c := body) mixed fn (by kernel_rfl) (by kernel_rfl) (by kernel_rfl) ok (by kernel_rfl) h
end F104
/-! ### 112 "container/heap.up" -/
namespace F112
def an : Ann := { kinds := [], taus := [], pairs := [], lab := [(30000001, [0, 1]), (40000003, [0, 1, 4])] }
noncomputable def body : Code := (Tryz.f112.body).getD .skip
theorem fn : Tryz.prog.funcs[112]? = some Tryz.f112 := by kernel_rfl
theorem ok : codeOk an 23 body = true := by kernel_rfl
noncomputable def L0t : List Item := [.code (sub [0, 0] body), .inLoop (sub [0, 0] body), .inBlock 0]
def L0 (h1 : IV) (j : Int) (H : Heap) (R : Ending → Heap → Prop) : Prop :=
  GoL Tryz.prog 112 23 L0t [0, 1] [(IV.v h1), (.int .i64 j)] H R
noncomputable def L1t : List Item := [.code (sub [0, 0, 0, 1, 1] body), .inBlock 1, .inLoop (sub [0, 0] body), .inBlock 0]
def L1 (h1 : IV) (j : Int) (i : Int) (H : Heap) (R : Ending → Heap → Prop) : Prop :=
  GoL Tryz.prog 112 23 L1t [0, 1, 4] [(IV.v h1), (.int .i64 j), (.int .i64 i)] H R
def L0n (h1 : IV) (j : Int) (H : Heap) (R : Ending → Heap → Prop) : Prop :=
  divD (2 : Int) <|
  iteB ((IntKind.wrap .i64 (Int.tdiv (IntKind.wrap .i64 (j - (1 : Int))) (2 : Int))) == j) (
    R (.returned (.tuple ⟨[]⟩)) H) <|
  callI Tryz.prog (IV.v h1) "Less" [(.int .i64 j), (.int .i64 (IntKind.wrap .i64 (Int.tdiv (IntKind.wrap .i64 (j - (1 : Int))) (2 : Int))))] H (panK R) fun v H1 =>
  tBool v fun b =>
  iteB (!b) (
    R (.returned (.tuple ⟨[]⟩)) H1) <|
  L1 h1 j (IntKind.wrap .i64 (Int.tdiv (IntKind.wrap .i64 (j - (1 : Int))) (2 : Int))) H1 R
theorem L0_step {h1 : IV} {j : Int} {H : Heap} {R : Ending → Heap → Prop} (h : L0n h1 j H R) : L0 h1 j H R :=
  goL_of_den (an := an) (fuel := 100000) (X := L0n h1 j H R) mixed fn (by kernel_rfl) (fun ρ0 => by kernel_rfl) h
def L1n (h1 : IV) (j : Int) (i : Int) (H : Heap) (R : Ending → Heap → Prop) : Prop :=
  callI Tryz.prog (IV.v h1) "Swap" [(.int .i64 i), (.int .i64 j)] H (panK R) fun v H1 =>
  tTup v fun l =>
  tNil l <|
  L0 h1 i H1 R
theorem L1_step {h1 : IV} {j : Int} {i : Int} {H : Heap} {R : Ending → Heap → Prop} (h : L1n h1 j i H R) : L1 h1 j i H R :=
  goL_of_den (an := an) (fuel := 100000) (X := L1n h1 j i H R) mixed fn (by kernel_rfl) (fun ρ0 => by kernel_rfl) h
def go (h1 : IV) (j : Int) (H : Heap) (R : Ending → Heap → Prop) : Prop :=
  L0 h1 j H R
theorem calls {h1 : IV} {j : Int} {H : Heap} {R : Ending → Heap → Prop} (h : go h1 j H R) : CallsH Tryz.prog 112 ⟨[(IV.v h1), (.int .i64 j)]⟩ H R :=
  callsH_of_den (an := an) (fuel := 100000) (X := go h1 j H R) (c := body) mixed fn (by kernel_rfl) (by kernel_rfl) (by kernel_rfl) ok (by kernel_rfl) h
end F112
/-! ### 192 "(*pub-stadtholder/pub/etcdserver/lease.lessor).Grant" -/
namespace F192
def an : Ann := { kinds := [(7002, .read), (8002, .read), (9005, .heavy 0), (17006, .heavy 0), (20009, .grow)], taus := [(12, [[0, 1, 2, 4, 5, 6, 3, 7, 8]]), (20, [[0, 1, 2, 4, 5, 6, 3, 7, 8, 9, 10]])], pairs := [], lab := [(10000015, [0, 1, 8]), (10000018, [0, 1, 8])] }
noncomputable def body : Code := (Tryz.f192.body).getD .skip
theorem fn : Tryz.prog.funcs[192]? = some Tryz.f192 := by kernel_rfl
theorem ok : codeOk an 102 body = true := by kernel_rfl
noncomputable def L0t : List Item := [.code (sub [1, 1, 1, 1, 1, 1, 1, 1, 1] body)]
def L0 (s0 : Option Addr) (s1 : Int) (s8 : Option Addr) (H : Heap) (R : Ending → Heap → Prop) : Prop :=
  GoL Tryz.prog 192 102 L0t [0, 1, 8] [(.pointer s0), (.int .i64 s1), (.pointer s8)] H R
noncomputable def L1t : List Item := [.code (sub [1, 1, 1, 1, 1, 1, 1, 1, 1, 1] body)]
def L1 (s0 : Option Addr) (s1 : Int) (s8 : Option Addr) (H : Heap) (R : Ending → Heap → Prop) : Prop :=
  GoL Tryz.prog 192 102 L1t [0, 1, 8] [(.pointer s0), (.int .i64 s1), (.pointer s8)] H R
def L0n (s0 : Option Addr) (s1 : Int) (s8 : Option Addr) (H : Heap) (R : Ending → Heap → Prop) : Prop :=
  callD Tryz.prog 39 [(.pointer s0)] H (panK R) fun v H1 =>
  tBool v fun b =>
  iteB b (
    callD Tryz.prog 207 [(.pointer s8), (.int .i64 (0 : Int))] H1 (panK R) fun v1 H2 =>
    tTup v1 fun l =>
    tNil l <|
    L1 s0 s1 s8 H2 R) <|
  callD Tryz.prog 181 [(.pointer s8)] H1 (panK R) fun v2 H3 =>
  tTup v2 fun l1 =>
  tNil l1 <|
  L1 s0 s1 s8 H3 R
theorem L0_step {s0 : Option Addr} {s1 : Int} {s8 : Option Addr} {H : Heap} {R : Ending → Heap → Prop} (h : L0n s0 s1 s8 H R) : L0 s0 s1 s8 H R :=
  goL_of_den (an := an) (fuel := 100000) (X := L0n s0 s1 s8 H R) mixed fn (by kernel_rfl) (fun ρ0 => by kernel_rfl) h
def L1n (s0 : Option Addr) (s1 : Int) (s8 : Option Addr) (H : Heap) (R : Ending → Heap → Prop) : Prop :=
  nilD s0 fun a =>
  ldMap H (Addr.add a 1) fun m =>
  uniD Tryz.prog (Instr.mapUpdate 128 (.map m) (.int .i64 s1) (.pointer s8)) H (panK R) fun H1 =>
  nilD s0 fun a1 =>
  ldIf H1 (Addr.add a1 7) fun i =>
  callD Tryz.prog 202 [(.pointer s8), (IV.v i)] H1 (panK R) fun v1 H2 =>
  tTup v1 fun l =>
  tNil l <|
  callD Tryz.prog 39 [(.pointer s0)] H2 (panK R) fun v2 H3 =>
  tBool v2 fun b =>
  iteB b (
    nilD s8 fun a2 =>
    nilD s8 fun a3 =>
    ldInt H3 a2 .i64 fun n =>
    ldInt H3 (Addr.add a3 4) .i64 fun n1 =>
    ldInt H3 (Addr.add (Addr.add a3 4) 1) .i64 fun n2 =>
    ldBool H3 (Addr.add (Addr.add a3 4) 2) fun b1 =>
    newD H3 (.cells ⟨[(.int .i64 n), (.int .i64 n1), (.int .i64 n2), (.bool b1), (.int .i64 (0 : Int))]⟩ 191) fun r H4 =>
    nilD s0 fun a4 =>
    ldPtr H4 (Addr.add a4 2) fun p =>
    callD Tryz.prog 91 [(.pointer p), (.pointer (some ⟨r, 0, none⟩))] H4 (panK R) fun v3 H5 =>
    tTup v3 fun l1 =>
    tNil l1 <|
    callD Tryz.prog 203 [(.pointer s0), (.pointer s8)] H5 (panK R) fun v4 H6 =>
    tTup v4 fun l2 =>
    tNil l2 <|
    R (.returned (.tuple ⟨[(.pointer s8), .nilIface]⟩)) H6) <|
  R (.returned (.tuple ⟨[(.pointer s8), .nilIface]⟩)) H3
theorem L1_step {s0 : Option Addr} {s1 : Int} {s8 : Option Addr} {H : Heap} {R : Ending → Heap → Prop} (h : L1n s0 s1 s8 H R) : L1 s0 s1 s8 H R :=
  goL_of_den (an := an) (fuel := 100000) (X := L1n s0 s1 s8 H R) mixed fn (by kernel_rfl) (fun ρ0 => by kernel_rfl) h
def go (s0 : Option Addr) (s1 : Int) (s2 : Int) (H : Heap) (R : Ending → Heap → Prop) : Prop :=
  iteB (s1 == (0 : Int)) (
    R (.returned (.tuple ⟨[(.pointer none), (.iface 121 (.string (ByteArray.mk #[108, 101, 97, 115, 101, 32, 110, 111, 116, 32, 102, 111, 117, 110, 100])))]⟩)) H) <|
  iteB (decide (s2 > (9000000000 : Int))) (
    R (.returned (.tuple ⟨[(.pointer none), (.iface 121 (.string (ByteArray.mk #[116, 111, 111, 32, 108, 97, 114, 103, 101, 32, 108, 101, 97, 115, 101, 32, 84, 84, 76])))]⟩)) H) <|
  callD Tryz.prog 206 [(.int .i64 s1), (.int .i64 s2)] H (panK R) fun v H1 =>
  tPtr v fun p =>
  nilD s0 fun a =>
  ldPtr H1 (Addr.add a 17) fun p1 =>
  nilD p fun a1 =>
  st1 H1 (Addr.add a1 1) (.pointer p1) fun H2 =>
  nilD s0 fun a2 =>
  zfD Tryz.prog H2 138 0 (.pointer (some a2)) fun a3 =>
  callD Tryz.prog 115 [(.pointer (some a3))] H2 (panK R) fun v1 H3 =>
  tTup v1 fun l =>
  tNil l <|
  noPan R <|
  guardB (idleF Tryz.prog 120) <|
  nilD s0 fun a4 =>
  zfD Tryz.prog H3 138 0 (.pointer (some a4)) fun a5 =>
  nilD s0 fun a6 =>
  ldMap H3 (Addr.add a6 1) fun m =>
  valD Tryz.prog (Instr.lookup 128 (.map m) (.int .i64 s1) true) H3 (panK R) fun v2 H4 =>
  tTup v2 fun l1 =>
  tCons l1 fun c l2 =>
  tPtr c fun p2 =>
  tCons l2 fun c1 l3 =>
  tBool c1 fun b =>
  tNil l3 <|
  iteB b (
    R (.returned (.tuple ⟨[(.pointer none), (.iface 121 (.string (ByteArray.mk #[108, 101, 97, 115, 101, 32, 97, 108, 114, 101, 97, 100, 121, 32, 101, 120, 105, 115, 116, 115])))]⟩)) H4) <|
  nilD p fun a7 =>
  nilD s0 fun a8 =>
  ldInt H4 (Addr.add a7 2) .i64 fun n =>
  ldInt H4 (Addr.add a8 8) .i64 fun n1 =>
  iteB (decide (n < n1)) (
    nilD s0 fun a9 =>
    ldInt H4 (Addr.add a9 8) .i64 fun n2 =>
    nilD p fun a10 =>
    st1 H4 (Addr.add a10 2) (.int .i64 n2) fun H5 =>
    L0 s0 s1 p H5 R) <|
  L0 s0 s1 p H4 R
theorem calls {s0 : Option Addr} {s1 : Int} {s2 : Int} {H : Heap} {R : Ending → Heap → Prop} (h : go s0 s1 s2 H R) : CallsH Tryz.prog 192 ⟨[(.pointer s0), (.int .i64 s1), (.int .i64 s2)]⟩ H R :=
  callsH_of_den (an := an) (fuel := 100000) (X := go s0 s1 s2 H R) (c := body) mixed fn (by kernel_rfl) (by kernel_rfl) (by kernel_rfl) ok (by kernel_rfl) h
end F192
/-! ### 194 "(*pub-stadtholder/pub/etcdserver/lease.lessor).Lookup" -/
namespace F194
def an : Ann := { kinds := [(1002, .read), (2002, .read), (3005, .heavy 0)], taus := [], pairs := [], lab := [] }
noncomputable def body : Code := (Tryz.f194.body).getD .skip
theorem fn : Tryz.prog.funcs[194]? = some Tryz.f194 := by kernel_rfl
theorem ok : codeOk an 18 body = true := by kernel_rfl
def go (le : Option Addr) (id : Int) (H : Heap) (R : Ending → Heap → Prop) : Prop :=
  nilD le fun a =>
  zfD Tryz.prog H 138 0 (.pointer (some a)) fun a1 =>
  callD Tryz.prog 31 [(.pointer (some a1))] H (panK R) fun v H1 =>
  tTup v fun l =>
  tNil l <|
  noPan R <|
  guardB (idleF Tryz.prog 32) <|
  nilD le fun a2 =>
  zfD Tryz.prog H1 138 0 (.pointer (some a2)) fun a3 =>
  nilD le fun a4 =>
  ldMap H1 (Addr.add a4 1) fun m =>
  valD Tryz.prog (Instr.lookup 128 (.map m) (.int .i64 id) false) H1 (panK R) fun v1 H2 =>
  tPtr v1 fun p =>
  R (.returned (.pointer p)) H2
theorem calls {le : Option Addr} {id : Int} {H : Heap} {R : Ending → Heap → Prop} (h : go le id H R) : CallsH Tryz.prog 194 ⟨[(.pointer le), (.int .i64 id)]⟩ H R :=
  callsH_of_den (an := an) (fuel := 100000) (X := go le id H R) (c := body) mixed fn (by kernel_rfl) (by kernel_rfl) (by kernel_rfl) ok (by kernel_rfl) h
end F194
/-! ### 195 "(*pub-stadtholder/pub/etcdserver/lease.lessor).Promote" -/
namespace F195
def an : Ann := { kinds := [(2, .read), (1002, .read), (2001, .heavy 0), (7009, .grow), (11004, .heavy 0), (33009, .grow)], taus := [(7, [[0, 1, 2, 4, 5, 6, 3, 7, 8, 9, 10]]), (11, [[0, 1, 2, 5, 6, 7, 3, 8, 4, 9], [0, 1, 2, 5, 6, 7, 3, 4, 8, 9]]), (33, [[0, 1, 2, 4, 5, 6, 3, 7, 8, 9, 10]])], pairs := [(11, [(8, 4)])], lab := [(40000005, [0, 1, 33, 34, 35]), (10000013, [0, 1]), (30000020, [0, 1, 8, 9, 10, 11, 89, 90, 91]), (30000037, [0, 1, 8, 9, 10, 11, 89, 90, 91])] }
noncomputable def body : Code := (Tryz.f195.body).getD .skip
theorem fn : Tryz.prog.funcs[195]? = some Tryz.f195 := by kernel_rfl
theorem ok : codeOk an 150 body = true := by kernel_rfl
noncomputable def L0t : List Item := [.code (sub [1, 1, 1, 0, 1, 0, 0] body), .inLoop (sub [1, 1, 1, 0, 1, 0, 0] body), .inBlock 0, .code (sub [1, 1, 1, 1] body)]
def L0 (s0 : Option Addr) (s1 : Int) (s33 : Option Addr) (s33n : Nat) (s33c : Nat) (s34 : Int) (s35 : Int) (H : Heap) (R : Ending → Heap → Prop) : Prop :=
  GoL Tryz.prog 195 150 L0t [0, 1, 33, 34, 35] [(.pointer s0), (.int .i64 s1), (.slice s33 s33n s33c), (.int .i64 s34), (.int .i64 s35)] H R
noncomputable def L1t : List Item := [.code (sub [1, 1, 1, 1, 1] body)]
def L1 (s0 : Option Addr) (s1 : Int) (H : Heap) (R : Ending → Heap → Prop) : Prop :=
  GoL Tryz.prog 195 150 L1t [0, 1] [(.pointer s0), (.int .i64 s1)] H R
noncomputable def L2t : List Item := [.code (sub [1, 1, 1, 1, 1, 1, 1, 1, 1, 1, 1, 1, 0, 0] body), .inLoop (sub [1, 1, 1, 1, 1, 1, 1, 1, 1, 1, 1, 1, 0, 0] body), .inBlock 2]
def L2 (s0 : Option Addr) (s1 : Int) (s8 : Int) (s9 : Int) (s10 : Int) (s11 : Int) (s89 : Option Addr) (s89n : Nat) (s89c : Nat) (s90 : Int) (s91 : Int) (H : Heap) (R : Ending → Heap → Prop) : Prop :=
  GoL Tryz.prog 195 150 L2t [0, 1, 8, 9, 10, 11, 89, 90, 91] [(.pointer s0), (.int .i64 s1), (.int .i64 s8), (.int .i64 s9), (.int .i64 s10), (.int .i64 s11), (.slice s89 s89n s89c), (.int .i64 s90), (.int .i64 s91)] H R
noncomputable def L3t : List Item := [.code (sub [1, 1, 1, 1, 1, 1, 1, 1, 1, 1, 1, 1, 0, 0, 1, 1, 1] body), .inLoop (sub [1, 1, 1, 1, 1, 1, 1, 1, 1, 1, 1, 1, 0, 0] body), .inBlock 2]
def L3 (s0 : Option Addr) (s1 : Int) (s8 : Int) (s9 : Int) (s10 : Int) (s11 : Int) (s89 : Option Addr) (s89n : Nat) (s89c : Nat) (s90 : Int) (s91 : Int) (H : Heap) (R : Ending → Heap → Prop) : Prop :=
  GoL Tryz.prog 195 150 L3t [0, 1, 8, 9, 10, 11, 89, 90, 91] [(.pointer s0), (.int .i64 s1), (.int .i64 s8), (.int .i64 s9), (.int .i64 s10), (.int .i64 s11), (.slice s89 s89n s89c), (.int .i64 s90), (.int .i64 s91)] H R
def L0n (s0 : Option Addr) (s1 : Int) (s33 : Option Addr) (s33n : Nat) (s33c : Nat) (s34 : Int) (s35 : Int) (H : Heap) (R : Ending → Heap → Prop) : Prop :=
  iteB (decide (s35 < s34)) (
    idxD s33 s33n s35 fun a =>
    ldPtr H (Addr.add a (Int.toNat s35 * 1)) fun p =>
    callD Tryz.prog 207 [(.pointer p), (.int .i64 s1)] H (panK R) fun v H1 =>
    tTup v fun l =>
    tNil l <|
    nilD p fun a1 =>
    nilD p fun a2 =>
    ldInt H1 a1 .i64 fun n =>
    ldInt H1 (Addr.add a2 4) .i64 fun n1 =>
    ldInt H1 (Addr.add (Addr.add a2 4) 1) .i64 fun n2 =>
    ldBool H1 (Addr.add (Addr.add a2 4) 2) fun b =>
    newD H1 (.cells ⟨[(.int .i64 n), (.int .i64 n1), (.int .i64 n2), (.bool b), (.int .i64 (0 : Int))]⟩ 191) fun r H2 =>
    nilD s0 fun a3 =>
    ldPtr H2 (Addr.add a3 2) fun p1 =>
    callD Tryz.prog 91 [(.pointer p1), (.pointer (some ⟨r, 0, none⟩))] H2 (panK R) fun v1 H3 =>
    tTup v1 fun l1 =>
    tNil l1 <|
    callD Tryz.prog 203 [(.pointer s0), (.pointer p)] H3 (panK R) fun v2 H4 =>
    tTup v2 fun l2 =>
    tNil l2 <|
    L0 s0 s1 s33 s33n s33c s34 (IntKind.wrap .i64 (s35 + (1 : Int))) H4 R) <|
  (
    nilD s0 fun a4 =>
    nilD s0 fun a5 =>
    ldMap H (Addr.add a4 1) fun m =>
    ldInt H (Addr.add a5 9) .i64 fun n3 =>
    valD Tryz.prog (Builtin.len_ #[128] 3 ⟨[(.map m)]⟩) H (panK R) fun v3 H5 =>
    tInt v3 .i64 fun n4 =>
    iteB (decide (n4 < n3)) (
      R (.returned (.tuple ⟨[]⟩)) H5) <|
    L1 s0 s1 H5 R) ∧
  (
    nilD s0 fun a6 =>
    nilD s0 fun a7 =>
    ldMap H (Addr.add a6 1) fun m1 =>
    valD Tryz.prog (Builtin.len_ #[128] 3 ⟨[(.map m1)]⟩) H (panK R) fun v4 H6 =>
    tInt v4 .i64 fun n5 =>
    ldInt H6 (Addr.add a7 9) .i64 fun n6 =>
    iteB (decide (n5 < n6)) (
      R (.returned (.tuple ⟨[]⟩)) H6) <|
    L1 s0 s1 H6 R)
theorem L0_step {s0 : Option Addr} {s1 : Int} {s33 : Option Addr} {s33n : Nat} {s33c : Nat} {s34 : Int} {s35 : Int} {H : Heap} {R : Ending → Heap → Prop} (h : L0n s0 s1 s33 s33n s33c s34 s35 H R) : L0 s0 s1 s33 s33n s33c s34 s35 H R :=
  goL_of_den (an := an) (fuel := 100000) (X := L0n s0 s1 s33 s33n s33c s34 s35 H R) mixed fn (by kernel_rfl) (fun ρ0 => by kernel_rfl) h
def L1n (s0 : Option Addr) (s1 : Int) (H : Heap) (R : Ending → Heap → Prop) : Prop :=
  callD Tryz.prog 208 [(.pointer s0)] H (panK R) fun v H1 =>
  tSl v fun q qn qc =>
  callD Tryz.prog 122 [(.iface 342 (.slice q qn qc))] H1 (panK R) fun v1 H2 =>
  tTup v1 fun l =>
  tNil l <|
  idxD q qn (0 : Int) fun a =>
  ldPtr H2 (Addr.add a (Int.toNat (0 : Int) * 1)) fun p =>
  callD Tryz.prog 21 [(.pointer p)] H2 (panK R) fun v2 H3 =>
  tInt v2 .i64 fun n =>
  nilD s0 fun a1 =>
  ldInt H3 (Addr.add a1 9) .i64 fun n1 =>
  divD (4 : Int) <|
  L2 s0 s1 n (IntKind.wrap .i64 (n + (1000000000 : Int))) (0 : Int) (IntKind.wrap .i64 (Int.tdiv (IntKind.wrap .i64 ((3 : Int) * n1)) (4 : Int))) q qn qc ((qn : Nat) : Int) (0 : Int) H3 R
theorem L1_step {s0 : Option Addr} {s1 : Int} {H : Heap} {R : Ending → Heap → Prop} (h : L1n s0 s1 H R) : L1 s0 s1 H R :=
  goL_of_den (an := an) (fuel := 100000) (X := L1n s0 s1 H R) mixed fn (by kernel_rfl) (fun ρ0 => by kernel_rfl) h
def L2n (s0 : Option Addr) (s1 : Int) (s8 : Int) (s9 : Int) (s10 : Int) (s11 : Int) (s89 : Option Addr) (s89n : Nat) (s89c : Nat) (s90 : Int) (s91 : Int) (H : Heap) (R : Ending → Heap → Prop) : Prop :=
  iteB (decide (s91 < s90)) (
    idxD s89 s89n s91 fun a =>
    ldPtr H (Addr.add a (Int.toNat s91 * 1)) fun p =>
    callD Tryz.prog 21 [(.pointer p)] H (panK R) fun v H1 =>
    tInt v .i64 fun n =>
    iteB (decide (n > s9)) (
      L3 s0 s1 n (IntKind.wrap .i64 (n + (1000000000 : Int))) (1 : Int) s11 s89 s89n s89c s90 s91 H1 R) <|
    iteB (decide ((IntKind.wrap .i64 (s10 + (1 : Int))) ≤ s11)) (
      L3 s0 s1 s8 s9 (IntKind.wrap .i64 (s10 + (1 : Int))) s11 s89 s89n s89c s90 s91 H1 R) <|
    flD (Ieee.Format.div (FloatKind.format .f64) (FloatKind.nearest .f64 (IntKind.wrap .i64 (s10 + (1 : Int)))) (FloatKind.nearest .f64 s11)) fun x =>
    flD (Ieee.Format.mul (FloatKind.format .f64) (4741671816366391296 : Nat) x) fun x1 =>
    flD (Ieee.Format.sub (FloatKind.format .f64) x1 (FloatKind.nearest .f64 (IntKind.wrap .i64 (n - s8)))) fun x2 =>
    fiD .f64 x2 .i64 fun n1 =>
    callD Tryz.prog 207 [(.pointer p), (.int .i64 (IntKind.wrap .i64 (n1 + s1)))] H1 (panK R) fun v1 H2 =>
    tTup v1 fun l =>
    tNil l <|
    nilD p fun a1 =>
    nilD p fun a2 =>
    ldInt H2 a1 .i64 fun n2 =>
    ldInt H2 (Addr.add a2 4) .i64 fun n3 =>
    ldInt H2 (Addr.add (Addr.add a2 4) 1) .i64 fun n4 =>
    ldBool H2 (Addr.add (Addr.add a2 4) 2) fun b =>
    newD H2 (.cells ⟨[(.int .i64 n2), (.int .i64 n3), (.int .i64 n4), (.bool b), (.int .i64 (0 : Int))]⟩ 191) fun r H3 =>
    nilD s0 fun a3 =>
    ldPtr H3 (Addr.add a3 2) fun p1 =>
    callD Tryz.prog 91 [(.pointer p1), (.pointer (some ⟨r, 0, none⟩))] H3 (panK R) fun v2 H4 =>
    tTup v2 fun l1 =>
    tNil l1 <|
    callD Tryz.prog 203 [(.pointer s0), (.pointer p)] H4 (panK R) fun v3 H5 =>
    tTup v3 fun l2 =>
    tNil l2 <|
    L3 s0 s1 s8 (IntKind.wrap .i64 (s8 + n1)) (IntKind.wrap .i64 (s10 + (1 : Int))) s11 s89 s89n s89c s90 s91 H5 R) <|
  R (.returned (.tuple ⟨[]⟩)) H
theorem L2_step {s0 : Option Addr} {s1 : Int} {s8 : Int} {s9 : Int} {s10 : Int} {s11 : Int} {s89 : Option Addr} {s89n : Nat} {s89c : Nat} {s90 : Int} {s91 : Int} {H : Heap} {R : Ending → Heap → Prop} (h : L2n s0 s1 s8 s9 s10 s11 s89 s89n s89c s90 s91 H R) : L2 s0 s1 s8 s9 s10 s11 s89 s89n s89c s90 s91 H R :=
  goL_of_den (an := an) (fuel := 100000) (X := L2n s0 s1 s8 s9 s10 s11 s89 s89n s89c s90 s91 H R) mixed fn (by kernel_rfl) (fun ρ0 => by kernel_rfl) h
def L3n (s0 : Option Addr) (s1 : Int) (s8 : Int) (s9 : Int) (s10 : Int) (s11 : Int) (s89 : Option Addr) (s89n : Nat) (s89c : Nat) (s90 : Int) (s91 : Int) (H : Heap) (R : Ending → Heap → Prop) : Prop :=
  L2 s0 s1 s8 s9 s10 s11 s89 s89n s89c s90 (IntKind.wrap .i64 (s91 + (1 : Int))) H R
theorem L3_step {s0 : Option Addr} {s1 : Int} {s8 : Int} {s9 : Int} {s10 : Int} {s11 : Int} {s89 : Option Addr} {s89n : Nat} {s89c : Nat} {s90 : Int} {s91 : Int} {H : Heap} {R : Ending → Heap → Prop} (h : L3n s0 s1 s8 s9 s10 s11 s89 s89n s89c s90 s91 H R) : L3 s0 s1 s8 s9 s10 s11 s89 s89n s89c s90 s91 H R :=
  goL_of_den (an := an) (fuel := 100000) (X := L3n s0 s1 s8 s9 s10 s11 s89 s89n s89c s90 s91 H R) mixed fn (by kernel_rfl) (fun ρ0 => by kernel_rfl) h
def go (s0 : Option Addr) (s1 : Int) (H : Heap) (R : Ending → Heap → Prop) : Prop :=
  nilD s0 fun a =>
  zfD Tryz.prog H 138 0 (.pointer (some a)) fun a1 =>
  callD Tryz.prog 115 [(.pointer (some a1))] H (panK R) fun v H1 =>
  tTup v fun l =>
  tNil l <|
  noPan R <|
  guardB (idleF Tryz.prog 120) <|
  nilD s0 fun a2 =>
  zfD Tryz.prog H1 138 0 (.pointer (some a2)) fun a3 =>
  valD Tryz.prog (Instr.makeChan 100 (.int .i64 (0 : Int))) H1 (panK R) fun v1 H2 =>
  tCh v1 fun r =>
  nilD s0 fun a4 =>
  st1 H2 a4 (.chan r) fun H3 =>
  nilD s0 fun a5 =>
  ldMap H3 (Addr.add a5 1) fun m =>
  callD Tryz.prog 209 [(.map m)] H3 (panK R) fun v2 H4 =>
  tSl v2 fun q qn qc =>
  L0 s0 s1 q qn qc ((qn : Nat) : Int) (0 : Int) H4 R
theorem calls {s0 : Option Addr} {s1 : Int} {H : Heap} {R : Ending → Heap → Prop} (h : go s0 s1 H R) : CallsH Tryz.prog 195 ⟨[(.pointer s0), (.int .i64 s1)]⟩ H R :=
  callsH_of_den (an := an) (fuel := 100000) (X := go s0 s1 H R) (c := body) mixed fn (by kernel_rfl) (by kernel_rfl) (by kernel_rfl) ok (by kernel_rfl) h
end F195
/-! ### 197 "(*pub-stadtholder/pub/etcdserver/lease.lessor).Renew" -/
namespace F197
def an : Ann := { kinds := [(1002, .read), (3002, .read), (6005, .heavy 0), (8002, .read), (11002, .read), (21004, .grow), (21010, .grow), (21011, .grow), (21013, .grow), (24002, .read), (25005, .heavy 0), (27002, .read), (30009, .grow), (32002, .read)], taus := [(21, [[0, 1, 2, 5, 6, 7, 3, 8, 9, 4, 10, 11, 12, 13, 14, 15], [0, 1, 2, 5, 6, 7, 3, 8, 9, 10, 4, 11, 12, 13, 14, 15], [0, 1, 2, 5, 6, 7, 3, 8, 9, 10, 11, 12, 4, 13, 14, 15], [0, 1, 2, 5, 6, 7, 3, 8, 9, 10, 11, 12, 13, 4, 14, 15]]), (30, [[0, 1, 2, 4, 5, 6, 3, 7, 8, 9, 10]])], pairs := [(21, [(4, 10), (4, 11), (4, 13)])], lab := [(10000012, [0, 1, 6, 7, 8]), (10000021, [0, 1, 7, 8]), (20000023, [0, 1, 9]), (10000025, [0, 1])] }
noncomputable def body : Code := (Tryz.f197.body).getD .skip
theorem fn : Tryz.prog.funcs[197]? = some Tryz.f197 := by kernel_rfl
theorem ok : codeOk an 137 body = true := by kernel_rfl
noncomputable def L0t : List Item := [.code (sub [1, 1, 1, 1, 1, 1, 1] body)]
def L0 (s0 : Option Addr) (s1 : Int) (s6 : Option Nat) (s7 : Option Addr) (s8 : Bool) (H : Heap) (R : Ending → Heap → Prop) : Prop :=
  GoL Tryz.prog 197 137 L0t [0, 1, 6, 7, 8] [(.pointer s0), (.int .i64 s1), (.chan s6), (.pointer s7), (.bool s8)] H R
noncomputable def L1t : List Item := [.code (sub [1, 1, 1, 1, 1, 1, 1, 1, 1] body)]
def L1 (s0 : Option Addr) (s1 : Int) (s7 : Option Addr) (s8 : Bool) (H : Heap) (R : Ending → Heap → Prop) : Prop :=
  GoL Tryz.prog 197 137 L1t [0, 1, 7, 8] [(.pointer s0), (.int .i64 s1), (.pointer s7), (.bool s8)] H R
noncomputable def L2t : List Item := [.code (sub [1, 1, 1, 1, 1, 1, 1, 1, 1, 0, 1, 0, 1] body), .code (sub [1, 1, 1, 1, 1, 1, 1, 1, 1, 1] body)]
def L2 (s0 : Option Addr) (s1 : Int) (s9 : IV) (H : Heap) (R : Ending → Heap → Prop) : Prop :=
  GoL Tryz.prog 197 137 L2t [0, 1, 9] [(.pointer s0), (.int .i64 s1), (IV.v s9)] H R
noncomputable def L3t : List Item := [.code (sub [1, 1, 1, 1, 1, 1, 1, 1, 1, 1] body)]
def L3 (s0 : Option Addr) (s1 : Int) (H : Heap) (R : Ending → Heap → Prop) : Prop :=
  GoL Tryz.prog 197 137 L3t [0, 1] [(.pointer s0), (.int .i64 s1)] H R
def L0n (s0 : Option Addr) (s1 : Int) (s6 : Option Nat) (s7 : Option Addr) (s8 : Bool) (H : Heap) (R : Ending → Heap → Prop) : Prop :=
  nilD s0 fun a =>
  zfD Tryz.prog H 138 0 (.pointer (some a)) fun a1 =>
  callD Tryz.prog 32 [(.pointer (some a1))] H (panK R) fun v H1 =>
  tTup v fun l =>
  tNil l <|
  callD Tryz.prog 40 [(.pointer s7)] H1 (panK R) fun v1 H2 =>
  tBool v1 fun b =>
  iteB b (
    nilD s7 fun a2 =>
    ldCh H2 (Addr.add a2 8) fun m =>
    nilD s0 fun a3 =>
    ldCh H2 (Addr.add a3 11) fun m1 =>
    False) <|
  L1 s0 s1 s7 s8 H2 R
theorem L0_step {s0 : Option Addr} {s1 : Int} {s6 : Option Nat} {s7 : Option Addr} {s8 : Bool} {H : Heap} {R : Ending → Heap → Prop} (h : L0n s0 s1 s6 s7 s8 H R) : L0 s0 s1 s6 s7 s8 H R :=
  goL_of_den (an := an) (fuel := 100000) (X := L0n s0 s1 s6 s7 s8 H R) mixed fn (by kernel_rfl) (fun ρ0 => by kernel_rfl) h
def L1n (s0 : Option Addr) (s1 : Int) (s7 : Option Addr) (s8 : Bool) (H : Heap) (R : Ending → Heap → Prop) : Prop :=
  iteB s8 (
    (
      nilD s0 fun a =>
      nilD s7 fun a1 =>
      ldFn H (Addr.add a 6) fun f =>
      ldInt H a1 .i64 fun n =>
      callD Tryz.prog 210 [] H nope fun v H1 =>
      tIf v fun i =>
      andD (ExtH H H1) <|
      newD H1 (.cells ⟨[(.int .i64 n), (.int .i64 (0 : Int))]⟩ 81) fun r H2 =>
      newD H2 (.cells ⟨[(.pointer (some ⟨r, 0, none⟩))]⟩ 82) fun r1 H3 =>
      newD H3 (.cells ⟨[(.slice (some ⟨r1, 0, none⟩) 1 1)]⟩ 77) fun r2 H4 =>
      callV Tryz.prog (FV.v f) [(IV.v i), (.pointer (some ⟨r2, 0, none⟩))] H4 (panK R) fun v1 H5 =>
      tIf v1 fun i1 =>
      L2 s0 s1 i1 H5 R) ∧
    (
      nilD s0 fun a2 =>
      nilD s7 fun a3 =>
      ldFn H (Addr.add a2 6) fun f1 =>
      ldInt H a3 .i64 fun n1 =>
      newD H (.cells ⟨[(.int .i64 n1), (.int .i64 (0 : Int))]⟩ 81) fun r3 H6 =>
      callD Tryz.prog 210 [] H6 nope fun v2 H7 =>
      tIf v2 fun i2 =>
      andD (ExtH H6 H7) <|
      newD H7 (.cells ⟨[(.pointer (some ⟨r3, 0, none⟩))]⟩ 82) fun r4 H8 =>
      newD H8 (.cells ⟨[(.slice (some ⟨r4, 0, none⟩) 1 1)]⟩ 77) fun r5 H9 =>
      callV Tryz.prog (FV.v f1) [(IV.v i2), (.pointer (some ⟨r5, 0, none⟩))] H9 (panK R) fun v3 H10 =>
      tIf v3 fun i3 =>
      L2 s0 s1 i3 H10 R) ∧
    (
      nilD s0 fun a4 =>
      nilD s7 fun a5 =>
      ldFn H (Addr.add a4 6) fun f2 =>
      ldInt H a5 .i64 fun n2 =>
      newD H (.cells ⟨[(.int .i64 n2), (.int .i64 (0 : Int))]⟩ 81) fun r6 H11 =>
      newD H11 (.cells ⟨[(.pointer (some ⟨r6, 0, none⟩))]⟩ 82) fun r7 H12 =>
      callD Tryz.prog 210 [] H12 nope fun v4 H13 =>
      tIf v4 fun i4 =>
      andD (ExtH H12 H13) <|
      newD H13 (.cells ⟨[(.slice (some ⟨r7, 0, none⟩) 1 1)]⟩ 77) fun r8 H14 =>
      callV Tryz.prog (FV.v f2) [(IV.v i4), (.pointer (some ⟨r8, 0, none⟩))] H14 (panK R) fun v5 H15 =>
      tIf v5 fun i5 =>
      L2 s0 s1 i5 H15 R) ∧
    (
      nilD s0 fun a6 =>
      nilD s7 fun a7 =>
      ldFn H (Addr.add a6 6) fun f3 =>
      ldInt H a7 .i64 fun n3 =>
      newD H (.cells ⟨[(.int .i64 n3), (.int .i64 (0 : Int))]⟩ 81) fun r9 H16 =>
      newD H16 (.cells ⟨[(.pointer (some ⟨r9, 0, none⟩))]⟩ 82) fun r10 H17 =>
      newD H17 (.cells ⟨[(.slice (some ⟨r10, 0, none⟩) 1 1)]⟩ 77) fun r11 H18 =>
      callD Tryz.prog 210 [] H18 nope fun v6 H19 =>
      tIf v6 fun i6 =>
      andD (ExtH H18 H19) <|
      callV Tryz.prog (FV.v f3) [(IV.v i6), (.pointer (some ⟨r11, 0, none⟩))] H19 (panK R) fun v7 H20 =>
      tIf v7 fun i7 =>
      L2 s0 s1 i7 H20 R)) <|
  L3 s0 s1 H R
theorem L1_step {s0 : Option Addr} {s1 : Int} {s7 : Option Addr} {s8 : Bool} {H : Heap} {R : Ending → Heap → Prop} (h : L1n s0 s1 s7 s8 H R) : L1 s0 s1 s7 s8 H R :=
  goL_of_den (an := an) (fuel := 100000) (X := L1n s0 s1 s7 s8 H R) mixed fn (by kernel_rfl) (fun ρ0 => by kernel_rfl) h
def L2n (s0 : Option Addr) (s1 : Int) (s9 : IV) (H : Heap) (R : Ending → Heap → Prop) : Prop :=
  ifNilD (IV.v s9) fun b =>
  iteB (!b) (
    R (.returned (.tuple ⟨[(.int .i64 (-1 : Int)), (IV.v s9)]⟩)) H) <|
  L3 s0 s1 H R
theorem L2_step {s0 : Option Addr} {s1 : Int} {s9 : IV} {H : Heap} {R : Ending → Heap → Prop} (h : L2n s0 s1 s9 H R) : L2 s0 s1 s9 H R :=
  goL_of_den (an := an) (fuel := 100000) (X := L2n s0 s1 s9 H R) mixed fn (by kernel_rfl) (fun ρ0 => by kernel_rfl) h
def L3n (s0 : Option Addr) (s1 : Int) (H : Heap) (R : Ending → Heap → Prop) : Prop :=
  nilD s0 fun a =>
  zfD Tryz.prog H 138 0 (.pointer (some a)) fun a1 =>
  callD Tryz.prog 115 [(.pointer (some a1))] H (panK R) fun v H1 =>
  tTup v fun l =>
  tNil l <|
  nilD s0 fun a2 =>
  ldMap H1 (Addr.add a2 1) fun m =>
  valD Tryz.prog (Instr.lookup 128 (.map m) (.int .i64 s1) false) H1 (panK R) fun v1 H2 =>
  tPtr v1 fun p =>
  iteB (Option.isNone p) (
    nilD s0 fun a3 =>
    zfD Tryz.prog H2 138 0 (.pointer (some a3)) fun a4 =>
    callD Tryz.prog 120 [(.pointer (some a4))] H2 (panK R) fun v2 H3 =>
    tTup v2 fun l1 =>
    tNil l1 <|
    R (.returned (.tuple ⟨[(.int .i64 (-1 : Int)), (.iface 121 (.string (ByteArray.mk #[108, 101, 97, 115, 101, 32, 110, 111, 116, 32, 102, 111, 117, 110, 100])))]⟩)) H3) <|
  callD Tryz.prog 207 [(.pointer p), (.int .i64 (0 : Int))] H2 (panK R) fun v3 H4 =>
  tTup v3 fun l2 =>
  tNil l2 <|
  nilD p fun a5 =>
  nilD p fun a6 =>
  ldInt H4 a5 .i64 fun n =>
  ldInt H4 (Addr.add a6 4) .i64 fun n1 =>
  ldInt H4 (Addr.add (Addr.add a6 4) 1) .i64 fun n2 =>
  ldBool H4 (Addr.add (Addr.add a6 4) 2) fun b =>
  newD H4 (.cells ⟨[(.int .i64 n), (.int .i64 n1), (.int .i64 n2), (.bool b), (.int .i64 (0 : Int))]⟩ 191) fun r H5 =>
  nilD s0 fun a7 =>
  ldPtr H5 (Addr.add a7 2) fun p1 =>
  callD Tryz.prog 91 [(.pointer p1), (.pointer (some ⟨r, 0, none⟩))] H5 (panK R) fun v4 H6 =>
  tTup v4 fun l3 =>
  tNil l3 <|
  nilD s0 fun a8 =>
  zfD Tryz.prog H6 138 0 (.pointer (some a8)) fun a9 =>
  callD Tryz.prog 120 [(.pointer (some a9))] H6 (panK R) fun v5 H7 =>
  tTup v5 fun l4 =>
  tNil l4 <|
  nilD p fun a10 =>
  ldInt H7 (Addr.add a10 2) .i64 fun n3 =>
  R (.returned (.tuple ⟨[(.int .i64 n3), .nilIface]⟩)) H7
theorem L3_step {s0 : Option Addr} {s1 : Int} {H : Heap} {R : Ending → Heap → Prop} (h : L3n s0 s1 H R) : L3 s0 s1 H R :=
  goL_of_den (an := an) (fuel := 100000) (X := L3n s0 s1 H R) mixed fn (by kernel_rfl) (fun ρ0 => by kernel_rfl) h
def go (s0 : Option Addr) (s1 : Int) (H : Heap) (R : Ending → Heap → Prop) : Prop :=
  nilD s0 fun a =>
  zfD Tryz.prog H 138 0 (.pointer (some a)) fun a1 =>
  callD Tryz.prog 31 [(.pointer (some a1))] H (panK R) fun v H1 =>
  tTup v fun l =>
  tNil l <|
  callD Tryz.prog 39 [(.pointer s0)] H1 (panK R) fun v1 H2 =>
  tBool v1 fun b =>
  iteB (!b) (
    nilD s0 fun a2 =>
    zfD Tryz.prog H2 138 0 (.pointer (some a2)) fun a3 =>
    callD Tryz.prog 32 [(.pointer (some a3))] H2 (panK R) fun v2 H3 =>
    tTup v2 fun l1 =>
    tNil l1 <|
    R (.returned (.tuple ⟨[(.int .i64 (-1 : Int)), (.iface 121 (.string (ByteArray.mk #[110, 111, 116, 32, 97, 32, 112, 114, 105, 109, 97, 114, 121, 32, 108, 101, 115, 115, 111, 114])))]⟩)) H3) <|
  nilD s0 fun a4 =>
  ldCh H2 a4 fun m =>
  nilD s0 fun a5 =>
  ldMap H2 (Addr.add a5 1) fun m1 =>
  valD Tryz.prog (Instr.lookup 128 (.map m1) (.int .i64 s1) false) H2 (panK R) fun v3 H4 =>
  tPtr v3 fun p =>
  iteB (Option.isNone p) (
    nilD s0 fun a6 =>
    zfD Tryz.prog H4 138 0 (.pointer (some a6)) fun a7 =>
    callD Tryz.prog 32 [(.pointer (some a7))] H4 (panK R) fun v4 H5 =>
    tTup v4 fun l2 =>
    tNil l2 <|
    R (.returned (.tuple ⟨[(.int .i64 (-1 : Int)), (.iface 121 (.string (ByteArray.mk #[108, 101, 97, 115, 101, 32, 110, 111, 116, 32, 102, 111, 117, 110, 100])))]⟩)) H5) <|
  nilD s0 fun a8 =>
  ldFn H4 (Addr.add a8 6) fun f =>
  fnNilD (FV.v f) fun b1 =>
  iteB (!b1) (
    nilD p fun a9 =>
    ldInt H4 (Addr.add a9 3) .i64 fun n =>
    L0 s0 s1 m p (decide (n > (0 : Int))) H4 R) <|
  L0 s0 s1 m p false H4 R
theorem calls {s0 : Option Addr} {s1 : Int} {H : Heap} {R : Ending → Heap → Prop} (h : go s0 s1 H R) : CallsH Tryz.prog 197 ⟨[(.pointer s0), (.int .i64 s1)]⟩ H R :=
  callsH_of_den (an := an) (fuel := 100000) (X := go s0 s1 H R) (c := body) mixed fn (by kernel_rfl) (by kernel_rfl) (by kernel_rfl) ok (by kernel_rfl) h
end F197
/-! ### 200 "(*pub-stadtholder/pub/etcdserver/lease.lessor).SetRangeDeleter" -/
namespace F200
def an : Ann := { kinds := [(2, .read), (1002, .read)], taus := [], pairs := [], lab := [] }
noncomputable def body : Code := (Tryz.f200.body).getD .skip
theorem fn : Tryz.prog.funcs[200]? = some Tryz.f200 := by kernel_rfl
theorem ok : codeOk an 15 body = true := by kernel_rfl
def go (le : Option Addr) (rd : FV) (H : Heap) (R : Ending → Heap → Prop) : Prop :=
  nilD le fun a =>
  zfD Tryz.prog H 138 0 (.pointer (some a)) fun a1 =>
  callD Tryz.prog 115 [(.pointer (some a1))] H (panK R) fun v H1 =>
  tTup v fun l =>
  tNil l <|
  noPan R <|
  guardB (idleF Tryz.prog 120) <|
  nilD le fun a2 =>
  zfD Tryz.prog H1 138 0 (.pointer (some a2)) fun a3 =>
  nilD le fun a4 =>
  guardB (isCell (FV.v rd)) <|
  st1 H1 (Addr.add a4 5) (FV.v rd) fun H2 =>
  R (.returned (.tuple ⟨[]⟩)) H2
theorem calls {le : Option Addr} {rd : FV} {H : Heap} {R : Ending → Heap → Prop} (h : go le rd H R) : CallsH Tryz.prog 200 ⟨[(.pointer le), (FV.v rd)]⟩ H R :=
  callsH_of_den (an := an) (fuel := 100000) (X := go le rd H R) (c := body) mixed fn (by kernel_rfl) (by kernel_rfl) (by kernel_rfl) ok (by kernel_rfl) h
end F200
/-! ### 202 "(*pub-stadtholder/pub/etcdserver/lease.Lease).persistTo" -/
namespace F202
def an : Ann := { kinds := [(13, .grow)], taus := [(0, [[0, 1, 2, 4, 5, 6, 8, 9, 10, 3, 7, 11, 12, 13, 14]])], pairs := [], lab := [] }
noncomputable def body : Code := (Tryz.f202.body).getD .skip
theorem fn : Tryz.prog.funcs[202]? = some Tryz.f202 := by kernel_rfl
theorem ok : codeOk an 27 body = true := by kernel_rfl
def go (l : Option Addr) (b : IV) (H : Heap) (R : Ending → Heap → Prop) : Prop :=
  nilD l fun a =>
  nilD l fun a1 =>
  nilD l fun a2 =>
  ldInt H a .i64 fun n =>
  ldInt H (Addr.add a1 2) .i64 fun n1 =>
  ldInt H (Addr.add a2 3) .i64 fun n2 =>
  newD H (.cells ⟨[(.int .i64 (0 : Int)), (.int .i64 (0 : Int)), (.int .i64 (0 : Int))]⟩ 213) fun r H1 =>
  st1 H1 ⟨r, 0, none⟩ (.int .i64 n) fun H2 =>
  st1 H2 ⟨r, 1, none⟩ (.int .i64 n1) fun H3 =>
  st1 H3 ⟨r, 2, none⟩ (.int .i64 n2) fun H4 =>
  callI Tryz.prog (IV.v b) "BatchTx" [] H4 (panK R) fun v H5 =>
  tIf v fun i =>
  callI Tryz.prog (IV.v i) "LockInsideApply" [] H5 (panK R) fun v1 H6 =>
  tTup v1 fun l1 =>
  tNil l1 <|
  noPan R <|
  guardB (noRes Tryz.prog 202) <|
  nilV Tryz.prog (IV.v i) fun v2 =>
  letR (aftI Tryz.prog 202 v2 "Unlock" [] R) fun R =>
  callD Tryz.prog 213 [(IV.v i), (.pointer (some ⟨r, 0, none⟩))] H6 (panK R) fun v3 H7 =>
  tTup v3 fun l2 =>
  tNil l2 <|
  R (.returned (.tuple ⟨[]⟩)) H7
theorem calls {l : Option Addr} {b : IV} {H : Heap} {R : Ending → Heap → Prop} (h : go l b H R) : CallsH Tryz.prog 202 ⟨[(.pointer l), (IV.v b)]⟩ H R :=
  callsH_of_den (an := an) (fuel := 100000) (X := go l b H R) (c := body) mixed fn (by kernel_rfl) (by kernel_rfl) (by kernel_rfl) ok (by kernel_rfl) h
end F202
/-! ### 203 "(*pub-stadtholder/pub/etcdserver/lease.lessor).scheduleCheckpointIfNeeded" -/
namespace F203
def an : Ann := { kinds := [(1001, .grow), (2012, .grow), (2017, .grow), (2019, .grow)], taus := [(1, [[0, 2, 3, 4, 5, 1, 6, 7, 8]]), (2, [[0, 1, 2, 3, 4, 5, 6, 8, 9, 10, 13, 14, 15, 7, 11, 16, 12, 17, 18, 19, 20, 21]])], pairs := [], lab := [] }
noncomputable def body : Code := (Tryz.f203.body).getD .skip
theorem fn : Tryz.prog.funcs[203]? = some Tryz.f203 := by kernel_rfl
theorem ok : codeOk an 40 body = true := by kernel_rfl
def go (le : Option Addr) (lease : Option Addr) (H : Heap) (R : Ending → Heap → Prop) : Prop :=
  nilD le fun a =>
  ldFn H (Addr.add a 6) fun f =>
  fnNilD (FV.v f) fun b =>
  iteB b (
    R (.returned (.tuple ⟨[]⟩)) H) <|
  nilD le fun a1 =>
  ldInt H (Addr.add a1 14) .i64 fun n =>
  callD Tryz.prog 214 [(.pointer lease)] H nope fun v H1 =>
  tInt v .i64 fun n1 =>
  andD (ExtH H H1) <|
  callD Tryz.prog 72 [(.int .i64 n)] H1 (panK R) fun v1 H2 =>
  tFlt v1 .f64 fun x =>
  fiD .f64 x .i64 fun n2 =>
  iteB (decide (n1 > n2)) (
    nilD le fun a2 =>
    nilD lease fun a3 =>
    nilD le fun a4 =>
    nilD le fun a5 =>
    ldInt H2 a3 .i64 fun n3 =>
    ldPtr H2 (Addr.add a4 17) fun p =>
    ldInt H2 (Addr.add a5 14) .i64 fun n4 =>
    callD Tryz.prog 35 [(.pointer p)] H2 nope fun v2 H3 =>
    tAgg v2 fun l =>
    tCons l fun c l1 =>
    tInt c .i64 fun n5 =>
    tCons l1 fun c1 l2 =>
    tInt c1 .i64 fun n6 =>
    tCons l2 fun c2 l3 =>
    tBool c2 fun b1 =>
    tNil l3 <|
    andD (ExtH H2 H3) <|
    callD Tryz.prog 13 [(.agg ⟨[(.int .i64 n5), (.int .i64 n6), (.bool b1)]⟩), (.int .i64 n4)] H3 nope fun v3 H4 =>
    tAgg v3 fun l4 =>
    tCons l4 fun c3 l5 =>
    tInt c3 .i64 fun n7 =>
    tCons l5 fun c4 l6 =>
    tInt c4 .i64 fun n8 =>
    tCons l6 fun c5 l7 =>
    tBool c5 fun b2 =>
    tNil l7 <|
    andD (ExtH H3 H4) <|
    newD H4 (.cells ⟨[(.int .i64 n3), (.int .i64 n7), (.int .i64 n8), (.bool b2), (.int .i64 (0 : Int))]⟩ 191) fun r H5 =>
    callD Tryz.prog 104 [(.iface 194 (.pointer (some (Addr.add a2 3)))), (.iface 189 (.pointer (some ⟨r, 0, none⟩)))] H5 (panK R) fun v4 H6 =>
    tTup v4 fun l8 =>
    tNil l8 <|
    R (.returned (.tuple ⟨[]⟩)) H6) <|
  R (.returned (.tuple ⟨[]⟩)) H2
theorem calls {le : Option Addr} {lease : Option Addr} {H : Heap} {R : Ending → Heap → Prop} (h : go le lease H R) : CallsH Tryz.prog 203 ⟨[(.pointer le), (.pointer lease)]⟩ H R :=
  callsH_of_den (an := an) (fuel := 100000) (X := go le lease H R) (c := body) mixed fn (by kernel_rfl) (by kernel_rfl) (by kernel_rfl) ok (by kernel_rfl) h
end F203
/-! ### 206 "pub-stadtholder/pub/etcdserver/lease.NewLease" -/
namespace F206
def an : Ann := { kinds := [(1003, .heavy 0)], taus := [], pairs := [], lab := [] }
noncomputable def body : Code := (Tryz.f206.body).getD .skip
theorem fn : Tryz.prog.funcs[206]? = some Tryz.f206 := by kernel_rfl
theorem ok : codeOk an 11 body = true := by kernel_rfl
def go (id : Int) (ttl : Int) (H : Heap) (R : Ending → Heap → Prop) : Prop :=
  newD H (.map #[] 0) fun r H1 =>
  valD Tryz.prog (Instr.makeChan 100 (.int .i64 (0 : Int))) H1 (panK R) fun v H2 =>
  tCh v fun r1 =>
  newD H2 (.cells ⟨[(.int .i64 id), (.pointer none), (.int .i64 ttl), (.int .i64 (0 : Int)), (.int .i64 (0 : Int)), (.int .i64 (0 : Int)), (.bool false), (.map (some r)), (.chan r1)]⟩ 102) fun r2 H3 =>
  R (.returned (.pointer (some ⟨r2, 0, none⟩))) H3
theorem calls {id : Int} {ttl : Int} {H : Heap} {R : Ending → Heap → Prop} (h : go id ttl H R) : CallsH Tryz.prog 206 ⟨[(.int .i64 id), (.int .i64 ttl)]⟩ H R :=
  callsH_of_den (an := an) (fuel := 100000) (X := go id ttl H R) (c := body) mixed fn (by kernel_rfl) (by kernel_rfl) (by kernel_rfl) ok (by kernel_rfl) h
end F206
/-! ### 207 "(*pub-stadtholder/pub/etcdserver/lease.Lease).refresh" -/
namespace F207
def an : Ann := { kinds := [(1002, .read), (2002, .read)], taus := [], pairs := [], lab := [] }
noncomputable def body : Code := (Tryz.f207.body).getD .skip
theorem fn : Tryz.prog.funcs[207]? = some Tryz.f207 := by kernel_rfl
theorem ok : codeOk an 27 body = true := by kernel_rfl
def go (l : Option Addr) (extend : Int) (H : Heap) (R : Ending → Heap → Prop) : Prop :=
  nilD l fun a =>
  ldPtr H (Addr.add a 1) fun p =>
  callD Tryz.prog 35 [(.pointer p)] H (panK R) fun v H1 =>
  tAgg v fun l1 =>
  tCons l1 fun c l2 =>
  tInt c .i64 fun n =>
  tCons l2 fun c1 l3 =>
  tInt c1 .i64 fun n1 =>
  tCons l3 fun c2 l4 =>
  tBool c2 fun b =>
  tNil l4 <|
  callD Tryz.prog 214 [(.pointer l)] H1 (panK R) fun v1 H2 =>
  tInt v1 .i64 fun n2 =>
  callD Tryz.prog 13 [(.agg ⟨[(.int .i64 n), (.int .i64 n1), (.bool b)]⟩), (.int .i64 (IntKind.wrap .i64 (extend + (IntKind.wrap .i64 (n2 * (1000000000 : Int))))))] H2 (panK R) fun v2 H3 =>
  tAgg v2 fun l5 =>
  tCons l5 fun c3 l6 =>
  tInt c3 .i64 fun n3 =>
  tCons l6 fun c4 l7 =>
  tInt c4 .i64 fun n4 =>
  tCons l7 fun c5 l8 =>
  tBool c5 fun b1 =>
  tNil l8 <|
  newD H3 (.cells ⟨[(.int .i64 (0 : Int)), (.int .i64 (0 : Int)), (.bool false)]⟩ 42) fun r H4 =>
  st1 H4 ⟨r, 0, none⟩ (.int .i64 n3) fun H5 =>
  st1 H5 ⟨r, 1, none⟩ (.int .i64 n4) fun H6 =>
  st1 H6 ⟨r, 2, none⟩ (.bool b1) fun H7 =>
  nilD l fun a1 =>
  zfD Tryz.prog H7 102 4 (.pointer (some a1)) fun a2 =>
  callD Tryz.prog 115 [(.pointer (some a2))] H7 (panK R) fun v3 H8 =>
  tTup v3 fun l9 =>
  tNil l9 <|
  noPan R <|
  guardB (idleF Tryz.prog 120) <|
  nilD l fun a3 =>
  zfD Tryz.prog H8 102 4 (.pointer (some a3)) fun a4 =>
  ldInt H8 ⟨r, 0, none⟩ .i64 fun n5 =>
  ldInt H8 ⟨r, 1, none⟩ .i64 fun n6 =>
  ldBool H8 ⟨r, 2, none⟩ fun b2 =>
  nilD l fun a5 =>
  st1 H8 (Addr.add a5 4) (.int .i64 n5) fun H9 =>
  st1 H9 (Addr.add (Addr.add a5 4) 1) (.int .i64 n6) fun H10 =>
  st1 H10 (Addr.add (Addr.add a5 4) 2) (.bool b2) fun H11 =>
  R (.returned (.tuple ⟨[]⟩)) H11
theorem calls {l : Option Addr} {extend : Int} {H : Heap} {R : Ending → Heap → Prop} (h : go l extend H R) : CallsH Tryz.prog 207 ⟨[(.pointer l), (.int .i64 extend)]⟩ H R :=
  callsH_of_den (an := an) (fuel := 100000) (X := go l extend H R) (c := body) mixed fn (by kernel_rfl) (by kernel_rfl) (by kernel_rfl) ok (by kernel_rfl) h
end F207
/-! ### 209 "pub-stadtholder/pub/etcdserver/lease.zzSorted" -/
namespace F209
def an : Ann := { kinds := [(1001, .heavy 0), (2001, .heavy 0), (3000, .heavy 128), (4000, .heavy 128)], taus := [], pairs := [], lab := [(40000004, [3, 10])] }
noncomputable def body : Code := (Tryz.f209.body).getD .skip
theorem fn : Tryz.prog.funcs[209]? = some Tryz.f209 := by kernel_rfl
theorem ok : codeOk an 22 body = true := by kernel_rfl
noncomputable def L0t : List Item := [.code (sub [1, 1, 0, 1, 0, 0] body), .inLoop (sub [1, 1, 0, 1, 0, 0] body), .inBlock 0, .code (sub [1, 1, 1] body)]
def L0 (out : Option Addr) (outn : Nat) (outc : Nat) (s10 : Option Addr) (H : Heap) (R : Ending → Heap → Prop) : Prop :=
  GoL Tryz.prog 209 22 L0t [3, 10] [(.slice out outn outc), (.pointer s10)] H R
def L0n (out : Option Addr) (outn : Nat) (outc : Nat) (s10 : Option Addr) (H : Heap) (R : Ending → Heap → Prop) : Prop :=
  valD Tryz.prog (Instr.next (.pointer s10) false 0) H (panK R) fun v H1 =>
  tTup v fun l =>
  tCons l fun c l1 =>
  tBool c fun b =>
  iteB b (
    tCons l1 fun c1 l2 =>
    tInt c1 .i64 fun n =>
    tCons l2 fun c2 l3 =>
    tPtr c2 fun p =>
    tNil l3 <|
    valD Tryz.prog (Instr.entry (.pointer s10)) H1 (panK R) fun v1 H2 =>
    tTup v1 fun l4 =>
    tCons l4 fun c3 l5 =>
    tInt c3 .i64 fun n1 =>
    tCons l5 fun c4 l6 =>
    tPtr c4 fun p1 =>
    tNil l6 <|
    newD H2 (.cells ⟨[(.pointer p1)]⟩ 84) fun r H3 =>
    apD H3 1 8 [(.pointer none)] 84 out outn outc (some ⟨r, 0, none⟩) 1 fun q qn qc H4 =>
    L0 q qn qc s10 H4 R) <|
  tNil l1 <|
  callD Tryz.prog 215 [(.slice out outn outc), (.func (.func 216) ⟨[]⟩ ⟨[]⟩)] H1 (panK R) fun v2 H5 =>
  tTup v2 fun l7 =>
  tNil l7 <|
  R (.returned (.slice out outn outc)) H5
theorem L0_step {out : Option Addr} {outn : Nat} {outc : Nat} {s10 : Option Addr} {H : Heap} {R : Ending → Heap → Prop} (h : L0n out outn outc s10 H R) : L0 out outn outc s10 H R :=
  goL_of_den (an := an) (fuel := 100000) (X := L0n out outn outc s10 H R) mixed fn (by kernel_rfl) (fun ρ0 => by kernel_rfl) h
def go (m : Option Nat) (H : Heap) (R : Ending → Heap → Prop) : Prop :=
  valD Tryz.prog (Builtin.len_ #[128] 3 ⟨[(.map m)]⟩) H (panK R) fun v H1 =>
  tInt v .i64 fun n =>
  mkD H1 8 [(.pointer none)] 84 (0 : Int) n fun r k c H2 =>
  valD Tryz.prog (Instr.range 128 (.map m)) H2 (panK R) fun v1 H3 =>
  tPtr v1 fun p =>
  L0 (some ⟨r, 0, none⟩) k c p H3 R
theorem calls {m : Option Nat} {H : Heap} {R : Ending → Heap → Prop} (h : go m H R) : CallsH Tryz.prog 209 ⟨[(.map m)]⟩ H R :=
  callsH_of_den (an := an) (fuel := 100000) (X := go m H R) (c := body) mixed fn (by kernel_rfl) (by kernel_rfl) (by kernel_rfl) ok (by kernel_rfl) h
end F209
/-! ### 213 "pub-stadtholder/pub/etcdserver/storage/schema.MustUnsafePutLease" -/
namespace F213
def an : Ann := { kinds := [], taus := [(4, [[0, 2, 3, 4, 5, 6, 1, 7]])], pairs := [], lab := [(10000005, [0, 4, 5])] }
noncomputable def body : Code := (Tryz.f213.body).getD .skip
theorem fn : Tryz.prog.funcs[213]? = some Tryz.f213 := by kernel_rfl
theorem ok : codeOk an 29 body = true := by kernel_rfl
noncomputable def L0t : List Item := [.code (sub [1, 1, 1] body)]
def L0 (tx : IV) (key : Option Addr) (keyn : Nat) (keyc : Nat) (val : Option Addr) (valn : Nat) (valc : Nat) (H : Heap) (R : Ending → Heap → Prop) : Prop :=
  GoL Tryz.prog 213 29 L0t [0, 4, 5] [(IV.v tx), (.slice key keyn keyc), (.slice val valn valc)] H R
def L0n (tx : IV) (key : Option Addr) (keyn : Nat) (keyc : Nat) (val : Option Addr) (valn : Nat) (valc : Nat) (H : Heap) (R : Ending → Heap → Prop) : Prop :=
  nilM Tryz.prog "UnsafePut" ⟨[(IV.v tx)]⟩ <|
  callD Tryz.prog 98 [] H (panK R) fun v H1 =>
  tIf v fun i =>
  callI Tryz.prog (IV.v tx) "UnsafePut" [(IV.v i), (.slice key keyn keyc), (.slice val valn valc)] H1 (panK R) fun v1 H2 =>
  tTup v1 fun l =>
  tNil l <|
  R (.returned (.tuple ⟨[]⟩)) H2
theorem L0_step {tx : IV} {key : Option Addr} {keyn : Nat} {keyc : Nat} {val : Option Addr} {valn : Nat} {valc : Nat} {H : Heap} {R : Ending → Heap → Prop} (h : L0n tx key keyn keyc val valn valc H R) : L0 tx key keyn keyc val valn valc H R :=
  goL_of_den (an := an) (fuel := 100000) (X := L0n tx key keyn keyc val valn valc H R) mixed fn (by kernel_rfl) (fun ρ0 => by kernel_rfl) h
def go (tx : IV) (lpb : Option Addr) (H : Heap) (R : Ending → Heap → Prop) : Prop :=
  nilD lpb fun a =>
  ldInt H a .i64 fun n =>
  callD Tryz.prog 217 [(.int .i64 n)] H (panK R) fun v H1 =>
  tSl v fun q qn qc =>
  callD Tryz.prog 218 [(.iface 211 (.pointer lpb))] H1 (panK R) fun v1 H2 =>
  tTup v1 fun l =>
  tCons l fun c l1 =>
  tSl c fun q1 q1n q1c =>
  tCons l1 fun c1 l2 =>
  tIf c1 fun i =>
  tNil l2 <|
  ifNilD (IV.v i) fun b =>
  iteB (!b) (
    panD (.iface 9 (.string (ByteArray.mk #[102, 97, 105, 108, 101, 100, 32, 116, 111, 32, 109, 97, 114, 115, 104, 97, 108, 32, 108, 101, 97, 115, 101, 32, 112, 114, 111, 116, 111, 32, 105, 116, 101, 109]))) H2 (panK R)) <|
  L0 tx q qn qc q1 q1n q1c H2 R
theorem calls {tx : IV} {lpb : Option Addr} {H : Heap} {R : Ending → Heap → Prop} (h : go tx lpb H R) : CallsH Tryz.prog 213 ⟨[(IV.v tx), (.pointer lpb)]⟩ H R :=
  callsH_of_den (an := an) (fuel := 100000) (X := go tx lpb H R) (c := body) mixed fn (by kernel_rfl) (by kernel_rfl) (by kernel_rfl) ok (by kernel_rfl) h
end F213
/-! ### 214 "(*pub-stadtholder/pub/etcdserver/lease.Lease).getRemainingTTL" -/
namespace F214
def an : Ann := { kinds := [], taus := [], pairs := [], lab := [] }
noncomputable def body : Code := (Tryz.f214.body).getD .skip
theorem fn : Tryz.prog.funcs[214]? = some Tryz.f214 := by kernel_rfl
theorem ok : codeOk an 16 body = true := by kernel_rfl
def go (l : Option Addr) (H : Heap) (R : Ending → Heap → Prop) : Prop :=
  nilD l fun a =>
  ldInt H (Addr.add a 3) .i64 fun n =>
  iteB (decide (n > (0 : Int))) (
    nilD l fun a1 =>
    ldInt H (Addr.add a1 3) .i64 fun n1 =>
    R (.returned (.int .i64 n1)) H) <|
  nilD l fun a2 =>
  ldInt H (Addr.add a2 2) .i64 fun n2 =>
  R (.returned (.int .i64 n2)) H
theorem calls {l : Option Addr} {H : Heap} {R : Ending → Heap → Prop} (h : go l H R) : CallsH Tryz.prog 214 ⟨[(.pointer l)]⟩ H R :=
  callsH_of_den (an := an) (fuel := 100000) (X := go l H R) (c := body) mixed fn (by kernel_rfl) (by kernel_rfl) (by kernel_rfl) ok (by kernel_rfl) h
end F214
/-! ### 215 "slices.SortFunc[[]*pub-stadtholder/pub/etcdserver/lease.Lease,*pub-stadtholder/pub/etcdserver/lease.Lease]" -/
namespace F215
def an : Ann := { kinds := [], taus := [], pairs := [], lab := [] }
noncomputable def body : Code := (Tryz.f215.body).getD .skip
theorem fn : Tryz.prog.funcs[215]? = some Tryz.f215 := by kernel_rfl
theorem ok : codeOk an 14 body = true := by kernel_rfl
def go (x : Option Addr) (xn : Nat) (xc : Nat) (cmp : FV) (H : Heap) (R : Ending → Heap → Prop) : Prop :=
  callD Tryz.prog 37 [(.int .u64 (IntKind.wrap .u64 ((xn : Nat) : Int)))] H (panK R) fun v H1 =>
  tInt v .i64 fun n =>
  callD Tryz.prog 219 [(.slice x xn xc), (.int .i64 (0 : Int)), (.int .i64 ((xn : Nat) : Int)), (.int .i64 n), (FV.v cmp)] H1 (panK R) fun v1 H2 =>
  tTup v1 fun l =>
  tNil l <|
  R (.returned (.tuple ⟨[]⟩)) H2
theorem calls {x : Option Addr} {xn : Nat} {xc : Nat} {cmp : FV} {H : Heap} {R : Ending → Heap → Prop} (h : go x xn xc cmp H R) : CallsH Tryz.prog 215 ⟨[(.slice x xn xc), (FV.v cmp)]⟩ H R :=
  callsH_of_den (an := an) (fuel := 100000) (X := go x xn xc cmp H R) (c := body) mixed fn (by kernel_rfl) (by kernel_rfl) (by kernel_rfl) ok (by kernel_rfl) h
end F215
/-! ### 217 "pub-stadtholder/pub/etcdserver/storage/schema.leaseIDToBytes" -/
namespace F217
def an : Ann := { kinds := [], taus := [], pairs := [], lab := [] }
noncomputable def body : Code := (Tryz.f217.body).getD .skip
theorem fn : Tryz.prog.funcs[217]? = some Tryz.f217 := by kernel_rfl
theorem ok : codeOk an 10 body = true := by kernel_rfl
def go (n : Int) (H : Heap) (R : Ending → Heap → Prop) : Prop :=
  mkD H 1 [(.int .u8 (0 : Int))] 5 (8 : Int) (8 : Int) fun r k c H1 =>
  callD Tryz.prog 220 [(.slice (some ⟨r, 0, none⟩) k c), (.int .u64 (IntKind.wrap .u64 n))] H1 (panK R) fun v H2 =>
  tTup v fun l =>
  tNil l <|
  R (.returned (.slice (some ⟨r, 0, none⟩) k c)) H2
theorem calls {n : Int} {H : Heap} {R : Ending → Heap → Prop} (h : go n H R) : CallsH Tryz.prog 217 ⟨[(.int .i64 n)]⟩ H R :=
  callsH_of_den (an := an) (fuel := 100000) (X := go n H R) (c := body) mixed fn (by kernel_rfl) (by kernel_rfl) (by kernel_rfl) ok (by kernel_rfl) h
end F217
/-! ### 218 "pub-stadtholder/pub/stand/proto.Marshal" -/
namespace F218
def an : Ann := { kinds := [], taus := [], pairs := [], lab := [] }
noncomputable def body : Code := (Tryz.f218.body).getD .skip
theorem fn : Tryz.prog.funcs[218]? = some Tryz.f218 := by kernel_rfl
theorem ok : codeOk an 6 body = true := by kernel_rfl
def go (m : IV) (H : Heap) (R : Ending → Heap → Prop) : Prop :=
  callI Tryz.prog (IV.v m) "PutFields" [] H (panK R) fun v H1 =>
  tSl v fun q qn qc =>
  R (.returned (.tuple ⟨[(.slice q qn qc), .nilIface]⟩)) H1
theorem calls {m : IV} {H : Heap} {R : Ending → Heap → Prop} (h : go m H R) : CallsH Tryz.prog 218 ⟨[(IV.v m)]⟩ H R :=
  callsH_of_den (an := an) (fuel := 100000) (X := go m H R) (c := body) mixed fn (by kernel_rfl) (by kernel_rfl) (by kernel_rfl) ok (by kernel_rfl) h
end F218
/-! ### 219 "slices.pdqsortCmpFunc[*pub-stadtholder/pub/etcdserver/lease.Lease]" -/
namespace F219
def an : Ann := { kinds := [], taus := [(17, [[0, 1, 2, 3, 4, 5, 6, 7, 9, 10, 11, 8, 12, 13, 14, 15, 16]])], pairs := [], lab := [(30000003, [0, 1, 2, 3, 4, 10, 11]), (40000011, [0, 1, 2, 3, 4, 10, 11, 12]), (40000016, [0, 1, 2, 3, 4, 10, 11, 12, 13, 14]), (50000017, [0, 1, 2, 3, 4, 10, 11, 12, 13]), (40000018, [0, 1, 2, 3, 4, 10, 11, 12, 13]), (40000021, [0, 1, 2, 3, 4, 12, 13]), (50000019, [0, 1, 2, 3, 4, 10, 11, 13])] }
noncomputable def body : Code := (Tryz.f219.body).getD .skip
theorem fn : Tryz.prog.funcs[219]? = some Tryz.f219 := by kernel_rfl
theorem ok : codeOk an 148 body = true := by kernel_rfl
noncomputable def L0t : List Item := [.code (sub [1, 1, 0, 0] body), .inLoop (sub [1, 1, 0, 0] body), .inBlock 0]
def L0 (s0 : Option Addr) (s0n : Nat) (s0c : Nat) (s1 : Int) (s2 : Int) (s3 : Int) (s4 : FV) (s10 : Bool) (s11 : Bool) (H : Heap) (R : Ending → Heap → Prop) : Prop :=
  GoL Tryz.prog 219 148 L0t [0, 1, 2, 3, 4, 10, 11] [(.slice s0 s0n s0c), (.int .i64 s1), (.int .i64 s2), (.int .i64 s3), (FV.v s4), (.bool s10), (.bool s11)] H R
noncomputable def L1t : List Item := [.code (sub [1, 1, 0, 0, 0, 1, 1, 1, 1] body), .inBlock 1, .inLoop (sub [1, 1, 0, 0] body), .inBlock 0]
def L1 (s0 : Option Addr) (s0n : Nat) (s0c : Nat) (s1 : Int) (s2 : Int) (s3 : Int) (s4 : FV) (s10 : Bool) (s11 : Bool) (s12 : Int) (H : Heap) (R : Ending → Heap → Prop) : Prop :=
  GoL Tryz.prog 219 148 L1t [0, 1, 2, 3, 4, 10, 11, 12] [(.slice s0 s0n s0c), (.int .i64 s1), (.int .i64 s2), (.int .i64 s3), (FV.v s4), (.bool s10), (.bool s11), (.int .i64 s12)] H R
noncomputable def L2t : List Item := [.code (sub [1, 1, 0, 0, 0, 1, 1, 1, 1, 1, 1] body), .inBlock 1, .inLoop (sub [1, 1, 0, 0] body), .inBlock 0]
def L2 (s0 : Option Addr) (s0n : Nat) (s0c : Nat) (s1 : Int) (s2 : Int) (s3 : Int) (s4 : FV) (s10 : Bool) (s11 : Bool) (s12 : Int) (s13 : Int) (s14 : Int) (H : Heap) (R : Ending → Heap → Prop) : Prop :=
  GoL Tryz.prog 219 148 L2t [0, 1, 2, 3, 4, 10, 11, 12, 13, 14] [(.slice s0 s0n s0c), (.int .i64 s1), (.int .i64 s2), (.int .i64 s3), (FV.v s4), (.bool s10), (.bool s11), (.int .i64 s12), (.int .i64 s13), (.int .i64 s14)] H R
noncomputable def L3t : List Item := [.code (sub [1, 1, 0, 0, 0, 1, 1, 1, 1, 1, 1, 0, 1, 0] body), .code (sub [1, 1, 0, 0, 0, 1, 1, 1, 1, 1, 1, 1] body), .inBlock 1, .inLoop (sub [1, 1, 0, 0] body), .inBlock 0]
def L3 (s0 : Option Addr) (s0n : Nat) (s0c : Nat) (s1 : Int) (s2 : Int) (s3 : Int) (s4 : FV) (s10 : Bool) (s11 : Bool) (s12 : Int) (s13 : Int) (H : Heap) (R : Ending → Heap → Prop) : Prop :=
  GoL Tryz.prog 219 148 L3t [0, 1, 2, 3, 4, 10, 11, 12, 13] [(.slice s0 s0n s0c), (.int .i64 s1), (.int .i64 s2), (.int .i64 s3), (FV.v s4), (.bool s10), (.bool s11), (.int .i64 s12), (.int .i64 s13)] H R
noncomputable def L4t : List Item := [.code (sub [1, 1, 0, 0, 0, 1, 1, 1, 1, 1, 1, 1] body), .inBlock 1, .inLoop (sub [1, 1, 0, 0] body), .inBlock 0]
def L4 (s0 : Option Addr) (s0n : Nat) (s0c : Nat) (s1 : Int) (s2 : Int) (s3 : Int) (s4 : FV) (s10 : Bool) (s11 : Bool) (s12 : Int) (s13 : Int) (H : Heap) (R : Ending → Heap → Prop) : Prop :=
  GoL Tryz.prog 219 148 L4t [0, 1, 2, 3, 4, 10, 11, 12, 13] [(.slice s0 s0n s0c), (.int .i64 s1), (.int .i64 s2), (.int .i64 s3), (FV.v s4), (.bool s10), (.bool s11), (.int .i64 s12), (.int .i64 s13)] H R
noncomputable def L5t : List Item := [.code (sub [1, 1, 0, 0, 0, 1, 1, 1, 1, 1, 1, 1, 1] body), .inBlock 1, .inLoop (sub [1, 1, 0, 0] body), .inBlock 0]
def L5 (s0 : Option Addr) (s0n : Nat) (s0c : Nat) (s1 : Int) (s2 : Int) (s3 : Int) (s4 : FV) (s12 : Int) (s13 : Int) (H : Heap) (R : Ending → Heap → Prop) : Prop :=
  GoL Tryz.prog 219 148 L5t [0, 1, 2, 3, 4, 12, 13] [(.slice s0 s0n s0c), (.int .i64 s1), (.int .i64 s2), (.int .i64 s3), (FV.v s4), (.int .i64 s12), (.int .i64 s13)] H R
noncomputable def L6t : List Item := [.code (sub [1, 1, 0, 0, 0, 1, 1, 1, 1, 1, 1, 1, 0, 1, 0] body), .code (sub [1, 1, 0, 0, 0, 1, 1, 1, 1, 1, 1, 1, 1] body), .inBlock 1, .inLoop (sub [1, 1, 0, 0] body), .inBlock 0]
def L6 (s0 : Option Addr) (s0n : Nat) (s0c : Nat) (s1 : Int) (s2 : Int) (s3 : Int) (s4 : FV) (s10 : Bool) (s11 : Bool) (s13 : Int) (H : Heap) (R : Ending → Heap → Prop) : Prop :=
  GoL Tryz.prog 219 148 L6t [0, 1, 2, 3, 4, 10, 11, 13] [(.slice s0 s0n s0c), (.int .i64 s1), (.int .i64 s2), (.int .i64 s3), (FV.v s4), (.bool s10), (.bool s11), (.int .i64 s13)] H R
def L0n (s0 : Option Addr) (s0n : Nat) (s0c : Nat) (s1 : Int) (s2 : Int) (s3 : Int) (s4 : FV) (s10 : Bool) (s11 : Bool) (H : Heap) (R : Ending → Heap → Prop) : Prop :=
  iteB (decide ((IntKind.wrap .i64 (s2 - s1)) ≤ (12 : Int))) (
    callD Tryz.prog 221 [(.slice s0 s0n s0c), (.int .i64 s1), (.int .i64 s2), (FV.v s4)] H (panK R) fun v H1 =>
    tTup v fun l =>
    tNil l <|
    R (.returned (.tuple ⟨[]⟩)) H1) <|
  iteB (s3 == (0 : Int)) (
    callD Tryz.prog 222 [(.slice s0 s0n s0c), (.int .i64 s1), (.int .i64 s2), (FV.v s4)] H (panK R) fun v1 H2 =>
    tTup v1 fun l1 =>
    tNil l1 <|
    R (.returned (.tuple ⟨[]⟩)) H2) <|
  iteB (!s10) (
    callD Tryz.prog 223 [(.slice s0 s0n s0c), (.int .i64 s1), (.int .i64 s2), (FV.v s4)] H (panK R) fun v2 H3 =>
    tTup v2 fun l2 =>
    tNil l2 <|
    L1 s0 s0n s0c s1 s2 (IntKind.wrap .i64 (s3 - (1 : Int))) s4 s10 s11 (IntKind.wrap .i64 (s2 - s1)) H3 R) <|
  L1 s0 s0n s0c s1 s2 s3 s4 s10 s11 (IntKind.wrap .i64 (s2 - s1)) H R
theorem L0_step {s0 : Option Addr} {s0n : Nat} {s0c : Nat} {s1 : Int} {s2 : Int} {s3 : Int} {s4 : FV} {s10 : Bool} {s11 : Bool} {H : Heap} {R : Ending → Heap → Prop} (h : L0n s0 s0n s0c s1 s2 s3 s4 s10 s11 H R) : L0 s0 s0n s0c s1 s2 s3 s4 s10 s11 H R :=
  goL_of_den (an := an) (fuel := 100000) (X := L0n s0 s0n s0c s1 s2 s3 s4 s10 s11 H R) mixed fn (by kernel_rfl) (fun ρ0 => by kernel_rfl) h
def L1n (s0 : Option Addr) (s0n : Nat) (s0c : Nat) (s1 : Int) (s2 : Int) (s3 : Int) (s4 : FV) (s10 : Bool) (s11 : Bool) (s12 : Int) (H : Heap) (R : Ending → Heap → Prop) : Prop :=
  callD Tryz.prog 224 [(.slice s0 s0n s0c), (.int .i64 s1), (.int .i64 s2), (FV.v s4)] H (panK R) fun v H1 =>
  tTup v fun l =>
  tCons l fun c l1 =>
  tInt c .i64 fun n =>
  tCons l1 fun c1 l2 =>
  tInt c1 .i64 fun n1 =>
  tNil l2 <|
  iteB (n1 == (2 : Int)) (
    callD Tryz.prog 225 [(.slice s0 s0n s0c), (.int .i64 s1), (.int .i64 s2), (FV.v s4)] H1 (panK R) fun v1 H2 =>
    tTup v1 fun l3 =>
    tNil l3 <|
    L2 s0 s0n s0c s1 s2 s3 s4 s10 s11 s12 (IntKind.wrap .i64 ((IntKind.wrap .i64 (s2 - (1 : Int))) - (IntKind.wrap .i64 (n - s1)))) (1 : Int) H2 R) <|
  L2 s0 s0n s0c s1 s2 s3 s4 s10 s11 s12 n n1 H1 R
theorem L1_step {s0 : Option Addr} {s0n : Nat} {s0c : Nat} {s1 : Int} {s2 : Int} {s3 : Int} {s4 : FV} {s10 : Bool} {s11 : Bool} {s12 : Int} {H : Heap} {R : Ending → Heap → Prop} (h : L1n s0 s0n s0c s1 s2 s3 s4 s10 s11 s12 H R) : L1 s0 s0n s0c s1 s2 s3 s4 s10 s11 s12 H R :=
  goL_of_den (an := an) (fuel := 100000) (X := L1n s0 s0n s0c s1 s2 s3 s4 s10 s11 s12 H R) mixed fn (by kernel_rfl) (fun ρ0 => by kernel_rfl) h
def L2n (s0 : Option Addr) (s0n : Nat) (s0c : Nat) (s1 : Int) (s2 : Int) (s3 : Int) (s4 : FV) (s10 : Bool) (s11 : Bool) (s12 : Int) (s13 : Int) (s14 : Int) (H : Heap) (R : Ending → Heap → Prop) : Prop :=
  iteB s10 (
    iteB s11 (
      iteB (s14 == (1 : Int)) (
        L3 s0 s0n s0c s1 s2 s3 s4 s10 s11 s12 s13 H R) <|
      L4 s0 s0n s0c s1 s2 s3 s4 s10 s11 s12 s13 H R) <|
    L4 s0 s0n s0c s1 s2 s3 s4 s10 s11 s12 s13 H R) <|
  L4 s0 s0n s0c s1 s2 s3 s4 s10 s11 s12 s13 H R
theorem L2_step {s0 : Option Addr} {s0n : Nat} {s0c : Nat} {s1 : Int} {s2 : Int} {s3 : Int} {s4 : FV} {s10 : Bool} {s11 : Bool} {s12 : Int} {s13 : Int} {s14 : Int} {H : Heap} {R : Ending → Heap → Prop} (h : L2n s0 s0n s0c s1 s2 s3 s4 s10 s11 s12 s13 s14 H R) : L2 s0 s0n s0c s1 s2 s3 s4 s10 s11 s12 s13 s14 H R :=
  goL_of_den (an := an) (fuel := 100000) (X := L2n s0 s0n s0c s1 s2 s3 s4 s10 s11 s12 s13 s14 H R) mixed fn (by kernel_rfl) (fun ρ0 => by kernel_rfl) h
def L3n (s0 : Option Addr) (s0n : Nat) (s0c : Nat) (s1 : Int) (s2 : Int) (s3 : Int) (s4 : FV) (s10 : Bool) (s11 : Bool) (s12 : Int) (s13 : Int) (H : Heap) (R : Ending → Heap → Prop) : Prop :=
  callD Tryz.prog 226 [(.slice s0 s0n s0c), (.int .i64 s1), (.int .i64 s2), (FV.v s4)] H (panK R) fun v H1 =>
  tBool v fun b =>
  iteB b (
    R (.returned (.tuple ⟨[]⟩)) H1) <|
  L4 s0 s0n s0c s1 s2 s3 s4 s10 s11 s12 s13 H1 R
theorem L3_step {s0 : Option Addr} {s0n : Nat} {s0c : Nat} {s1 : Int} {s2 : Int} {s3 : Int} {s4 : FV} {s10 : Bool} {s11 : Bool} {s12 : Int} {s13 : Int} {H : Heap} {R : Ending → Heap → Prop} (h : L3n s0 s0n s0c s1 s2 s3 s4 s10 s11 s12 s13 H R) : L3 s0 s0n s0c s1 s2 s3 s4 s10 s11 s12 s13 H R :=
  goL_of_den (an := an) (fuel := 100000) (X := L3n s0 s0n s0c s1 s2 s3 s4 s10 s11 s12 s13 H R) mixed fn (by kernel_rfl) (fun ρ0 => by kernel_rfl) h
def L4n (s0 : Option Addr) (s0n : Nat) (s0c : Nat) (s1 : Int) (s2 : Int) (s3 : Int) (s4 : FV) (s10 : Bool) (s11 : Bool) (s12 : Int) (s13 : Int) (H : Heap) (R : Ending → Heap → Prop) : Prop :=
  iteB (decide (s1 > (0 : Int))) (
    idxD s0 s0n (IntKind.wrap .i64 (s1 - (1 : Int))) fun a =>
    idxD s0 s0n s13 fun a1 =>
    ldPtr H (Addr.add a (Int.toNat (IntKind.wrap .i64 (s1 - (1 : Int))) * 1)) fun p =>
    ldPtr H (Addr.add a1 (Int.toNat s13 * 1)) fun p1 =>
    callV Tryz.prog (FV.v s4) [(.pointer p), (.pointer p1)] H (panK R) fun v H1 =>
    tInt v .i64 fun n =>
    iteB (!(decide (n < (0 : Int)))) (
      L6 s0 s0n s0c s1 s2 s3 s4 s10 s11 s13 H1 R) <|
    L5 s0 s0n s0c s1 s2 s3 s4 s12 s13 H1 R) <|
  L5 s0 s0n s0c s1 s2 s3 s4 s12 s13 H R
theorem L4_step {s0 : Option Addr} {s0n : Nat} {s0c : Nat} {s1 : Int} {s2 : Int} {s3 : Int} {s4 : FV} {s10 : Bool} {s11 : Bool} {s12 : Int} {s13 : Int} {H : Heap} {R : Ending → Heap → Prop} (h : L4n s0 s0n s0c s1 s2 s3 s4 s10 s11 s12 s13 H R) : L4 s0 s0n s0c s1 s2 s3 s4 s10 s11 s12 s13 H R :=
  goL_of_den (an := an) (fuel := 100000) (X := L4n s0 s0n s0c s1 s2 s3 s4 s10 s11 s12 s13 H R) mixed fn (by kernel_rfl) (fun ρ0 => by kernel_rfl) h
def L5n (s0 : Option Addr) (s0n : Nat) (s0c : Nat) (s1 : Int) (s2 : Int) (s3 : Int) (s4 : FV) (s12 : Int) (s13 : Int) (H : Heap) (R : Ending → Heap → Prop) : Prop :=
  callD Tryz.prog 228 [(.slice s0 s0n s0c), (.int .i64 s1), (.int .i64 s2), (.int .i64 s13), (FV.v s4)] H (panK R) fun v H1 =>
  tTup v fun l =>
  tCons l fun c l1 =>
  tInt c .i64 fun n =>
  tCons l1 fun c1 l2 =>
  tBool c1 fun b =>
  tNil l2 <|
  divD (8 : Int) <|
  iteB (decide ((IntKind.wrap .i64 (n - s1)) < (IntKind.wrap .i64 (s2 - n)))) (
    callD Tryz.prog 219 [(.slice s0 s0n s0c), (.int .i64 s1), (.int .i64 n), (.int .i64 s3), (FV.v s4)] H1 (panK R) fun v1 H2 =>
    tTup v1 fun l3 =>
    tNil l3 <|
    L0 s0 s0n s0c (IntKind.wrap .i64 (n + (1 : Int))) s2 s3 s4 (decide ((IntKind.wrap .i64 (n - s1)) ≥ (IntKind.wrap .i64 (Int.tdiv s12 (8 : Int))))) b H2 R) <|
  callD Tryz.prog 219 [(.slice s0 s0n s0c), (.int .i64 (IntKind.wrap .i64 (n + (1 : Int)))), (.int .i64 s2), (.int .i64 s3), (FV.v s4)] H1 (panK R) fun v2 H3 =>
  tTup v2 fun l4 =>
  tNil l4 <|
  L0 s0 s0n s0c s1 n s3 s4 (decide ((IntKind.wrap .i64 (s2 - n)) ≥ (IntKind.wrap .i64 (Int.tdiv s12 (8 : Int))))) b H3 R
theorem L5_step {s0 : Option Addr} {s0n : Nat} {s0c : Nat} {s1 : Int} {s2 : Int} {s3 : Int} {s4 : FV} {s12 : Int} {s13 : Int} {H : Heap} {R : Ending → Heap → Prop} (h : L5n s0 s0n s0c s1 s2 s3 s4 s12 s13 H R) : L5 s0 s0n s0c s1 s2 s3 s4 s12 s13 H R :=
  goL_of_den (an := an) (fuel := 100000) (X := L5n s0 s0n s0c s1 s2 s3 s4 s12 s13 H R) mixed fn (by kernel_rfl) (fun ρ0 => by kernel_rfl) h
def L6n (s0 : Option Addr) (s0n : Nat) (s0c : Nat) (s1 : Int) (s2 : Int) (s3 : Int) (s4 : FV) (s10 : Bool) (s11 : Bool) (s13 : Int) (H : Heap) (R : Ending → Heap → Prop) : Prop :=
  callD Tryz.prog 227 [(.slice s0 s0n s0c), (.int .i64 s1), (.int .i64 s2), (.int .i64 s13), (FV.v s4)] H (panK R) fun v H1 =>
  tInt v .i64 fun n =>
  L0 s0 s0n s0c n s2 s3 s4 s10 s11 H1 R
theorem L6_step {s0 : Option Addr} {s0n : Nat} {s0c : Nat} {s1 : Int} {s2 : Int} {s3 : Int} {s4 : FV} {s10 : Bool} {s11 : Bool} {s13 : Int} {H : Heap} {R : Ending → Heap → Prop} (h : L6n s0 s0n s0c s1 s2 s3 s4 s10 s11 s13 H R) : L6 s0 s0n s0c s1 s2 s3 s4 s10 s11 s13 H R :=
  goL_of_den (an := an) (fuel := 100000) (X := L6n s0 s0n s0c s1 s2 s3 s4 s10 s11 s13 H R) mixed fn (by kernel_rfl) (fun ρ0 => by kernel_rfl) h
def go (s0 : Option Addr) (s0n : Nat) (s0c : Nat) (s1 : Int) (s2 : Int) (s3 : Int) (s4 : FV) (H : Heap) (R : Ending → Heap → Prop) : Prop :=
  L0 s0 s0n s0c s1 s2 s3 s4 true true H R
theorem calls {s0 : Option Addr} {s0n : Nat} {s0c : Nat} {s1 : Int} {s2 : Int} {s3 : Int} {s4 : FV} {H : Heap} {R : Ending → Heap → Prop} (h : go s0 s0n s0c s1 s2 s3 s4 H R) : CallsH Tryz.prog 219 ⟨[(.slice s0 s0n s0c), (.int .i64 s1), (.int .i64 s2), (.int .i64 s3), (FV.v s4)]⟩ H R :=
  callsH_of_den (an := an) (fuel := 100000) (X := go s0 s0n s0c s1 s2 s3 s4 H R) (c := body) mixed fn (by kernel_rfl) (by kernel_rfl) (by kernel_rfl) ok (by kernel_rfl) h
end F219
/-! ### 220 "pub-stadtholder/pub/stand/binary.PutUint64" -/
namespace F220
def an : Ann := { kinds := [], taus := [], pairs := [], lab := [(30000002, [0, 1, 4])] }
noncomputable def body : Code := (Tryz.f220.body).getD .skip
theorem fn : Tryz.prog.funcs[220]? = some Tryz.f220 := by kernel_rfl
theorem ok : codeOk an 19 body = true := by kernel_rfl
noncomputable def L0t : List Item := [.code (sub [1, 0, 0] body), .inLoop (sub [1, 0, 0] body), .inBlock 0]
def L0 (b : Option Addr) (bn : Nat) (bc : Nat) (n : Int) (i : Int) (H : Heap) (R : Ending → Heap → Prop) : Prop :=
  GoL Tryz.prog 220 19 L0t [0, 1, 4] [(.slice b bn bc), (.int .u64 n), (.int .i64 i)] H R
def L0n (b : Option Addr) (bn : Nat) (bc : Nat) (n : Int) (i : Int) (H : Heap) (R : Ending → Heap → Prop) : Prop :=
  iteB (decide (i < (8 : Int))) (
    shD (IntKind.wrap .u64 ((8 : Int) * (IntKind.wrap .u64 (IntKind.wrap .i64 ((7 : Int) - i))))) <|
    idxD b bn i fun a =>
    st1 H (Addr.add a (Int.toNat i * 1)) (.int .u8 (IntKind.wrap .u8 (shrZ .u64 n (IntKind.wrap .u64 ((8 : Int) * (IntKind.wrap .u64 (IntKind.wrap .i64 ((7 : Int) - i)))))))) fun H1 =>
    L0 b bn bc n (IntKind.wrap .i64 (i + (1 : Int))) H1 R) <|
  R (.returned (.tuple ⟨[]⟩)) H
theorem L0_step {b : Option Addr} {bn : Nat} {bc : Nat} {n : Int} {i : Int} {H : Heap} {R : Ending → Heap → Prop} (h : L0n b bn bc n i H R) : L0 b bn bc n i H R :=
  goL_of_den (an := an) (fuel := 100000) (X := L0n b bn bc n i H R) mixed fn (by kernel_rfl) (fun ρ0 => by kernel_rfl) h
def go (b : Option Addr) (bn : Nat) (bc : Nat) (n : Int) (H : Heap) (R : Ending → Heap → Prop) : Prop :=
  L0 b bn bc n (0 : Int) H R
theorem calls {b : Option Addr} {bn : Nat} {bc : Nat} {n : Int} {H : Heap} {R : Ending → Heap → Prop} (h : go b bn bc n H R) : CallsH Tryz.prog 220 ⟨[(.slice b bn bc), (.int .u64 n)]⟩ H R :=
  callsH_of_den (an := an) (fuel := 100000) (X := go b bn bc n H R) (c := body) mixed fn (by kernel_rfl) (by kernel_rfl) (by kernel_rfl) ok (by kernel_rfl) h
end F220
/-! ### 235 "(pub-stadtholder/pub/etcdserver/lease.LeaseQueue).Less" -/
namespace F235
def an : Ann := { kinds := [], taus := [(1, [[0, 1, 2, 7, 8, 9, 3, 4, 5, 6, 10, 11, 12, 13, 14, 15]])], pairs := [], lab := [] }
noncomputable def body : Code := (Tryz.f235.body).getD .skip
theorem fn : Tryz.prog.funcs[235]? = some Tryz.f235 := by kernel_rfl
theorem ok : codeOk an 22 body = true := by kernel_rfl
def go (pq : Option Addr) (pqn : Nat) (pqc : Nat) (i : Int) (j : Int) (H : Heap) (R : Ending → Heap → Prop) : Prop :=
  idxD pq pqn i fun a =>
  idxD pq pqn j fun a1 =>
  ldPtr H (Addr.add a (Int.toNat i * 1)) fun p =>
  nilD p fun a2 =>
  ldInt H (Addr.add a2 1) .i64 fun n =>
  ldInt H (Addr.add (Addr.add a2 1) 1) .i64 fun n1 =>
  ldBool H (Addr.add (Addr.add a2 1) 2) fun b =>
  ldPtr H (Addr.add a1 (Int.toNat j * 1)) fun p1 =>
  nilD p1 fun a3 =>
  ldInt H (Addr.add a3 1) .i64 fun n2 =>
  ldInt H (Addr.add (Addr.add a3 1) 1) .i64 fun n3 =>
  ldBool H (Addr.add (Addr.add a3 1) 2) fun b1 =>
  callD Tryz.prog 70 [(.agg ⟨[(.int .i64 n), (.int .i64 n1), (.bool b)]⟩), (.agg ⟨[(.int .i64 n2), (.int .i64 n3), (.bool b1)]⟩)] H (panK R) fun v H1 =>
  tBool v fun b2 =>
  R (.returned (.bool b2)) H1
theorem calls {pq : Option Addr} {pqn : Nat} {pqc : Nat} {i : Int} {j : Int} {H : Heap} {R : Ending → Heap → Prop} (h : go pq pqn pqc i j H R) : CallsH Tryz.prog 235 ⟨[(.slice pq pqn pqc), (.int .i64 i), (.int .i64 j)]⟩ H R :=
  callsH_of_den (an := an) (fuel := 100000) (X := go pq pqn pqc i j H R) (c := body) mixed fn (by kernel_rfl) (by kernel_rfl) (by kernel_rfl) ok (by kernel_rfl) h
end F235
/-! ### 236 "(pub-stadtholder/pub/etcdserver/lease.LeaseQueue).Swap" -/
namespace F236
def an : Ann := { kinds := [], taus := [(0, [[0, 1, 2, 3, 4, 5, 6, 8, 9, 10, 7, 11, 12, 13, 14, 15]])], pairs := [], lab := [] }
noncomputable def body : Code := (Tryz.f236.body).getD .skip
theorem fn : Tryz.prog.funcs[236]? = some Tryz.f236 := by kernel_rfl
theorem ok : codeOk an 34 body = true := by kernel_rfl
def go (pq : Option Addr) (pqn : Nat) (pqc : Nat) (i : Int) (j : Int) (H : Heap) (R : Ending → Heap → Prop) : Prop :=
  idxD pq pqn j fun a =>
  idxD pq pqn i fun a1 =>
  ldPtr H (Addr.add a (Int.toNat j * 1)) fun p =>
  ldPtr H (Addr.add a1 (Int.toNat i * 1)) fun p1 =>
  idxD pq pqn i fun a2 =>
  st1 H (Addr.add a2 (Int.toNat i * 1)) (.pointer p) fun H1 =>
  idxD pq pqn j fun a3 =>
  st1 H1 (Addr.add a3 (Int.toNat j * 1)) (.pointer p1) fun H2 =>
  idxD pq pqn i fun a4 =>
  ldPtr H2 (Addr.add a4 (Int.toNat i * 1)) fun p2 =>
  nilD p2 fun a5 =>
  st1 H2 (Addr.add a5 4) (.int .i64 i) fun H3 =>
  idxD pq pqn j fun a6 =>
  ldPtr H3 (Addr.add a6 (Int.toNat j * 1)) fun p3 =>
  nilD p3 fun a7 =>
  st1 H3 (Addr.add a7 4) (.int .i64 j) fun H4 =>
  R (.returned (.tuple ⟨[]⟩)) H4
theorem calls {pq : Option Addr} {pqn : Nat} {pqc : Nat} {i : Int} {j : Int} {H : Heap} {R : Ending → Heap → Prop} (h : go pq pqn pqc i j H R) : CallsH Tryz.prog 236 ⟨[(.slice pq pqn pqc), (.int .i64 i), (.int .i64 j)]⟩ H R :=
  callsH_of_den (an := an) (fuel := 100000) (X := go pq pqn pqc i j H R) (c := body) mixed fn (by kernel_rfl) (by kernel_rfl) (by kernel_rfl) ok (by kernel_rfl) h
end F236
/-! ### 272 "(*pub-stadtholder/pub/etcdserver/lease.LeaseQueue).Push" -/
namespace F272
def an : Ann := { kinds := [(1001, .heavy 0)], taus := [], pairs := [], lab := [] }
noncomputable def body : Code := (Tryz.f272.body).getD .skip
theorem fn : Tryz.prog.funcs[272]? = some Tryz.f272 := by kernel_rfl
theorem ok : codeOk an 24 body = true := by kernel_rfl
def go (pq : Option Addr) (x : IV) (H : Heap) (R : Ending → Heap → Prop) : Prop :=
  nilD pq fun a =>
  ldSl H a fun q qn qc =>
  valD Tryz.prog (Instr.typeAssert (IV.v x) 20 189 false) H (panK R) fun v H1 =>
  tPtr v fun p =>
  nilD p fun a1 =>
  st1 H1 (Addr.add a1 4) (.int .i64 ((qn : Nat) : Int)) fun H2 =>
  nilD pq fun a2 =>
  ldSl H2 a2 fun q1 q1n q1c =>
  newD H2 (.cells ⟨[(.pointer p)]⟩ 189) fun r H3 =>
  apD H3 1 8 [(.pointer none)] 189 q1 q1n q1c (some ⟨r, 0, none⟩) 1 fun q2 q2n q2c H4 =>
  nilD pq fun a3 =>
  st1 H4 a3 (.slice q2 q2n q2c) fun H5 =>
  R (.returned (.tuple ⟨[]⟩)) H5
theorem calls {pq : Option Addr} {x : IV} {H : Heap} {R : Ending → Heap → Prop} (h : go pq x H R) : CallsH Tryz.prog 272 ⟨[(.pointer pq), (IV.v x)]⟩ H R :=
  callsH_of_den (an := an) (fuel := 100000) (X := go pq x H R) (c := body) mixed fn (by kernel_rfl) (by kernel_rfl) (by kernel_rfl) ok (by kernel_rfl) h
end F272
/-! ### 273 "(*pub-stadtholder/pub/stand/leasepb.Lease).PutFields" -/
namespace F273
def an : Ann := { kinds := [], taus := [], pairs := [], lab := [] }
noncomputable def body : Code := (Tryz.f273.body).getD .skip
theorem fn : Tryz.prog.funcs[273]? = some Tryz.f273 := by kernel_rfl
theorem ok : codeOk an 21 body = true := by kernel_rfl
def go (x : Option Addr) (H : Heap) (R : Ending → Heap → Prop) : Prop :=
  nilD x fun a =>
  ldInt H a .i64 fun n =>
  callD Tryz.prog 275 [(.slice none 0 0), (.int .i64 (1 : Int)), (.int .i64 n)] H (panK R) fun v H1 =>
  tSl v fun q qn qc =>
  nilD x fun a1 =>
  ldInt H1 (Addr.add a1 1) .i64 fun n1 =>
  callD Tryz.prog 275 [(.slice q qn qc), (.int .i64 (2 : Int)), (.int .i64 n1)] H1 (panK R) fun v1 H2 =>
  tSl v1 fun q1 q1n q1c =>
  nilD x fun a2 =>
  ldInt H2 (Addr.add a2 2) .i64 fun n2 =>
  callD Tryz.prog 275 [(.slice q1 q1n q1c), (.int .i64 (3 : Int)), (.int .i64 n2)] H2 (panK R) fun v2 H3 =>
  tSl v2 fun q2 q2n q2c =>
  R (.returned (.slice q2 q2n q2c)) H3
theorem calls {x : Option Addr} {H : Heap} {R : Ending → Heap → Prop} (h : go x H R) : CallsH Tryz.prog 273 ⟨[(.pointer x)]⟩ H R :=
  callsH_of_den (an := an) (fuel := 100000) (X := go x H R) (c := body) mixed fn (by kernel_rfl) (by kernel_rfl) (by kernel_rfl) ok (by kernel_rfl) h
end F273
/-! ### 275 "pub-stadtholder/pub/stand/proto.PutInt" -/
namespace F275
def an : Ann := { kinds := [], taus := [], pairs := [], lab := [] }
noncomputable def body : Code := (Tryz.f275.body).getD .skip
theorem fn : Tryz.prog.funcs[275]? = some Tryz.f275 := by kernel_rfl
theorem ok : codeOk an 19 body = true := by kernel_rfl
def go (b : Option Addr) (bn : Nat) (bc : Nat) (field : Int) (n : Int) (H : Heap) (R : Ending → Heap → Prop) : Prop :=
  iteB (n == (0 : Int)) (
    R (.returned (.slice b bn bc)) H) <|
  shD (3 : Int) <|
  callD Tryz.prog 277 [(.slice b bn bc), (.int .u64 (shlZ .u64 (IntKind.wrap .u64 field) (3 : Int)))] H (panK R) fun v H1 =>
  tSl v fun q qn qc =>
  callD Tryz.prog 277 [(.slice q qn qc), (.int .u64 (IntKind.wrap .u64 n))] H1 (panK R) fun v1 H2 =>
  tSl v1 fun q1 q1n q1c =>
  R (.returned (.slice q1 q1n q1c)) H2
theorem calls {b : Option Addr} {bn : Nat} {bc : Nat} {field : Int} {n : Int} {H : Heap} {R : Ending → Heap → Prop} (h : go b bn bc field n H R) : CallsH Tryz.prog 275 ⟨[(.slice b bn bc), (.int .i64 field), (.int .i64 n)]⟩ H R :=
  callsH_of_den (an := an) (fuel := 100000) (X := go b bn bc field n H R) (c := body) mixed fn (by kernel_rfl) (by kernel_rfl) (by kernel_rfl) ok (by kernel_rfl) h
end F275
/-! ### 277 "pub-stadtholder/pub/stand/proto.PutVarint" -/
namespace F277
def an : Ann := { kinds := [], taus := [], pairs := [], lab := [(40000002, [0, 1])] }
noncomputable def body : Code := (Tryz.f277.body).getD .skip
theorem fn : Tryz.prog.funcs[277]? = some Tryz.f277 := by kernel_rfl
theorem ok : codeOk an 20 body = true := by kernel_rfl
noncomputable def L0t : List Item := [.code (sub [1, 0, 0, 0] body), .inLoop (sub [1, 0, 0, 0] body), .inBlock 0, .code (sub [1, 1] body)]
def L0 (b : Option Addr) (bn : Nat) (bc : Nat) (n : Int) (H : Heap) (R : Ending → Heap → Prop) : Prop :=
  GoL Tryz.prog 277 20 L0t [0, 1] [(.slice b bn bc), (.int .u64 n)] H R
def L0n (b : Option Addr) (bn : Nat) (bc : Nat) (n : Int) (H : Heap) (R : Ending → Heap → Prop) : Prop :=
  iteB (decide (n ≥ (128 : Int))) (
    newD H (.cells ⟨[(.int .u8 (orZ .u8 (IntKind.wrap .u8 n) (128 : Int)))]⟩ 5) fun r H1 =>
    apD H1 1 1 [(.int .u8 (0 : Int))] 5 b bn bc (some ⟨r, 0, none⟩) 1 fun q qn qc H2 =>
    shD (7 : Int) <|
    L0 q qn qc (shrZ .u64 n (7 : Int)) H2 R) <|
  newD H (.cells ⟨[(.int .u8 (IntKind.wrap .u8 n))]⟩ 5) fun r1 H3 =>
  apD H3 1 1 [(.int .u8 (0 : Int))] 5 b bn bc (some ⟨r1, 0, none⟩) 1 fun q1 q1n q1c H4 =>
  R (.returned (.slice q1 q1n q1c)) H4
theorem L0_step {b : Option Addr} {bn : Nat} {bc : Nat} {n : Int} {H : Heap} {R : Ending → Heap → Prop} (h : L0n b bn bc n H R) : L0 b bn bc n H R :=
  goL_of_den (an := an) (fuel := 100000) (X := L0n b bn bc n H R) mixed fn (by kernel_rfl) (fun ρ0 => by kernel_rfl) h
def go (b : Option Addr) (bn : Nat) (bc : Nat) (n : Int) (H : Heap) (R : Ending → Heap → Prop) : Prop :=
  L0 b bn bc n H R
theorem calls {b : Option Addr} {bn : Nat} {bc : Nat} {n : Int} {H : Heap} {R : Ending → Heap → Prop} (h : go b bn bc n H R) : CallsH Tryz.prog 277 ⟨[(.slice b bn bc), (.int .u64 n)]⟩ H R :=
  callsH_of_den (an := an) (fuel := 100000) (X := go b bn bc n H R) (c := body) mixed fn (by kernel_rfl) (by kernel_rfl) (by kernel_rfl) ok (by kernel_rfl) h
end F277
end Go.Proofs.YtkenjnllegbmjaaGreat
