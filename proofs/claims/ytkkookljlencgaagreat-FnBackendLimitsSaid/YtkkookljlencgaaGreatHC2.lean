/- What functions of this seat do, each proved by a walk; no condition. -/
import Derived.Test.YtkkookljlencgaaGreatHC
import Derived.KernelRfl
set_option linter.unusedVariables false
namespace Go.Proofs.YtkkookljlencgaaGreat
open Go Go.Den Go.Proofs
/-! ### 53 "(*pub-stadtholder/pub/etcdserver/storage/backend.bucketBuffer).dedupe" -/
namespace F53
def an : Ann := { kinds := [], taus := [(6, [[0, 1, 2, 4, 8, 9, 10, 12, 3, 5, 6, 7, 11, 13, 14, 15, 16, 17]]), (8, [[0, 1, 2, 4, 5, 6, 7, 9, 3, 8, 10, 11, 12, 13]])], pairs := [], lab := [(40000005, [0, 2, 3]), (60000009, [0, 2, 3])] }
noncomputable def body : Code := (Tryz.f53.body).getD .skip
theorem fn : Tryz.prog.funcs[53]? = some Tryz.f53 := by kernel_rfl
theorem ok : codeOk an 58 body = true := by kernel_rfl
noncomputable def L0t : List Item := [.code (sub [1, 1, 1, 0, 1, 0, 0] body), .inLoop (sub [1, 1, 1, 0, 1, 0, 0] body), .inBlock 0, .code (sub [1, 1, 1, 1] body)]
def L0 (bb : Option Addr) (widx : Int) (ridx : Int) (H : Heap) (R : Ending → Heap → Prop) : Prop :=
  GoL Tryz.prog 53 58 L0t [0, 2, 3] [(.pointer bb), (.int .i64 widx), (.int .i64 ridx)] H R
noncomputable def L1t : List Item := [.code (sub [1, 1, 1, 0, 1, 0, 0, 1, 0, 0, 1] body), .inBlock 1, .code (sub [1, 1, 1, 0, 1, 0, 0, 1, 1] body), .inLoop (sub [1, 1, 1, 0, 1, 0, 0] body), .inBlock 0, .code (sub [1, 1, 1, 1] body)]
def L1 (bb : Option Addr) (widx : Int) (ridx : Int) (H : Heap) (R : Ending → Heap → Prop) : Prop :=
  GoL Tryz.prog 53 58 L1t [0, 2, 3] [(.pointer bb), (.int .i64 widx), (.int .i64 ridx)] H R
def L0n (bb : Option Addr) (widx : Int) (ridx : Int) (H : Heap) (R : Ending → Heap → Prop) : Prop :=
  nilD bb fun a =>
  ldInt H (Addr.add a 1) .i64 fun n =>
  iteB (decide (ridx < n)) (
    nilD bb fun a1 =>
    nilD bb fun a2 =>
    ldSl H a1 fun q qn qc =>
    idxD q qn ridx fun a3 =>
    ldSl H (Addr.add a3 (Int.toNat ridx * 2)) fun q1 q1n q1c =>
    ldSl H a2 fun q2 q2n q2c =>
    idxD q2 q2n widx fun a4 =>
    ldSl H (Addr.add a4 (Int.toNat widx * 2)) fun q3 q3n q3c =>
    callD Tryz.prog 64 [(.slice q1 q1n q1c), (.slice q3 q3n q3c)] H (panK R) fun v H1 =>
    tBool v fun b =>
    iteB (!b) (
      L1 bb (IntKind.wrap .i64 (widx + (1 : Int))) ridx H1 R) <|
    L1 bb widx ridx H1 R) <|
  nilD bb fun a5 =>
  st1 H (Addr.add a5 1) (.int .i64 (IntKind.wrap .i64 (widx + (1 : Int)))) fun H2 =>
  R (.returned (.tuple ⟨[]⟩)) H2
theorem L0_step {bb : Option Addr} {widx : Int} {ridx : Int} {H : Heap} {R : Ending → Heap → Prop} (h : L0n bb widx ridx H R) : L0 bb widx ridx H R :=
  goL_of_den (an := an) (fuel := 100000) (X := L0n bb widx ridx H R) mixed fn (by kernel_rfl) (fun ρ0 => by kernel_rfl) h
def L1n (bb : Option Addr) (widx : Int) (ridx : Int) (H : Heap) (R : Ending → Heap → Prop) : Prop :=
  nilD bb fun a =>
  nilD bb fun a1 =>
  ldSl H a fun q qn qc =>
  ldSl H a1 fun q1 q1n q1c =>
  idxD q1 q1n ridx fun a2 =>
  ldSl H (Addr.add a2 (Int.toNat ridx * 2)) fun q2 q2n q2c =>
  ldSl H (Addr.add (Addr.add a2 (Int.toNat ridx * 2)) 1) fun q3 q3n q3c =>
  idxD q qn widx fun a3 =>
  st1 H (Addr.add a3 (Int.toNat widx * 2)) (.slice q2 q2n q2c) fun H1 =>
  st1 H1 (Addr.add (Addr.add a3 (Int.toNat widx * 2)) 1) (.slice q3 q3n q3c) fun H2 =>
  L0 bb widx (IntKind.wrap .i64 (ridx + (1 : Int))) H2 R
theorem L1_step {bb : Option Addr} {widx : Int} {ridx : Int} {H : Heap} {R : Ending → Heap → Prop} (h : L1n bb widx ridx H R) : L1 bb widx ridx H R :=
  goL_of_den (an := an) (fuel := 100000) (X := L1n bb widx ridx H R) mixed fn (by kernel_rfl) (fun ρ0 => by kernel_rfl) h
def go (bb : Option Addr) (H : Heap) (R : Ending → Heap → Prop) : Prop :=
  nilD bb fun a =>
  ldInt H (Addr.add a 1) .i64 fun n =>
  iteB (decide (n ≤ (1 : Int))) (
    R (.returned (.tuple ⟨[]⟩)) H) <|
  callD Tryz.prog 63 [(.iface 147 (.pointer bb))] H (panK R) fun v H1 =>
  tTup v fun l =>
  tNil l <|
  L0 bb (0 : Int) (1 : Int) H1 R
theorem calls {bb : Option Addr} {H : Heap} {R : Ending → Heap → Prop} (h : go bb H R) : CallsH Tryz.prog 53 ⟨[(.pointer bb)]⟩ H R :=
  callsH_of_den (an := an) (fuel := 100000) (X := go bb H R) (c := body) mixed fn (by kernel_rfl) (by kernel_rfl) (by kernel_rfl) ok (by kernel_rfl) h
end F53
end Go.Proofs.YtkkookljlencgaaGreat
