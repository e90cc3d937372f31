/- What functions of this seat do, each proved by a walk; no condition. -/
import Derived.Test.YtkkookljlencgaaGreatHB
import Derived.KernelRfl
set_option linter.unusedVariables false
namespace Go.Proofs.YtkkookljlencgaaGreat
open Go Go.Den Go.Proofs
/-! ### 45 "(*pub-stadtholder/pub/etcdserver/storage/backend.txWriteBuffer).writeback" -/
namespace F45
def an : Ann := { kinds := [(5, .heavy 0), (1000, .heavy 101), (2000, .heavy 101), (3006, .heavy 0), (5006, .heavy 0), (6005, .heavy 0), (9007, .heavy 0), (10005, .heavy 0)], taus := [], pairs := [], lab := [(40000002, [0, 1, 17]), (60000013, [0, 1, 5, 6, 17]), (50000014, [0, 1, 5, 6, 17]), (70000009, [0, 1, 4, 5, 17]), (60000010, [0, 1, 4, 5, 17])] }
noncomputable def body : Code := (Tryz.f45.body).getD .skip
theorem fn : Tryz.prog.funcs[45]? = some Tryz.f45 := by kernel_rfl
theorem ok : codeOk an 100 body = true := by kernel_rfl
noncomputable def L0t : List Item := [.code (sub [0, 1, 0, 0] body), .inLoop (sub [0, 1, 0, 0] body), .inBlock 0, .code (sub [1] body)]
def L0 (s0 : Option Addr) (s1 : Option Addr) (s17 : Option Addr) (H : Heap) (R : Ending → Heap → Prop) : Prop :=
  GoL Tryz.prog 45 100 L0t [0, 1, 17] [(.pointer s0), (.pointer s1), (.pointer s17)] H R
noncomputable def L1t : List Item := [.code (sub [0, 1, 0, 0, 1, 1, 0, 1, 1, 1, 0, 1, 1, 0] body), .code (sub [0, 1, 0, 0, 1, 1, 0, 1, 1, 1, 1] body), .inBlock 1, .inLoop (sub [0, 1, 0, 0] body), .inBlock 0, .code (sub [1] body)]
def L1 (s0 : Option Addr) (s1 : Option Addr) (s5 : Option Addr) (s6 : Option Addr) (s17 : Option Addr) (H : Heap) (R : Ending → Heap → Prop) : Prop :=
  GoL Tryz.prog 45 100 L1t [0, 1, 5, 6, 17] [(.pointer s0), (.pointer s1), (.pointer s5), (.pointer s6), (.pointer s17)] H R
noncomputable def L2t : List Item := [.code (sub [0, 1, 0, 0, 1, 1, 0, 1, 1, 1, 1] body), .inBlock 1, .inLoop (sub [0, 1, 0, 0] body), .inBlock 0, .code (sub [1] body)]
def L2 (s0 : Option Addr) (s1 : Option Addr) (s5 : Option Addr) (s6 : Option Addr) (s17 : Option Addr) (H : Heap) (R : Ending → Heap → Prop) : Prop :=
  GoL Tryz.prog 45 100 L2t [0, 1, 5, 6, 17] [(.pointer s0), (.pointer s1), (.pointer s5), (.pointer s6), (.pointer s17)] H R
noncomputable def L3t : List Item := [.code (sub [0, 1, 0, 0, 1, 1, 0, 1, 1, 0, 1, 0, 1, 0, 1, 1, 0] body), .code (sub [0, 1, 0, 0, 1, 1, 0, 1, 1, 0, 1, 0, 1, 1] body), .code (sub [0, 1, 0, 0, 1, 1, 0, 1, 1, 1] body), .inBlock 1, .inLoop (sub [0, 1, 0, 0] body), .inBlock 0, .code (sub [1] body)]
def L3 (s0 : Option Addr) (s1 : Option Addr) (s4 : Int) (s5 : Option Addr) (s17 : Option Addr) (H : Heap) (R : Ending → Heap → Prop) : Prop :=
  GoL Tryz.prog 45 100 L3t [0, 1, 4, 5, 17] [(.pointer s0), (.pointer s1), (.int .i64 s4), (.pointer s5), (.pointer s17)] H R
noncomputable def L4t : List Item := [.code (sub [0, 1, 0, 0, 1, 1, 0, 1, 1, 0, 1, 0, 1, 1] body), .code (sub [0, 1, 0, 0, 1, 1, 0, 1, 1, 1] body), .inBlock 1, .inLoop (sub [0, 1, 0, 0] body), .inBlock 0, .code (sub [1] body)]
def L4 (s0 : Option Addr) (s1 : Option Addr) (s4 : Int) (s5 : Option Addr) (s17 : Option Addr) (H : Heap) (R : Ending → Heap → Prop) : Prop :=
  GoL Tryz.prog 45 100 L4t [0, 1, 4, 5, 17] [(.pointer s0), (.pointer s1), (.int .i64 s4), (.pointer s5), (.pointer s17)] H R
def L0n (s0 : Option Addr) (s1 : Option Addr) (s17 : Option Addr) (H : Heap) (R : Ending → Heap → Prop) : Prop :=
  valD Tryz.prog (Instr.next (.pointer s17) false 0) H (panK R) fun v H1 =>
  tTup v fun l =>
  tCons l fun c l1 =>
  tBool c fun b =>
  iteB b (
    tCons l1 fun c1 l2 =>
    tInt c1 .i64 fun n =>
    tCons l2 fun c2 l3 =>
    tPtr c2 fun p =>
    tNil l3 <|
    valD Tryz.prog (Instr.entry (.pointer s17)) H1 (panK R) fun v1 H2 =>
    tTup v1 fun l4 =>
    tCons l4 fun c3 l5 =>
    tInt c3 .i64 fun n1 =>
    tCons l5 fun c4 l6 =>
    tPtr c4 fun p1 =>
    tNil l6 <|
    nilD s1 fun a =>
    ldMap H2 a fun m =>
    valD Tryz.prog (Instr.lookup 101 (.map m) (.int .i64 n1) true) H2 (panK R) fun v2 H3 =>
    tTup v2 fun l7 =>
    tCons l7 fun c5 l8 =>
    tPtr c5 fun p2 =>
    tCons l8 fun c6 l9 =>
    tBool c6 fun b1 =>
    tNil l9 <|
    iteB (!b1) (
      nilD s0 fun a1 =>
      ldMap H3 a1 fun m1 =>
      valD Tryz.prog (Builtin.delete_ #[101, 129] 0 ⟨[(.map m1), (.int .i64 n1)]⟩) H3 (panK R) fun v3 H4 =>
      tTup v3 fun l10 =>
      tNil l10 <|
      nilD s0 fun a2 =>
      ldMap H4 (Addr.add a2 1) fun m2 =>
      valD Tryz.prog (Instr.lookup 134 (.map m2) (.int .i64 n1) true) H4 (panK R) fun v4 H5 =>
      tTup v4 fun l11 =>
      tCons l11 fun c7 l12 =>
      tBool c7 fun b3 =>
      tCons l12 fun c8 l13 =>
      tBool c8 fun b2 =>
      tNil l13 <|
      iteB b2 (
        iteB (!b3) (
          L3 s0 s1 n1 p1 s17 H5 R) <|
        L4 s0 s1 n1 p1 s17 H5 R) <|
      L4 s0 s1 n1 p1 s17 H5 R) <|
    nilD s0 fun a3 =>
    ldMap H3 (Addr.add a3 1) fun m3 =>
    valD Tryz.prog (Instr.lookup 134 (.map m3) (.int .i64 n1) true) H3 (panK R) fun v5 H6 =>
    tTup v5 fun l14 =>
    tCons l14 fun c9 l15 =>
    tBool c9 fun b5 =>
    tCons l15 fun c10 l16 =>
    tBool c10 fun b4 =>
    tNil l16 <|
    iteB b4 (
      iteB (!b5) (
        nilD p1 fun a4 =>
        ldInt H6 (Addr.add a4 1) .i64 fun n2 =>
        iteB (decide (n2 > (1 : Int))) (
          L1 s0 s1 p1 p2 s17 H6 R) <|
        L2 s0 s1 p1 p2 s17 H6 R) <|
      L2 s0 s1 p1 p2 s17 H6 R) <|
    L2 s0 s1 p1 p2 s17 H6 R) <|
  tNil l1 <|
  callD Tryz.prog 56 [(.pointer s0)] H1 (panK R) fun v6 H7 =>
  tTup v6 fun l17 =>
  tNil l17 <|
  nilD s1 fun a5 =>
  ldInt H7 (Addr.add a5 1) .u64 fun n3 =>
  nilD s1 fun a6 =>
  st1 H7 (Addr.add a6 1) (.int .u64 (IntKind.wrap .u64 (n3 + (1 : Int)))) fun H8 =>
  R (.returned (.tuple ⟨[]⟩)) H8
theorem L0_step {s0 : Option Addr} {s1 : Option Addr} {s17 : Option Addr} {H : Heap} {R : Ending → Heap → Prop} (h : L0n s0 s1 s17 H R) : L0 s0 s1 s17 H R :=
  goL_of_den (an := an) (fuel := 100000) (X := L0n s0 s1 s17 H R) mixed fn (by kernel_rfl) (fun ρ0 => by kernel_rfl) h
def L1n (s0 : Option Addr) (s1 : Option Addr) (s5 : Option Addr) (s6 : Option Addr) (s17 : Option Addr) (H : Heap) (R : Ending → Heap → Prop) : Prop :=
  callD Tryz.prog 54 [(.iface 147 (.pointer s5))] H (panK R) fun v H1 =>
  tTup v fun l =>
  tNil l <|
  L2 s0 s1 s5 s6 s17 H1 R
theorem L1_step {s0 : Option Addr} {s1 : Option Addr} {s5 : Option Addr} {s6 : Option Addr} {s17 : Option Addr} {H : Heap} {R : Ending → Heap → Prop} (h : L1n s0 s1 s5 s6 s17 H R) : L1 s0 s1 s5 s6 s17 H R :=
  goL_of_den (an := an) (fuel := 100000) (X := L1n s0 s1 s5 s6 s17 H R) mixed fn (by kernel_rfl) (fun ρ0 => by kernel_rfl) h
def L2n (s0 : Option Addr) (s1 : Option Addr) (s5 : Option Addr) (s6 : Option Addr) (s17 : Option Addr) (H : Heap) (R : Ending → Heap → Prop) : Prop :=
  callD Tryz.prog 55 [(.pointer s6), (.pointer s5)] H (panK R) fun v H1 =>
  tTup v fun l =>
  tNil l <|
  L0 s0 s1 s17 H1 R
theorem L2_step {s0 : Option Addr} {s1 : Option Addr} {s5 : Option Addr} {s6 : Option Addr} {s17 : Option Addr} {H : Heap} {R : Ending → Heap → Prop} (h : L2n s0 s1 s5 s6 s17 H R) : L2 s0 s1 s5 s6 s17 H R :=
  goL_of_den (an := an) (fuel := 100000) (X := L2n s0 s1 s5 s6 s17 H R) mixed fn (by kernel_rfl) (fun ρ0 => by kernel_rfl) h
def L3n (s0 : Option Addr) (s1 : Option Addr) (s4 : Int) (s5 : Option Addr) (s17 : Option Addr) (H : Heap) (R : Ending → Heap → Prop) : Prop :=
  callD Tryz.prog 53 [(.pointer s5)] H (panK R) fun v H1 =>
  tTup v fun l =>
  tNil l <|
  L4 s0 s1 s4 s5 s17 H1 R
theorem L3_step {s0 : Option Addr} {s1 : Option Addr} {s4 : Int} {s5 : Option Addr} {s17 : Option Addr} {H : Heap} {R : Ending → Heap → Prop} (h : L3n s0 s1 s4 s5 s17 H R) : L3 s0 s1 s4 s5 s17 H R :=
  goL_of_den (an := an) (fuel := 100000) (X := L3n s0 s1 s4 s5 s17 H R) mixed fn (by kernel_rfl) (fun ρ0 => by kernel_rfl) h
def L4n (s0 : Option Addr) (s1 : Option Addr) (s4 : Int) (s5 : Option Addr) (s17 : Option Addr) (H : Heap) (R : Ending → Heap → Prop) : Prop :=
  nilD s1 fun a =>
  ldMap H a fun m =>
  uniD Tryz.prog (Instr.mapUpdate 101 (.map m) (.int .i64 s4) (.pointer s5)) H (panK R) fun H1 =>
  L0 s0 s1 s17 H1 R
theorem L4_step {s0 : Option Addr} {s1 : Option Addr} {s4 : Int} {s5 : Option Addr} {s17 : Option Addr} {H : Heap} {R : Ending → Heap → Prop} (h : L4n s0 s1 s4 s5 s17 H R) : L4 s0 s1 s4 s5 s17 H R :=
  goL_of_den (an := an) (fuel := 100000) (X := L4n s0 s1 s4 s5 s17 H R) mixed fn (by kernel_rfl) (fun ρ0 => by kernel_rfl) h
def go (s0 : Option Addr) (s1 : Option Addr) (H : Heap) (R : Ending → Heap → Prop) : Prop :=
  nilD s0 fun a =>
  ldMap H a fun m =>
  valD Tryz.prog (Instr.range 101 (.map m)) H (panK R) fun v H1 =>
  tPtr v fun p =>
  L0 s0 s1 p H1 R
theorem calls {s0 : Option Addr} {s1 : Option Addr} {H : Heap} {R : Ending → Heap → Prop} (h : go s0 s1 H R) : CallsH Tryz.prog 45 ⟨[(.pointer s0), (.pointer s1)]⟩ H R :=
  callsH_of_den (an := an) (fuel := 100000) (X := go s0 s1 H R) (c := body) mixed fn (by kernel_rfl) (by kernel_rfl) (by kernel_rfl) ok (by kernel_rfl) h
end F45
/-! ### 55 "(*pub-stadtholder/pub/etcdserver/storage/backend.bucketBuffer).merge" -/
namespace F55
def an : Ann := { kinds := [], taus := [(3, [[0, 1, 2, 3, 5, 9, 10, 11, 13, 4, 6, 7, 8, 12, 14, 15, 16, 17]]), (4, [[0, 1, 2, 4, 5, 6, 3, 7, 8]]), (5, [[0, 1, 2, 4, 5, 6, 8, 9, 10, 17, 18, 19, 3, 7, 11, 12, 13, 14, 15, 16, 20, 21, 22, 23, 24, 25]])], pairs := [], lab := [(40000002, [0, 1, 4])] }
noncomputable def body : Code := (Tryz.f55.body).getD .skip
theorem fn : Tryz.prog.funcs[55]? = some Tryz.f55 := by kernel_rfl
theorem ok : codeOk an 68 body = true := by kernel_rfl
noncomputable def L0t : List Item := [.code (sub [0, 1, 0, 0] body), .inLoop (sub [0, 1, 0, 0] body), .inBlock 0, .code (sub [1] body)]
def L0 (s0 : Option Addr) (s1 : Option Addr) (s4 : Int) (H : Heap) (R : Ending → Heap → Prop) : Prop :=
  GoL Tryz.prog 55 68 L0t [0, 1, 4] [(.pointer s0), (.pointer s1), (.int .i64 s4)] H R
def L0n (s0 : Option Addr) (s1 : Option Addr) (s4 : Int) (H : Heap) (R : Ending → Heap → Prop) : Prop :=
  nilD s1 fun a =>
  ldInt H (Addr.add a 1) .i64 fun n =>
  iteB (decide (s4 < n)) (
    nilD s1 fun a1 =>
    nilD s1 fun a2 =>
    ldSl H a1 fun q qn qc =>
    idxD q qn s4 fun a3 =>
    ldSl H (Addr.add a3 (Int.toNat s4 * 2)) fun q1 q1n q1c =>
    ldSl H a2 fun q2 q2n q2c =>
    idxD q2 q2n s4 fun a4 =>
    ldSl H (Addr.add (Addr.add a4 (Int.toNat s4 * 2)) 1) fun q3 q3n q3c =>
    callD Tryz.prog 67 [(.pointer s0), (.slice q1 q1n q1c), (.slice q3 q3n q3c)] H (panK R) fun v H1 =>
    tTup v fun l =>
    tNil l <|
    L0 s0 s1 (IntKind.wrap .i64 (s4 + (1 : Int))) H1 R) <|
  nilD s0 fun a5 =>
  nilD s1 fun a6 =>
  ldInt H (Addr.add a5 1) .i64 fun n1 =>
  ldInt H (Addr.add a6 1) .i64 fun n2 =>
  iteB (n1 == n2) (
    R (.returned (.tuple ⟨[]⟩)) H) <|
  nilD s0 fun a7 =>
  nilD s0 fun a8 =>
  nilD s1 fun a9 =>
  nilD s1 fun a10 =>
  ldSl H a7 fun q4 q4n q4c =>
  ldInt H (Addr.add a8 1) .i64 fun n3 =>
  ldInt H (Addr.add a9 1) .i64 fun n4 =>
  idxD q4 q4n (IntKind.wrap .i64 ((IntKind.wrap .i64 (n3 - n4)) - (1 : Int))) fun a11 =>
  ldSl H (Addr.add a11 (Int.toNat (IntKind.wrap .i64 ((IntKind.wrap .i64 (n3 - n4)) - (1 : Int))) * 2)) fun q5 q5n q5c =>
  ldSl H a10 fun q6 q6n q6c =>
  idxD q6 q6n (0 : Int) fun a12 =>
  ldSl H (Addr.add a12 (Int.toNat (0 : Int) * 2)) fun q7 q7n q7c =>
  callD Tryz.prog 68 [(.slice q5 q5n q5c), (.slice q7 q7n q7c)] H (panK R) fun v1 H2 =>
  tInt v1 .i64 fun n5 =>
  iteB (decide (n5 < (0 : Int))) (
    R (.returned (.tuple ⟨[]⟩)) H2) <|
  callD Tryz.prog 53 [(.pointer s0)] H2 (panK R) fun v2 H3 =>
  tTup v2 fun l1 =>
  tNil l1 <|
  R (.returned (.tuple ⟨[]⟩)) H3
theorem L0_step {s0 : Option Addr} {s1 : Option Addr} {s4 : Int} {H : Heap} {R : Ending → Heap → Prop} (h : L0n s0 s1 s4 H R) : L0 s0 s1 s4 H R :=
  goL_of_den (an := an) (fuel := 100000) (X := L0n s0 s1 s4 H R) mixed fn (by kernel_rfl) (fun ρ0 => by kernel_rfl) h
def go (s0 : Option Addr) (s1 : Option Addr) (H : Heap) (R : Ending → Heap → Prop) : Prop :=
  L0 s0 s1 (0 : Int) H R
theorem calls {s0 : Option Addr} {s1 : Option Addr} {H : Heap} {R : Ending → Heap → Prop} (h : go s0 s1 H R) : CallsH Tryz.prog 55 ⟨[(.pointer s0), (.pointer s1)]⟩ H R :=
  callsH_of_den (an := an) (fuel := 100000) (X := go s0 s1 H R) (c := body) mixed fn (by kernel_rfl) (by kernel_rfl) (by kernel_rfl) ok (by kernel_rfl) h
end F55
/-! ### 56 "(*pub-stadtholder/pub/etcdserver/storage/backend.txWriteBuffer).reset" -/
namespace F56
def an : Ann := { kinds := [(1004, .heavy 0), (2000, .heavy 134), (3000, .heavy 134), (4006, .heavy 0), (6005, .heavy 0), (8005, .heavy 0)], taus := [], pairs := [], lab := [(30000003, [0, 13])] }
noncomputable def body : Code := (Tryz.f56.body).getD .skip
theorem fn : Tryz.prog.funcs[56]? = some Tryz.f56 := by kernel_rfl
theorem ok : codeOk an 45 body = true := by kernel_rfl
noncomputable def L0t : List Item := [.code (sub [1, 1, 0, 0] body), .inLoop (sub [1, 1, 0, 0] body), .inBlock 0]
def L0 (txw : Option Addr) (s13 : Option Addr) (H : Heap) (R : Ending → Heap → Prop) : Prop :=
  GoL Tryz.prog 56 45 L0t [0, 13] [(.pointer txw), (.pointer s13)] H R
def L0n (txw : Option Addr) (s13 : Option Addr) (H : Heap) (R : Ending → Heap → Prop) : Prop :=
  valD Tryz.prog (Instr.next (.pointer s13) false 0) H (panK R) fun v H1 =>
  tTup v fun l =>
  tCons l fun c l1 =>
  tBool c fun b =>
  iteB b (
    tCons l1 fun c1 l2 =>
    tInt c1 .i64 fun n =>
    tCons l2 fun c2 l3 =>
    tBool c2 fun b1 =>
    tNil l3 <|
    valD Tryz.prog (Instr.entry (.pointer s13)) H1 (panK R) fun v1 H2 =>
    tTup v1 fun l4 =>
    tCons l4 fun c3 l5 =>
    tInt c3 .i64 fun n1 =>
    tCons l5 fun c4 l6 =>
    tBool c4 fun b2 =>
    tNil l6 <|
    nilD txw fun a =>
    ldMap H2 a fun m =>
    valD Tryz.prog (Instr.lookup 101 (.map m) (.int .i64 n1) true) H2 (panK R) fun v2 H3 =>
    tTup v2 fun l7 =>
    tCons l7 fun c5 l8 =>
    tPtr c5 fun p =>
    tCons l8 fun c6 l9 =>
    tBool c6 fun b3 =>
    tNil l9 <|
    iteB (!b3) (
      nilD txw fun a1 =>
      ldMap H3 (Addr.add a1 1) fun m1 =>
      valD Tryz.prog (Builtin.delete_ #[134, 129] 0 ⟨[(.map m1), (.int .i64 n1)]⟩) H3 (panK R) fun v3 H4 =>
      tTup v3 fun l10 =>
      tNil l10 <|
      L0 txw s13 H4 R) <|
    nilD p fun a2 =>
    ldInt H3 (Addr.add a2 1) .i64 fun n2 =>
    iteB (n2 == (0 : Int)) (
      nilD txw fun a3 =>
      ldMap H3 (Addr.add a3 1) fun m2 =>
      uniD Tryz.prog (Instr.mapUpdate 134 (.map m2) (.int .i64 n1) (.bool true)) H3 (panK R) fun H5 =>
      L0 txw s13 H5 R) <|
    L0 txw s13 H3 R) <|
  tNil l1 <|
  R (.returned (.tuple ⟨[]⟩)) H1
theorem L0_step {txw : Option Addr} {s13 : Option Addr} {H : Heap} {R : Ending → Heap → Prop} (h : L0n txw s13 H R) : L0 txw s13 H R :=
  goL_of_den (an := an) (fuel := 100000) (X := L0n txw s13 H R) mixed fn (by kernel_rfl) (fun ρ0 => by kernel_rfl) h
def go (txw : Option Addr) (H : Heap) (R : Ending → Heap → Prop) : Prop :=
  nilD txw fun a =>
  callD Tryz.prog 58 [(.pointer (some a))] H (panK R) fun v H1 =>
  tTup v fun l =>
  tNil l <|
  nilD txw fun a1 =>
  ldMap H1 (Addr.add a1 1) fun m =>
  valD Tryz.prog (Instr.range 134 (.map m)) H1 (panK R) fun v1 H2 =>
  tPtr v1 fun p =>
  L0 txw p H2 R
theorem calls {txw : Option Addr} {H : Heap} {R : Ending → Heap → Prop} (h : go txw H R) : CallsH Tryz.prog 56 ⟨[(.pointer txw)]⟩ H R :=
  callsH_of_den (an := an) (fuel := 100000) (X := go txw H R) (c := body) mixed fn (by kernel_rfl) (by kernel_rfl) (by kernel_rfl) ok (by kernel_rfl) h
end F56
/-! ### 58 "(*pub-stadtholder/pub/etcdserver/storage/backend.txBuffer).reset" -/
namespace F58
def an : Ann := { kinds := [(4, .heavy 0), (1000, .heavy 101), (2000, .heavy 101), (4005, .heavy 0)], taus := [], pairs := [], lab := [(30000002, [0, 8]), (40000006, [0, 3, 8])] }
noncomputable def body : Code := (Tryz.f58.body).getD .skip
theorem fn : Tryz.prog.funcs[58]? = some Tryz.f58 := by kernel_rfl
theorem ok : codeOk an 27 body = true := by kernel_rfl
noncomputable def L0t : List Item := [.code (sub [1, 0, 0] body), .inLoop (sub [1, 0, 0] body), .inBlock 0]
def L0 (txb : Option Addr) (s8 : Option Addr) (H : Heap) (R : Ending → Heap → Prop) : Prop :=
  GoL Tryz.prog 58 27 L0t [0, 8] [(.pointer txb), (.pointer s8)] H R
noncomputable def L1t : List Item := [.code (sub [1, 0, 0, 1, 1, 0, 1, 1] body), .inBlock 1, .inLoop (sub [1, 0, 0] body), .inBlock 0]
def L1 (txb : Option Addr) (v : Option Addr) (s8 : Option Addr) (H : Heap) (R : Ending → Heap → Prop) : Prop :=
  GoL Tryz.prog 58 27 L1t [0, 3, 8] [(.pointer txb), (.pointer v), (.pointer s8)] H R
def L0n (txb : Option Addr) (s8 : Option Addr) (H : Heap) (R : Ending → Heap → Prop) : Prop :=
  valD Tryz.prog (Instr.next (.pointer s8) false 0) H (panK R) fun v H1 =>
  tTup v fun l =>
  tCons l fun c l1 =>
  tBool c fun b =>
  iteB b (
    tCons l1 fun c1 l2 =>
    tInt c1 .i64 fun n =>
    tCons l2 fun c2 l3 =>
    tPtr c2 fun p =>
    tNil l3 <|
    valD Tryz.prog (Instr.entry (.pointer s8)) H1 (panK R) fun v1 H2 =>
    tTup v1 fun l4 =>
    tCons l4 fun c3 l5 =>
    tInt c3 .i64 fun n1 =>
    tCons l5 fun c4 l6 =>
    tPtr c4 fun p1 =>
    tNil l6 <|
    nilD p1 fun a =>
    ldInt H2 (Addr.add a 1) .i64 fun n2 =>
    iteB (n2 == (0 : Int)) (
      nilD txb fun a1 =>
      ldMap H2 a1 fun m =>
      valD Tryz.prog (Builtin.delete_ #[101, 129] 0 ⟨[(.map m), (.int .i64 n1)]⟩) H2 (panK R) fun v2 H3 =>
      tTup v2 fun l7 =>
      tNil l7 <|
      L1 txb p1 s8 H3 R) <|
    L1 txb p1 s8 H2 R) <|
  tNil l1 <|
  R (.returned (.tuple ⟨[]⟩)) H1
theorem L0_step {txb : Option Addr} {s8 : Option Addr} {H : Heap} {R : Ending → Heap → Prop} (h : L0n txb s8 H R) : L0 txb s8 H R :=
  goL_of_den (an := an) (fuel := 100000) (X := L0n txb s8 H R) mixed fn (by kernel_rfl) (fun ρ0 => by kernel_rfl) h
def L1n (txb : Option Addr) (v : Option Addr) (s8 : Option Addr) (H : Heap) (R : Ending → Heap → Prop) : Prop :=
  nilD v fun a =>
  st1 H (Addr.add a 1) (.int .i64 (0 : Int)) fun H1 =>
  L0 txb s8 H1 R
theorem L1_step {txb : Option Addr} {v : Option Addr} {s8 : Option Addr} {H : Heap} {R : Ending → Heap → Prop} (h : L1n txb v s8 H R) : L1 txb v s8 H R :=
  goL_of_den (an := an) (fuel := 100000) (X := L1n txb v s8 H R) mixed fn (by kernel_rfl) (fun ρ0 => by kernel_rfl) h
def go (txb : Option Addr) (H : Heap) (R : Ending → Heap → Prop) : Prop :=
  nilD txb fun a =>
  ldMap H a fun m =>
  valD Tryz.prog (Instr.range 101 (.map m)) H (panK R) fun v H1 =>
  tPtr v fun p =>
  L0 txb p H1 R
theorem calls {txb : Option Addr} {H : Heap} {R : Ending → Heap → Prop} (h : go txb H R) : CallsH Tryz.prog 58 ⟨[(.pointer txb)]⟩ H R :=
  callsH_of_den (an := an) (fuel := 100000) (X := go txb H R) (c := body) mixed fn (by kernel_rfl) (by kernel_rfl) (by kernel_rfl) ok (by kernel_rfl) h
end F58
/-! ### 67 "(*pub-stadtholder/pub/etcdserver/storage/backend.bucketBuffer).add" -/
namespace F67
def an : Ann := { kinds := [], taus := [(0, [[0, 1, 2, 4, 5, 6, 8, 9, 10, 12, 13, 14, 16, 17, 3, 7, 11, 15, 18, 19, 20, 21, 22, 23]]), (2, [[0, 1, 2, 4, 5, 6, 3, 7, 8, 9]])], pairs := [], lab := [] }
noncomputable def body : Code := (Tryz.f67.body).getD .skip
theorem fn : Tryz.prog.funcs[67]? = some Tryz.f67 := by kernel_rfl
theorem ok : codeOk an 64 body = true := by kernel_rfl
def go (bb : Option Addr) (k : Option Addr) (kn : Nat) (kc : Nat) (v : Option Addr) (vn : Nat) (vc : Nat) (H : Heap) (R : Ending → Heap → Prop) : Prop :=
  nilD bb fun a =>
  nilD bb fun a1 =>
  nilD bb fun a2 =>
  nilD bb fun a3 =>
  ldSl H a fun q qn qc =>
  ldInt H (Addr.add a1 1) .i64 fun n =>
  ldSl H a2 fun q1 q1n q1c =>
  ldInt H (Addr.add a3 1) .i64 fun n1 =>
  idxD q qn n fun a4 =>
  st1 H (Addr.add a4 (Int.toNat n * 2)) (.slice k kn kc) fun H1 =>
  idxD q1 q1n n1 fun a5 =>
  st1 H1 (Addr.add (Addr.add a5 (Int.toNat n1 * 2)) 1) (.slice v vn vc) fun H2 =>
  nilD bb fun a6 =>
  ldInt H2 (Addr.add a6 1) .i64 fun n2 =>
  nilD bb fun a7 =>
  st1 H2 (Addr.add a7 1) (.int .i64 (IntKind.wrap .i64 (n2 + (1 : Int)))) fun H3 =>
  nilD bb fun a8 =>
  nilD bb fun a9 =>
  ldInt H3 (Addr.add a8 1) .i64 fun n3 =>
  ldSl H3 a9 fun q2 q2n q2c =>
  iteB (n3 == ((q2n : Nat) : Int)) (
    nilD bb fun a10 =>
    ldSl H3 a10 fun q3 q3n q3c =>
    divD (2 : Int) <|
    mkD H3 48 [(.slice none 0 0), (.slice none 0 0)] 160 (IntKind.wrap .i64 (Int.tdiv (IntKind.wrap .i64 ((3 : Int) * ((q3n : Nat) : Int))) (2 : Int))) (IntKind.wrap .i64 (Int.tdiv (IntKind.wrap .i64 ((3 : Int) * ((q3n : Nat) : Int))) (2 : Int))) fun r k1 c H4 =>
    nilD bb fun a11 =>
    ldSl H4 a11 fun q4 q4n q4c =>
    cpD H4 2 (some ⟨r, 0, none⟩) k1 q4 q4n fun k2 H5 =>
    nilD bb fun a12 =>
    st1 H5 a12 (.slice (some ⟨r, 0, none⟩) k1 c) fun H6 =>
    R (.returned (.tuple ⟨[]⟩)) H6) <|
  R (.returned (.tuple ⟨[]⟩)) H3
theorem calls {bb : Option Addr} {k : Option Addr} {kn : Nat} {kc : Nat} {v : Option Addr} {vn : Nat} {vc : Nat} {H : Heap} {R : Ending → Heap → Prop} (h : go bb k kn kc v vn vc H R) : CallsH Tryz.prog 67 ⟨[(.pointer bb), (.slice k kn kc), (.slice v vn vc)]⟩ H R :=
  callsH_of_den (an := an) (fuel := 100000) (X := go bb k kn kc v vn vc H R) (c := body) mixed fn (by kernel_rfl) (by kernel_rfl) (by kernel_rfl) ok (by kernel_rfl) h
end F67
/-! ### 112 "(*pub-stadtholder/pub/etcdserver/storage/backend.readTx).RLock" -/
namespace F112
def an : Ann := { kinds := [(3, .read)], taus := [], pairs := [], lab := [] }
noncomputable def body : Code := (Tryz.f112.body).getD .skip
theorem fn : Tryz.prog.funcs[112]? = some Tryz.f112 := by kernel_rfl
theorem ok : codeOk an 7 body = true := by kernel_rfl
def go (rt : Option Addr) (H : Heap) (R : Ending → Heap → Prop) : Prop :=
  nilD rt fun a =>
  zfD Tryz.prog H 115 0 (.pointer (some a)) fun a1 =>
  callD Tryz.prog 60 [(.pointer (some a1))] H (panK R) fun v H1 =>
  tTup v fun l =>
  tNil l <|
  R (.returned (.tuple ⟨[]⟩)) H1
theorem calls {rt : Option Addr} {H : Heap} {R : Ending → Heap → Prop} (h : go rt H R) : CallsH Tryz.prog 112 ⟨[(.pointer rt)]⟩ H R :=
  callsH_of_den (an := an) (fuel := 100000) (X := go rt H R) (c := body) mixed fn (by kernel_rfl) (by kernel_rfl) (by kernel_rfl) ok (by kernel_rfl) h
end F112
/-! ### 113 "(*pub-stadtholder/pub/etcdserver/storage/backend.readTx).RUnlock" -/
namespace F113
def an : Ann := { kinds := [(3, .read)], taus := [], pairs := [], lab := [] }
noncomputable def body : Code := (Tryz.f113.body).getD .skip
theorem fn : Tryz.prog.funcs[113]? = some Tryz.f113 := by kernel_rfl
theorem ok : codeOk an 7 body = true := by kernel_rfl
def go (rt : Option Addr) (H : Heap) (R : Ending → Heap → Prop) : Prop :=
  nilD rt fun a =>
  zfD Tryz.prog H 115 0 (.pointer (some a)) fun a1 =>
  callD Tryz.prog 62 [(.pointer (some a1))] H (panK R) fun v H1 =>
  tTup v fun l =>
  tNil l <|
  R (.returned (.tuple ⟨[]⟩)) H1
theorem calls {rt : Option Addr} {H : Heap} {R : Ending → Heap → Prop} (h : go rt H R) : CallsH Tryz.prog 113 ⟨[(.pointer rt)]⟩ H R :=
  callsH_of_den (an := an) (fuel := 100000) (X := go rt H R) (c := body) mixed fn (by kernel_rfl) (by kernel_rfl) (by kernel_rfl) ok (by kernel_rfl) h
end F113
/-! ### 119 "(*pub-stadtholder/pub/etcdserver/storage/backend.baseReadTx).UnsafeRange" -/
namespace F119
def an : Ann := { kinds := [(12005, .heavy 0), (18005, .grow), (19006, .heavy 0)], taus := [(18, [[0, 1, 2, 4, 3, 5, 6, 7]])], pairs := [], lab := [(10000004, [0, 1, 2, 3, 4]), (10000006, [0, 1, 2, 3, 4]), (20000007, [0, 1, 2, 3, 4]), (10000008, [0, 1, 2, 3, 4]), (10000021, [0, 2, 3, 4, 12, 13, 15, 17]), (10000027, [0, 2, 3, 4, 12, 13, 15])] }
noncomputable def body : Code := (Tryz.f119.body).getD .skip
theorem fn : Tryz.prog.funcs[119]? = some Tryz.f119 := by kernel_rfl
theorem ok : codeOk an 132 body = true := by kernel_rfl
noncomputable def L0t : List Item := [.code (sub [1, 1] body)]
def L0 (s0 : Option Addr) (s1 : IV) (s2 : Option Addr) (s2n : Nat) (s2c : Nat) (s3 : Option Addr) (s3n : Nat) (s3c : Nat) (s4 : Int) (H : Heap) (R : Ending → Heap → Prop) : Prop :=
  GoL Tryz.prog 119 132 L0t [0, 1, 2, 3, 4] [(.pointer s0), (IV.v s1), (.slice s2 s2n s2c), (.slice s3 s3n s3c), (.int .i64 s4)] H R
noncomputable def L1t : List Item := [.code (sub [1, 1, 1] body)]
def L1 (s0 : Option Addr) (s1 : IV) (s2 : Option Addr) (s2n : Nat) (s2c : Nat) (s3 : Option Addr) (s3n : Nat) (s3c : Nat) (s4 : Int) (H : Heap) (R : Ending → Heap → Prop) : Prop :=
  GoL Tryz.prog 119 132 L1t [0, 1, 2, 3, 4] [(.pointer s0), (IV.v s1), (.slice s2 s2n s2c), (.slice s3 s3n s3c), (.int .i64 s4)] H R
noncomputable def L2t : List Item := [.code (sub [1, 1, 1, 0, 1, 0] body), .code (sub [1, 1, 1, 1] body)]
def L2 (s0 : Option Addr) (s1 : IV) (s2 : Option Addr) (s2n : Nat) (s2c : Nat) (s3 : Option Addr) (s3n : Nat) (s3c : Nat) (s4 : Int) (H : Heap) (R : Ending → Heap → Prop) : Prop :=
  GoL Tryz.prog 119 132 L2t [0, 1, 2, 3, 4] [(.pointer s0), (IV.v s1), (.slice s2 s2n s2c), (.slice s3 s3n s3c), (.int .i64 s4)] H R
noncomputable def L3t : List Item := [.code (sub [1, 1, 1, 1] body)]
def L3 (s0 : Option Addr) (s1 : IV) (s2 : Option Addr) (s2n : Nat) (s2c : Nat) (s3 : Option Addr) (s3n : Nat) (s3c : Nat) (s4 : Int) (H : Heap) (R : Ending → Heap → Prop) : Prop :=
  GoL Tryz.prog 119 132 L3t [0, 1, 2, 3, 4] [(.pointer s0), (IV.v s1), (.slice s2 s2n s2c), (.slice s3 s3n s3c), (.int .i64 s4)] H R
noncomputable def L4t : List Item := [.code (sub [1, 1, 1, 1, 1, 1, 1, 1, 1, 1, 1, 1] body)]
def L4 (s0 : Option Addr) (s2 : Option Addr) (s2n : Nat) (s2c : Nat) (s3 : Option Addr) (s3n : Nat) (s3c : Nat) (s4 : Int) (s12 : Option Addr) (s12n : Nat) (s12c : Nat) (s13 : Option Addr) (s13n : Nat) (s13c : Nat) (s15 : Option Addr) (s17 : Bool) (H : Heap) (R : Ending → Heap → Prop) : Prop :=
  GoL Tryz.prog 119 132 L4t [0, 2, 3, 4, 12, 13, 15, 17] [(.pointer s0), (.slice s2 s2n s2c), (.slice s3 s3n s3c), (.int .i64 s4), (.slice s12 s12n s12c), (.slice s13 s13n s13c), (.pointer s15), (.bool s17)] H R
noncomputable def L5t : List Item := [.code (sub [1, 1, 1, 1, 1, 1, 1, 1, 1, 1, 1, 1, 1, 1] body)]
def L5 (s0 : Option Addr) (s2 : Option Addr) (s2n : Nat) (s2c : Nat) (s3 : Option Addr) (s3n : Nat) (s3c : Nat) (s4 : Int) (s12 : Option Addr) (s12n : Nat) (s12c : Nat) (s13 : Option Addr) (s13n : Nat) (s13c : Nat) (s15 : Option Addr) (H : Heap) (R : Ending → Heap → Prop) : Prop :=
  GoL Tryz.prog 119 132 L5t [0, 2, 3, 4, 12, 13, 15] [(.pointer s0), (.slice s2 s2n s2c), (.slice s3 s3n s3c), (.int .i64 s4), (.slice s12 s12n s12c), (.slice s13 s13n s13c), (.pointer s15)] H R
def L0n (s0 : Option Addr) (s1 : IV) (s2 : Option Addr) (s2n : Nat) (s2c : Nat) (s3 : Option Addr) (s3n : Nat) (s3c : Nat) (s4 : Int) (H : Heap) (R : Ending → Heap → Prop) : Prop :=
  iteB (decide (s4 ≤ (0 : Int))) (
    L1 s0 s1 s2 s2n s2c s3 s3n s3c (9223372036854775807 : Int) H R) <|
  L1 s0 s1 s2 s2n s2c s3 s3n s3c s4 H R
theorem L0_step {s0 : Option Addr} {s1 : IV} {s2 : Option Addr} {s2n : Nat} {s2c : Nat} {s3 : Option Addr} {s3n : Nat} {s3c : Nat} {s4 : Int} {H : Heap} {R : Ending → Heap → Prop} (h : L0n s0 s1 s2 s2n s2c s3 s3n s3c s4 H R) : L0 s0 s1 s2 s2n s2c s3 s3n s3c s4 H R :=
  goL_of_den (an := an) (fuel := 100000) (X := L0n s0 s1 s2 s2n s2c s3 s3n s3c s4 H R) mixed fn (by kernel_rfl) (fun ρ0 => by kernel_rfl) h
def L1n (s0 : Option Addr) (s1 : IV) (s2 : Option Addr) (s2n : Nat) (s2c : Nat) (s3 : Option Addr) (s3n : Nat) (s3c : Nat) (s4 : Int) (H : Heap) (R : Ending → Heap → Prop) : Prop :=
  iteB (decide (s4 > (1 : Int))) (
    callI Tryz.prog (IV.v s1) "IsSafeRangeBucket" [] H (panK R) fun v H1 =>
    tBool v fun b =>
    iteB (!b) (
      L2 s0 s1 s2 s2n s2c s3 s3n s3c s4 H1 R) <|
    L3 s0 s1 s2 s2n s2c s3 s3n s3c s4 H1 R) <|
  L3 s0 s1 s2 s2n s2c s3 s3n s3c s4 H R
theorem L1_step {s0 : Option Addr} {s1 : IV} {s2 : Option Addr} {s2n : Nat} {s2c : Nat} {s3 : Option Addr} {s3n : Nat} {s3c : Nat} {s4 : Int} {H : Heap} {R : Ending → Heap → Prop} (h : L1n s0 s1 s2 s2n s2c s3 s3n s3c s4 H R) : L1 s0 s1 s2 s2n s2c s3 s3n s3c s4 H R :=
  goL_of_den (an := an) (fuel := 100000) (X := L1n s0 s1 s2 s2n s2c s3 s3n s3c s4 H R) mixed fn (by kernel_rfl) (fun ρ0 => by kernel_rfl) h
def L2n (s0 : Option Addr) (s1 : IV) (s2 : Option Addr) (s2n : Nat) (s2c : Nat) (s3 : Option Addr) (s3n : Nat) (s3c : Nat) (s4 : Int) (H : Heap) (R : Ending → Heap → Prop) : Prop :=
  panD (.iface 9 (.string (ByteArray.mk #[100, 111, 32, 110, 111, 116, 32, 117, 115, 101, 32, 117, 110, 115, 97, 102, 101, 82, 97, 110, 103, 101, 32, 111, 110, 32, 110, 111, 110, 45, 107, 101, 121, 115, 32, 98, 117, 99, 107, 101, 116]))) H (panK R)
theorem L2_step {s0 : Option Addr} {s1 : IV} {s2 : Option Addr} {s2n : Nat} {s2c : Nat} {s3 : Option Addr} {s3n : Nat} {s3c : Nat} {s4 : Int} {H : Heap} {R : Ending → Heap → Prop} (h : L2n s0 s1 s2 s2n s2c s3 s3n s3c s4 H R) : L2 s0 s1 s2 s2n s2c s3 s3n s3c s4 H R :=
  goL_of_den (an := an) (fuel := 100000) (X := L2n s0 s1 s2 s2n s2c s3 s3n s3c s4 H R) mixed fn (by kernel_rfl) (fun ρ0 => by kernel_rfl) h
def L3n (s0 : Option Addr) (s1 : IV) (s2 : Option Addr) (s2n : Nat) (s2c : Nat) (s3 : Option Addr) (s3n : Nat) (s3c : Nat) (s4 : Int) (H : Heap) (R : Ending → Heap → Prop) : Prop :=
  nilD s0 fun a =>
  callD Tryz.prog 124 [(.pointer (some a)), (IV.v s1), (.slice s2 s2n s2c), (.slice s3 s3n s3c), (.int .i64 s4)] H (panK R) fun v H1 =>
  tTup v fun l =>
  tCons l fun c l1 =>
  tSl c fun q qn qc =>
  tCons l1 fun c1 l2 =>
  tSl c1 fun q1 q1n q1c =>
  tNil l2 <|
  iteB (((qn : Nat) : Int) == s4) (
    R (.returned (.tuple ⟨[(.slice q qn qc), (.slice q1 q1n q1c)]⟩)) H1) <|
  callI Tryz.prog (IV.v s1) "ID" [] H1 (panK R) fun v1 H2 =>
  tInt v1 .i64 fun n =>
  nilD s0 fun a1 =>
  ldPtr H2 (Addr.add a1 2) fun p =>
  callD Tryz.prog 60 [(.pointer p)] H2 (panK R) fun v2 H3 =>
  tTup v2 fun l3 =>
  tNil l3 <|
  nilD s0 fun a2 =>
  ldMap H3 (Addr.add a2 4) fun m =>
  valD Tryz.prog (Instr.lookup 107 (.map m) (.int .i64 n) true) H3 (panK R) fun v3 H4 =>
  tTup v3 fun l4 =>
  tCons l4 fun c2 l5 =>
  tPtr c2 fun p1 =>
  tCons l5 fun c3 l6 =>
  tBool c3 fun b =>
  tNil l6 <|
  nilD s0 fun a3 =>
  ldPtr H4 (Addr.add a3 2) fun p2 =>
  callD Tryz.prog 62 [(.pointer p2)] H4 (panK R) fun v4 H5 =>
  tTup v4 fun l7 =>
  tNil l7 <|
  iteB (!b) (
    nilD s0 fun a4 =>
    ldPtr H5 (Addr.add a4 2) fun p3 =>
    callD Tryz.prog 47 [(.pointer p3)] H5 (panK R) fun v5 H6 =>
    tTup v5 fun l8 =>
    tNil l8 <|
    nilD s0 fun a5 =>
    ldPtr H6 (Addr.add a5 3) fun p4 =>
    callI Tryz.prog (IV.v s1) "Name" [] H6 nope fun v6 H7 =>
    tSl v6 fun q2 q2n q2c =>
    andD (ExtH H6 H7) <|
    callD Tryz.prog 125 [(.pointer p4), (.slice q2 q2n q2c)] H7 (panK R) fun v7 H8 =>
    tPtr v7 fun p5 =>
    nilD s0 fun a6 =>
    ldMap H8 (Addr.add a6 4) fun m1 =>
    uniD Tryz.prog (Instr.mapUpdate 107 (.map m1) (.int .i64 n) (.pointer p5)) H8 (panK R) fun H9 =>
    L4 s0 s2 s2n s2c s3 s3n s3c s4 q qn qc q1 q1n q1c p5 true H9 R) <|
  L4 s0 s2 s2n s2c s3 s3n s3c s4 q qn qc q1 q1n q1c p1 false H5 R
theorem L3_step {s0 : Option Addr} {s1 : IV} {s2 : Option Addr} {s2n : Nat} {s2c : Nat} {s3 : Option Addr} {s3n : Nat} {s3c : Nat} {s4 : Int} {H : Heap} {R : Ending → Heap → Prop} (h : L3n s0 s1 s2 s2n s2c s3 s3n s3c s4 H R) : L3 s0 s1 s2 s2n s2c s3 s3n s3c s4 H R :=
  goL_of_den (an := an) (fuel := 100000) (X := L3n s0 s1 s2 s2n s2c s3 s3n s3c s4 H R) mixed fn (by kernel_rfl) (fun ρ0 => by kernel_rfl) h
def L4n (s0 : Option Addr) (s2 : Option Addr) (s2n : Nat) (s2c : Nat) (s3 : Option Addr) (s3n : Nat) (s3c : Nat) (s4 : Int) (s12 : Option Addr) (s12n : Nat) (s12c : Nat) (s13 : Option Addr) (s13n : Nat) (s13c : Nat) (s15 : Option Addr) (s17 : Bool) (H : Heap) (R : Ending → Heap → Prop) : Prop :=
  iteB (Option.isNone s15) (
    iteB s17 (
      nilD s0 fun a =>
      ldPtr H (Addr.add a 2) fun p =>
      callD Tryz.prog 52 [(.pointer p)] H (panK R) fun v H1 =>
      tTup v fun l =>
      tNil l <|
      R (.returned (.tuple ⟨[(.slice s12 s12n s12c), (.slice s13 s13n s13c)]⟩)) H1) <|
    R (.returned (.tuple ⟨[(.slice s12 s12n s12c), (.slice s13 s13n s13c)]⟩)) H) <|
  iteB (!s17) (
    nilD s0 fun a1 =>
    ldPtr H (Addr.add a1 2) fun p1 =>
    callD Tryz.prog 47 [(.pointer p1)] H (panK R) fun v1 H2 =>
    tTup v1 fun l1 =>
    tNil l1 <|
    L5 s0 s2 s2n s2c s3 s3n s3c s4 s12 s12n s12c s13 s13n s13c s15 H2 R) <|
  L5 s0 s2 s2n s2c s3 s3n s3c s4 s12 s12n s12c s13 s13n s13c s15 H R
theorem L4_step {s0 : Option Addr} {s2 : Option Addr} {s2n : Nat} {s2c : Nat} {s3 : Option Addr} {s3n : Nat} {s3c : Nat} {s4 : Int} {s12 : Option Addr} {s12n : Nat} {s12c : Nat} {s13 : Option Addr} {s13n : Nat} {s13c : Nat} {s15 : Option Addr} {s17 : Bool} {H : Heap} {R : Ending → Heap → Prop} (h : L4n s0 s2 s2n s2c s3 s3n s3c s4 s12 s12n s12c s13 s13n s13c s15 s17 H R) : L4 s0 s2 s2n s2c s3 s3n s3c s4 s12 s12n s12c s13 s13n s13c s15 s17 H R :=
  goL_of_den (an := an) (fuel := 100000) (X := L4n s0 s2 s2n s2c s3 s3n s3c s4 s12 s12n s12c s13 s13n s13c s15 s17 H R) mixed fn (by kernel_rfl) (fun ρ0 => by kernel_rfl) h
def L5n (s0 : Option Addr) (s2 : Option Addr) (s2n : Nat) (s2c : Nat) (s3 : Option Addr) (s3n : Nat) (s3c : Nat) (s4 : Int) (s12 : Option Addr) (s12n : Nat) (s12c : Nat) (s13 : Option Addr) (s13n : Nat) (s13c : Nat) (s15 : Option Addr) (H : Heap) (R : Ending → Heap → Prop) : Prop :=
  callD Tryz.prog 126 [(.pointer s15)] H (panK R) fun v H1 =>
  tPtr v fun p =>
  nilD s0 fun a =>
  ldPtr H1 (Addr.add a 2) fun p1 =>
  callD Tryz.prog 52 [(.pointer p1)] H1 (panK R) fun v1 H2 =>
  tTup v1 fun l =>
  tNil l <|
  callD Tryz.prog 127 [(.pointer p), (.slice s2 s2n s2c), (.slice s3 s3n s3c), (.int .i64 (IntKind.wrap .i64 (s4 - ((s12n : Nat) : Int))))] H2 (panK R) fun v2 H3 =>
  tTup v2 fun l1 =>
  tCons l1 fun c l2 =>
  tSl c fun q qn qc =>
  tCons l2 fun c1 l3 =>
  tSl c1 fun q1 q1n q1c =>
  tNil l3 <|
  apD H3 1 24 [(.slice none 0 0)] 78 q qn qc s12 s12n fun q2 q2n q2c H4 =>
  apD H4 1 24 [(.slice none 0 0)] 78 q1 q1n q1c s13 s13n fun q3 q3n q3c H5 =>
  R (.returned (.tuple ⟨[(.slice q2 q2n q2c), (.slice q3 q3n q3c)]⟩)) H5
theorem L5_step {s0 : Option Addr} {s2 : Option Addr} {s2n : Nat} {s2c : Nat} {s3 : Option Addr} {s3n : Nat} {s3c : Nat} {s4 : Int} {s12 : Option Addr} {s12n : Nat} {s12c : Nat} {s13 : Option Addr} {s13n : Nat} {s13c : Nat} {s15 : Option Addr} {H : Heap} {R : Ending → Heap → Prop} (h : L5n s0 s2 s2n s2c s3 s3n s3c s4 s12 s12n s12c s13 s13n s13c s15 H R) : L5 s0 s2 s2n s2c s3 s3n s3c s4 s12 s12n s12c s13 s13n s13c s15 H R :=
  goL_of_den (an := an) (fuel := 100000) (X := L5n s0 s2 s2n s2c s3 s3n s3c s4 s12 s12n s12c s13 s13n s13c s15 H R) mixed fn (by kernel_rfl) (fun ρ0 => by kernel_rfl) h
def go (s0 : Option Addr) (s1 : IV) (s2 : Option Addr) (s2n : Nat) (s2c : Nat) (s3 : Option Addr) (s3n : Nat) (s3c : Nat) (s4 : Int) (H : Heap) (R : Ending → Heap → Prop) : Prop :=
  iteB (Option.isNone s3) (
    L0 s0 s1 s2 s2n s2c s3 s3n s3c (1 : Int) H R) <|
  L0 s0 s1 s2 s2n s2c s3 s3n s3c s4 H R
theorem calls {s0 : Option Addr} {s1 : IV} {s2 : Option Addr} {s2n : Nat} {s2c : Nat} {s3 : Option Addr} {s3n : Nat} {s3c : Nat} {s4 : Int} {H : Heap} {R : Ending → Heap → Prop} (h : go s0 s1 s2 s2n s2c s3 s3n s3c s4 H R) : CallsH Tryz.prog 119 ⟨[(.pointer s0), (IV.v s1), (.slice s2 s2n s2c), (.slice s3 s3n s3c), (.int .i64 s4)]⟩ H R :=
  callsH_of_den (an := an) (fuel := 100000) (X := go s0 s1 s2 s2n s2c s3 s3n s3c s4 H R) (c := body) mixed fn (by kernel_rfl) (by kernel_rfl) (by kernel_rfl) ok (by kernel_rfl) h
end F119
/-! ### 124 "(*pub-stadtholder/pub/etcdserver/storage/backend.txReadBuffer).Range" -/
namespace F124
def an : Ann := { kinds := [(1006, .grow), (1007, .heavy 0)], taus := [(1, [[0, 1, 2, 3, 5, 4, 6, 7, 8]])], pairs := [], lab := [] }
noncomputable def body : Code := (Tryz.f124.body).getD .skip
theorem fn : Tryz.prog.funcs[124]? = some Tryz.f124 := by kernel_rfl
theorem ok : codeOk an 30 body = true := by kernel_rfl
def go (txr : Option Addr) (bucket : IV) (key : Option Addr) (keyn : Nat) (keyc : Nat) (endKey : Option Addr) (endKeyn : Nat) (endKeyc : Nat) (limit : Int) (H : Heap) (R : Ending → Heap → Prop) : Prop :=
  nilD txr fun a =>
  ldMap H a fun m =>
  callI Tryz.prog (IV.v bucket) "ID" [] H nope fun v H1 =>
  tInt v .i64 fun n =>
  andD (ExtH H H1) <|
  valD Tryz.prog (Instr.lookup 101 (.map m) (.int .i64 n) false) H1 (panK R) fun v1 H2 =>
  tPtr v1 fun p =>
  iteB (!(Option.isNone p)) (
    callD Tryz.prog 130 [(.pointer p), (.slice key keyn keyc), (.slice endKey endKeyn endKeyc), (.int .i64 limit)] H2 (panK R) fun v2 H3 =>
    tTup v2 fun l =>
    tCons l fun c l1 =>
    tSl c fun q qn qc =>
    tCons l1 fun c1 l2 =>
    tSl c1 fun q1 q1n q1c =>
    tNil l2 <|
    R (.returned (.tuple ⟨[(.slice q qn qc), (.slice q1 q1n q1c)]⟩)) H3) <|
  R (.returned (.tuple ⟨[(.slice none 0 0), (.slice none 0 0)]⟩)) H2
theorem calls {txr : Option Addr} {bucket : IV} {key : Option Addr} {keyn : Nat} {keyc : Nat} {endKey : Option Addr} {endKeyn : Nat} {endKeyc : Nat} {limit : Int} {H : Heap} {R : Ending → Heap → Prop} (h : go txr bucket key keyn keyc endKey endKeyn endKeyc limit H R) : CallsH Tryz.prog 124 ⟨[(.pointer txr), (IV.v bucket), (.slice key keyn keyc), (.slice endKey endKeyn endKeyc), (.int .i64 limit)]⟩ H R :=
  callsH_of_den (an := an) (fuel := 100000) (X := go txr bucket key keyn keyc endKey endKeyn endKeyc limit H R) (c := body) mixed fn (by kernel_rfl) (by kernel_rfl) (by kernel_rfl) ok (by kernel_rfl) h
end F124
/-! ### 127 "pub-stadtholder/pub/etcdserver/storage/backend.unsafeRange" -/
namespace F127
def an : Ann := { kinds := [], taus := [], pairs := [], lab := [(10000004, [0, 3, 5, 6, 8, 9]), (10000009, [0, 3, 5, 8, 9, 10]), (40000010, [0, 3, 8, 9, 10, 11, 12]), (40000012, [0, 3, 8, 9, 10, 11, 12])] }
noncomputable def body : Code := (Tryz.f127.body).getD .skip
theorem fn : Tryz.prog.funcs[127]? = some Tryz.f127 := by kernel_rfl
theorem ok : codeOk an 52 body = true := by kernel_rfl
noncomputable def L0t : List Item := [.code (sub [1, 1] body)]
def L0 (c : Option Addr) (limit : Int) (key : Nat) (endKey : Nat) (keys : Option Addr) (keysn : Nat) (keysc : Nat) (vs : Option Addr) (vsn : Nat) (vsc : Nat) (H : Heap) (R : Ending → Heap → Prop) : Prop :=
  GoL Tryz.prog 127 52 L0t [0, 3, 5, 6, 8, 9] [(.pointer c), (.int .i64 limit), (.pointer (some ⟨key, 0, none⟩)), (.pointer (some ⟨endKey, 0, none⟩)), (.slice keys keysn keysc), (.slice vs vsn vsc)] H R
noncomputable def L1t : List Item := [.code (sub [1, 1, 1, 1] body)]
def L1 (c : Option Addr) (limit : Int) (key : Nat) (keys : Option Addr) (keysn : Nat) (keysc : Nat) (vs : Option Addr) (vsn : Nat) (vsc : Nat) (isMatch : FV) (H : Heap) (R : Ending → Heap → Prop) : Prop :=
  GoL Tryz.prog 127 52 L1t [0, 3, 5, 8, 9, 10] [(.pointer c), (.int .i64 limit), (.pointer (some ⟨key, 0, none⟩)), (.slice keys keysn keysc), (.slice vs vsn vsc), (FV.v isMatch)] H R
noncomputable def L2t : List Item := [.code (sub [1, 1, 1, 1, 0, 1, 0, 0] body), .inLoop (sub [1, 1, 1, 1, 0, 1, 0, 0] body), .inBlock 0, .code (sub [1, 1, 1, 1, 1] body)]
def L2 (c : Option Addr) (limit : Int) (keys : Option Addr) (keysn : Nat) (keysc : Nat) (vs : Option Addr) (vsn : Nat) (vsc : Nat) (isMatch : FV) (ck : Option Addr) (ckn : Nat) (ckc : Nat) (cv : Option Addr) (cvn : Nat) (cvc : Nat) (H : Heap) (R : Ending → Heap → Prop) : Prop :=
  GoL Tryz.prog 127 52 L2t [0, 3, 8, 9, 10, 11, 12] [(.pointer c), (.int .i64 limit), (.slice keys keysn keysc), (.slice vs vsn vsc), (FV.v isMatch), (.slice ck ckn ckc), (.slice cv cvn cvc)] H R
noncomputable def L3t : List Item := [.code (sub [1, 1, 1, 1, 0, 1, 0, 0, 1] body), .inLoop (sub [1, 1, 1, 1, 0, 1, 0, 0] body), .inBlock 0, .code (sub [1, 1, 1, 1, 1] body)]
def L3 (c : Option Addr) (limit : Int) (keys : Option Addr) (keysn : Nat) (keysc : Nat) (vs : Option Addr) (vsn : Nat) (vsc : Nat) (isMatch : FV) (ck : Option Addr) (ckn : Nat) (ckc : Nat) (cv : Option Addr) (cvn : Nat) (cvc : Nat) (H : Heap) (R : Ending → Heap → Prop) : Prop :=
  GoL Tryz.prog 127 52 L3t [0, 3, 8, 9, 10, 11, 12] [(.pointer c), (.int .i64 limit), (.slice keys keysn keysc), (.slice vs vsn vsc), (FV.v isMatch), (.slice ck ckn ckc), (.slice cv cvn cvc)] H R
def L0n (c : Option Addr) (limit : Int) (key : Nat) (endKey : Nat) (keys : Option Addr) (keysn : Nat) (keysc : Nat) (vs : Option Addr) (vsn : Nat) (vsc : Nat) (H : Heap) (R : Ending → Heap → Prop) : Prop :=
  ldSl H ⟨endKey, 0, none⟩ fun q qn qc =>
  iteB (decide (((qn : Nat) : Int) > (0 : Int))) (
    L1 c limit key keys keysn keysc vs vsn vsc (FV.mk (.func 132) ⟨[]⟩ ⟨[(.pointer (some ⟨endKey, 0, none⟩))]⟩) H R) <|
  L1 c (1 : Int) key keys keysn keysc vs vsn vsc (FV.mk (.func 133) ⟨[]⟩ ⟨[(.pointer (some ⟨key, 0, none⟩))]⟩) H R
theorem L0_step {c : Option Addr} {limit : Int} {key : Nat} {endKey : Nat} {keys : Option Addr} {keysn : Nat} {keysc : Nat} {vs : Option Addr} {vsn : Nat} {vsc : Nat} {H : Heap} {R : Ending → Heap → Prop} (h : L0n c limit key endKey keys keysn keysc vs vsn vsc H R) : L0 c limit key endKey keys keysn keysc vs vsn vsc H R :=
  goL_of_den (an := an) (fuel := 100000) (X := L0n c limit key endKey keys keysn keysc vs vsn vsc H R) mixed fn (by kernel_rfl) (fun ρ0 => by kernel_rfl) h
def L1n (c : Option Addr) (limit : Int) (key : Nat) (keys : Option Addr) (keysn : Nat) (keysc : Nat) (vs : Option Addr) (vsn : Nat) (vsc : Nat) (isMatch : FV) (H : Heap) (R : Ending → Heap → Prop) : Prop :=
  ldSl H ⟨key, 0, none⟩ fun q qn qc =>
  callD Tryz.prog 134 [(.pointer c), (.slice q qn qc)] H (panK R) fun v H1 =>
  tTup v fun l =>
  tCons l fun c1 l1 =>
  tSl c1 fun q1 q1n q1c =>
  tCons l1 fun c2 l2 =>
  tSl c2 fun q2 q2n q2c =>
  tNil l2 <|
  L2 c limit keys keysn keysc vs vsn vsc isMatch q1 q1n q1c q2 q2n q2c H1 R
theorem L1_step {c : Option Addr} {limit : Int} {key : Nat} {keys : Option Addr} {keysn : Nat} {keysc : Nat} {vs : Option Addr} {vsn : Nat} {vsc : Nat} {isMatch : FV} {H : Heap} {R : Ending → Heap → Prop} (h : L1n c limit key keys keysn keysc vs vsn vsc isMatch H R) : L1 c limit key keys keysn keysc vs vsn vsc isMatch H R :=
  goL_of_den (an := an) (fuel := 100000) (X := L1n c limit key keys keysn keysc vs vsn vsc isMatch H R) mixed fn (by kernel_rfl) (fun ρ0 => by kernel_rfl) h
def L2n (c : Option Addr) (limit : Int) (keys : Option Addr) (keysn : Nat) (keysc : Nat) (vs : Option Addr) (vsn : Nat) (vsc : Nat) (isMatch : FV) (ck : Option Addr) (ckn : Nat) (ckc : Nat) (cv : Option Addr) (cvn : Nat) (cvc : Nat) (H : Heap) (R : Ending → Heap → Prop) : Prop :=
  iteB (!(Option.isNone ck)) (
    callV Tryz.prog (FV.v isMatch) [(.slice ck ckn ckc)] H (panK R) fun v H1 =>
    tBool v fun b =>
    iteB b (
      L3 c limit keys keysn keysc vs vsn vsc isMatch ck ckn ckc cv cvn cvc H1 R) <|
    R (.returned (.tuple ⟨[(.slice keys keysn keysc), (.slice vs vsn vsc)]⟩)) H1) <|
  R (.returned (.tuple ⟨[(.slice keys keysn keysc), (.slice vs vsn vsc)]⟩)) H
theorem L2_step {c : Option Addr} {limit : Int} {keys : Option Addr} {keysn : Nat} {keysc : Nat} {vs : Option Addr} {vsn : Nat} {vsc : Nat} {isMatch : FV} {ck : Option Addr} {ckn : Nat} {ckc : Nat} {cv : Option Addr} {cvn : Nat} {cvc : Nat} {H : Heap} {R : Ending → Heap → Prop} (h : L2n c limit keys keysn keysc vs vsn vsc isMatch ck ckn ckc cv cvn cvc H R) : L2 c limit keys keysn keysc vs vsn vsc isMatch ck ckn ckc cv cvn cvc H R :=
  goL_of_den (an := an) (fuel := 100000) (X := L2n c limit keys keysn keysc vs vsn vsc isMatch ck ckn ckc cv cvn cvc H R) mixed fn (by kernel_rfl) (fun ρ0 => by kernel_rfl) h
def L3n (c : Option Addr) (limit : Int) (keys : Option Addr) (keysn : Nat) (keysc : Nat) (vs : Option Addr) (vsn : Nat) (vsc : Nat) (isMatch : FV) (ck : Option Addr) (ckn : Nat) (ckc : Nat) (cv : Option Addr) (cvn : Nat) (cvc : Nat) (H : Heap) (R : Ending → Heap → Prop) : Prop :=
  newD H (.cells ⟨[(.slice cv cvn cvc)]⟩ 78) fun r H1 =>
  apD H1 1 24 [(.slice none 0 0)] 78 vs vsn vsc (some ⟨r, 0, none⟩) 1 fun q qn qc H2 =>
  newD H2 (.cells ⟨[(.slice ck ckn ckc)]⟩ 78) fun r1 H3 =>
  apD H3 1 24 [(.slice none 0 0)] 78 keys keysn keysc (some ⟨r1, 0, none⟩) 1 fun q1 q1n q1c H4 =>
  iteB (limit == ((q1n : Nat) : Int)) (
    R (.returned (.tuple ⟨[(.slice q1 q1n q1c), (.slice q qn qc)]⟩)) H4) <|
  callD Tryz.prog 135 [(.pointer c)] H4 (panK R) fun v H5 =>
  tTup v fun l =>
  tCons l fun c1 l1 =>
  tSl c1 fun q2 q2n q2c =>
  tCons l1 fun c2 l2 =>
  tSl c2 fun q3 q3n q3c =>
  tNil l2 <|
  L2 c limit q1 q1n q1c q qn qc isMatch q2 q2n q2c q3 q3n q3c H5 R
theorem L3_step {c : Option Addr} {limit : Int} {keys : Option Addr} {keysn : Nat} {keysc : Nat} {vs : Option Addr} {vsn : Nat} {vsc : Nat} {isMatch : FV} {ck : Option Addr} {ckn : Nat} {ckc : Nat} {cv : Option Addr} {cvn : Nat} {cvc : Nat} {H : Heap} {R : Ending → Heap → Prop} (h : L3n c limit keys keysn keysc vs vsn vsc isMatch ck ckn ckc cv cvn cvc H R) : L3 c limit keys keysn keysc vs vsn vsc isMatch ck ckn ckc cv cvn cvc H R :=
  goL_of_den (an := an) (fuel := 100000) (X := L3n c limit keys keysn keysc vs vsn vsc isMatch ck ckn ckc cv cvn cvc H R) mixed fn (by kernel_rfl) (fun ρ0 => by kernel_rfl) h
def go (c : Option Addr) (key : Option Addr) (keyn : Nat) (keyc : Nat) (endKey : Option Addr) (endKeyn : Nat) (endKeyc : Nat) (limit : Int) (H : Heap) (R : Ending → Heap → Prop) : Prop :=
  newD H (.cells ⟨[(.slice key keyn keyc)]⟩ 78) fun r H1 =>
  newD H1 (.cells ⟨[(.slice endKey endKeyn endKeyc)]⟩ 78) fun r1 H2 =>
  iteB (decide (limit ≤ (0 : Int))) (
    L0 c (9223372036854775807 : Int) r r1 none 0 0 none 0 0 H2 R) <|
  L0 c limit r r1 none 0 0 none 0 0 H2 R
theorem calls {c : Option Addr} {key : Option Addr} {keyn : Nat} {keyc : Nat} {endKey : Option Addr} {endKeyn : Nat} {endKeyc : Nat} {limit : Int} {H : Heap} {R : Ending → Heap → Prop} (h : go c key keyn keyc endKey endKeyn endKeyc limit H R) : CallsH Tryz.prog 127 ⟨[(.pointer c), (.slice key keyn keyc), (.slice endKey endKeyn endKeyc), (.int .i64 limit)]⟩ H R :=
  callsH_of_den (an := an) (fuel := 100000) (X := go c key keyn keyc endKey endKeyn endKeyc limit H R) (c := body) mixed fn (by kernel_rfl) (by kernel_rfl) (by kernel_rfl) ok (by kernel_rfl) h
end F127
/-! ### 130 "(*pub-stadtholder/pub/etcdserver/storage/backend.bucketBuffer).Range" -/
namespace F130
def an : Ann := { kinds := [], taus := [(6, [[5, 0, 1, 2, 3, 4, 6, 7, 8, 9]])], pairs := [], lab := [(10000006, [2, 3, 4, 5, 8, 9, 11]), (40000014, [2, 3, 4, 8, 9, 12]), (40000016, [2, 3, 4, 8, 9, 12])] }
noncomputable def body : Code := (Tryz.f130.body).getD .skip
theorem fn : Tryz.prog.funcs[130]? = some Tryz.f130 := by kernel_rfl
theorem ok : codeOk an 128 body = true := by kernel_rfl
noncomputable def L0t : List Item := [.code (sub [1, 1, 1, 1] body)]
def L0 (s2 : Option Addr) (s2n : Nat) (s2c : Nat) (s3 : Int) (s4 : Nat) (s5 : Nat) (s8 : Option Addr) (s8n : Nat) (s8c : Nat) (s9 : Option Addr) (s9n : Nat) (s9c : Nat) (s11 : Int) (H : Heap) (R : Ending → Heap → Prop) : Prop :=
  GoL Tryz.prog 130 128 L0t [2, 3, 4, 5, 8, 9, 11] [(.slice s2 s2n s2c), (.int .i64 s3), (.pointer (some ⟨s4, 0, none⟩)), (.pointer (some ⟨s5, 0, none⟩)), (.slice s8 s8n s8c), (.slice s9 s9n s9c), (.int .i64 s11)] H R
noncomputable def L1t : List Item := [.code (sub [1, 1, 1, 1, 1, 1, 0, 1, 0, 0] body), .inLoop (sub [1, 1, 1, 1, 1, 1, 0, 1, 0, 0] body), .inBlock 0, .code (sub [1, 1, 1, 1, 1, 1, 1] body)]
def L1 (s2 : Option Addr) (s2n : Nat) (s2c : Nat) (s3 : Int) (s4 : Nat) (s8 : Option Addr) (s8n : Nat) (s8c : Nat) (s9 : Option Addr) (s9n : Nat) (s9c : Nat) (s12 : Int) (H : Heap) (R : Ending → Heap → Prop) : Prop :=
  GoL Tryz.prog 130 128 L1t [2, 3, 4, 8, 9, 12] [(.slice s2 s2n s2c), (.int .i64 s3), (.pointer (some ⟨s4, 0, none⟩)), (.slice s8 s8n s8c), (.slice s9 s9n s9c), (.int .i64 s12)] H R
noncomputable def L2t : List Item := [.code (sub [1, 1, 1, 1, 1, 1, 0, 1, 0, 0, 1] body), .inLoop (sub [1, 1, 1, 1, 1, 1, 0, 1, 0, 0] body), .inBlock 0, .code (sub [1, 1, 1, 1, 1, 1, 1] body)]
def L2 (s2 : Option Addr) (s2n : Nat) (s2c : Nat) (s3 : Int) (s4 : Nat) (s8 : Option Addr) (s8n : Nat) (s8c : Nat) (s9 : Option Addr) (s9n : Nat) (s9c : Nat) (s12 : Int) (H : Heap) (R : Ending → Heap → Prop) : Prop :=
  GoL Tryz.prog 130 128 L2t [2, 3, 4, 8, 9, 12] [(.slice s2 s2n s2c), (.int .i64 s3), (.pointer (some ⟨s4, 0, none⟩)), (.slice s8 s8n s8c), (.slice s9 s9n s9c), (.int .i64 s12)] H R
def L0n (s2 : Option Addr) (s2n : Nat) (s2c : Nat) (s3 : Int) (s4 : Nat) (s5 : Nat) (s8 : Option Addr) (s8n : Nat) (s8c : Nat) (s9 : Option Addr) (s9n : Nat) (s9c : Nat) (s11 : Int) (H : Heap) (R : Ending → Heap → Prop) : Prop :=
  iteB (((s2n : Nat) : Int) == (0 : Int)) (
    ldSl H ⟨s5, 0, none⟩ fun q qn qc =>
    ldPtr H ⟨s4, 0, none⟩ fun p =>
    nilD p fun a =>
    ldSl H a fun q1 q1n q1c =>
    idxD q1 q1n s11 fun a1 =>
    ldSl H (Addr.add a1 (Int.toNat s11 * 2)) fun q2 q2n q2c =>
    callD Tryz.prog 64 [(.slice q qn qc), (.slice q2 q2n q2c)] H (panK R) fun v H1 =>
    tBool v fun b =>
    iteB b (
      ldPtr H1 ⟨s4, 0, none⟩ fun p1 =>
      nilD p1 fun a2 =>
      ldSl H1 a2 fun q3 q3n q3c =>
      idxD q3 q3n s11 fun a3 =>
      ldSl H1 (Addr.add a3 (Int.toNat s11 * 2)) fun q4 q4n q4c =>
      newD H1 (.cells ⟨[(.slice q4 q4n q4c)]⟩ 78) fun r H2 =>
      apD H2 1 24 [(.slice none 0 0)] 78 s8 s8n s8c (some ⟨r, 0, none⟩) 1 fun q5 q5n q5c H3 =>
      ldPtr H3 ⟨s4, 0, none⟩ fun p2 =>
      nilD p2 fun a4 =>
      ldSl H3 a4 fun q6 q6n q6c =>
      idxD q6 q6n s11 fun a5 =>
      ldSl H3 (Addr.add (Addr.add a5 (Int.toNat s11 * 2)) 1) fun q7 q7n q7c =>
      newD H3 (.cells ⟨[(.slice q7 q7n q7c)]⟩ 78) fun r1 H4 =>
      apD H4 1 24 [(.slice none 0 0)] 78 s9 s9n s9c (some ⟨r1, 0, none⟩) 1 fun q8 q8n q8c H5 =>
      R (.returned (.tuple ⟨[(.slice q5 q5n q5c), (.slice q8 q8n q8c)]⟩)) H5) <|
    R (.returned (.tuple ⟨[(.slice s8 s8n s8c), (.slice s9 s9n s9c)]⟩)) H1) <|
  ldPtr H ⟨s4, 0, none⟩ fun p3 =>
  nilD p3 fun a6 =>
  ldSl H a6 fun q9 q9n q9c =>
  idxD q9 q9n s11 fun a7 =>
  ldSl H (Addr.add a7 (Int.toNat s11 * 2)) fun q10 q10n q10c =>
  callD Tryz.prog 68 [(.slice s2 s2n s2c), (.slice q10 q10n q10c)] H (panK R) fun v1 H6 =>
  tInt v1 .i64 fun n =>
  iteB (decide (n ≤ (0 : Int))) (
    R (.returned (.tuple ⟨[(.slice none 0 0), (.slice none 0 0)]⟩)) H6) <|
  L1 s2 s2n s2c s3 s4 s8 s8n s8c s9 s9n s9c s11 H6 R
theorem L0_step {s2 : Option Addr} {s2n : Nat} {s2c : Nat} {s3 : Int} {s4 : Nat} {s5 : Nat} {s8 : Option Addr} {s8n : Nat} {s8c : Nat} {s9 : Option Addr} {s9n : Nat} {s9c : Nat} {s11 : Int} {H : Heap} {R : Ending → Heap → Prop} (h : L0n s2 s2n s2c s3 s4 s5 s8 s8n s8c s9 s9n s9c s11 H R) : L0 s2 s2n s2c s3 s4 s5 s8 s8n s8c s9 s9n s9c s11 H R :=
  goL_of_den (an := an) (fuel := 100000) (X := L0n s2 s2n s2c s3 s4 s5 s8 s8n s8c s9 s9n s9c s11 H R) mixed fn (by kernel_rfl) (fun ρ0 => by kernel_rfl) h
def L1n (s2 : Option Addr) (s2n : Nat) (s2c : Nat) (s3 : Int) (s4 : Nat) (s8 : Option Addr) (s8n : Nat) (s8c : Nat) (s9 : Option Addr) (s9n : Nat) (s9c : Nat) (s12 : Int) (H : Heap) (R : Ending → Heap → Prop) : Prop :=
  ldPtr H ⟨s4, 0, none⟩ fun p =>
  nilD p fun a =>
  ldInt H (Addr.add a 1) .i64 fun n =>
  iteB (decide (s12 < n)) (
    iteB (decide (((s8n : Nat) : Int) < s3)) (
      L2 s2 s2n s2c s3 s4 s8 s8n s8c s9 s9n s9c s12 H R) <|
    R (.returned (.tuple ⟨[(.slice s8 s8n s8c), (.slice s9 s9n s9c)]⟩)) H) <|
  R (.returned (.tuple ⟨[(.slice s8 s8n s8c), (.slice s9 s9n s9c)]⟩)) H
theorem L1_step {s2 : Option Addr} {s2n : Nat} {s2c : Nat} {s3 : Int} {s4 : Nat} {s8 : Option Addr} {s8n : Nat} {s8c : Nat} {s9 : Option Addr} {s9n : Nat} {s9c : Nat} {s12 : Int} {H : Heap} {R : Ending → Heap → Prop} (h : L1n s2 s2n s2c s3 s4 s8 s8n s8c s9 s9n s9c s12 H R) : L1 s2 s2n s2c s3 s4 s8 s8n s8c s9 s9n s9c s12 H R :=
  goL_of_den (an := an) (fuel := 100000) (X := L1n s2 s2n s2c s3 s4 s8 s8n s8c s9 s9n s9c s12 H R) mixed fn (by kernel_rfl) (fun ρ0 => by kernel_rfl) h
def L2n (s2 : Option Addr) (s2n : Nat) (s2c : Nat) (s3 : Int) (s4 : Nat) (s8 : Option Addr) (s8n : Nat) (s8c : Nat) (s9 : Option Addr) (s9n : Nat) (s9c : Nat) (s12 : Int) (H : Heap) (R : Ending → Heap → Prop) : Prop :=
  ldPtr H ⟨s4, 0, none⟩ fun p =>
  nilD p fun a =>
  ldSl H a fun q qn qc =>
  idxD q qn s12 fun a1 =>
  ldSl H (Addr.add a1 (Int.toNat s12 * 2)) fun q1 q1n q1c =>
  callD Tryz.prog 68 [(.slice s2 s2n s2c), (.slice q1 q1n q1c)] H (panK R) fun v H1 =>
  tInt v .i64 fun n =>
  iteB (decide (n ≤ (0 : Int))) (
    R (.returned (.tuple ⟨[(.slice s8 s8n s8c), (.slice s9 s9n s9c)]⟩)) H1) <|
  ldPtr H1 ⟨s4, 0, none⟩ fun p1 =>
  nilD p1 fun a2 =>
  ldSl H1 a2 fun q2 q2n q2c =>
  idxD q2 q2n s12 fun a3 =>
  ldSl H1 (Addr.add a3 (Int.toNat s12 * 2)) fun q3 q3n q3c =>
  newD H1 (.cells ⟨[(.slice q3 q3n q3c)]⟩ 78) fun r H2 =>
  apD H2 1 24 [(.slice none 0 0)] 78 s8 s8n s8c (some ⟨r, 0, none⟩) 1 fun q4 q4n q4c H3 =>
  ldPtr H3 ⟨s4, 0, none⟩ fun p2 =>
  nilD p2 fun a4 =>
  ldSl H3 a4 fun q5 q5n q5c =>
  idxD q5 q5n s12 fun a5 =>
  ldSl H3 (Addr.add (Addr.add a5 (Int.toNat s12 * 2)) 1) fun q6 q6n q6c =>
  newD H3 (.cells ⟨[(.slice q6 q6n q6c)]⟩ 78) fun r1 H4 =>
  apD H4 1 24 [(.slice none 0 0)] 78 s9 s9n s9c (some ⟨r1, 0, none⟩) 1 fun q7 q7n q7c H5 =>
  L1 s2 s2n s2c s3 s4 q4 q4n q4c q7 q7n q7c (IntKind.wrap .i64 (s12 + (1 : Int))) H5 R
theorem L2_step {s2 : Option Addr} {s2n : Nat} {s2c : Nat} {s3 : Int} {s4 : Nat} {s8 : Option Addr} {s8n : Nat} {s8c : Nat} {s9 : Option Addr} {s9n : Nat} {s9c : Nat} {s12 : Int} {H : Heap} {R : Ending → Heap → Prop} (h : L2n s2 s2n s2c s3 s4 s8 s8n s8c s9 s9n s9c s12 H R) : L2 s2 s2n s2c s3 s4 s8 s8n s8c s9 s9n s9c s12 H R :=
  goL_of_den (an := an) (fuel := 100000) (X := L2n s2 s2n s2c s3 s4 s8 s8n s8c s9 s9n s9c s12 H R) mixed fn (by kernel_rfl) (fun ρ0 => by kernel_rfl) h
def go (s0 : Option Addr) (s1 : Option Addr) (s1n : Nat) (s1c : Nat) (s2 : Option Addr) (s2n : Nat) (s2c : Nat) (s3 : Int) (H : Heap) (R : Ending → Heap → Prop) : Prop :=
  newD H (.cells ⟨[(.pointer s0)]⟩ 147) fun r H1 =>
  newD H1 (.cells ⟨[(.slice s1 s1n s1c)]⟩ 78) fun r1 H2 =>
  ldPtr H2 ⟨r, 0, none⟩ fun p =>
  nilD p fun a =>
  ldInt H2 (Addr.add a 1) .i64 fun n =>
  callD Tryz.prog 137 [(.int .i64 n), (.func (.func 136) ⟨[]⟩ ⟨[(.pointer (some ⟨r, 0, none⟩)), (.pointer (some ⟨r1, 0, none⟩))]⟩)] H2 (panK R) fun v H3 =>
  tInt v .i64 fun n1 =>
  iteB (decide (n1 < (0 : Int))) (
    R (.returned (.tuple ⟨[(.slice none 0 0), (.slice none 0 0)]⟩)) H3) <|
  ldPtr H3 ⟨r, 0, none⟩ fun p1 =>
  nilD p1 fun a1 =>
  ldInt H3 (Addr.add a1 1) .i64 fun n2 =>
  iteB (decide (n1 ≥ n2)) (
    R (.returned (.tuple ⟨[(.slice none 0 0), (.slice none 0 0)]⟩)) H3) <|
  L0 s2 s2n s2c s3 r r1 none 0 0 none 0 0 n1 H3 R
theorem calls {s0 : Option Addr} {s1 : Option Addr} {s1n : Nat} {s1c : Nat} {s2 : Option Addr} {s2n : Nat} {s2c : Nat} {s3 : Int} {H : Heap} {R : Ending → Heap → Prop} (h : go s0 s1 s1n s1c s2 s2n s2c s3 H R) : CallsH Tryz.prog 130 ⟨[(.pointer s0), (.slice s1 s1n s1c), (.slice s2 s2n s2c), (.int .i64 s3)]⟩ H R :=
  callsH_of_den (an := an) (fuel := 100000) (X := go s0 s1 s1n s1c s2 s2n s2c s3 H R) (c := body) mixed fn (by kernel_rfl) (by kernel_rfl) (by kernel_rfl) ok (by kernel_rfl) h
end F130
/-! ### 132 "pub-stadtholder/pub/etcdserver/storage/backend.unsafeRange$1" -/
namespace F132
def an : Ann := { kinds := [], taus := [], pairs := [], lab := [] }
noncomputable def body : Code := (Tryz.f132.body).getD .skip
theorem fn : Tryz.prog.funcs[132]? = some Tryz.f132 := by kernel_rfl
theorem ok : codeOk an 8 body = true := by kernel_rfl
def go (b : Option Addr) (bn : Nat) (bc : Nat) (s1 : Addr) (H : Heap) (R : Ending → Heap → Prop) : Prop :=
  ldSl H s1 fun q qn qc =>
  callD Tryz.prog 68 [(.slice b bn bc), (.slice q qn qc)] H (panK R) fun v H1 =>
  tInt v .i64 fun n =>
  R (.returned (.bool (decide (n < (0 : Int))))) H1
theorem calls {b : Option Addr} {bn : Nat} {bc : Nat} {s1 : Addr} {H : Heap} {R : Ending → Heap → Prop} (h : go b bn bc s1 H R) : CallsH Tryz.prog 132 ⟨[(.slice b bn bc), (.pointer (some s1))]⟩ H R :=
  callsH_of_den (an := an) (fuel := 100000) (X := go b bn bc s1 H R) (c := body) mixed fn (by kernel_rfl) (by kernel_rfl) (by kernel_rfl) ok (by kernel_rfl) h
end F132
/-! ### 133 "pub-stadtholder/pub/etcdserver/storage/backend.unsafeRange$2" -/
namespace F133
def an : Ann := { kinds := [], taus := [], pairs := [], lab := [] }
noncomputable def body : Code := (Tryz.f133.body).getD .skip
theorem fn : Tryz.prog.funcs[133]? = some Tryz.f133 := by kernel_rfl
theorem ok : codeOk an 7 body = true := by kernel_rfl
def go (b : Option Addr) (bn : Nat) (bc : Nat) (s1 : Addr) (H : Heap) (R : Ending → Heap → Prop) : Prop :=
  ldSl H s1 fun q qn qc =>
  callD Tryz.prog 64 [(.slice b bn bc), (.slice q qn qc)] H (panK R) fun v H1 =>
  tBool v fun b1 =>
  R (.returned (.bool b1)) H1
theorem calls {b : Option Addr} {bn : Nat} {bc : Nat} {s1 : Addr} {H : Heap} {R : Ending → Heap → Prop} (h : go b bn bc s1 H R) : CallsH Tryz.prog 133 ⟨[(.slice b bn bc), (.pointer (some s1))]⟩ H R :=
  callsH_of_den (an := an) (fuel := 100000) (X := go b bn bc s1 H R) (c := body) mixed fn (by kernel_rfl) (by kernel_rfl) (by kernel_rfl) ok (by kernel_rfl) h
end F133
/-! ### 136 "(*pub-stadtholder/pub/etcdserver/storage/backend.bucketBuffer).Range$1" -/
namespace F136
def an : Ann := { kinds := [], taus := [(1, [[4, 0, 1, 2, 3, 5, 6, 7, 8, 9, 10, 11]])], pairs := [], lab := [] }
noncomputable def body : Code := (Tryz.f136.body).getD .skip
theorem fn : Tryz.prog.funcs[136]? = some Tryz.f136 := by kernel_rfl
theorem ok : codeOk an 16 body = true := by kernel_rfl
def go (i : Int) (s1 : Addr) (s2 : Addr) (H : Heap) (R : Ending → Heap → Prop) : Prop :=
  ldPtr H s1 fun p =>
  nilD p fun a =>
  ldSl H a fun q qn qc =>
  idxD q qn i fun a1 =>
  ldSl H (Addr.add a1 (Int.toNat i * 2)) fun q1 q1n q1c =>
  ldSl H s2 fun q2 q2n q2c =>
  callD Tryz.prog 68 [(.slice q1 q1n q1c), (.slice q2 q2n q2c)] H (panK R) fun v H1 =>
  tInt v .i64 fun n =>
  R (.returned (.bool (decide (n ≥ (0 : Int))))) H1
theorem calls {i : Int} {s1 : Addr} {s2 : Addr} {H : Heap} {R : Ending → Heap → Prop} (h : go i s1 s2 H R) : CallsH Tryz.prog 136 ⟨[(.int .i64 i), (.pointer (some s1)), (.pointer (some s2))]⟩ H R :=
  callsH_of_den (an := an) (fuel := 100000) (X := go i s1 s2 H R) (c := body) mixed fn (by kernel_rfl) (by kernel_rfl) (by kernel_rfl) ok (by kernel_rfl) h
end F136
/-! ### 137 "sort.Search" -/
namespace F137
def an : Ann := { kinds := [], taus := [], pairs := [], lab := [(40000003, [1, 5, 6])] }
noncomputable def body : Code := (Tryz.f137.body).getD .skip
theorem fn : Tryz.prog.funcs[137]? = some Tryz.f137 := by kernel_rfl
theorem ok : codeOk an 26 body = true := by kernel_rfl
noncomputable def L0t : List Item := [.code (sub [1, 1, 0, 0, 0] body), .inLoop (sub [1, 1, 0, 0, 0] body), .inBlock 0, .code (sub [1, 1, 1] body)]
def L0 (f : FV) (i : Int) (j : Int) (H : Heap) (R : Ending → Heap → Prop) : Prop :=
  GoL Tryz.prog 137 26 L0t [1, 5, 6] [(FV.v f), (.int .i64 i), (.int .i64 j)] H R
def L0n (f : FV) (i : Int) (j : Int) (H : Heap) (R : Ending → Heap → Prop) : Prop :=
  iteB (decide (i < j)) (
    shD (1 : Int) <|
    callV Tryz.prog (FV.v f) [(.int .i64 (IntKind.wrap .i64 (shrZ .u64 (IntKind.wrap .u64 (IntKind.wrap .i64 (i + j))) (1 : Int))))] H (panK R) fun v H1 =>
    tBool v fun b =>
    iteB (!b) (
      L0 f (IntKind.wrap .i64 ((IntKind.wrap .i64 (shrZ .u64 (IntKind.wrap .u64 (IntKind.wrap .i64 (i + j))) (1 : Int))) + (1 : Int))) j H1 R) <|
    L0 f i (IntKind.wrap .i64 (shrZ .u64 (IntKind.wrap .u64 (IntKind.wrap .i64 (i + j))) (1 : Int))) H1 R) <|
  R (.returned (.int .i64 i)) H
theorem L0_step {f : FV} {i : Int} {j : Int} {H : Heap} {R : Ending → Heap → Prop} (h : L0n f i j H R) : L0 f i j H R :=
  goL_of_den (an := an) (fuel := 100000) (X := L0n f i j H R) mixed fn (by kernel_rfl) (fun ρ0 => by kernel_rfl) h
def go (n : Int) (f : FV) (H : Heap) (R : Ending → Heap → Prop) : Prop :=
  L0 f (0 : Int) n H R
theorem calls {n : Int} {f : FV} {H : Heap} {R : Ending → Heap → Prop} (h : go n f H R) : CallsH Tryz.prog 137 ⟨[(.int .i64 n), (FV.v f)]⟩ H R :=
  callsH_of_den (an := an) (fuel := 100000) (X := go n f H R) (c := body) mixed fn (by kernel_rfl) (by kernel_rfl) (by kernel_rfl) ok (by kernel_rfl) h
end F137
/-! ### 151 "(*pub-stadtholder/pub/etcdserver/storage/backend.batchTxBuffered).UnsafeSeqPut" -/
namespace F151
def an : Ann := { kinds := [], taus := [], pairs := [], lab := [] }
noncomputable def body : Code := (Tryz.f151.body).getD .skip
theorem fn : Tryz.prog.funcs[151]? = some Tryz.f151 := by kernel_rfl
theorem ok : codeOk an 22 body = true := by kernel_rfl
def go (t : Option Addr) (bucket : IV) (key : Option Addr) (keyn : Nat) (keyc : Nat) (value : Option Addr) (valuen : Nat) (valuec : Nat) (H : Heap) (R : Ending → Heap → Prop) : Prop :=
  nilD t fun a =>
  callD Tryz.prog 157 [(.pointer (some a)), (IV.v bucket), (.slice key keyn keyc), (.slice value valuen valuec)] H (panK R) fun v H1 =>
  tTup v fun l =>
  tNil l <|
  nilD t fun a1 =>
  callD Tryz.prog 158 [(.pointer (some (Addr.add a1 3))), (IV.v bucket), (.slice key keyn keyc), (.slice value valuen valuec)] H1 (panK R) fun v1 H2 =>
  tTup v1 fun l1 =>
  tNil l1 <|
  R (.returned (.tuple ⟨[]⟩)) H2
theorem calls {t : Option Addr} {bucket : IV} {key : Option Addr} {keyn : Nat} {keyc : Nat} {value : Option Addr} {valuen : Nat} {valuec : Nat} {H : Heap} {R : Ending → Heap → Prop} (h : go t bucket key keyn keyc value valuen valuec H R) : CallsH Tryz.prog 151 ⟨[(.pointer t), (IV.v bucket), (.slice key keyn keyc), (.slice value valuen valuec)]⟩ H R :=
  callsH_of_den (an := an) (fuel := 100000) (X := go t bucket key keyn keyc value valuen valuec H R) (c := body) mixed fn (by kernel_rfl) (by kernel_rfl) (by kernel_rfl) ok (by kernel_rfl) h
end F151
/-! ### 157 "(*pub-stadtholder/pub/etcdserver/storage/backend.batchTx).UnsafeSeqPut" -/
namespace F157
def an : Ann := { kinds := [], taus := [], pairs := [], lab := [] }
noncomputable def body : Code := (Tryz.f157.body).getD .skip
theorem fn : Tryz.prog.funcs[157]? = some Tryz.f157 := by kernel_rfl
theorem ok : codeOk an 13 body = true := by kernel_rfl
def go (t : Option Addr) (bucket : IV) (key : Option Addr) (keyn : Nat) (keyc : Nat) (value : Option Addr) (valuen : Nat) (valuec : Nat) (H : Heap) (R : Ending → Heap → Prop) : Prop :=
  callD Tryz.prog 161 [(.pointer t), (IV.v bucket), (.slice key keyn keyc), (.slice value valuen valuec), (.bool true)] H (panK R) fun v H1 =>
  tTup v fun l =>
  tNil l <|
  R (.returned (.tuple ⟨[]⟩)) H1
theorem calls {t : Option Addr} {bucket : IV} {key : Option Addr} {keyn : Nat} {keyc : Nat} {value : Option Addr} {valuen : Nat} {valuec : Nat} {H : Heap} {R : Ending → Heap → Prop} (h : go t bucket key keyn keyc value valuen valuec H R) : CallsH Tryz.prog 157 ⟨[(.pointer t), (IV.v bucket), (.slice key keyn keyc), (.slice value valuen valuec)]⟩ H R :=
  callsH_of_den (an := an) (fuel := 100000) (X := go t bucket key keyn keyc value valuen valuec H R) (c := body) mixed fn (by kernel_rfl) (by kernel_rfl) (by kernel_rfl) ok (by kernel_rfl) h
end F157
/-! ### 158 "(*pub-stadtholder/pub/etcdserver/storage/backend.txWriteBuffer).putSeq" -/
namespace F158
def an : Ann := { kinds := [], taus := [], pairs := [], lab := [] }
noncomputable def body : Code := (Tryz.f158.body).getD .skip
theorem fn : Tryz.prog.funcs[158]? = some Tryz.f158 := by kernel_rfl
theorem ok : codeOk an 13 body = true := by kernel_rfl
def go (txw : Option Addr) (bucket : IV) (k : Option Addr) (kn : Nat) (kc : Nat) (v : Option Addr) (vn : Nat) (vc : Nat) (H : Heap) (R : Ending → Heap → Prop) : Prop :=
  callD Tryz.prog 162 [(.pointer txw), (IV.v bucket), (.slice k kn kc), (.slice v vn vc)] H (panK R) fun v1 H1 =>
  tTup v1 fun l =>
  tNil l <|
  R (.returned (.tuple ⟨[]⟩)) H1
theorem calls {txw : Option Addr} {bucket : IV} {k : Option Addr} {kn : Nat} {kc : Nat} {v : Option Addr} {vn : Nat} {vc : Nat} {H : Heap} {R : Ending → Heap → Prop} (h : go txw bucket k kn kc v vn vc H R) : CallsH Tryz.prog 158 ⟨[(.pointer txw), (IV.v bucket), (.slice k kn kc), (.slice v vn vc)]⟩ H R :=
  callsH_of_den (an := an) (fuel := 100000) (X := go txw bucket k kn kc v vn vc H R) (c := body) mixed fn (by kernel_rfl) (by kernel_rfl) (by kernel_rfl) ok (by kernel_rfl) h
end F158
/-! ### 161 "(*pub-stadtholder/pub/etcdserver/storage/backend.batchTx).unsafePut" -/
namespace F161
def an : Ann := { kinds := [(5, .grow)], taus := [(0, [[0, 1, 2, 4, 3, 5, 6, 7]])], pairs := [], lab := [(10000004, [0, 2, 3, 4, 10]), (10000006, [0, 2, 3, 10]), (10000009, [0])] }
noncomputable def body : Code := (Tryz.f161.body).getD .skip
theorem fn : Tryz.prog.funcs[161]? = some Tryz.f161 := by kernel_rfl
theorem ok : codeOk an 40 body = true := by kernel_rfl
noncomputable def L0t : List Item := [.code (sub [1, 1] body)]
def L0 (t : Option Addr) (key : Option Addr) (keyn : Nat) (keyc : Nat) (value : Option Addr) (valuen : Nat) (valuec : Nat) (seq : Bool) (bucket : Option Addr) (H : Heap) (R : Ending → Heap → Prop) : Prop :=
  GoL Tryz.prog 161 40 L0t [0, 2, 3, 4, 10] [(.pointer t), (.slice key keyn keyc), (.slice value valuen valuec), (.bool seq), (.pointer bucket)] H R
noncomputable def L1t : List Item := [.code (sub [1, 1, 1] body)]
def L1 (t : Option Addr) (key : Option Addr) (keyn : Nat) (keyc : Nat) (value : Option Addr) (valuen : Nat) (valuec : Nat) (bucket : Option Addr) (H : Heap) (R : Ending → Heap → Prop) : Prop :=
  GoL Tryz.prog 161 40 L1t [0, 2, 3, 10] [(.pointer t), (.slice key keyn keyc), (.slice value valuen valuec), (.pointer bucket)] H R
noncomputable def L2t : List Item := [.code (sub [1, 1, 1, 1] body)]
def L2 (t : Option Addr) (H : Heap) (R : Ending → Heap → Prop) : Prop :=
  GoL Tryz.prog 161 40 L2t [0] [(.pointer t)] H R
def L0n (t : Option Addr) (key : Option Addr) (keyn : Nat) (keyc : Nat) (value : Option Addr) (valuen : Nat) (valuec : Nat) (seq : Bool) (bucket : Option Addr) (H : Heap) (R : Ending → Heap → Prop) : Prop :=
  iteB seq (
    nilD bucket fun a =>
    st1 H (Addr.add a 3) (.float .f64 (4606281698874543309 : Nat)) fun H1 =>
    L1 t key keyn keyc value valuen valuec bucket H1 R) <|
  L1 t key keyn keyc value valuen valuec bucket H R
theorem L0_step {t : Option Addr} {key : Option Addr} {keyn : Nat} {keyc : Nat} {value : Option Addr} {valuen : Nat} {valuec : Nat} {seq : Bool} {bucket : Option Addr} {H : Heap} {R : Ending → Heap → Prop} (h : L0n t key keyn keyc value valuen valuec seq bucket H R) : L0 t key keyn keyc value valuen valuec seq bucket H R :=
  goL_of_den (an := an) (fuel := 100000) (X := L0n t key keyn keyc value valuen valuec seq bucket H R) mixed fn (by kernel_rfl) (fun ρ0 => by kernel_rfl) h
def L1n (t : Option Addr) (key : Option Addr) (keyn : Nat) (keyc : Nat) (value : Option Addr) (valuen : Nat) (valuec : Nat) (bucket : Option Addr) (H : Heap) (R : Ending → Heap → Prop) : Prop :=
  callD Tryz.prog 163 [(.pointer bucket), (.slice key keyn keyc), (.slice value valuen valuec)] H (panK R) fun v H1 =>
  tIf v fun i =>
  ifNilD (IV.v i) fun b =>
  iteB (!b) (
    panD (.iface 9 (.string (ByteArray.mk #[102, 97, 105, 108, 101, 100, 32, 116, 111, 32, 119, 114, 105, 116, 101, 32, 116, 111, 32, 97, 32, 98, 117, 99, 107, 101, 116]))) H1 (panK R)) <|
  L2 t H1 R
theorem L1_step {t : Option Addr} {key : Option Addr} {keyn : Nat} {keyc : Nat} {value : Option Addr} {valuen : Nat} {valuec : Nat} {bucket : Option Addr} {H : Heap} {R : Ending → Heap → Prop} (h : L1n t key keyn keyc value valuen valuec bucket H R) : L1 t key keyn keyc value valuen valuec bucket H R :=
  goL_of_den (an := an) (fuel := 100000) (X := L1n t key keyn keyc value valuen valuec bucket H R) mixed fn (by kernel_rfl) (fun ρ0 => by kernel_rfl) h
def L2n (t : Option Addr) (H : Heap) (R : Ending → Heap → Prop) : Prop :=
  nilD t fun a =>
  ldInt H (Addr.add a 2) .i64 fun n =>
  nilD t fun a1 =>
  st1 H (Addr.add a1 2) (.int .i64 (IntKind.wrap .i64 (n + (1 : Int)))) fun H1 =>
  R (.returned (.tuple ⟨[]⟩)) H1
theorem L2_step {t : Option Addr} {H : Heap} {R : Ending → Heap → Prop} (h : L2n t H R) : L2 t H R :=
  goL_of_den (an := an) (fuel := 100000) (X := L2n t H R) mixed fn (by kernel_rfl) (fun ρ0 => by kernel_rfl) h
def go (t : Option Addr) (bucketType : IV) (key : Option Addr) (keyn : Nat) (keyc : Nat) (value : Option Addr) (valuen : Nat) (valuec : Nat) (seq : Bool) (H : Heap) (R : Ending → Heap → Prop) : Prop :=
  nilD t fun a =>
  ldPtr H a fun p =>
  callI Tryz.prog (IV.v bucketType) "Name" [] H nope fun v H1 =>
  tSl v fun q qn qc =>
  andD (ExtH H H1) <|
  callD Tryz.prog 125 [(.pointer p), (.slice q qn qc)] H1 (panK R) fun v1 H2 =>
  tPtr v1 fun p1 =>
  iteB (Option.isNone p1) (
    panD (.iface 9 (.string (ByteArray.mk #[102, 97, 105, 108, 101, 100, 32, 116, 111, 32, 102, 105, 110, 100, 32, 97, 32, 98, 117, 99, 107, 101, 116]))) H2 (panK R)) <|
  L0 t key keyn keyc value valuen valuec seq p1 H2 R
theorem calls {t : Option Addr} {bucketType : IV} {key : Option Addr} {keyn : Nat} {keyc : Nat} {value : Option Addr} {valuen : Nat} {valuec : Nat} {seq : Bool} {H : Heap} {R : Ending → Heap → Prop} (h : go t bucketType key keyn keyc value valuen valuec seq H R) : CallsH Tryz.prog 161 ⟨[(.pointer t), (IV.v bucketType), (.slice key keyn keyc), (.slice value valuen valuec), (.bool seq)]⟩ H R :=
  callsH_of_den (an := an) (fuel := 100000) (X := go t bucketType key keyn keyc value valuen valuec seq H R) (c := body) mixed fn (by kernel_rfl) (by kernel_rfl) (by kernel_rfl) ok (by kernel_rfl) h
end F161
/-! ### 162 "(*pub-stadtholder/pub/etcdserver/storage/backend.txWriteBuffer).putInternal" -/
namespace F162
def an : Ann := { kinds := [(6, .grow), (7, .heavy 0), (3006, .grow), (3008, .heavy 0)], taus := [(0, [[0, 1, 2, 3, 5, 4, 6, 7, 8, 9, 10, 11, 12]]), (3, [[0, 1, 2, 3, 5, 7, 4, 6, 8]])], pairs := [], lab := [] }
noncomputable def body : Code := (Tryz.f162.body).getD .skip
theorem fn : Tryz.prog.funcs[162]? = some Tryz.f162 := by kernel_rfl
theorem ok : codeOk an 36 body = true := by kernel_rfl
def go (txw : Option Addr) (bucket : IV) (k : Option Addr) (kn : Nat) (kc : Nat) (v : Option Addr) (vn : Nat) (vc : Nat) (H : Heap) (R : Ending → Heap → Prop) : Prop :=
  nilD txw fun a =>
  ldMap H a fun m =>
  callI Tryz.prog (IV.v bucket) "ID" [] H nope fun v1 H1 =>
  tInt v1 .i64 fun n =>
  andD (ExtH H H1) <|
  valD Tryz.prog (Instr.lookup 101 (.map m) (.int .i64 n) true) H1 (panK R) fun v2 H2 =>
  tTup v2 fun l =>
  tCons l fun c l1 =>
  tPtr c fun p =>
  tCons l1 fun c1 l2 =>
  tBool c1 fun b =>
  tNil l2 <|
  iteB (!b) (
    callD Tryz.prog 164 [] H2 (panK R) fun v3 H3 =>
    tPtr v3 fun p1 =>
    nilD txw fun a1 =>
    ldMap H3 a1 fun m1 =>
    callI Tryz.prog (IV.v bucket) "ID" [] H3 nope fun v4 H4 =>
    tInt v4 .i64 fun n1 =>
    andD (ExtH H3 H4) <|
    uniD Tryz.prog (Instr.mapUpdate 101 (.map m1) (.int .i64 n1) (.pointer p1)) H4 (panK R) fun H5 =>
    callD Tryz.prog 67 [(.pointer p1), (.slice k kn kc), (.slice v vn vc)] H5 (panK R) fun v6 H6 =>
    tTup v6 fun l3 =>
    tNil l3 <|
    R (.returned (.tuple ⟨[]⟩)) H6) <|
  callD Tryz.prog 67 [(.pointer p), (.slice k kn kc), (.slice v vn vc)] H2 (panK R) fun v7 H7 =>
  tTup v7 fun l4 =>
  tNil l4 <|
  R (.returned (.tuple ⟨[]⟩)) H7
theorem calls {txw : Option Addr} {bucket : IV} {k : Option Addr} {kn : Nat} {kc : Nat} {v : Option Addr} {vn : Nat} {vc : Nat} {H : Heap} {R : Ending → Heap → Prop} (h : go txw bucket k kn kc v vn vc H R) : CallsH Tryz.prog 162 ⟨[(.pointer txw), (IV.v bucket), (.slice k kn kc), (.slice v vn vc)]⟩ H R :=
  callsH_of_den (an := an) (fuel := 100000) (X := go txw bucket k kn kc v vn vc H R) (c := body) mixed fn (by kernel_rfl) (by kernel_rfl) (by kernel_rfl) ok (by kernel_rfl) h
end F162
/-! ### 163 "(*pub-stadtholder/pub/stand/bolt.Bucket).Put" -/
namespace F163
def an : Ann := { kinds := [], taus := [], pairs := [], lab := [(20000003, [0, 1, 2]), (10000004, [0, 1, 2]), (10000010, [0, 7, 10])] }
noncomputable def body : Code := (Tryz.f163.body).getD .skip
theorem fn : Tryz.prog.funcs[163]? = some Tryz.f163 := by kernel_rfl
theorem ok : codeOk an 66 body = true := by kernel_rfl
noncomputable def L0t : List Item := [.code (sub [1, 0, 1, 0] body), .code (sub [1, 1] body)]
def L0 (s0 : Option Addr) (s1 : Option Addr) (s1n : Nat) (s1c : Nat) (s2 : Option Addr) (s2n : Nat) (s2c : Nat) (H : Heap) (R : Ending → Heap → Prop) : Prop :=
  GoL Tryz.prog 163 66 L0t [0, 1, 2] [(.pointer s0), (.slice s1 s1n s1c), (.slice s2 s2n s2c)] H R
noncomputable def L1t : List Item := [.code (sub [1, 1] body)]
def L1 (s0 : Option Addr) (s1 : Option Addr) (s1n : Nat) (s1c : Nat) (s2 : Option Addr) (s2n : Nat) (s2c : Nat) (H : Heap) (R : Ending → Heap → Prop) : Prop :=
  GoL Tryz.prog 163 66 L1t [0, 1, 2] [(.pointer s0), (.slice s1 s1n s1c), (.slice s2 s2n s2c)] H R
noncomputable def L2t : List Item := [.code (sub [1, 1, 1, 1, 1, 1, 1] body)]
def L2 (s0 : Option Addr) (s7 : Int) (s10 : Option Addr) (s10n : Nat) (s10c : Nat) (H : Heap) (R : Ending → Heap → Prop) : Prop :=
  GoL Tryz.prog 163 66 L2t [0, 7, 10] [(.pointer s0), (.int .i64 s7), (.slice s10 s10n s10c)] H R
def L0n (s0 : Option Addr) (s1 : Option Addr) (s1n : Nat) (s1c : Nat) (s2 : Option Addr) (s2n : Nat) (s2c : Nat) (H : Heap) (R : Ending → Heap → Prop) : Prop :=
  panD (.iface 9 (.string (ByteArray.mk #[98, 111, 108, 116, 58, 32, 112, 117, 116]))) H (panK R)
theorem L0_step {s0 : Option Addr} {s1 : Option Addr} {s1n : Nat} {s1c : Nat} {s2 : Option Addr} {s2n : Nat} {s2c : Nat} {H : Heap} {R : Ending → Heap → Prop} (h : L0n s0 s1 s1n s1c s2 s2n s2c H R) : L0 s0 s1 s1n s1c s2 s2n s2c H R :=
  goL_of_den (an := an) (fuel := 100000) (X := L0n s0 s1 s1n s1c s2 s2n s2c H R) mixed fn (by kernel_rfl) (fun ρ0 => by kernel_rfl) h
def L1n (s0 : Option Addr) (s1 : Option Addr) (s1n : Nat) (s1c : Nat) (s2 : Option Addr) (s2n : Nat) (s2c : Nat) (H : Heap) (R : Ending → Heap → Prop) : Prop :=
  callD Tryz.prog 138 [(.pointer s0), (.slice s1 s1n s1c)] H (panK R) fun v H1 =>
  tTup v fun l =>
  tCons l fun c l1 =>
  tInt c .i64 fun n =>
  tCons l1 fun c1 l2 =>
  tBool c1 fun b =>
  tNil l2 <|
  newD H1 (.cells ⟨[]⟩ 5) fun r H2 =>
  apD H2 1 1 [(.int .u8 (0 : Int))] 5 (some ⟨r, 0, none⟩) 0 0 s1 s1n fun q qn qc H3 =>
  newD H3 (.cells ⟨[]⟩ 5) fun r1 H4 =>
  apD H4 1 1 [(.int .u8 (0 : Int))] 5 (some ⟨r1, 0, none⟩) 0 0 s2 s2n fun q1 q1n q1c H5 =>
  newD H5 (.cells ⟨[(.slice none 0 0), (.slice none 0 0)]⟩ 245) fun r2 H6 =>
  st1 H6 ⟨r2, 0, none⟩ (.slice q qn qc) fun H7 =>
  st1 H7 ⟨r2, 1, none⟩ (.slice q1 q1n q1c) fun H8 =>
  nilD s0 fun a =>
  ldSl H8 (Addr.add (Addr.add a 1) 1) fun q2 q2n q2c =>
  bndD n q2c fun k =>
  apD H8 2 48 [(.slice none 0 0), (.slice none 0 0)] 245 none 0 0 (slP q2 0 q2c 2) k fun q3 q3n q3c H9 =>
  ldSl H9 ⟨r2, 0, none⟩ fun q4 q4n q4c =>
  ldSl H9 ⟨r2, 1, none⟩ fun q5 q5n q5c =>
  newD H9 (.cells ⟨[(.slice q4 q4n q4c), (.slice q5 q5n q5c)]⟩ 245) fun r3 H10 =>
  apD H10 2 48 [(.slice none 0 0), (.slice none 0 0)] 245 q3 q3n q3c (some ⟨r3, 0, none⟩) 1 fun q6 q6n q6c H11 =>
  iteB b (
    L2 s0 (IntKind.wrap .i64 (n + (1 : Int))) q6 q6n q6c H11 R) <|
  L2 s0 n q6 q6n q6c H11 R
theorem L1_step {s0 : Option Addr} {s1 : Option Addr} {s1n : Nat} {s1c : Nat} {s2 : Option Addr} {s2n : Nat} {s2c : Nat} {H : Heap} {R : Ending → Heap → Prop} (h : L1n s0 s1 s1n s1c s2 s2n s2c H R) : L1 s0 s1 s1n s1c s2 s2n s2c H R :=
  goL_of_den (an := an) (fuel := 100000) (X := L1n s0 s1 s1n s1c s2 s2n s2c H R) mixed fn (by kernel_rfl) (fun ρ0 => by kernel_rfl) h
def L2n (s0 : Option Addr) (s7 : Int) (s10 : Option Addr) (s10n : Nat) (s10c : Nat) (H : Heap) (R : Ending → Heap → Prop) : Prop :=
  nilD s0 fun a =>
  ldSl H (Addr.add (Addr.add a 1) 1) fun q qn qc =>
  bndD s7 qn fun k =>
  apD H 2 48 [(.slice none 0 0), (.slice none 0 0)] 245 s10 s10n s10c (slP q k qc 2) (qn - k) fun q1 q1n q1c H1 =>
  nilD s0 fun a1 =>
  st1 H1 (Addr.add (Addr.add a1 1) 1) (.slice q1 q1n q1c) fun H2 =>
  R (.returned .nilIface) H2
theorem L2_step {s0 : Option Addr} {s7 : Int} {s10 : Option Addr} {s10n : Nat} {s10c : Nat} {H : Heap} {R : Ending → Heap → Prop} (h : L2n s0 s7 s10 s10n s10c H R) : L2 s0 s7 s10 s10n s10c H R :=
  goL_of_den (an := an) (fuel := 100000) (X := L2n s0 s7 s10 s10n s10c H R) mixed fn (by kernel_rfl) (fun ρ0 => by kernel_rfl) h
def go (s0 : Option Addr) (s1 : Option Addr) (s1n : Nat) (s1c : Nat) (s2 : Option Addr) (s2n : Nat) (s2c : Nat) (H : Heap) (R : Ending → Heap → Prop) : Prop :=
  nilD s0 fun a =>
  ldPtr H a fun p =>
  nilD p fun a1 =>
  ldBool H (Addr.add a1 1) fun b =>
  iteB (!b) (
    L0 s0 s1 s1n s1c s2 s2n s2c H R) <|
  iteB (((s1n : Nat) : Int) == (0 : Int)) (
    L0 s0 s1 s1n s1c s2 s2n s2c H R) <|
  L1 s0 s1 s1n s1c s2 s2n s2c H R
theorem calls {s0 : Option Addr} {s1 : Option Addr} {s1n : Nat} {s1c : Nat} {s2 : Option Addr} {s2n : Nat} {s2c : Nat} {H : Heap} {R : Ending → Heap → Prop} (h : go s0 s1 s1n s1c s2 s2n s2c H R) : CallsH Tryz.prog 163 ⟨[(.pointer s0), (.slice s1 s1n s1c), (.slice s2 s2n s2c)]⟩ H R :=
  callsH_of_den (an := an) (fuel := 100000) (X := go s0 s1 s1n s1c s2 s2n s2c H R) (c := body) mixed fn (by kernel_rfl) (by kernel_rfl) (by kernel_rfl) ok (by kernel_rfl) h
end F163
/-! ### 164 "pub-stadtholder/pub/etcdserver/storage/backend.newBucketBuffer" -/
namespace F164
def an : Ann := { kinds := [], taus := [], pairs := [], lab := [] }
noncomputable def body : Code := (Tryz.f164.body).getD .skip
theorem fn : Tryz.prog.funcs[164]? = some Tryz.f164 := by kernel_rfl
theorem ok : codeOk an 4 body = true := by kernel_rfl
def go  (H : Heap) (R : Ending → Heap → Prop) : Prop :=
  mkD H 48 [(.slice none 0 0), (.slice none 0 0)] 160 (512 : Int) (512 : Int) fun r k c H1 =>
  newD H1 (.cells ⟨[(.slice (some ⟨r, 0, none⟩) k c), (.int .i64 (0 : Int))]⟩ 152) fun r1 H2 =>
  R (.returned (.pointer (some ⟨r1, 0, none⟩))) H2
theorem calls  {H : Heap} {R : Ending → Heap → Prop} (h : go  H R) : CallsH Tryz.prog 164 ⟨[]⟩ H R :=
  callsH_of_den (an := an) (fuel := 100000) (X := go  H R) (c := body) mixed fn (by kernel_rfl) (by kernel_rfl) (by kernel_rfl) ok (by kernel_rfl) h
end F164
/-! ### 149 "(*pub-stadtholder/pub/etcdserver/storage/backend.batchTxBuffered).UnsafePut" -/
namespace F149
def an : Ann := { kinds := [], taus := [], pairs := [], lab := [] }
noncomputable def body : Code := (Tryz.f149.body).getD .skip
theorem fn : Tryz.prog.funcs[149]? = some Tryz.f149 := by kernel_rfl
theorem ok : codeOk an 22 body = true := by kernel_rfl
def go (t : Option Addr) (bucket : IV) (key : Option Addr) (keyn : Nat) (keyc : Nat) (value : Option Addr) (valuen : Nat) (valuec : Nat) (H : Heap) (R : Ending → Heap → Prop) : Prop :=
  nilD t fun a =>
  callD Tryz.prog 155 [(.pointer (some a)), (IV.v bucket), (.slice key keyn keyc), (.slice value valuen valuec)] H (panK R) fun v H1 =>
  tTup v fun l =>
  tNil l <|
  nilD t fun a1 =>
  callD Tryz.prog 156 [(.pointer (some (Addr.add a1 3))), (IV.v bucket), (.slice key keyn keyc), (.slice value valuen valuec)] H1 (panK R) fun v1 H2 =>
  tTup v1 fun l1 =>
  tNil l1 <|
  R (.returned (.tuple ⟨[]⟩)) H2
theorem calls {t : Option Addr} {bucket : IV} {key : Option Addr} {keyn : Nat} {keyc : Nat} {value : Option Addr} {valuen : Nat} {valuec : Nat} {H : Heap} {R : Ending → Heap → Prop} (h : go t bucket key keyn keyc value valuen valuec H R) : CallsH Tryz.prog 149 ⟨[(.pointer t), (IV.v bucket), (.slice key keyn keyc), (.slice value valuen valuec)]⟩ H R :=
  callsH_of_den (an := an) (fuel := 100000) (X := go t bucket key keyn keyc value valuen valuec H R) (c := body) mixed fn (by kernel_rfl) (by kernel_rfl) (by kernel_rfl) ok (by kernel_rfl) h
end F149
/-! ### 155 "(*pub-stadtholder/pub/etcdserver/storage/backend.batchTx).UnsafePut" -/
namespace F155
def an : Ann := { kinds := [], taus := [], pairs := [], lab := [] }
noncomputable def body : Code := (Tryz.f155.body).getD .skip
theorem fn : Tryz.prog.funcs[155]? = some Tryz.f155 := by kernel_rfl
theorem ok : codeOk an 13 body = true := by kernel_rfl
def go (t : Option Addr) (bucket : IV) (key : Option Addr) (keyn : Nat) (keyc : Nat) (value : Option Addr) (valuen : Nat) (valuec : Nat) (H : Heap) (R : Ending → Heap → Prop) : Prop :=
  callD Tryz.prog 161 [(.pointer t), (IV.v bucket), (.slice key keyn keyc), (.slice value valuen valuec), (.bool false)] H (panK R) fun v H1 =>
  tTup v fun l =>
  tNil l <|
  R (.returned (.tuple ⟨[]⟩)) H1
theorem calls {t : Option Addr} {bucket : IV} {key : Option Addr} {keyn : Nat} {keyc : Nat} {value : Option Addr} {valuen : Nat} {valuec : Nat} {H : Heap} {R : Ending → Heap → Prop} (h : go t bucket key keyn keyc value valuen valuec H R) : CallsH Tryz.prog 155 ⟨[(.pointer t), (IV.v bucket), (.slice key keyn keyc), (.slice value valuen valuec)]⟩ H R :=
  callsH_of_den (an := an) (fuel := 100000) (X := go t bucket key keyn keyc value valuen valuec H R) (c := body) mixed fn (by kernel_rfl) (by kernel_rfl) (by kernel_rfl) ok (by kernel_rfl) h
end F155
/-! ### 156 "(*pub-stadtholder/pub/etcdserver/storage/backend.txWriteBuffer).put" -/
namespace F156
def an : Ann := { kinds := [(5, .grow), (6, .heavy 0)], taus := [(0, [[0, 1, 2, 4, 3, 5, 6]])], pairs := [], lab := [] }
noncomputable def body : Code := (Tryz.f156.body).getD .skip
theorem fn : Tryz.prog.funcs[156]? = some Tryz.f156 := by kernel_rfl
theorem ok : codeOk an 19 body = true := by kernel_rfl
def go (txw : Option Addr) (bucket : IV) (k : Option Addr) (kn : Nat) (kc : Nat) (v : Option Addr) (vn : Nat) (vc : Nat) (H : Heap) (R : Ending → Heap → Prop) : Prop :=
  nilD txw fun a =>
  ldMap H (Addr.add a 1) fun m =>
  callI Tryz.prog (IV.v bucket) "ID" [] H nope fun v1 H1 =>
  tInt v1 .i64 fun n =>
  andD (ExtH H H1) <|
  uniD Tryz.prog (Instr.mapUpdate 134 (.map m) (.int .i64 n) (.bool false)) H1 (panK R) fun H2 =>
  callD Tryz.prog 162 [(.pointer txw), (IV.v bucket), (.slice k kn kc), (.slice v vn vc)] H2 (panK R) fun v3 H3 =>
  tTup v3 fun l =>
  tNil l <|
  R (.returned (.tuple ⟨[]⟩)) H3
theorem calls {txw : Option Addr} {bucket : IV} {k : Option Addr} {kn : Nat} {kc : Nat} {v : Option Addr} {vn : Nat} {vc : Nat} {H : Heap} {R : Ending → Heap → Prop} (h : go txw bucket k kn kc v vn vc H R) : CallsH Tryz.prog 156 ⟨[(.pointer txw), (IV.v bucket), (.slice k kn kc), (.slice v vn vc)]⟩ H R :=
  callsH_of_den (an := an) (fuel := 100000) (X := go txw bucket k kn kc v vn vc H R) (c := body) mixed fn (by kernel_rfl) (by kernel_rfl) (by kernel_rfl) ok (by kernel_rfl) h
end F156
/-! ### 145 "(*pub-stadtholder/pub/etcdserver/storage/backend.batchTx).UnsafeCreateBucket" -/
namespace F145
def an : Ann := { kinds := [(5, .grow)], taus := [(0, [[0, 1, 2, 4, 3, 5, 6, 7, 8, 9, 10, 11]])], pairs := [], lab := [(10000004, [0])] }
noncomputable def body : Code := (Tryz.f145.body).getD .skip
theorem fn : Tryz.prog.funcs[145]? = some Tryz.f145 := by kernel_rfl
theorem ok : codeOk an 26 body = true := by kernel_rfl
noncomputable def L0t : List Item := [.code (sub [1] body)]
def L0 (t : Option Addr) (H : Heap) (R : Ending → Heap → Prop) : Prop :=
  GoL Tryz.prog 145 26 L0t [0] [(.pointer t)] H R
def L0n (t : Option Addr) (H : Heap) (R : Ending → Heap → Prop) : Prop :=
  nilD t fun a =>
  ldInt H (Addr.add a 2) .i64 fun n =>
  nilD t fun a1 =>
  st1 H (Addr.add a1 2) (.int .i64 (IntKind.wrap .i64 (n + (1 : Int)))) fun H1 =>
  R (.returned (.tuple ⟨[]⟩)) H1
theorem L0_step {t : Option Addr} {H : Heap} {R : Ending → Heap → Prop} (h : L0n t H R) : L0 t H R :=
  goL_of_den (an := an) (fuel := 100000) (X := L0n t H R) mixed fn (by kernel_rfl) (fun ρ0 => by kernel_rfl) h
def go (t : Option Addr) (bucket : IV) (H : Heap) (R : Ending → Heap → Prop) : Prop :=
  nilD t fun a =>
  ldPtr H a fun p =>
  callI Tryz.prog (IV.v bucket) "Name" [] H nope fun v H1 =>
  tSl v fun q qn qc =>
  andD (ExtH H H1) <|
  callD Tryz.prog 152 [(.pointer p), (.slice q qn qc)] H1 (panK R) fun v1 H2 =>
  tTup v1 fun l =>
  tCons l fun c l1 =>
  tPtr c fun p1 =>
  tCons l1 fun c1 l2 =>
  tIf c1 fun i =>
  tNil l2 <|
  ifNilD (IV.v i) fun b =>
  iteB (!b) (
    panD (.iface 9 (.string (ByteArray.mk #[102, 97, 105, 108, 101, 100, 32, 116, 111, 32, 99, 114, 101, 97, 116, 101, 32, 97, 32, 98, 117, 99, 107, 101, 116]))) H2 (panK R)) <|
  L0 t H2 R
theorem calls {t : Option Addr} {bucket : IV} {H : Heap} {R : Ending → Heap → Prop} (h : go t bucket H R) : CallsH Tryz.prog 145 ⟨[(.pointer t), (IV.v bucket)]⟩ H R :=
  callsH_of_den (an := an) (fuel := 100000) (X := go t bucket H R) (c := body) mixed fn (by kernel_rfl) (by kernel_rfl) (by kernel_rfl) ok (by kernel_rfl) h
end F145
/-! ### 152 "(*pub-stadtholder/pub/stand/bolt.Tx).CreateBucketIfNotExists" -/
namespace F152
def an : Ann := { kinds := [], taus := [(5, [[0, 1, 2, 4, 5, 7, 8, 9, 11, 3, 6, 10, 12, 13]])], pairs := [], lab := [(10000008, [0, 6])] }
noncomputable def body : Code := (Tryz.f152.body).getD .skip
theorem fn : Tryz.prog.funcs[152]? = some Tryz.f152 := by kernel_rfl
theorem ok : codeOk an 61 body = true := by kernel_rfl
noncomputable def L0t : List Item := [.code (sub [1, 1, 1] body)]
def L0 (tx : Option Addr) (i : Int) (H : Heap) (R : Ending → Heap → Prop) : Prop :=
  GoL Tryz.prog 152 61 L0t [0, 6] [(.pointer tx), (.int .i64 i)] H R
def L0n (tx : Option Addr) (i : Int) (H : Heap) (R : Ending → Heap → Prop) : Prop :=
  nilD tx fun a =>
  ldSl H (Addr.add a 3) fun q qn qc =>
  idxD q qn i fun a1 =>
  ldPtr H (Addr.add a1 (Int.toNat i * 1)) fun p =>
  R (.returned (.tuple ⟨[(.pointer p), .nilIface]⟩)) H
theorem L0_step {tx : Option Addr} {i : Int} {H : Heap} {R : Ending → Heap → Prop} (h : L0n tx i H R) : L0 tx i H R :=
  goL_of_den (an := an) (fuel := 100000) (X := L0n tx i H R) mixed fn (by kernel_rfl) (fun ρ0 => by kernel_rfl) h
def go (tx : Option Addr) (name : Option Addr) (namen : Nat) (namec : Nat) (H : Heap) (R : Ending → Heap → Prop) : Prop :=
  callD Tryz.prog 131 [(.pointer tx), (.slice name namen namec)] H (panK R) fun v H1 =>
  tTup v fun l =>
  tCons l fun c l1 =>
  tInt c .i64 fun n =>
  tCons l1 fun c1 l2 =>
  tBool c1 fun b =>
  tNil l2 <|
  iteB (!b) (
    newD H1 (.cells ⟨[]⟩ 5) fun r H2 =>
    apD H2 1 1 [(.int .u8 (0 : Int))] 5 (some ⟨r, 0, none⟩) 0 0 name namen fun q qn qc H3 =>
    newD H3 (.cells ⟨[(.pointer tx), (.slice q qn qc), (.slice none 0 0), (.float .f64 (0 : Nat))]⟩ 175) fun r1 H4 =>
    nilD tx fun a =>
    ldSl H4 (Addr.add a 3) fun q1 q1n q1c =>
    newD H4 (.cells ⟨[(.pointer none)]⟩ 176) fun r2 H5 =>
    apD H5 1 8 [(.pointer none)] 176 q1 q1n q1c (some ⟨r2, 0, none⟩) 1 fun q2 q2n q2c H6 =>
    nilD tx fun a1 =>
    st1 H6 (Addr.add a1 3) (.slice q2 q2n q2c) fun H7 =>
    nilD tx fun a2 =>
    nilD tx fun a3 =>
    ldSl H7 (Addr.add a2 3) fun q3 q3n q3c =>
    bndD (IntKind.wrap .i64 (n + (1 : Int))) q3n fun k =>
    ldSl H7 (Addr.add a3 3) fun q4 q4n q4c =>
    bndD n q4n fun k1 =>
    cpD H7 1 (slP q3 k q3c 1) (q3n - k) (slP q4 k1 q4c 1) (q4n - k1) fun k2 H8 =>
    nilD tx fun a4 =>
    ldSl H8 (Addr.add a4 3) fun q5 q5n q5c =>
    idxD q5 q5n n fun a5 =>
    st1 H8 (Addr.add a5 (Int.toNat n * 1)) (.pointer (some ⟨r1, 0, none⟩)) fun H9 =>
    L0 tx n H9 R) <|
  L0 tx n H1 R
theorem calls {tx : Option Addr} {name : Option Addr} {namen : Nat} {namec : Nat} {H : Heap} {R : Ending → Heap → Prop} (h : go tx name namen namec H R) : CallsH Tryz.prog 152 ⟨[(.pointer tx), (.slice name namen namec)]⟩ H R :=
  callsH_of_den (an := an) (fuel := 100000) (X := go tx name namen namec H R) (c := body) mixed fn (by kernel_rfl) (by kernel_rfl) (by kernel_rfl) ok (by kernel_rfl) h
end F152
end Go.Proofs.YtkkookljlencgaaGreat
