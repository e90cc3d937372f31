/- What functions of this seat do, each proved by a walk; no condition. -/
import Derived.Test.YtkenjnllegbmjaaGreatLN2
import Derived.KernelRfl
set_option linter.unusedVariables false
namespace Go.Proofs.YtkenjnllegbmjaaGreat
open Go Go.Den Go.Proofs
/-! ### 73 "(*pub-stadtholder/pub/etcdserver/storage/backend.batchTxBuffered).Commit" -/
namespace F73
def an : Ann := { kinds := [], taus := [], pairs := [], lab := [] }
noncomputable def body : Code := (Tryz.f73.body).getD .skip
theorem fn : Tryz.prog.funcs[73]? = some Tryz.f73 := by kernel_rfl
theorem ok : codeOk an 10 body = true := by kernel_rfl
def go (t : Option Addr) (H : Heap) (R : Ending → Heap → Prop) : Prop :=
  nilD t fun a =>
  callD Tryz.prog 95 [(.pointer (some a))] H (panK R) fun v H1 =>
  tTup v fun l =>
  tNil l <|
  callD Tryz.prog 96 [(.pointer t), (.bool false)] H1 (panK R) fun v1 H2 =>
  tTup v1 fun l1 =>
  tNil l1 <|
  callD Tryz.prog 97 [(.pointer t)] H2 (panK R) fun v2 H3 =>
  tTup v2 fun l2 =>
  tNil l2 <|
  R (.returned (.tuple ⟨[]⟩)) H3
theorem calls {t : Option Addr} {H : Heap} {R : Ending → Heap → Prop} (h : go t H R) : CallsH Tryz.prog 73 ⟨[(.pointer t)]⟩ H R :=
  callsH_of_den (an := an) (fuel := 100000) (X := go t H R) (c := body) mixed fn (by kernel_rfl) (by kernel_rfl) (by kernel_rfl) ok (by kernel_rfl) h
end F73
/-! ### 96 "(*pub-stadtholder/pub/etcdserver/storage/backend.batchTxBuffered).commit" -/
namespace F96
def an : Ann := { kinds := [], taus := [], pairs := [], lab := [] }
noncomputable def body : Code := (Tryz.f96.body).getD .skip
theorem fn : Tryz.prog.funcs[96]? = some Tryz.f96 := by kernel_rfl
theorem ok : codeOk an 25 body = true := by kernel_rfl
def go (t : Option Addr) (stop : Bool) (H : Heap) (R : Ending → Heap → Prop) : Prop :=
  nilD t fun a =>
  ldPtr H (Addr.add a 1) fun p =>
  nilD p fun a1 =>
  ldPtr H (Addr.add a1 4) fun p1 =>
  callD Tryz.prog 107 [(.pointer p1)] H (panK R) fun v H1 =>
  tTup v fun l =>
  tNil l <|
  callD Tryz.prog 108 [(.pointer t), (.bool stop)] H1 (panK R) fun v1 H2 =>
  tTup v1 fun l1 =>
  tNil l1 <|
  nilD t fun a2 =>
  ldPtr H2 (Addr.add a2 1) fun p2 =>
  nilD p2 fun a3 =>
  ldPtr H2 (Addr.add a3 4) fun p3 =>
  callD Tryz.prog 109 [(.pointer p3)] H2 (panK R) fun v2 H3 =>
  tTup v2 fun l2 =>
  tNil l2 <|
  R (.returned (.tuple ⟨[]⟩)) H3
theorem calls {t : Option Addr} {stop : Bool} {H : Heap} {R : Ending → Heap → Prop} (h : go t stop H R) : CallsH Tryz.prog 96 ⟨[(.pointer t), (.bool stop)]⟩ H R :=
  callsH_of_den (an := an) (fuel := 100000) (X := go t stop H R) (c := body) mixed fn (by kernel_rfl) (by kernel_rfl) (by kernel_rfl) ok (by kernel_rfl) h
end F96
/-! ### 97 "(*pub-stadtholder/pub/etcdserver/storage/backend.batchTxBuffered).Unlock" -/
namespace F97
def an : Ann := { kinds := [], taus := [(2, [[0, 1, 2, 3, 4, 5, 6, 7, 8, 9, 10, 11, 12, 13, 14]]), (4, [[0, 1, 2, 3, 5, 6, 7, 8, 4, 9, 10, 11, 12, 13, 14, 15, 16, 17, 18, 19, 20]])], pairs := [], lab := [(20000006, [0])] }
noncomputable def body : Code := (Tryz.f97.body).getD .skip
theorem fn : Tryz.prog.funcs[97]? = some Tryz.f97 := by kernel_rfl
theorem ok : codeOk an 68 body = true := by kernel_rfl
noncomputable def L0t : List Item := [.code (sub [0, 1, 0, 1, 1, 1, 1, 0] body), .code (sub [1] body)]
def L0 (s0 : Option Addr) (H : Heap) (R : Ending → Heap → Prop) : Prop :=
  GoL Tryz.prog 97 68 L0t [0] [(.pointer s0)] H R
def L0n (s0 : Option Addr) (H : Heap) (R : Ending → Heap → Prop) : Prop :=
  callD Tryz.prog 96 [(.pointer s0), (.bool false)] H (panK R) fun v H1 =>
  tTup v fun l =>
  tNil l <|
  nilD s0 fun a =>
  callD Tryz.prog 111 [(.pointer (some a))] H1 (panK R) fun v1 H2 =>
  tTup v1 fun l1 =>
  tNil l1 <|
  R (.returned (.tuple ⟨[]⟩)) H2
theorem L0_step {s0 : Option Addr} {H : Heap} {R : Ending → Heap → Prop} (h : L0n s0 H R) : L0 s0 H R :=
  goL_of_den (an := an) (fuel := 100000) (X := L0n s0 H R) mixed fn (by kernel_rfl) (fun ρ0 => by kernel_rfl) h
def go (s0 : Option Addr) (H : Heap) (R : Ending → Heap → Prop) : Prop :=
  nilD s0 fun a =>
  ldInt H (Addr.add a 2) .i64 fun n =>
  iteB (n != (0 : Int)) (
    nilD s0 fun a1 =>
    ldPtr H (Addr.add a1 1) fun p =>
    nilD p fun a2 =>
    ldPtr H (Addr.add a2 4) fun p1 =>
    callD Tryz.prog 107 [(.pointer p1)] H (panK R) fun v H1 =>
    tTup v fun l =>
    tNil l <|
    nilD s0 fun a3 =>
    nilD s0 fun a4 =>
    ldPtr H1 (Addr.add a4 1) fun p2 =>
    nilD p2 fun a5 =>
    ldPtr H1 (Addr.add a5 4) fun p3 =>
    nilD p3 fun a6 =>
    callD Tryz.prog 110 [(.pointer (some (Addr.add a3 3))), (.pointer (some a6))] H1 (panK R) fun v1 H2 =>
    tTup v1 fun l1 =>
    tNil l1 <|
    nilD s0 fun a7 =>
    ldPtr H2 (Addr.add a7 1) fun p4 =>
    nilD p4 fun a8 =>
    ldPtr H2 (Addr.add a8 4) fun p5 =>
    callD Tryz.prog 109 [(.pointer p5)] H2 (panK R) fun v2 H3 =>
    tTup v2 fun l2 =>
    tNil l2 <|
    nilD s0 fun a9 =>
    nilD s0 fun a10 =>
    ldInt H3 (Addr.add a9 2) .i64 fun n1 =>
    ldPtr H3 (Addr.add a10 1) fun p6 =>
    nilD p6 fun a11 =>
    ldInt H3 (Addr.add a11 2) .i64 fun n2 =>
    iteB (decide (n1 ≥ n2)) (
      L0 s0 H3 R) <|
    nilD s0 fun a12 =>
    ldInt H3 (Addr.add a12 5) .i64 fun n3 =>
    iteB (decide (n3 > (0 : Int))) (
      L0 s0 H3 R) <|
    nilD s0 fun a13 =>
    callD Tryz.prog 111 [(.pointer (some a13))] H3 (panK R) fun v3 H4 =>
    tTup v3 fun l3 =>
    tNil l3 <|
    R (.returned (.tuple ⟨[]⟩)) H4) <|
  nilD s0 fun a14 =>
  callD Tryz.prog 111 [(.pointer (some a14))] H (panK R) fun v4 H5 =>
  tTup v4 fun l4 =>
  tNil l4 <|
  R (.returned (.tuple ⟨[]⟩)) H5
theorem calls {s0 : Option Addr} {H : Heap} {R : Ending → Heap → Prop} (h : go s0 H R) : CallsH Tryz.prog 97 ⟨[(.pointer s0)]⟩ H R :=
  callsH_of_den (an := an) (fuel := 100000) (X := go s0 H R) (c := body) mixed fn (by kernel_rfl) (by kernel_rfl) (by kernel_rfl) ok (by kernel_rfl) h
end F97
/-! ### 108 "(*pub-stadtholder/pub/etcdserver/storage/backend.batchTxBuffered).unsafeCommit" -/
namespace F108
def an : Ann := { kinds := [(8013, .grow)], taus := [(8, [[0, 1, 2, 3, 8, 9, 10, 11, 4, 5, 6, 7, 12, 13, 14, 15, 16, 17]])], pairs := [], lab := [(10000003, [0, 1]), (10000006, [0, 1])] }
noncomputable def body : Code := (Tryz.f108.body).getD .skip
theorem fn : Tryz.prog.funcs[108]? = some Tryz.f108 := by kernel_rfl
theorem ok : codeOk an 86 body = true := by kernel_rfl
noncomputable def L0t : List Item := [.code (sub [1] body)]
def L0 (s0 : Option Addr) (s1 : Bool) (H : Heap) (R : Ending → Heap → Prop) : Prop :=
  GoL Tryz.prog 108 86 L0t [0, 1] [(.pointer s0), (.bool s1)] H R
noncomputable def L1t : List Item := [.code (sub [1, 1] body)]
def L1 (s0 : Option Addr) (s1 : Bool) (H : Heap) (R : Ending → Heap → Prop) : Prop :=
  GoL Tryz.prog 108 86 L1t [0, 1] [(.pointer s0), (.bool s1)] H R
def L0n (s0 : Option Addr) (s1 : Bool) (H : Heap) (R : Ending → Heap → Prop) : Prop :=
  nilD s0 fun a =>
  ldPtr H (Addr.add a 1) fun p =>
  nilD p fun a1 =>
  ldPtr H (Addr.add a1 4) fun p1 =>
  nilD p1 fun a2 =>
  ldPtr H (Addr.add a2 3) fun p2 =>
  iteB (!(Option.isNone p2)) (
    nilD s0 fun a3 =>
    ldPtr H (Addr.add a3 1) fun p3 =>
    nilD p3 fun a4 =>
    ldPtr H (Addr.add a4 4) fun p4 =>
    nilD p4 fun a5 =>
    ldPtr H (Addr.add a5 3) fun p5 =>
    callD Tryz.prog 116 [(.pointer p5)] H (panK R) fun v H1 =>
    tIf v fun i =>
    nilD s0 fun a6 =>
    ldPtr H1 (Addr.add a6 1) fun p6 =>
    nilD p6 fun a7 =>
    ldPtr H1 (Addr.add a7 4) fun p7 =>
    callD Tryz.prog 117 [(.pointer p7)] H1 (panK R) fun v1 H2 =>
    tTup v1 fun l =>
    tNil l <|
    L1 s0 s1 H2 R) <|
  L1 s0 s1 H R
theorem L0_step {s0 : Option Addr} {s1 : Bool} {H : Heap} {R : Ending → Heap → Prop} (h : L0n s0 s1 H R) : L0 s0 s1 H R :=
  goL_of_den (an := an) (fuel := 100000) (X := L0n s0 s1 H R) mixed fn (by kernel_rfl) (fun ρ0 => by kernel_rfl) h
def L1n (s0 : Option Addr) (s1 : Bool) (H : Heap) (R : Ending → Heap → Prop) : Prop :=
  nilD s0 fun a =>
  callD Tryz.prog 118 [(.pointer (some a)), (.bool s1)] H (panK R) fun v H1 =>
  tTup v fun l =>
  tNil l <|
  nilD s0 fun a1 =>
  st1 H1 (Addr.add a1 5) (.int .i64 (0 : Int)) fun H2 =>
  iteB (!s1) (
    nilD s0 fun a2 =>
    nilD s0 fun a3 =>
    ldPtr H2 (Addr.add a2 1) fun p =>
    nilD p fun a4 =>
    ldPtr H2 (Addr.add a4 4) fun p1 =>
    ldPtr H2 (Addr.add a3 1) fun p2 =>
    callD Tryz.prog 119 [(.pointer p2), (.bool false)] H2 nope fun v1 H3 =>
    tPtr v1 fun p3 =>
    andD (ExtH H2 H3) <|
    nilD p1 fun a5 =>
    st1 H3 (Addr.add a5 3) (.pointer p3) fun H4 =>
    R (.returned (.tuple ⟨[]⟩)) H4) <|
  R (.returned (.tuple ⟨[]⟩)) H2
theorem L1_step {s0 : Option Addr} {s1 : Bool} {H : Heap} {R : Ending → Heap → Prop} (h : L1n s0 s1 H R) : L1 s0 s1 H R :=
  goL_of_den (an := an) (fuel := 100000) (X := L1n s0 s1 H R) mixed fn (by kernel_rfl) (fun ρ0 => by kernel_rfl) h
def go (s0 : Option Addr) (s1 : Bool) (H : Heap) (R : Ending → Heap → Prop) : Prop :=
  nilD s0 fun a =>
  ldPtr H (Addr.add a 1) fun p =>
  nilD p fun a1 =>
  ldIf H (Addr.add a1 7) fun i =>
  ifNilD (IV.v i) fun b =>
  iteB (!b) (
    nilD s0 fun a2 =>
    ldPtr H (Addr.add a2 1) fun p1 =>
    nilD p1 fun a3 =>
    ldIf H (Addr.add a3 7) fun i1 =>
    callI Tryz.prog (IV.v i1) "OnPreCommitUnsafe" [(.iface 161 (.pointer s0))] H (panK R) fun v H1 =>
    tTup v fun l =>
    tNil l <|
    L0 s0 s1 H1 R) <|
  L0 s0 s1 H R
theorem calls {s0 : Option Addr} {s1 : Bool} {H : Heap} {R : Ending → Heap → Prop} (h : go s0 s1 H R) : CallsH Tryz.prog 108 ⟨[(.pointer s0), (.bool s1)]⟩ H R :=
  callsH_of_den (an := an) (fuel := 100000) (X := go s0 s1 H R) (c := body) mixed fn (by kernel_rfl) (by kernel_rfl) (by kernel_rfl) ok (by kernel_rfl) h
end F108
/-! ### 110 "(*pub-stadtholder/pub/etcdserver/storage/backend.txWriteBuffer).writeback" -/
namespace F110
def an : Ann := { kinds := [(5, .heavy 0), (1000, .heavy 142), (2000, .heavy 142), (3006, .heavy 0), (5006, .heavy 0), (6005, .heavy 0), (9007, .heavy 0), (10005, .heavy 0)], taus := [], pairs := [], lab := [(40000002, [0, 1, 17]), (60000013, [0, 1, 5, 6, 17]), (50000014, [0, 1, 5, 6, 17]), (70000009, [0, 1, 4, 5, 17]), (60000010, [0, 1, 4, 5, 17])] }
noncomputable def body : Code := (Tryz.f110.body).getD .skip
theorem fn : Tryz.prog.funcs[110]? = some Tryz.f110 := by kernel_rfl
theorem ok : codeOk an 100 body = true := by kernel_rfl
noncomputable def L0t : List Item := [.code (sub [0, 1, 0, 0] body), .inLoop (sub [0, 1, 0, 0] body), .inBlock 0, .code (sub [1] body)]
def L0 (s0 : Option Addr) (s1 : Option Addr) (s17 : Option Addr) (H : Heap) (R : Ending → Heap → Prop) : Prop :=
  GoL Tryz.prog 110 100 L0t [0, 1, 17] [(.pointer s0), (.pointer s1), (.pointer s17)] H R
noncomputable def L1t : List Item := [.code (sub [0, 1, 0, 0, 1, 1, 0, 1, 1, 1, 0, 1, 1, 0] body), .code (sub [0, 1, 0, 0, 1, 1, 0, 1, 1, 1, 1] body), .inBlock 1, .inLoop (sub [0, 1, 0, 0] body), .inBlock 0, .code (sub [1] body)]
def L1 (s0 : Option Addr) (s1 : Option Addr) (s5 : Option Addr) (s6 : Option Addr) (s17 : Option Addr) (H : Heap) (R : Ending → Heap → Prop) : Prop :=
  GoL Tryz.prog 110 100 L1t [0, 1, 5, 6, 17] [(.pointer s0), (.pointer s1), (.pointer s5), (.pointer s6), (.pointer s17)] H R
noncomputable def L2t : List Item := [.code (sub [0, 1, 0, 0, 1, 1, 0, 1, 1, 1, 1] body), .inBlock 1, .inLoop (sub [0, 1, 0, 0] body), .inBlock 0, .code (sub [1] body)]
def L2 (s0 : Option Addr) (s1 : Option Addr) (s5 : Option Addr) (s6 : Option Addr) (s17 : Option Addr) (H : Heap) (R : Ending → Heap → Prop) : Prop :=
  GoL Tryz.prog 110 100 L2t [0, 1, 5, 6, 17] [(.pointer s0), (.pointer s1), (.pointer s5), (.pointer s6), (.pointer s17)] H R
noncomputable def L3t : List Item := [.code (sub [0, 1, 0, 0, 1, 1, 0, 1, 1, 0, 1, 0, 1, 0, 1, 1, 0] body), .code (sub [0, 1, 0, 0, 1, 1, 0, 1, 1, 0, 1, 0, 1, 1] body), .code (sub [0, 1, 0, 0, 1, 1, 0, 1, 1, 1] body), .inBlock 1, .inLoop (sub [0, 1, 0, 0] body), .inBlock 0, .code (sub [1] body)]
def L3 (s0 : Option Addr) (s1 : Option Addr) (s4 : Int) (s5 : Option Addr) (s17 : Option Addr) (H : Heap) (R : Ending → Heap → Prop) : Prop :=
  GoL Tryz.prog 110 100 L3t [0, 1, 4, 5, 17] [(.pointer s0), (.pointer s1), (.int .i64 s4), (.pointer s5), (.pointer s17)] H R
noncomputable def L4t : List Item := [.code (sub [0, 1, 0, 0, 1, 1, 0, 1, 1, 0, 1, 0, 1, 1] body), .code (sub [0, 1, 0, 0, 1, 1, 0, 1, 1, 1] body), .inBlock 1, .inLoop (sub [0, 1, 0, 0] body), .inBlock 0, .code (sub [1] body)]
def L4 (s0 : Option Addr) (s1 : Option Addr) (s4 : Int) (s5 : Option Addr) (s17 : Option Addr) (H : Heap) (R : Ending → Heap → Prop) : Prop :=
  GoL Tryz.prog 110 100 L4t [0, 1, 4, 5, 17] [(.pointer s0), (.pointer s1), (.int .i64 s4), (.pointer s5), (.pointer s17)] H R
def L0n (s0 : Option Addr) (s1 : Option Addr) (s17 : Option Addr) (H : Heap) (R : Ending → Heap → Prop) : Prop :=
  valD Tryz.prog (Instr.next (.pointer s17) false 0) H (panK R) fun v H1 =>
  tTup v fun l =>
  tCons l fun c l1 =>
  tBool c fun b =>
  iteB b (
    tCons l1 fun c1 l2 =>
    tInt c1 .i64 fun n =>
    tCons l2 fun c2 l3 =>
    tPtr c2 fun p =>
    tNil l3 <|
    valD Tryz.prog (Instr.entry (.pointer s17)) H1 (panK R) fun v1 H2 =>
    tTup v1 fun l4 =>
    tCons l4 fun c3 l5 =>
    tInt c3 .i64 fun n1 =>
    tCons l5 fun c4 l6 =>
    tPtr c4 fun p1 =>
    tNil l6 <|
    nilD s1 fun a =>
    ldMap H2 a fun m =>
    valD Tryz.prog (Instr.lookup 142 (.map m) (.int .i64 n1) true) H2 (panK R) fun v2 H3 =>
    tTup v2 fun l7 =>
    tCons l7 fun c5 l8 =>
    tPtr c5 fun p2 =>
    tCons l8 fun c6 l9 =>
    tBool c6 fun b1 =>
    tNil l9 <|
    iteB (!b1) (
      nilD s0 fun a1 =>
      ldMap H3 a1 fun m1 =>
      valD Tryz.prog (Builtin.delete_ #[142, 256] 0 ⟨[(.map m1), (.int .i64 n1)]⟩) H3 (panK R) fun v3 H4 =>
      tTup v3 fun l10 =>
      tNil l10 <|
      nilD s0 fun a2 =>
      ldMap H4 (Addr.add a2 1) fun m2 =>
      valD Tryz.prog (Instr.lookup 200 (.map m2) (.int .i64 n1) true) H4 (panK R) fun v4 H5 =>
      tTup v4 fun l11 =>
      tCons l11 fun c7 l12 =>
      tBool c7 fun b3 =>
      tCons l12 fun c8 l13 =>
      tBool c8 fun b2 =>
      tNil l13 <|
      iteB b2 (
        iteB (!b3) (
          L3 s0 s1 n1 p1 s17 H5 R) <|
        L4 s0 s1 n1 p1 s17 H5 R) <|
      L4 s0 s1 n1 p1 s17 H5 R) <|
    nilD s0 fun a3 =>
    ldMap H3 (Addr.add a3 1) fun m3 =>
    valD Tryz.prog (Instr.lookup 200 (.map m3) (.int .i64 n1) true) H3 (panK R) fun v5 H6 =>
    tTup v5 fun l14 =>
    tCons l14 fun c9 l15 =>
    tBool c9 fun b5 =>
    tCons l15 fun c10 l16 =>
    tBool c10 fun b4 =>
    tNil l16 <|
    iteB b4 (
      iteB (!b5) (
        nilD p1 fun a4 =>
        ldInt H6 (Addr.add a4 1) .i64 fun n2 =>
        iteB (decide (n2 > (1 : Int))) (
          L1 s0 s1 p1 p2 s17 H6 R) <|
        L2 s0 s1 p1 p2 s17 H6 R) <|
      L2 s0 s1 p1 p2 s17 H6 R) <|
    L2 s0 s1 p1 p2 s17 H6 R) <|
  tNil l1 <|
  callD Tryz.prog 124 [(.pointer s0)] H1 (panK R) fun v6 H7 =>
  tTup v6 fun l17 =>
  tNil l17 <|
  nilD s1 fun a5 =>
  ldInt H7 (Addr.add a5 1) .u64 fun n3 =>
  nilD s1 fun a6 =>
  st1 H7 (Addr.add a6 1) (.int .u64 (IntKind.wrap .u64 (n3 + (1 : Int)))) fun H8 =>
  R (.returned (.tuple ⟨[]⟩)) H8
theorem L0_step {s0 : Option Addr} {s1 : Option Addr} {s17 : Option Addr} {H : Heap} {R : Ending → Heap → Prop} (h : L0n s0 s1 s17 H R) : L0 s0 s1 s17 H R :=
  goL_of_den (an := an) (fuel := 100000) (X := L0n s0 s1 s17 H R) mixed fn (by kernel_rfl) (fun ρ0 => by kernel_rfl) h
def L1n (s0 : Option Addr) (s1 : Option Addr) (s5 : Option Addr) (s6 : Option Addr) (s17 : Option Addr) (H : Heap) (R : Ending → Heap → Prop) : Prop :=
  callD Tryz.prog 122 [(.iface 269 (.pointer s5))] H (panK R) fun v H1 =>
  tTup v fun l =>
  tNil l <|
  L2 s0 s1 s5 s6 s17 H1 R
theorem L1_step {s0 : Option Addr} {s1 : Option Addr} {s5 : Option Addr} {s6 : Option Addr} {s17 : Option Addr} {H : Heap} {R : Ending → Heap → Prop} (h : L1n s0 s1 s5 s6 s17 H R) : L1 s0 s1 s5 s6 s17 H R :=
  goL_of_den (an := an) (fuel := 100000) (X := L1n s0 s1 s5 s6 s17 H R) mixed fn (by kernel_rfl) (fun ρ0 => by kernel_rfl) h
def L2n (s0 : Option Addr) (s1 : Option Addr) (s5 : Option Addr) (s6 : Option Addr) (s17 : Option Addr) (H : Heap) (R : Ending → Heap → Prop) : Prop :=
  callD Tryz.prog 123 [(.pointer s6), (.pointer s5)] H (panK R) fun v H1 =>
  tTup v fun l =>
  tNil l <|
  L0 s0 s1 s17 H1 R
theorem L2_step {s0 : Option Addr} {s1 : Option Addr} {s5 : Option Addr} {s6 : Option Addr} {s17 : Option Addr} {H : Heap} {R : Ending → Heap → Prop} (h : L2n s0 s1 s5 s6 s17 H R) : L2 s0 s1 s5 s6 s17 H R :=
  goL_of_den (an := an) (fuel := 100000) (X := L2n s0 s1 s5 s6 s17 H R) mixed fn (by kernel_rfl) (fun ρ0 => by kernel_rfl) h
def L3n (s0 : Option Addr) (s1 : Option Addr) (s4 : Int) (s5 : Option Addr) (s17 : Option Addr) (H : Heap) (R : Ending → Heap → Prop) : Prop :=
  callD Tryz.prog 121 [(.pointer s5)] H (panK R) fun v H1 =>
  tTup v fun l =>
  tNil l <|
  L4 s0 s1 s4 s5 s17 H1 R
theorem L3_step {s0 : Option Addr} {s1 : Option Addr} {s4 : Int} {s5 : Option Addr} {s17 : Option Addr} {H : Heap} {R : Ending → Heap → Prop} (h : L3n s0 s1 s4 s5 s17 H R) : L3 s0 s1 s4 s5 s17 H R :=
  goL_of_den (an := an) (fuel := 100000) (X := L3n s0 s1 s4 s5 s17 H R) mixed fn (by kernel_rfl) (fun ρ0 => by kernel_rfl) h
def L4n (s0 : Option Addr) (s1 : Option Addr) (s4 : Int) (s5 : Option Addr) (s17 : Option Addr) (H : Heap) (R : Ending → Heap → Prop) : Prop :=
  nilD s1 fun a =>
  ldMap H a fun m =>
  uniD Tryz.prog (Instr.mapUpdate 142 (.map m) (.int .i64 s4) (.pointer s5)) H (panK R) fun H1 =>
  L0 s0 s1 s17 H1 R
theorem L4_step {s0 : Option Addr} {s1 : Option Addr} {s4 : Int} {s5 : Option Addr} {s17 : Option Addr} {H : Heap} {R : Ending → Heap → Prop} (h : L4n s0 s1 s4 s5 s17 H R) : L4 s0 s1 s4 s5 s17 H R :=
  goL_of_den (an := an) (fuel := 100000) (X := L4n s0 s1 s4 s5 s17 H R) mixed fn (by kernel_rfl) (fun ρ0 => by kernel_rfl) h
def go (s0 : Option Addr) (s1 : Option Addr) (H : Heap) (R : Ending → Heap → Prop) : Prop :=
  nilD s0 fun a =>
  ldMap H a fun m =>
  valD Tryz.prog (Instr.range 142 (.map m)) H (panK R) fun v H1 =>
  tPtr v fun p =>
  L0 s0 s1 p H1 R
theorem calls {s0 : Option Addr} {s1 : Option Addr} {H : Heap} {R : Ending → Heap → Prop} (h : go s0 s1 H R) : CallsH Tryz.prog 110 ⟨[(.pointer s0), (.pointer s1)]⟩ H R :=
  callsH_of_den (an := an) (fuel := 100000) (X := go s0 s1 H R) (c := body) mixed fn (by kernel_rfl) (by kernel_rfl) (by kernel_rfl) ok (by kernel_rfl) h
end F110
/-! ### 111 "(*pub-stadtholder/pub/etcdserver/storage/backend.batchTx).Unlock" -/
namespace F111
def an : Ann := { kinds := [(2002, .read)], taus := [(0, [[0, 1, 2, 4, 5, 6, 3, 7, 8, 9, 10, 11]])], pairs := [], lab := [] }
noncomputable def body : Code := (Tryz.f111.body).getD .skip
theorem fn : Tryz.prog.funcs[111]? = some Tryz.f111 := by kernel_rfl
theorem ok : codeOk an 20 body = true := by kernel_rfl
def go (t : Option Addr) (H : Heap) (R : Ending → Heap → Prop) : Prop :=
  nilD t fun a =>
  nilD t fun a1 =>
  ldInt H (Addr.add a 2) .i64 fun n =>
  ldPtr H (Addr.add a1 1) fun p =>
  nilD p fun a2 =>
  ldInt H (Addr.add a2 2) .i64 fun n1 =>
  iteB (decide (n ≥ n1)) (
    callD Tryz.prog 118 [(.pointer t), (.bool false)] H (panK R) fun v H1 =>
    tTup v fun l =>
    tNil l <|
    nilD t fun a3 =>
    zfD Tryz.prog H1 199 0 (.pointer (some a3)) fun a4 =>
    callD Tryz.prog 125 [(.pointer (some a4))] H1 (panK R) fun v1 H2 =>
    tTup v1 fun l1 =>
    tNil l1 <|
    R (.returned (.tuple ⟨[]⟩)) H2) <|
  nilD t fun a5 =>
  zfD Tryz.prog H 199 0 (.pointer (some a5)) fun a6 =>
  callD Tryz.prog 125 [(.pointer (some a6))] H (panK R) fun v2 H3 =>
  tTup v2 fun l2 =>
  tNil l2 <|
  R (.returned (.tuple ⟨[]⟩)) H3
theorem calls {t : Option Addr} {H : Heap} {R : Ending → Heap → Prop} (h : go t H R) : CallsH Tryz.prog 111 ⟨[(.pointer t)]⟩ H R :=
  callsH_of_den (an := an) (fuel := 100000) (X := go t H R) (c := body) mixed fn (by kernel_rfl) (by kernel_rfl) (by kernel_rfl) ok (by kernel_rfl) h
end F111
/-! ### 117 "(*pub-stadtholder/pub/etcdserver/storage/backend.readTx).reset" -/
namespace F117
def an : Ann := { kinds := [], taus := [], pairs := [], lab := [] }
noncomputable def body : Code := (Tryz.f117.body).getD .skip
theorem fn : Tryz.prog.funcs[117]? = some Tryz.f117 := by kernel_rfl
theorem ok : codeOk an 22 body = true := by kernel_rfl
def go (rt : Option Addr) (H : Heap) (R : Ending → Heap → Prop) : Prop :=
  nilD rt fun a =>
  callD Tryz.prog 129 [(.pointer (some a))] H (panK R) fun v H1 =>
  tTup v fun l =>
  tNil l <|
  newD H1 (.map #[] 0) fun r H2 =>
  nilD rt fun a1 =>
  st1 H2 (Addr.add a1 4) (.map (some r)) fun H3 =>
  nilD rt fun a2 =>
  st1 H3 (Addr.add a2 3) (.pointer none) fun H4 =>
  newD H4 (.cells ⟨[]⟩ 150) fun r1 H5 =>
  nilD rt fun a3 =>
  st1 H5 (Addr.add a3 5) (.pointer (some ⟨r1, 0, none⟩)) fun H6 =>
  R (.returned (.tuple ⟨[]⟩)) H6
theorem calls {rt : Option Addr} {H : Heap} {R : Ending → Heap → Prop} (h : go rt H R) : CallsH Tryz.prog 117 ⟨[(.pointer rt)]⟩ H R :=
  callsH_of_den (an := an) (fuel := 100000) (X := go rt H R) (c := body) mixed fn (by kernel_rfl) (by kernel_rfl) (by kernel_rfl) ok (by kernel_rfl) h
end F117
/-! ### 118 "(*pub-stadtholder/pub/etcdserver/storage/backend.batchTx).commit" -/
namespace F118
def an : Ann := { kinds := [], taus := [], pairs := [], lab := [(20000003, [0, 1]), (10000008, [0, 1])] }
noncomputable def body : Code := (Tryz.f118.body).getD .skip
theorem fn : Tryz.prog.funcs[118]? = some Tryz.f118 := by kernel_rfl
theorem ok : codeOk an 50 body = true := by kernel_rfl
noncomputable def L0t : List Item := [.code (sub [0, 1, 0, 1] body), .code (sub [1] body)]
def L0 (t : Option Addr) (stop : Bool) (H : Heap) (R : Ending → Heap → Prop) : Prop :=
  GoL Tryz.prog 118 50 L0t [0, 1] [(.pointer t), (.bool stop)] H R
noncomputable def L1t : List Item := [.code (sub [1] body)]
def L1 (t : Option Addr) (stop : Bool) (H : Heap) (R : Ending → Heap → Prop) : Prop :=
  GoL Tryz.prog 118 50 L1t [0, 1] [(.pointer t), (.bool stop)] H R
def L0n (t : Option Addr) (stop : Bool) (H : Heap) (R : Ending → Heap → Prop) : Prop :=
  nilD t fun a =>
  ldPtr H a fun p =>
  callD Tryz.prog 130 [(.pointer p)] H (panK R) fun v H1 =>
  tIf v fun i =>
  nilD t fun a1 =>
  ldPtr H1 (Addr.add a1 1) fun p1 =>
  nilD p1 fun a2 =>
  ldInt H1 a2 .i64 fun n =>
  nilD p1 fun a3 =>
  st1 H1 a3 (.int .i64 (IntKind.wrap .i64 (n + (1 : Int)))) fun H2 =>
  nilD t fun a4 =>
  st1 H2 (Addr.add a4 2) (.int .i64 (0 : Int)) fun H3 =>
  ifNilD (IV.v i) fun b =>
  iteB (!b) (
    panD (.iface 9 (.string (ByteArray.mk #[102, 97, 105, 108, 101, 100, 32, 116, 111, 32, 99, 111, 109, 109, 105, 116, 32, 116, 120]))) H3 (panK R)) <|
  L1 t stop H3 R
theorem L0_step {t : Option Addr} {stop : Bool} {H : Heap} {R : Ending → Heap → Prop} (h : L0n t stop H R) : L0 t stop H R :=
  goL_of_den (an := an) (fuel := 100000) (X := L0n t stop H R) mixed fn (by kernel_rfl) (fun ρ0 => by kernel_rfl) h
def L1n (t : Option Addr) (stop : Bool) (H : Heap) (R : Ending → Heap → Prop) : Prop :=
  iteB (!stop) (
    nilD t fun a =>
    ldPtr H (Addr.add a 1) fun p =>
    callD Tryz.prog 119 [(.pointer p), (.bool true)] H (panK R) fun v H1 =>
    tPtr v fun p1 =>
    nilD t fun a1 =>
    st1 H1 a1 (.pointer p1) fun H2 =>
    R (.returned (.tuple ⟨[]⟩)) H2) <|
  R (.returned (.tuple ⟨[]⟩)) H
theorem L1_step {t : Option Addr} {stop : Bool} {H : Heap} {R : Ending → Heap → Prop} (h : L1n t stop H R) : L1 t stop H R :=
  goL_of_den (an := an) (fuel := 100000) (X := L1n t stop H R) mixed fn (by kernel_rfl) (fun ρ0 => by kernel_rfl) h
def go (t : Option Addr) (stop : Bool) (H : Heap) (R : Ending → Heap → Prop) : Prop :=
  nilD t fun a =>
  ldPtr H a fun p =>
  iteB (!(Option.isNone p)) (
    nilD t fun a1 =>
    ldInt H (Addr.add a1 2) .i64 fun n =>
    iteB (n == (0 : Int)) (
      iteB (!stop) (
        R (.returned (.tuple ⟨[]⟩)) H) <|
      L0 t stop H R) <|
    L0 t stop H R) <|
  L1 t stop H R
theorem calls {t : Option Addr} {stop : Bool} {H : Heap} {R : Ending → Heap → Prop} (h : go t stop H R) : CallsH Tryz.prog 118 ⟨[(.pointer t), (.bool stop)]⟩ H R :=
  callsH_of_den (an := an) (fuel := 100000) (X := go t stop H R) (c := body) mixed fn (by kernel_rfl) (by kernel_rfl) (by kernel_rfl) ok (by kernel_rfl) h
end F118
/-! ### 121 "(*pub-stadtholder/pub/etcdserver/storage/backend.bucketBuffer).dedupe" -/
namespace F121
def an : Ann := { kinds := [], taus := [(6, [[0, 1, 2, 4, 8, 9, 10, 12, 3, 5, 6, 7, 11, 13, 14, 15, 16, 17]]), (8, [[0, 1, 2, 4, 5, 6, 7, 9, 3, 8, 10, 11, 12, 13]])], pairs := [], lab := [(40000005, [0, 2, 3]), (60000009, [0, 2, 3])] }
noncomputable def body : Code := (Tryz.f121.body).getD .skip
theorem fn : Tryz.prog.funcs[121]? = some Tryz.f121 := by kernel_rfl
theorem ok : codeOk an 58 body = true := by kernel_rfl
noncomputable def L0t : List Item := [.code (sub [1, 1, 1, 0, 1, 0, 0] body), .inLoop (sub [1, 1, 1, 0, 1, 0, 0] body), .inBlock 0, .code (sub [1, 1, 1, 1] body)]
def L0 (bb : Option Addr) (widx : Int) (ridx : Int) (H : Heap) (R : Ending → Heap → Prop) : Prop :=
  GoL Tryz.prog 121 58 L0t [0, 2, 3] [(.pointer bb), (.int .i64 widx), (.int .i64 ridx)] H R
noncomputable def L1t : List Item := [.code (sub [1, 1, 1, 0, 1, 0, 0, 1, 0, 0, 1] body), .inBlock 1, .code (sub [1, 1, 1, 0, 1, 0, 0, 1, 1] body), .inLoop (sub [1, 1, 1, 0, 1, 0, 0] body), .inBlock 0, .code (sub [1, 1, 1, 1] body)]
def L1 (bb : Option Addr) (widx : Int) (ridx : Int) (H : Heap) (R : Ending → Heap → Prop) : Prop :=
  GoL Tryz.prog 121 58 L1t [0, 2, 3] [(.pointer bb), (.int .i64 widx), (.int .i64 ridx)] H R
def L0n (bb : Option Addr) (widx : Int) (ridx : Int) (H : Heap) (R : Ending → Heap → Prop) : Prop :=
  nilD bb fun a =>
  ldInt H (Addr.add a 1) .i64 fun n =>
  iteB (decide (ridx < n)) (
    nilD bb fun a1 =>
    nilD bb fun a2 =>
    ldSl H a1 fun q qn qc =>
    idxD q qn ridx fun a3 =>
    ldSl H (Addr.add a3 (Int.toNat ridx * 2)) fun q1 q1n q1c =>
    ldSl H a2 fun q2 q2n q2c =>
    idxD q2 q2n widx fun a4 =>
    ldSl H (Addr.add a4 (Int.toNat widx * 2)) fun q3 q3n q3c =>
    callD Tryz.prog 133 [(.slice q1 q1n q1c), (.slice q3 q3n q3c)] H (panK R) fun v H1 =>
    tBool v fun b =>
    iteB (!b) (
      L1 bb (IntKind.wrap .i64 (widx + (1 : Int))) ridx H1 R) <|
    L1 bb widx ridx H1 R) <|
  nilD bb fun a5 =>
  st1 H (Addr.add a5 1) (.int .i64 (IntKind.wrap .i64 (widx + (1 : Int)))) fun H2 =>
  R (.returned (.tuple ⟨[]⟩)) H2
theorem L0_step {bb : Option Addr} {widx : Int} {ridx : Int} {H : Heap} {R : Ending → Heap → Prop} (h : L0n bb widx ridx H R) : L0 bb widx ridx H R :=
  goL_of_den (an := an) (fuel := 100000) (X := L0n bb widx ridx H R) mixed fn (by kernel_rfl) (fun ρ0 => by kernel_rfl) h
def L1n (bb : Option Addr) (widx : Int) (ridx : Int) (H : Heap) (R : Ending → Heap → Prop) : Prop :=
  nilD bb fun a =>
  nilD bb fun a1 =>
  ldSl H a fun q qn qc =>
  ldSl H a1 fun q1 q1n q1c =>
  idxD q1 q1n ridx fun a2 =>
  ldSl H (Addr.add a2 (Int.toNat ridx * 2)) fun q2 q2n q2c =>
  ldSl H (Addr.add (Addr.add a2 (Int.toNat ridx * 2)) 1) fun q3 q3n q3c =>
  idxD q qn widx fun a3 =>
  st1 H (Addr.add a3 (Int.toNat widx * 2)) (.slice q2 q2n q2c) fun H1 =>
  st1 H1 (Addr.add (Addr.add a3 (Int.toNat widx * 2)) 1) (.slice q3 q3n q3c) fun H2 =>
  L0 bb widx (IntKind.wrap .i64 (ridx + (1 : Int))) H2 R
theorem L1_step {bb : Option Addr} {widx : Int} {ridx : Int} {H : Heap} {R : Ending → Heap → Prop} (h : L1n bb widx ridx H R) : L1 bb widx ridx H R :=
  goL_of_den (an := an) (fuel := 100000) (X := L1n bb widx ridx H R) mixed fn (by kernel_rfl) (fun ρ0 => by kernel_rfl) h
def go (bb : Option Addr) (H : Heap) (R : Ending → Heap → Prop) : Prop :=
  nilD bb fun a =>
  ldInt H (Addr.add a 1) .i64 fun n =>
  iteB (decide (n ≤ (1 : Int))) (
    R (.returned (.tuple ⟨[]⟩)) H) <|
  callD Tryz.prog 132 [(.iface 269 (.pointer bb))] H (panK R) fun v H1 =>
  tTup v fun l =>
  tNil l <|
  L0 bb (0 : Int) (1 : Int) H1 R
theorem calls {bb : Option Addr} {H : Heap} {R : Ending → Heap → Prop} (h : go bb H R) : CallsH Tryz.prog 121 ⟨[(.pointer bb)]⟩ H R :=
  callsH_of_den (an := an) (fuel := 100000) (X := go bb H R) (c := body) mixed fn (by kernel_rfl) (by kernel_rfl) (by kernel_rfl) ok (by kernel_rfl) h
end F121
/-! ### 123 "(*pub-stadtholder/pub/etcdserver/storage/backend.bucketBuffer).merge" -/
namespace F123
def an : Ann := { kinds := [], taus := [(3, [[0, 1, 2, 3, 5, 9, 10, 11, 13, 4, 6, 7, 8, 12, 14, 15, 16, 17]]), (4, [[0, 1, 2, 4, 5, 6, 3, 7, 8]]), (5, [[0, 1, 2, 4, 5, 6, 8, 9, 10, 17, 18, 19, 3, 7, 11, 12, 13, 14, 15, 16, 20, 21, 22, 23, 24, 25]])], pairs := [], lab := [(40000002, [0, 1, 4])] }
noncomputable def body : Code := (Tryz.f123.body).getD .skip
theorem fn : Tryz.prog.funcs[123]? = some Tryz.f123 := by kernel_rfl
theorem ok : codeOk an 68 body = true := by kernel_rfl
noncomputable def L0t : List Item := [.code (sub [0, 1, 0, 0] body), .inLoop (sub [0, 1, 0, 0] body), .inBlock 0, .code (sub [1] body)]
def L0 (s0 : Option Addr) (s1 : Option Addr) (s4 : Int) (H : Heap) (R : Ending → Heap → Prop) : Prop :=
  GoL Tryz.prog 123 68 L0t [0, 1, 4] [(.pointer s0), (.pointer s1), (.int .i64 s4)] H R
def L0n (s0 : Option Addr) (s1 : Option Addr) (s4 : Int) (H : Heap) (R : Ending → Heap → Prop) : Prop :=
  nilD s1 fun a =>
  ldInt H (Addr.add a 1) .i64 fun n =>
  iteB (decide (s4 < n)) (
    nilD s1 fun a1 =>
    nilD s1 fun a2 =>
    ldSl H a1 fun q qn qc =>
    idxD q qn s4 fun a3 =>
    ldSl H (Addr.add a3 (Int.toNat s4 * 2)) fun q1 q1n q1c =>
    ldSl H a2 fun q2 q2n q2c =>
    idxD q2 q2n s4 fun a4 =>
    ldSl H (Addr.add (Addr.add a4 (Int.toNat s4 * 2)) 1) fun q3 q3n q3c =>
    callD Tryz.prog 135 [(.pointer s0), (.slice q1 q1n q1c), (.slice q3 q3n q3c)] H (panK R) fun v H1 =>
    tTup v fun l =>
    tNil l <|
    L0 s0 s1 (IntKind.wrap .i64 (s4 + (1 : Int))) H1 R) <|
  nilD s0 fun a5 =>
  nilD s1 fun a6 =>
  ldInt H (Addr.add a5 1) .i64 fun n1 =>
  ldInt H (Addr.add a6 1) .i64 fun n2 =>
  iteB (n1 == n2) (
    R (.returned (.tuple ⟨[]⟩)) H) <|
  nilD s0 fun a7 =>
  nilD s0 fun a8 =>
  nilD s1 fun a9 =>
  nilD s1 fun a10 =>
  ldSl H a7 fun q4 q4n q4c =>
  ldInt H (Addr.add a8 1) .i64 fun n3 =>
  ldInt H (Addr.add a9 1) .i64 fun n4 =>
  idxD q4 q4n (IntKind.wrap .i64 ((IntKind.wrap .i64 (n3 - n4)) - (1 : Int))) fun a11 =>
  ldSl H (Addr.add a11 (Int.toNat (IntKind.wrap .i64 ((IntKind.wrap .i64 (n3 - n4)) - (1 : Int))) * 2)) fun q5 q5n q5c =>
  ldSl H a10 fun q6 q6n q6c =>
  idxD q6 q6n (0 : Int) fun a12 =>
  ldSl H (Addr.add a12 (Int.toNat (0 : Int) * 2)) fun q7 q7n q7c =>
  callD Tryz.prog 136 [(.slice q5 q5n q5c), (.slice q7 q7n q7c)] H (panK R) fun v1 H2 =>
  tInt v1 .i64 fun n5 =>
  iteB (decide (n5 < (0 : Int))) (
    R (.returned (.tuple ⟨[]⟩)) H2) <|
  callD Tryz.prog 121 [(.pointer s0)] H2 (panK R) fun v2 H3 =>
  tTup v2 fun l1 =>
  tNil l1 <|
  R (.returned (.tuple ⟨[]⟩)) H3
theorem L0_step {s0 : Option Addr} {s1 : Option Addr} {s4 : Int} {H : Heap} {R : Ending → Heap → Prop} (h : L0n s0 s1 s4 H R) : L0 s0 s1 s4 H R :=
  goL_of_den (an := an) (fuel := 100000) (X := L0n s0 s1 s4 H R) mixed fn (by kernel_rfl) (fun ρ0 => by kernel_rfl) h
def go (s0 : Option Addr) (s1 : Option Addr) (H : Heap) (R : Ending → Heap → Prop) : Prop :=
  L0 s0 s1 (0 : Int) H R
theorem calls {s0 : Option Addr} {s1 : Option Addr} {H : Heap} {R : Ending → Heap → Prop} (h : go s0 s1 H R) : CallsH Tryz.prog 123 ⟨[(.pointer s0), (.pointer s1)]⟩ H R :=
  callsH_of_den (an := an) (fuel := 100000) (X := go s0 s1 H R) (c := body) mixed fn (by kernel_rfl) (by kernel_rfl) (by kernel_rfl) ok (by kernel_rfl) h
end F123
/-! ### 124 "(*pub-stadtholder/pub/etcdserver/storage/backend.txWriteBuffer).reset" -/
namespace F124
def an : Ann := { kinds := [(1004, .heavy 0), (2000, .heavy 200), (3000, .heavy 200), (4006, .heavy 0), (6005, .heavy 0), (8005, .heavy 0)], taus := [], pairs := [], lab := [(30000003, [0, 13])] }
noncomputable def body : Code := (Tryz.f124.body).getD .skip
theorem fn : Tryz.prog.funcs[124]? = some Tryz.f124 := by kernel_rfl
theorem ok : codeOk an 45 body = true := by kernel_rfl
noncomputable def L0t : List Item := [.code (sub [1, 1, 0, 0] body), .inLoop (sub [1, 1, 0, 0] body), .inBlock 0]
def L0 (txw : Option Addr) (s13 : Option Addr) (H : Heap) (R : Ending → Heap → Prop) : Prop :=
  GoL Tryz.prog 124 45 L0t [0, 13] [(.pointer txw), (.pointer s13)] H R
def L0n (txw : Option Addr) (s13 : Option Addr) (H : Heap) (R : Ending → Heap → Prop) : Prop :=
  valD Tryz.prog (Instr.next (.pointer s13) false 0) H (panK R) fun v H1 =>
  tTup v fun l =>
  tCons l fun c l1 =>
  tBool c fun b =>
  iteB b (
    tCons l1 fun c1 l2 =>
    tInt c1 .i64 fun n =>
    tCons l2 fun c2 l3 =>
    tBool c2 fun b1 =>
    tNil l3 <|
    valD Tryz.prog (Instr.entry (.pointer s13)) H1 (panK R) fun v1 H2 =>
    tTup v1 fun l4 =>
    tCons l4 fun c3 l5 =>
    tInt c3 .i64 fun n1 =>
    tCons l5 fun c4 l6 =>
    tBool c4 fun b2 =>
    tNil l6 <|
    nilD txw fun a =>
    ldMap H2 a fun m =>
    valD Tryz.prog (Instr.lookup 142 (.map m) (.int .i64 n1) true) H2 (panK R) fun v2 H3 =>
    tTup v2 fun l7 =>
    tCons l7 fun c5 l8 =>
    tPtr c5 fun p =>
    tCons l8 fun c6 l9 =>
    tBool c6 fun b3 =>
    tNil l9 <|
    iteB (!b3) (
      nilD txw fun a1 =>
      ldMap H3 (Addr.add a1 1) fun m1 =>
      valD Tryz.prog (Builtin.delete_ #[200, 256] 0 ⟨[(.map m1), (.int .i64 n1)]⟩) H3 (panK R) fun v3 H4 =>
      tTup v3 fun l10 =>
      tNil l10 <|
      L0 txw s13 H4 R) <|
    nilD p fun a2 =>
    ldInt H3 (Addr.add a2 1) .i64 fun n2 =>
    iteB (n2 == (0 : Int)) (
      nilD txw fun a3 =>
      ldMap H3 (Addr.add a3 1) fun m2 =>
      uniD Tryz.prog (Instr.mapUpdate 200 (.map m2) (.int .i64 n1) (.bool true)) H3 (panK R) fun H5 =>
      L0 txw s13 H5 R) <|
    L0 txw s13 H3 R) <|
  tNil l1 <|
  R (.returned (.tuple ⟨[]⟩)) H1
theorem L0_step {txw : Option Addr} {s13 : Option Addr} {H : Heap} {R : Ending → Heap → Prop} (h : L0n txw s13 H R) : L0 txw s13 H R :=
  goL_of_den (an := an) (fuel := 100000) (X := L0n txw s13 H R) mixed fn (by kernel_rfl) (fun ρ0 => by kernel_rfl) h
def go (txw : Option Addr) (H : Heap) (R : Ending → Heap → Prop) : Prop :=
  nilD txw fun a =>
  callD Tryz.prog 129 [(.pointer (some a))] H (panK R) fun v H1 =>
  tTup v fun l =>
  tNil l <|
  nilD txw fun a1 =>
  ldMap H1 (Addr.add a1 1) fun m =>
  valD Tryz.prog (Instr.range 200 (.map m)) H1 (panK R) fun v1 H2 =>
  tPtr v1 fun p =>
  L0 txw p H2 R
theorem calls {txw : Option Addr} {H : Heap} {R : Ending → Heap → Prop} (h : go txw H R) : CallsH Tryz.prog 124 ⟨[(.pointer txw)]⟩ H R :=
  callsH_of_den (an := an) (fuel := 100000) (X := go txw H R) (c := body) mixed fn (by kernel_rfl) (by kernel_rfl) (by kernel_rfl) ok (by kernel_rfl) h
end F124
/-! ### 129 "(*pub-stadtholder/pub/etcdserver/storage/backend.txBuffer).reset" -/
namespace F129
def an : Ann := { kinds := [(4, .heavy 0), (1000, .heavy 142), (2000, .heavy 142), (4005, .heavy 0)], taus := [], pairs := [], lab := [(30000002, [0, 8]), (40000006, [0, 3, 8])] }
noncomputable def body : Code := (Tryz.f129.body).getD .skip
theorem fn : Tryz.prog.funcs[129]? = some Tryz.f129 := by kernel_rfl
theorem ok : codeOk an 27 body = true := by kernel_rfl
noncomputable def L0t : List Item := [.code (sub [1, 0, 0] body), .inLoop (sub [1, 0, 0] body), .inBlock 0]
def L0 (txb : Option Addr) (s8 : Option Addr) (H : Heap) (R : Ending → Heap → Prop) : Prop :=
  GoL Tryz.prog 129 27 L0t [0, 8] [(.pointer txb), (.pointer s8)] H R
noncomputable def L1t : List Item := [.code (sub [1, 0, 0, 1, 1, 0, 1, 1] body), .inBlock 1, .inLoop (sub [1, 0, 0] body), .inBlock 0]
def L1 (txb : Option Addr) (v : Option Addr) (s8 : Option Addr) (H : Heap) (R : Ending → Heap → Prop) : Prop :=
  GoL Tryz.prog 129 27 L1t [0, 3, 8] [(.pointer txb), (.pointer v), (.pointer s8)] H R
def L0n (txb : Option Addr) (s8 : Option Addr) (H : Heap) (R : Ending → Heap → Prop) : Prop :=
  valD Tryz.prog (Instr.next (.pointer s8) false 0) H (panK R) fun v H1 =>
  tTup v fun l =>
  tCons l fun c l1 =>
  tBool c fun b =>
  iteB b (
    tCons l1 fun c1 l2 =>
    tInt c1 .i64 fun n =>
    tCons l2 fun c2 l3 =>
    tPtr c2 fun p =>
    tNil l3 <|
    valD Tryz.prog (Instr.entry (.pointer s8)) H1 (panK R) fun v1 H2 =>
    tTup v1 fun l4 =>
    tCons l4 fun c3 l5 =>
    tInt c3 .i64 fun n1 =>
    tCons l5 fun c4 l6 =>
    tPtr c4 fun p1 =>
    tNil l6 <|
    nilD p1 fun a =>
    ldInt H2 (Addr.add a 1) .i64 fun n2 =>
    iteB (n2 == (0 : Int)) (
      nilD txb fun a1 =>
      ldMap H2 a1 fun m =>
      valD Tryz.prog (Builtin.delete_ #[142, 256] 0 ⟨[(.map m), (.int .i64 n1)]⟩) H2 (panK R) fun v2 H3 =>
      tTup v2 fun l7 =>
      tNil l7 <|
      L1 txb p1 s8 H3 R) <|
    L1 txb p1 s8 H2 R) <|
  tNil l1 <|
  R (.returned (.tuple ⟨[]⟩)) H1
theorem L0_step {txb : Option Addr} {s8 : Option Addr} {H : Heap} {R : Ending → Heap → Prop} (h : L0n txb s8 H R) : L0 txb s8 H R :=
  goL_of_den (an := an) (fuel := 100000) (X := L0n txb s8 H R) mixed fn (by kernel_rfl) (fun ρ0 => by kernel_rfl) h
def L1n (txb : Option Addr) (v : Option Addr) (s8 : Option Addr) (H : Heap) (R : Ending → Heap → Prop) : Prop :=
  nilD v fun a =>
  st1 H (Addr.add a 1) (.int .i64 (0 : Int)) fun H1 =>
  L0 txb s8 H1 R
theorem L1_step {txb : Option Addr} {v : Option Addr} {s8 : Option Addr} {H : Heap} {R : Ending → Heap → Prop} (h : L1n txb v s8 H R) : L1 txb v s8 H R :=
  goL_of_den (an := an) (fuel := 100000) (X := L1n txb v s8 H R) mixed fn (by kernel_rfl) (fun ρ0 => by kernel_rfl) h
def go (txb : Option Addr) (H : Heap) (R : Ending → Heap → Prop) : Prop :=
  nilD txb fun a =>
  ldMap H a fun m =>
  valD Tryz.prog (Instr.range 142 (.map m)) H (panK R) fun v H1 =>
  tPtr v fun p =>
  L0 txb p H1 R
theorem calls {txb : Option Addr} {H : Heap} {R : Ending → Heap → Prop} (h : go txb H R) : CallsH Tryz.prog 129 ⟨[(.pointer txb)]⟩ H R :=
  callsH_of_den (an := an) (fuel := 100000) (X := go txb H R) (c := body) mixed fn (by kernel_rfl) (by kernel_rfl) (by kernel_rfl) ok (by kernel_rfl) h
end F129
/-! ### 135 "(*pub-stadtholder/pub/etcdserver/storage/backend.bucketBuffer).add" -/
namespace F135
def an : Ann := { kinds := [], taus := [(0, [[0, 1, 2, 4, 5, 6, 8, 9, 10, 12, 13, 14, 16, 17, 3, 7, 11, 15, 18, 19, 20, 21, 22, 23]]), (2, [[0, 1, 2, 4, 5, 6, 3, 7, 8, 9]])], pairs := [], lab := [] }
noncomputable def body : Code := (Tryz.f135.body).getD .skip
theorem fn : Tryz.prog.funcs[135]? = some Tryz.f135 := by kernel_rfl
theorem ok : codeOk an 64 body = true := by kernel_rfl
def go (bb : Option Addr) (k : Option Addr) (kn : Nat) (kc : Nat) (v : Option Addr) (vn : Nat) (vc : Nat) (H : Heap) (R : Ending → Heap → Prop) : Prop :=
  nilD bb fun a =>
  nilD bb fun a1 =>
  nilD bb fun a2 =>
  nilD bb fun a3 =>
  ldSl H a fun q qn qc =>
  ldInt H (Addr.add a1 1) .i64 fun n =>
  ldSl H a2 fun q1 q1n q1c =>
  ldInt H (Addr.add a3 1) .i64 fun n1 =>
  idxD q qn n fun a4 =>
  st1 H (Addr.add a4 (Int.toNat n * 2)) (.slice k kn kc) fun H1 =>
  idxD q1 q1n n1 fun a5 =>
  st1 H1 (Addr.add (Addr.add a5 (Int.toNat n1 * 2)) 1) (.slice v vn vc) fun H2 =>
  nilD bb fun a6 =>
  ldInt H2 (Addr.add a6 1) .i64 fun n2 =>
  nilD bb fun a7 =>
  st1 H2 (Addr.add a7 1) (.int .i64 (IntKind.wrap .i64 (n2 + (1 : Int)))) fun H3 =>
  nilD bb fun a8 =>
  nilD bb fun a9 =>
  ldInt H3 (Addr.add a8 1) .i64 fun n3 =>
  ldSl H3 a9 fun q2 q2n q2c =>
  iteB (n3 == ((q2n : Nat) : Int)) (
    nilD bb fun a10 =>
    ldSl H3 a10 fun q3 q3n q3c =>
    divD (2 : Int) <|
    mkD H3 48 [(.slice none 0 0), (.slice none 0 0)] 286 (IntKind.wrap .i64 (Int.tdiv (IntKind.wrap .i64 ((3 : Int) * ((q3n : Nat) : Int))) (2 : Int))) (IntKind.wrap .i64 (Int.tdiv (IntKind.wrap .i64 ((3 : Int) * ((q3n : Nat) : Int))) (2 : Int))) fun r k1 c H4 =>
    nilD bb fun a11 =>
    ldSl H4 a11 fun q4 q4n q4c =>
    cpD H4 2 (some ⟨r, 0, none⟩) k1 q4 q4n fun k2 H5 =>
    nilD bb fun a12 =>
    st1 H5 a12 (.slice (some ⟨r, 0, none⟩) k1 c) fun H6 =>
    R (.returned (.tuple ⟨[]⟩)) H6) <|
  R (.returned (.tuple ⟨[]⟩)) H3
theorem calls {bb : Option Addr} {k : Option Addr} {kn : Nat} {kc : Nat} {v : Option Addr} {vn : Nat} {vc : Nat} {H : Heap} {R : Ending → Heap → Prop} (h : go bb k kn kc v vn vc H R) : CallsH Tryz.prog 135 ⟨[(.pointer bb), (.slice k kn kc), (.slice v vn vc)]⟩ H R :=
  callsH_of_den (an := an) (fuel := 100000) (X := go bb k kn kc v vn vc H R) (c := body) mixed fn (by kernel_rfl) (by kernel_rfl) (by kernel_rfl) ok (by kernel_rfl) h
end F135
/-! ### 258 "(*pub-stadtholder/pub/etcdserver/storage/backend.batchTxBuffered).UnsafePut" -/
namespace F258
def an : Ann := { kinds := [], taus := [], pairs := [], lab := [] }
noncomputable def body : Code := (Tryz.f258.body).getD .skip
theorem fn : Tryz.prog.funcs[258]? = some Tryz.f258 := by kernel_rfl
theorem ok : codeOk an 22 body = true := by kernel_rfl
def go (t : Option Addr) (bucket : IV) (key : Option Addr) (keyn : Nat) (keyc : Nat) (value : Option Addr) (valuen : Nat) (valuec : Nat) (H : Heap) (R : Ending → Heap → Prop) : Prop :=
  nilD t fun a =>
  callD Tryz.prog 263 [(.pointer (some a)), (IV.v bucket), (.slice key keyn keyc), (.slice value valuen valuec)] H (panK R) fun v H1 =>
  tTup v fun l =>
  tNil l <|
  nilD t fun a1 =>
  callD Tryz.prog 264 [(.pointer (some (Addr.add a1 3))), (IV.v bucket), (.slice key keyn keyc), (.slice value valuen valuec)] H1 (panK R) fun v1 H2 =>
  tTup v1 fun l1 =>
  tNil l1 <|
  R (.returned (.tuple ⟨[]⟩)) H2
theorem calls {t : Option Addr} {bucket : IV} {key : Option Addr} {keyn : Nat} {keyc : Nat} {value : Option Addr} {valuen : Nat} {valuec : Nat} {H : Heap} {R : Ending → Heap → Prop} (h : go t bucket key keyn keyc value valuen valuec H R) : CallsH Tryz.prog 258 ⟨[(.pointer t), (IV.v bucket), (.slice key keyn keyc), (.slice value valuen valuec)]⟩ H R :=
  callsH_of_den (an := an) (fuel := 100000) (X := go t bucket key keyn keyc value valuen valuec H R) (c := body) mixed fn (by kernel_rfl) (by kernel_rfl) (by kernel_rfl) ok (by kernel_rfl) h
end F258
/-! ### 264 "(*pub-stadtholder/pub/etcdserver/storage/backend.txWriteBuffer).put" -/
namespace F264
def an : Ann := { kinds := [(5, .grow), (6, .heavy 0)], taus := [(0, [[0, 1, 2, 4, 3, 5, 6]])], pairs := [], lab := [] }
noncomputable def body : Code := (Tryz.f264.body).getD .skip
theorem fn : Tryz.prog.funcs[264]? = some Tryz.f264 := by kernel_rfl
theorem ok : codeOk an 19 body = true := by kernel_rfl
def go (txw : Option Addr) (bucket : IV) (k : Option Addr) (kn : Nat) (kc : Nat) (v : Option Addr) (vn : Nat) (vc : Nat) (H : Heap) (R : Ending → Heap → Prop) : Prop :=
  nilD txw fun a =>
  ldMap H (Addr.add a 1) fun m =>
  callI Tryz.prog (IV.v bucket) "ID" [] H nope fun v1 H1 =>
  tInt v1 .i64 fun n =>
  andD (ExtH H H1) <|
  uniD Tryz.prog (Instr.mapUpdate 200 (.map m) (.int .i64 n) (.bool false)) H1 (panK R) fun H2 =>
  callD Tryz.prog 267 [(.pointer txw), (IV.v bucket), (.slice k kn kc), (.slice v vn vc)] H2 (panK R) fun v3 H3 =>
  tTup v3 fun l =>
  tNil l <|
  R (.returned (.tuple ⟨[]⟩)) H3
theorem calls {txw : Option Addr} {bucket : IV} {k : Option Addr} {kn : Nat} {kc : Nat} {v : Option Addr} {vn : Nat} {vc : Nat} {H : Heap} {R : Ending → Heap → Prop} (h : go txw bucket k kn kc v vn vc H R) : CallsH Tryz.prog 264 ⟨[(.pointer txw), (IV.v bucket), (.slice k kn kc), (.slice v vn vc)]⟩ H R :=
  callsH_of_den (an := an) (fuel := 100000) (X := go txw bucket k kn kc v vn vc H R) (c := body) mixed fn (by kernel_rfl) (by kernel_rfl) (by kernel_rfl) ok (by kernel_rfl) h
end F264
/-! ### 267 "(*pub-stadtholder/pub/etcdserver/storage/backend.txWriteBuffer).putInternal" -/
namespace F267
def an : Ann := { kinds := [(6, .grow), (7, .heavy 0), (3006, .grow), (3008, .heavy 0)], taus := [(0, [[0, 1, 2, 3, 5, 4, 6, 7, 8, 9, 10, 11, 12]]), (3, [[0, 1, 2, 3, 5, 7, 4, 6, 8]])], pairs := [], lab := [] }
noncomputable def body : Code := (Tryz.f267.body).getD .skip
theorem fn : Tryz.prog.funcs[267]? = some Tryz.f267 := by kernel_rfl
theorem ok : codeOk an 36 body = true := by kernel_rfl
def go (txw : Option Addr) (bucket : IV) (k : Option Addr) (kn : Nat) (kc : Nat) (v : Option Addr) (vn : Nat) (vc : Nat) (H : Heap) (R : Ending → Heap → Prop) : Prop :=
  nilD txw fun a =>
  ldMap H a fun m =>
  callI Tryz.prog (IV.v bucket) "ID" [] H nope fun v1 H1 =>
  tInt v1 .i64 fun n =>
  andD (ExtH H H1) <|
  valD Tryz.prog (Instr.lookup 142 (.map m) (.int .i64 n) true) H1 (panK R) fun v2 H2 =>
  tTup v2 fun l =>
  tCons l fun c l1 =>
  tPtr c fun p =>
  tCons l1 fun c1 l2 =>
  tBool c1 fun b =>
  tNil l2 <|
  iteB (!b) (
    callD Tryz.prog 270 [] H2 (panK R) fun v3 H3 =>
    tPtr v3 fun p1 =>
    nilD txw fun a1 =>
    ldMap H3 a1 fun m1 =>
    callI Tryz.prog (IV.v bucket) "ID" [] H3 nope fun v4 H4 =>
    tInt v4 .i64 fun n1 =>
    andD (ExtH H3 H4) <|
    uniD Tryz.prog (Instr.mapUpdate 142 (.map m1) (.int .i64 n1) (.pointer p1)) H4 (panK R) fun H5 =>
    callD Tryz.prog 135 [(.pointer p1), (.slice k kn kc), (.slice v vn vc)] H5 (panK R) fun v6 H6 =>
    tTup v6 fun l3 =>
    tNil l3 <|
    R (.returned (.tuple ⟨[]⟩)) H6) <|
  callD Tryz.prog 135 [(.pointer p), (.slice k kn kc), (.slice v vn vc)] H2 (panK R) fun v7 H7 =>
  tTup v7 fun l4 =>
  tNil l4 <|
  R (.returned (.tuple ⟨[]⟩)) H7
theorem calls {txw : Option Addr} {bucket : IV} {k : Option Addr} {kn : Nat} {kc : Nat} {v : Option Addr} {vn : Nat} {vc : Nat} {H : Heap} {R : Ending → Heap → Prop} (h : go txw bucket k kn kc v vn vc H R) : CallsH Tryz.prog 267 ⟨[(.pointer txw), (IV.v bucket), (.slice k kn kc), (.slice v vn vc)]⟩ H R :=
  callsH_of_den (an := an) (fuel := 100000) (X := go txw bucket k kn kc v vn vc H R) (c := body) mixed fn (by kernel_rfl) (by kernel_rfl) (by kernel_rfl) ok (by kernel_rfl) h
end F267
/-! ### 247 "(*pub-stadtholder/pub/stand/bolt.Bucket).ForEach" -/
namespace F247
def an : Ann := { kinds := [], taus := [(5, [[0, 1, 2, 3, 4, 6, 7, 8, 9, 5, 10, 11, 12]])], pairs := [], lab := [(40000004, [1, 5, 6])] }
noncomputable def body : Code := (Tryz.f247.body).getD .skip
theorem fn : Tryz.prog.funcs[247]? = some Tryz.f247 := by kernel_rfl
theorem ok : codeOk an 34 body = true := by kernel_rfl
noncomputable def L0t : List Item := [.code (sub [1, 1, 0, 1, 0, 0] body), .inLoop (sub [1, 1, 0, 1, 0, 0] body), .inBlock 0, .code (sub [1, 1, 1] body)]
def L0 (visit : FV) (list : Option Addr) (listn : Nat) (listc : Nat) (i : Int) (H : Heap) (R : Ending → Heap → Prop) : Prop :=
  GoL Tryz.prog 247 34 L0t [1, 5, 6] [(FV.v visit), (.slice list listn listc), (.int .i64 i)] H R
def L0n (visit : FV) (list : Option Addr) (listn : Nat) (listc : Nat) (i : Int) (H : Heap) (R : Ending → Heap → Prop) : Prop :=
  iteB (decide (i < ((listn : Nat) : Int))) (
    idxD list listn i fun a =>
    idxD list listn i fun a1 =>
    ldSl H (Addr.add a (Int.toNat i * 2)) fun q qn qc =>
    ldSl H (Addr.add (Addr.add a1 (Int.toNat i * 2)) 1) fun q1 q1n q1c =>
    callV Tryz.prog (FV.v visit) [(.slice q qn qc), (.slice q1 q1n q1c)] H (panK R) fun v H1 =>
    tIf v fun i1 =>
    ifNilD (IV.v i1) fun b =>
    iteB (!b) (
      R (.returned (IV.v i1)) H1) <|
    L0 visit list listn listc (IntKind.wrap .i64 (i + (1 : Int))) H1 R) <|
  R (.returned .nilIface) H
theorem L0_step {visit : FV} {list : Option Addr} {listn : Nat} {listc : Nat} {i : Int} {H : Heap} {R : Ending → Heap → Prop} (h : L0n visit list listn listc i H R) : L0 visit list listn listc i H R :=
  goL_of_den (an := an) (fuel := 100000) (X := L0n visit list listn listc i H R) mixed fn (by kernel_rfl) (fun ρ0 => by kernel_rfl) h
def go (b : Option Addr) (visit : FV) (H : Heap) (R : Ending → Heap → Prop) : Prop :=
  nilD b fun a =>
  ldSl H (Addr.add (Addr.add a 1) 1) fun q qn qc =>
  L0 visit q qn qc (0 : Int) H R
theorem calls {b : Option Addr} {visit : FV} {H : Heap} {R : Ending → Heap → Prop} (h : go b visit H R) : CallsH Tryz.prog 247 ⟨[(.pointer b), (FV.v visit)]⟩ H R :=
  callsH_of_den (an := an) (fuel := 100000) (X := go b visit H R) (c := body) mixed fn (by kernel_rfl) (by kernel_rfl) (by kernel_rfl) ok (by kernel_rfl) h
end F247
end Go.Proofs.YtkenjnllegbmjaaGreat
