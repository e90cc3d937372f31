/- What functions of this seat do, each proved by a walk; no condition. -/
import Derived.Test.YtkenjnllegbmjaaGreatLN4
import Derived.KernelRfl
set_option linter.unusedVariables false
namespace Go.Proofs.YtkenjnllegbmjaaGreat
open Go Go.Den Go.Proofs
/-! ### 4 "pub-stadtholder/laws.FnLeaseRenews" -/
namespace F4
def an : Ann := { kinds := [], taus := [], pairs := [], lab := [(10000004, [0, 1, 2]), (10000008, [0, 2, 8])] }
noncomputable def body : Code := (Tryz.f4.body).getD .skip
theorem fn : Tryz.prog.funcs[4]? = some Tryz.f4 := by kernel_rfl
theorem ok : codeOk an 88 body = true := by kernel_rfl
noncomputable def L0t : List Item := [.code (sub [1, 1] body)]
def L0 (s0 : Int) (s1 : Int) (s2 : Int) (H : Heap) (R : Ending → Heap → Prop) : Prop :=
  GoL Tryz.prog 4 88 L0t [0, 1, 2] [(.int .i64 s0), (.int .i64 s1), (.int .i64 s2)] H R
noncomputable def L1t : List Item := [.code (sub [1, 1, 1, 1, 1] body)]
def L1 (s0 : Int) (s2 : Int) (s8 : Option Addr) (s8n : Nat) (s8c : Nat) (H : Heap) (R : Ending → Heap → Prop) : Prop :=
  GoL Tryz.prog 4 88 L1t [0, 2, 8] [(.int .i64 s0), (.int .i64 s2), (.slice s8 s8n s8c)] H R
def L0n (s0 : Int) (s1 : Int) (s2 : Int) (H : Heap) (R : Ending → Heap → Prop) : Prop :=
  newD H (.cells ⟨[(.int .i64 (10 : Int)), (.int .i64 (0 : Int)), (.int .i64 (0 : Int)), (.slice none 0 0), (.int .i64 (0 : Int)), (.int .i64 (1 : Int)), (.int .i64 (1 : Int)), (.int .i64 s0), (.slice none 0 0), (.int .i64 (0 : Int)), (.int .i64 (8 : Int)), (.int .i64 (1 : Int)), (.int .i64 (0 : Int)), (.slice none 0 0), (.int .i64 s1), (.int .i64 (12 : Int)), (.int .i64 (0 : Int)), (.int .i64 (0 : Int)), (.slice none 0 0), (.int .i64 (IntKind.wrap .i64 (s1 + s2))), (.int .i64 (6 : Int)), (.int .i64 (1 : Int)), (.int .i64 (0 : Int)), (.slice none 0 0), (.int .i64 (IntKind.wrap .i64 (s1 + s2)))]⟩ 28) fun r H1 =>
  callD Tryz.prog 5 [(.agg ⟨[(.int .i64 (0 : Int)), (.int .i64 (0 : Int)), (.int .i64 (0 : Int)), (.bool false), (.bool false)]⟩), (.slice (some ⟨r, 0, none⟩) 5 5)] H1 (panK R) fun v H2 =>
  tSl v fun q qn qc =>
  iteB (((qn : Nat) : Int) != (5 : Int)) (
    R (.returned (.bool false)) H2) <|
  idxD q qn (2 : Int) fun a =>
  ldInt H2 (Addr.add a (Int.toNat (2 : Int) * 8)) .i64 fun n =>
  iteB (n != (0 : Int)) (
    R (.returned (.bool false)) H2) <|
  idxD q qn (2 : Int) fun a1 =>
  ldInt H2 (Addr.add (Addr.add a1 (Int.toNat (2 : Int) * 8)) 2) .i64 fun n1 =>
  iteB (n1 != s0) (
    R (.returned (.bool false)) H2) <|
  idxD q qn (4 : Int) fun a2 =>
  ldInt H2 (Addr.add (Addr.add a2 (Int.toNat (4 : Int) * 8)) 3) .i64 fun n2 =>
  iteB (n2 != (IntKind.wrap .i64 ((IntKind.wrap .i64 (s0 * (1000000000 : Int))) - s2))) (
    R (.returned (.bool false)) H2) <|
  L1 s0 s2 q qn qc H2 R
theorem L0_step {s0 : Int} {s1 : Int} {s2 : Int} {H : Heap} {R : Ending → Heap → Prop} (h : L0n s0 s1 s2 H R) : L0 s0 s1 s2 H R :=
  goL_of_den (an := an) (fuel := 100000) (X := L0n s0 s1 s2 H R) mixed fn (by kernel_rfl) (fun ρ0 => by kernel_rfl) h
def L1n (s0 : Int) (s2 : Int) (s8 : Option Addr) (s8n : Nat) (s8c : Nat) (H : Heap) (R : Ending → Heap → Prop) : Prop :=
  idxD s8 s8n (3 : Int) fun a =>
  ldSl H (Addr.add (Addr.add a (Int.toNat (3 : Int) * 8)) 6) fun q qn qc =>
  R (.returned (.bool ((decide (((qn : Nat) : Int) > (0 : Int))) == (decide (s2 ≥ (IntKind.wrap .i64 (s0 * (1000000000 : Int)))))))) H
theorem L1_step {s0 : Int} {s2 : Int} {s8 : Option Addr} {s8n : Nat} {s8c : Nat} {H : Heap} {R : Ending → Heap → Prop} (h : L1n s0 s2 s8 s8n s8c H R) : L1 s0 s2 s8 s8n s8c H R :=
  goL_of_den (an := an) (fuel := 100000) (X := L1n s0 s2 s8 s8n s8c H R) mixed fn (by kernel_rfl) (fun ρ0 => by kernel_rfl) h
def go (s0 : Int) (s1 : Int) (s2 : Int) (H : Heap) (R : Ending → Heap → Prop) : Prop :=
  iteB (decide (s0 < (1 : Int))) (
    R (.returned (.bool true)) H) <|
  iteB (decide (s0 > (100000000 : Int))) (
    R (.returned (.bool true)) H) <|
  iteB (decide (s1 < (0 : Int))) (
    R (.returned (.bool true)) H) <|
  iteB (decide (s1 ≥ (IntKind.wrap .i64 (s0 * (1000000000 : Int))))) (
    R (.returned (.bool true)) H) <|
  iteB (decide (s2 < (0 : Int))) (
    R (.returned (.bool true)) H) <|
  iteB (decide (s2 > (576460752303423488 : Int))) (
    R (.returned (.bool true)) H) <|
  L0 s0 s1 s2 H R
theorem calls {s0 : Int} {s1 : Int} {s2 : Int} {H : Heap} {R : Ending → Heap → Prop} (h : go s0 s1 s2 H R) : CallsH Tryz.prog 4 ⟨[(.int .i64 s0), (.int .i64 s1), (.int .i64 s2)]⟩ H R :=
  callsH_of_den (an := an) (fuel := 100000) (X := go s0 s1 s2 H R) (c := body) mixed fn (by kernel_rfl) (by kernel_rfl) (by kernel_rfl) ok (by kernel_rfl) h
end F4
/-! ### 5 "pub-stadtholder/impl.Leases" -/
namespace F5
def an : Ann := { kinds := [(4001, .grow), (4002, .grow), (4004, .grow), (4006, .grow)], taus := [(4, [[0, 1, 2, 3, 4, 5, 6, 7]])], pairs := [], lab := [(40000009, [1, 5, 6, 7])] }
noncomputable def body : Code := (Tryz.f5.body).getD .skip
theorem fn : Tryz.prog.funcs[5]? = some Tryz.f5 := by kernel_rfl
theorem ok : codeOk an 45 body = true := by kernel_rfl
noncomputable def L0t : List Item := [.code (sub [1, 1, 1, 1, 1, 1, 1, 0, 1, 0, 0] body), .inLoop (sub [1, 1, 1, 1, 1, 1, 1, 0, 1, 0, 0] body), .inBlock 0, .code (sub [1, 1, 1, 1, 1, 1, 1, 1] body)]
def L0 (ops : Option Addr) (opsn : Nat) (opsc : Nat) (x : Nat) (out : Option Addr) (outn : Nat) (outc : Nat) (i : Int) (H : Heap) (R : Ending → Heap → Prop) : Prop :=
  GoL Tryz.prog 5 45 L0t [1, 5, 6, 7] [(.slice ops opsn opsc), (.pointer (some ⟨x, 0, none⟩)), (.slice out outn outc), (.int .i64 i)] H R
def L0n (ops : Option Addr) (opsn : Nat) (opsc : Nat) (x : Nat) (out : Option Addr) (outn : Nat) (outc : Nat) (i : Int) (H : Heap) (R : Ending → Heap → Prop) : Prop :=
  iteB (decide (i < ((opsn : Nat) : Int))) (
    idxD ops opsn i fun a =>
    ldInt H (Addr.add a (Int.toNat i * 5)) .i64 fun n =>
    ldInt H (Addr.add (Addr.add a (Int.toNat i * 5)) 1) .i64 fun n1 =>
    ldInt H (Addr.add (Addr.add a (Int.toNat i * 5)) 2) .i64 fun n2 =>
    ldSl H (Addr.add (Addr.add a (Int.toNat i * 5)) 3) fun q qn qc =>
    ldInt H (Addr.add (Addr.add a (Int.toNat i * 5)) 4) .i64 fun n3 =>
    callD Tryz.prog 12 [(.pointer (some ⟨x, 0, none⟩)), (.agg ⟨[(.int .i64 n), (.int .i64 n1), (.int .i64 n2), (.slice q qn qc), (.int .i64 n3)]⟩)] H (panK R) fun v H1 =>
    tAgg v fun l =>
    tCons l fun c l1 =>
    tInt c .i64 fun n4 =>
    tCons l1 fun c1 l2 =>
    tInt c1 .i64 fun n5 =>
    tCons l2 fun c2 l3 =>
    tInt c2 .i64 fun n6 =>
    tCons l3 fun c3 l4 =>
    tInt c3 .i64 fun n7 =>
    tCons l4 fun c4 l5 =>
    tBool c4 fun b =>
    tCons l5 fun c5 l6 =>
    tSl c5 fun q1 q1n q1c =>
    tCons l6 fun c6 l7 =>
    tSl c6 fun q2 q2n q2c =>
    tCons l7 fun c7 l8 =>
    tSl c7 fun q3 q3n q3c =>
    tNil l8 <|
    newD H1 (.cells ⟨[(.int .i64 n4), (.int .i64 n5), (.int .i64 n6), (.int .i64 n7), (.bool b), (.slice q1 q1n q1c), (.slice q2 q2n q2c), (.slice q3 q3n q3c)]⟩ 32) fun r H2 =>
    apD H2 8 112 [(.int .i64 (0 : Int)), (.int .i64 (0 : Int)), (.int .i64 (0 : Int)), (.int .i64 (0 : Int)), (.bool false), (.slice none 0 0), (.slice none 0 0), (.slice none 0 0)] 32 out outn outc (some ⟨r, 0, none⟩) 1 fun q4 q4n q4c H3 =>
    L0 ops opsn opsc x q4 q4n q4c (IntKind.wrap .i64 (i + (1 : Int))) H3 R) <|
  R (.returned (.slice out outn outc)) H
theorem L0_step {ops : Option Addr} {opsn : Nat} {opsc : Nat} {x : Nat} {out : Option Addr} {outn : Nat} {outc : Nat} {i : Int} {H : Heap} {R : Ending → Heap → Prop} (h : L0n ops opsn opsc x out outn outc i H R) : L0 ops opsn opsc x out outn outc i H R :=
  goL_of_den (an := an) (fuel := 100000) (X := L0n ops opsn opsc x out outn outc i H R) mixed fn (by kernel_rfl) (fun ρ0 => by kernel_rfl) h
def go (c_0 : Int) (c_1 : Int) (c_2 : Int) (c_3 : Bool) (c_4 : Bool) (ops : Option Addr) (opsn : Nat) (opsc : Nat) (H : Heap) (R : Ending → Heap → Prop) : Prop :=
  newD H (.cells ⟨[(.int .i64 c_0), (.int .i64 c_1), (.int .i64 c_2), (.bool c_3), (.bool c_4)]⟩ 23) fun r H1 =>
  ldInt H1 ⟨r, 0, none⟩ .i64 fun n =>
  callD Tryz.prog 8 [(.int .i64 n), (.int .i64 (-9000000000 : Int)), (.int .i64 (9000000000 : Int))] H1 (panK R) fun v H2 =>
  tInt v .i64 fun n1 =>
  st1 H2 ⟨r, 0, none⟩ (.int .i64 n1) fun H3 =>
  ldInt H3 ⟨r, 1, none⟩ .i64 fun n2 =>
  callD Tryz.prog 8 [(.int .i64 n2), (.int .i64 (0 : Int)), (.int .i64 (1000000000 : Int))] H3 (panK R) fun v1 H4 =>
  tInt v1 .i64 fun n3 =>
  st1 H4 ⟨r, 1, none⟩ (.int .i64 n3) fun H5 =>
  ldInt H5 ⟨r, 2, none⟩ .i64 fun n4 =>
  callD Tryz.prog 8 [(.int .i64 n4), (.int .i64 (0 : Int)), (.int .i64 (1000000000 : Int))] H5 (panK R) fun v2 H6 =>
  tInt v2 .i64 fun n5 =>
  st1 H6 ⟨r, 2, none⟩ (.int .i64 n5) fun H7 =>
  ldInt H7 ⟨r, 0, none⟩ .i64 fun n6 =>
  ldInt H7 ⟨r, 1, none⟩ .i64 fun n7 =>
  ldInt H7 ⟨r, 2, none⟩ .i64 fun n8 =>
  ldBool H7 ⟨r, 3, none⟩ fun b =>
  ldBool H7 ⟨r, 4, none⟩ fun b1 =>
  callD Tryz.prog 9 [] H7 nope fun v3 H8 =>
  tPtr v3 fun p =>
  andD (ExtH H7 H8) <|
  callD Tryz.prog 10 [(.int .i64 (0 : Int))] H8 nope fun v4 H9 =>
  tAgg v4 fun l =>
  tCons l fun c l1 =>
  tInt c .i64 fun n9 =>
  tCons l1 fun c1 l2 =>
  tInt c1 .i64 fun n10 =>
  tCons l2 fun c2 l3 =>
  tBool c2 fun b2 =>
  tNil l3 <|
  andD (ExtH H8 H9) <|
  newD H9 (.cells ⟨[(.int .i64 n9), (.int .i64 n10), (.bool b2)]⟩ 45) fun r1 H10 =>
  newD H10 (.cells ⟨[(.int .i64 n6), (.int .i64 n7), (.int .i64 n8), (.bool b), (.bool b1), (.pointer p), .nilIface, (.pointer (some ⟨r1, 0, none⟩)), .nilIface, (.slice none 0 0)]⟩ 51) fun r2 H11 =>
  callD Tryz.prog 11 [(.pointer (some ⟨r2, 0, none⟩))] H11 (panK R) fun v5 H12 =>
  tTup v5 fun l4 =>
  tNil l4 <|
  L0 ops opsn opsc r2 none 0 0 (0 : Int) H12 R
theorem calls {c_0 : Int} {c_1 : Int} {c_2 : Int} {c_3 : Bool} {c_4 : Bool} {ops : Option Addr} {opsn : Nat} {opsc : Nat} {H : Heap} {R : Ending → Heap → Prop} (h : go c_0 c_1 c_2 c_3 c_4 ops opsn opsc H R) : CallsH Tryz.prog 5 ⟨[(.agg ⟨[(.int .i64 c_0), (.int .i64 c_1), (.int .i64 c_2), (.bool c_3), (.bool c_4)]⟩), (.slice ops opsn opsc)]⟩ H R :=
  callsH_of_den (an := an) (fuel := 100000) (X := go c_0 c_1 c_2 c_3 c_4 ops opsn opsc H R) (c := body) mixed fn (by kernel_rfl) (by kernel_rfl) (by kernel_rfl) ok (by kernel_rfl) h
end F5
/-! ### 11 "(*pub-stadtholder/impl.landlord).open" -/
namespace F11
def an : Ann := { kinds := [], taus := [(1, [[0, 1, 2, 3, 4, 5, 6, 7, 8], [1, 2, 3, 4, 5, 0, 6, 7, 8]]), (2, [[0, 1, 2, 3, 4, 5, 6, 7, 8, 9, 10, 11, 12, 13, 14, 15, 16, 17, 18, 19, 20, 21, 22, 23, 24, 25, 26, 27, 28, 29, 30, 31, 32, 33, 34, 35], [1, 2, 3, 4, 5, 6, 7, 8, 9, 10, 11, 12, 13, 14, 15, 16, 17, 18, 19, 20, 21, 22, 23, 24, 25, 26, 27, 28, 29, 30, 31, 32, 0, 33, 34, 35]])], pairs := [(1, [(0, 5)]), (2, [(0, 32)])], lab := [(10000003, [1]), (10000004, [1])] }
noncomputable def body : Code := (Tryz.f11.body).getD .skip
theorem fn : Tryz.prog.funcs[11]? = some Tryz.f11 := by kernel_rfl
theorem ok : codeOk an 62 body = true := by kernel_rfl
noncomputable def L0t : List Item := [.code (sub [1, 1] body)]
def L0 (x : Nat) (H : Heap) (R : Ending → Heap → Prop) : Prop :=
  GoL Tryz.prog 11 62 L0t [1] [(.pointer (some ⟨x, 0, none⟩))] H R
noncomputable def L1t : List Item := [.code (sub [1, 1, 1] body)]
def L1 (x : Nat) (H : Heap) (R : Ending → Heap → Prop) : Prop :=
  GoL Tryz.prog 11 62 L1t [1] [(.pointer (some ⟨x, 0, none⟩))] H R
def L0n (x : Nat) (H : Heap) (R : Ending → Heap → Prop) : Prop :=
  (
    ldPtr H ⟨x, 0, none⟩ fun p =>
    ldPtr H ⟨x, 0, none⟩ fun p1 =>
    nilD p1 fun a =>
    ldIf H (Addr.add a 6) fun i =>
    ldPtr H ⟨x, 0, none⟩ fun p2 =>
    nilD p2 fun a1 =>
    ldPtr H (Addr.add a1 7) fun p3 =>
    ldPtr H ⟨x, 0, none⟩ fun p4 =>
    nilD p4 fun a2 =>
    ldInt H a2 .i64 fun n =>
    ldPtr H ⟨x, 0, none⟩ fun p5 =>
    nilD p5 fun a3 =>
    ldInt H (Addr.add a3 1) .i64 fun n1 =>
    ldPtr H ⟨x, 0, none⟩ fun p6 =>
    nilD p6 fun a4 =>
    ldInt H (Addr.add a4 2) .i64 fun n2 =>
    ldPtr H ⟨x, 0, none⟩ fun p7 =>
    nilD p7 fun a5 =>
    ldBool H (Addr.add a5 4) fun b =>
    callD Tryz.prog 15 [(IV.v i), (.pointer p3), (.agg ⟨[(.int .i64 n), (.int .i64 (IntKind.wrap .i64 (n1 * (1000000000 : Int)))), (.int .i64 (IntKind.wrap .i64 (n2 * (1000000000 : Int)))), (.bool b), (.int .i64 (0 : Int))]⟩)] H (panK R) fun v H1 =>
    tIf v fun i1 =>
    nilD p fun a6 =>
    guardB (isCell (IV.v i1)) <|
    st1 H1 (Addr.add a6 8) (IV.v i1) fun H2 =>
    L1 x H2 R) ∧
  (
    ldPtr H ⟨x, 0, none⟩ fun p8 =>
    nilD p8 fun a7 =>
    ldIf H (Addr.add a7 6) fun i2 =>
    ldPtr H ⟨x, 0, none⟩ fun p9 =>
    nilD p9 fun a8 =>
    ldPtr H (Addr.add a8 7) fun p10 =>
    ldPtr H ⟨x, 0, none⟩ fun p11 =>
    nilD p11 fun a9 =>
    ldInt H a9 .i64 fun n3 =>
    ldPtr H ⟨x, 0, none⟩ fun p12 =>
    nilD p12 fun a10 =>
    ldInt H (Addr.add a10 1) .i64 fun n4 =>
    ldPtr H ⟨x, 0, none⟩ fun p13 =>
    nilD p13 fun a11 =>
    ldInt H (Addr.add a11 2) .i64 fun n5 =>
    ldPtr H ⟨x, 0, none⟩ fun p14 =>
    nilD p14 fun a12 =>
    ldBool H (Addr.add a12 4) fun b1 =>
    callD Tryz.prog 15 [(IV.v i2), (.pointer p10), (.agg ⟨[(.int .i64 n3), (.int .i64 (IntKind.wrap .i64 (n4 * (1000000000 : Int)))), (.int .i64 (IntKind.wrap .i64 (n5 * (1000000000 : Int)))), (.bool b1), (.int .i64 (0 : Int))]⟩)] H (panK R) fun v1 H3 =>
    tIf v1 fun i3 =>
    ldPtr H3 ⟨x, 0, none⟩ fun p15 =>
    nilD p15 fun a13 =>
    guardB (isCell (IV.v i3)) <|
    st1 H3 (Addr.add a13 8) (IV.v i3) fun H4 =>
    L1 x H4 R)
theorem L0_step {x : Nat} {H : Heap} {R : Ending → Heap → Prop} (h : L0n x H R) : L0 x H R :=
  goL_of_den (an := an) (fuel := 100000) (X := L0n x H R) mixed fn (by kernel_rfl) (fun ρ0 => by kernel_rfl) h
def L1n (x : Nat) (H : Heap) (R : Ending → Heap → Prop) : Prop :=
  ldPtr H ⟨x, 0, none⟩ fun p =>
  nilD p fun a =>
  ldIf H (Addr.add a 8) fun i =>
  callI Tryz.prog (IV.v i) "SetRangeDeleter" [(.func (.func 16) ⟨[]⟩ ⟨[(.pointer (some ⟨x, 0, none⟩))]⟩)] H (panK R) fun v H1 =>
  tTup v fun l =>
  tNil l <|
  ldPtr H1 ⟨x, 0, none⟩ fun p1 =>
  nilD p1 fun a1 =>
  ldBool H1 (Addr.add a1 3) fun b =>
  iteB b (
    ldPtr H1 ⟨x, 0, none⟩ fun p2 =>
    nilD p2 fun a2 =>
    ldIf H1 (Addr.add a2 8) fun i1 =>
    callI Tryz.prog (IV.v i1) "SetCheckpointer" [(.func (.func 17) ⟨[]⟩ ⟨[(.pointer (some ⟨x, 0, none⟩))]⟩)] H1 (panK R) fun v1 H2 =>
    tTup v1 fun l1 =>
    tNil l1 <|
    R (.returned (.tuple ⟨[]⟩)) H2) <|
  R (.returned (.tuple ⟨[]⟩)) H1
theorem L1_step {x : Nat} {H : Heap} {R : Ending → Heap → Prop} (h : L1n x H R) : L1 x H R :=
  goL_of_den (an := an) (fuel := 100000) (X := L1n x H R) mixed fn (by kernel_rfl) (fun ρ0 => by kernel_rfl) h
def go (x : Option Addr) (H : Heap) (R : Ending → Heap → Prop) : Prop :=
  newD H (.cells ⟨[(.pointer x)]⟩ 37) fun r H1 =>
  (
    ldPtr H1 ⟨r, 0, none⟩ fun p =>
    ldPtr H1 ⟨r, 0, none⟩ fun p1 =>
    nilD p1 fun a =>
    ldPtr H1 (Addr.add a 5) fun p2 =>
    callD Tryz.prog 14 [(.pointer p2), (.int .i64 (1000 : Int))] H1 (panK R) fun v H2 =>
    tIf v fun i =>
    nilD p fun a1 =>
    guardB (isCell (IV.v i)) <|
    st1 H2 (Addr.add a1 6) (IV.v i) fun H3 =>
    L0 r H3 R) ∧
  (
    ldPtr H1 ⟨r, 0, none⟩ fun p3 =>
    nilD p3 fun a2 =>
    ldPtr H1 (Addr.add a2 5) fun p4 =>
    callD Tryz.prog 14 [(.pointer p4), (.int .i64 (1000 : Int))] H1 (panK R) fun v1 H4 =>
    tIf v1 fun i1 =>
    ldPtr H4 ⟨r, 0, none⟩ fun p5 =>
    nilD p5 fun a3 =>
    guardB (isCell (IV.v i1)) <|
    st1 H4 (Addr.add a3 6) (IV.v i1) fun H5 =>
    L0 r H5 R)
theorem calls {x : Option Addr} {H : Heap} {R : Ending → Heap → Prop} (h : go x H R) : CallsH Tryz.prog 11 ⟨[(.pointer x)]⟩ H R :=
  callsH_of_den (an := an) (fuel := 100000) (X := go x H R) (c := body) mixed fn (by kernel_rfl) (by kernel_rfl) (by kernel_rfl) ok (by kernel_rfl) h
end F11
/-! ### 12 "(*pub-stadtholder/impl.landlord).do" -/
namespace F12
def an : Ann := { kinds := [(3006, .grow), (3007, .grow), (18007, .grow), (20007, .grow), (29005, .grow), (29007, .grow), (29009, .grow), (29011, .grow), (36009, .grow), (49006, .grow), (62006, .grow), (63006, .grow)], taus := [(3, [[0, 1, 2, 4, 3, 5, 6, 7, 8, 9, 10]]), (9, [[0, 1, 2, 4, 5, 3, 6, 7, 8, 9, 10, 11, 12]]), (18, [[0, 1, 2, 4, 5, 3, 8, 9, 6, 7, 10, 11, 12, 13]]), (20, [[0, 1, 2, 4, 5, 3, 8, 9, 6, 7, 10, 11, 12, 13]]), (24, [[0, 1, 2, 4, 3, 9, 10, 5, 6, 7, 8, 11, 12, 13]]), (29, [[0, 1, 2, 4, 6, 8, 10, 3, 5, 7, 9, 11, 12, 13]]), (36, [[0, 2, 3, 4, 1, 5, 6, 7, 8, 9, 10, 11, 12]]), (47, [[0, 1, 2, 4, 5, 3, 6, 7, 8, 9, 10]]), (49, [[0, 1, 2, 4, 3, 8, 9, 5, 6, 7, 10]]), (53, [[0, 1, 2, 4, 8, 3, 5, 6, 7]]), (59, [[0, 1, 2, 4, 8, 3, 5, 6, 7]]), (62, [[0, 2, 3, 4, 1, 5, 6, 7, 8, 9]]), (63, [[0, 2, 3, 4, 1, 5, 6, 7, 8, 9]])], pairs := [], lab := [(50000061, [4, 5, 275, 276, 277]), (50000055, [4, 5, 254, 255, 256]), (30000048, [0, 3, 4, 5, 6]), (60000035, [4, 5, 10, 11])] }
noncomputable def body : Code := (Tryz.f12.body).getD .skip
theorem fn : Tryz.prog.funcs[12]? = some Tryz.f12 := by kernel_rfl
theorem ok : codeOk an 310 body = true := by kernel_rfl
noncomputable def L0t : List Item := [.code (sub [1, 1, 1, 1, 0, 1, 0, 1, 1, 1, 1, 1, 1, 1, 1, 1, 1, 1, 1, 1, 1, 1, 1, 1, 1, 1, 1, 1, 1, 1, 1, 1, 0, 1, 0, 0] body), .inLoop (sub [1, 1, 1, 1, 0, 1, 0, 1, 1, 1, 1, 1, 1, 1, 1, 1, 1, 1, 1, 1, 1, 1, 1, 1, 1, 1, 1, 1, 1, 1, 1, 1, 0, 1, 0, 0] body), .inBlock 5, .inBlock 0, .code (sub [1, 1, 1, 1, 1] body)]
def L0 (s4 : Nat) (s5 : Nat) (s275 : Option Addr) (s275n : Nat) (s275c : Nat) (s276 : Int) (s277 : Int) (H : Heap) (R : Ending → Heap → Prop) : Prop :=
  GoL Tryz.prog 12 310 L0t [4, 5, 275, 276, 277] [(.pointer (some ⟨s4, 0, none⟩)), (.pointer (some ⟨s5, 0, none⟩)), (.slice s275 s275n s275c), (.int .i64 s276), (.int .i64 s277)] H R
noncomputable def L1t : List Item := [.code (sub [1, 1, 1, 1, 0, 1, 0, 1, 1, 1, 1, 1, 1, 1, 1, 1, 1, 1, 1, 1, 1, 1, 1, 1, 1, 1, 1, 1, 1, 1, 0, 1, 0, 0] body), .inLoop (sub [1, 1, 1, 1, 0, 1, 0, 1, 1, 1, 1, 1, 1, 1, 1, 1, 1, 1, 1, 1, 1, 1, 1, 1, 1, 1, 1, 1, 1, 1, 0, 1, 0, 0] body), .inBlock 3, .inBlock 0, .code (sub [1, 1, 1, 1, 1] body)]
def L1 (s4 : Nat) (s5 : Nat) (s254 : Option Addr) (s254n : Nat) (s254c : Nat) (s255 : Int) (s256 : Int) (H : Heap) (R : Ending → Heap → Prop) : Prop :=
  GoL Tryz.prog 12 310 L1t [4, 5, 254, 255, 256] [(.pointer (some ⟨s4, 0, none⟩)), (.pointer (some ⟨s5, 0, none⟩)), (.slice s254 s254n s254c), (.int .i64 s255), (.int .i64 s256)] H R
noncomputable def L2t : List Item := [.code (sub [1, 1, 1, 1, 0, 1, 0, 1, 1, 1, 1, 1, 1, 1, 1, 1, 1, 1, 1, 1, 1, 1, 1, 1, 0, 1] body), .inBlock 0, .code (sub [1, 1, 1, 1, 1] body)]
def L2 (s0 : Option Addr) (s3 : Nat) (s4 : Nat) (s5 : Nat) (s6 : Int) (H : Heap) (R : Ending → Heap → Prop) : Prop :=
  GoL Tryz.prog 12 310 L2t [0, 3, 4, 5, 6] [(.pointer s0), (.pointer (some ⟨s3, 0, none⟩)), (.pointer (some ⟨s4, 0, none⟩)), (.pointer (some ⟨s5, 0, none⟩)), (.int .i64 s6)] H R
noncomputable def L3t : List Item := [.code (sub [1, 1, 1, 1, 0, 1, 0, 1, 1, 1, 1, 1, 1, 1, 1, 1, 1, 1, 1, 1, 0, 1, 0, 1, 0, 0] body), .inLoop (sub [1, 1, 1, 1, 0, 1, 0, 1, 1, 1, 1, 1, 1, 1, 1, 1, 1, 1, 1, 1, 0, 1, 0, 1, 0, 0] body), .inBlock 1, .code (sub [1, 1, 1, 1, 0, 1, 0, 1, 1, 1, 1, 1, 1, 1, 1, 1, 1, 1, 1, 1, 0, 1, 1] body), .inBlock 0, .code (sub [1, 1, 1, 1, 1] body)]
def L3 (s4 : Nat) (s5 : Nat) (s10 : Option Addr) (s10n : Nat) (s10c : Nat) (s11 : Int) (H : Heap) (R : Ending → Heap → Prop) : Prop :=
  GoL Tryz.prog 12 310 L3t [4, 5, 10, 11] [(.pointer (some ⟨s4, 0, none⟩)), (.pointer (some ⟨s5, 0, none⟩)), (.slice s10 s10n s10c), (.int .i64 s11)] H R
def L0n (s4 : Nat) (s5 : Nat) (s275 : Option Addr) (s275n : Nat) (s275c : Nat) (s276 : Int) (s277 : Int) (H : Heap) (R : Ending → Heap → Prop) : Prop :=
  iteB (decide (s277 < s276)) (
    idxD s275 s275n s277 fun a =>
    ldPtr H (Addr.add a (Int.toNat s277 * 1)) fun p =>
    nilD p fun a1 =>
    ldSl H ⟨s5, 6, none⟩ fun q qn qc =>
    ldInt H a1 .i64 fun n =>
    newD H (.cells ⟨[(.int .i64 n)]⟩ 2) fun r H1 =>
    apD H1 1 8 [(.int .i64 (0 : Int))] 2 q qn qc (some ⟨r, 0, none⟩) 1 fun q1 q1n q1c H2 =>
    st1 H2 ⟨s5, 6, none⟩ (.slice q1 q1n q1c) fun H3 =>
    nilD p fun a2 =>
    ldSl H3 ⟨s5, 7, none⟩ fun q2 q2n q2c =>
    ldInt H3 (Addr.add a2 1) .i64 fun n1 =>
    newD H3 (.cells ⟨[(.int .i64 n1)]⟩ 2) fun r1 H4 =>
    apD H4 1 8 [(.int .i64 (0 : Int))] 2 q2 q2n q2c (some ⟨r1, 0, none⟩) 1 fun q3 q3n q3c H5 =>
    st1 H5 ⟨s5, 7, none⟩ (.slice q3 q3n q3c) fun H6 =>
    L0 s4 s5 s275 s275n s275c s276 (IntKind.wrap .i64 (s277 + (1 : Int))) H6 R) <|
  ldInt H ⟨s5, 0, none⟩ .i64 fun n2 =>
  ldInt H ⟨s5, 1, none⟩ .i64 fun n3 =>
  ldInt H ⟨s5, 2, none⟩ .i64 fun n4 =>
  ldInt H ⟨s5, 3, none⟩ .i64 fun n5 =>
  ldBool H ⟨s5, 4, none⟩ fun b =>
  ldSl H ⟨s5, 5, none⟩ fun q4 q4n q4c =>
  ldSl H ⟨s5, 6, none⟩ fun q5 q5n q5c =>
  ldSl H ⟨s5, 7, none⟩ fun q6 q6n q6c =>
  st1 H ⟨s4, 0, none⟩ (.int .i64 n2) fun H7 =>
  st1 H7 ⟨s4, 1, none⟩ (.int .i64 n3) fun H8 =>
  st1 H8 ⟨s4, 2, none⟩ (.int .i64 n4) fun H9 =>
  st1 H9 ⟨s4, 3, none⟩ (.int .i64 n5) fun H10 =>
  st1 H10 ⟨s4, 4, none⟩ (.bool b) fun H11 =>
  st1 H11 ⟨s4, 5, none⟩ (.slice q4 q4n q4c) fun H12 =>
  st1 H12 ⟨s4, 6, none⟩ (.slice q5 q5n q5c) fun H13 =>
  st1 H13 ⟨s4, 7, none⟩ (.slice q6 q6n q6c) fun H14 =>
  ldInt H14 ⟨s4, 0, none⟩ .i64 fun n6 =>
  ldInt H14 ⟨s4, 1, none⟩ .i64 fun n7 =>
  ldInt H14 ⟨s4, 2, none⟩ .i64 fun n8 =>
  ldInt H14 ⟨s4, 3, none⟩ .i64 fun n9 =>
  ldBool H14 ⟨s4, 4, none⟩ fun b1 =>
  ldSl H14 ⟨s4, 5, none⟩ fun q7 q7n q7c =>
  ldSl H14 ⟨s4, 6, none⟩ fun q8 q8n q8c =>
  ldSl H14 ⟨s4, 7, none⟩ fun q9 q9n q9c =>
  R (.returned (.agg ⟨[(.int .i64 n6), (.int .i64 n7), (.int .i64 n8), (.int .i64 n9), (.bool b1), (.slice q7 q7n q7c), (.slice q8 q8n q8c), (.slice q9 q9n q9c)]⟩)) H14
theorem L0_step {s4 : Nat} {s5 : Nat} {s275 : Option Addr} {s275n : Nat} {s275c : Nat} {s276 : Int} {s277 : Int} {H : Heap} {R : Ending → Heap → Prop} (h : L0n s4 s5 s275 s275n s275c s276 s277 H R) : L0 s4 s5 s275 s275n s275c s276 s277 H R :=
  goL_of_den (an := an) (fuel := 100000) (X := L0n s4 s5 s275 s275n s275c s276 s277 H R) mixed fn (by kernel_rfl) (fun ρ0 => by kernel_rfl) h
def L1n (s4 : Nat) (s5 : Nat) (s254 : Option Addr) (s254n : Nat) (s254c : Nat) (s255 : Int) (s256 : Int) (H : Heap) (R : Ending → Heap → Prop) : Prop :=
  iteB (decide (s256 < s255)) (
    idxD s254 s254n s256 fun a =>
    ldInt H (Addr.add a (Int.toNat s256 * 1)) .i64 fun n =>
    ldSl H ⟨s5, 6, none⟩ fun q qn qc =>
    newD H (.cells ⟨[(.int .i64 n)]⟩ 2) fun r H1 =>
    apD H1 1 8 [(.int .i64 (0 : Int))] 2 q qn qc (some ⟨r, 0, none⟩) 1 fun q1 q1n q1c H2 =>
    st1 H2 ⟨s5, 6, none⟩ (.slice q1 q1n q1c) fun H3 =>
    L1 s4 s5 s254 s254n s254c s255 (IntKind.wrap .i64 (s256 + (1 : Int))) H3 R) <|
  ldInt H ⟨s5, 0, none⟩ .i64 fun n1 =>
  ldInt H ⟨s5, 1, none⟩ .i64 fun n2 =>
  ldInt H ⟨s5, 2, none⟩ .i64 fun n3 =>
  ldInt H ⟨s5, 3, none⟩ .i64 fun n4 =>
  ldBool H ⟨s5, 4, none⟩ fun b =>
  ldSl H ⟨s5, 5, none⟩ fun q2 q2n q2c =>
  ldSl H ⟨s5, 6, none⟩ fun q3 q3n q3c =>
  ldSl H ⟨s5, 7, none⟩ fun q4 q4n q4c =>
  st1 H ⟨s4, 0, none⟩ (.int .i64 n1) fun H4 =>
  st1 H4 ⟨s4, 1, none⟩ (.int .i64 n2) fun H5 =>
  st1 H5 ⟨s4, 2, none⟩ (.int .i64 n3) fun H6 =>
  st1 H6 ⟨s4, 3, none⟩ (.int .i64 n4) fun H7 =>
  st1 H7 ⟨s4, 4, none⟩ (.bool b) fun H8 =>
  st1 H8 ⟨s4, 5, none⟩ (.slice q2 q2n q2c) fun H9 =>
  st1 H9 ⟨s4, 6, none⟩ (.slice q3 q3n q3c) fun H10 =>
  st1 H10 ⟨s4, 7, none⟩ (.slice q4 q4n q4c) fun H11 =>
  ldInt H11 ⟨s4, 0, none⟩ .i64 fun n5 =>
  ldInt H11 ⟨s4, 1, none⟩ .i64 fun n6 =>
  ldInt H11 ⟨s4, 2, none⟩ .i64 fun n7 =>
  ldInt H11 ⟨s4, 3, none⟩ .i64 fun n8 =>
  ldBool H11 ⟨s4, 4, none⟩ fun b1 =>
  ldSl H11 ⟨s4, 5, none⟩ fun q5 q5n q5c =>
  ldSl H11 ⟨s4, 6, none⟩ fun q6 q6n q6c =>
  ldSl H11 ⟨s4, 7, none⟩ fun q7 q7n q7c =>
  R (.returned (.agg ⟨[(.int .i64 n5), (.int .i64 n6), (.int .i64 n7), (.int .i64 n8), (.bool b1), (.slice q5 q5n q5c), (.slice q6 q6n q6c), (.slice q7 q7n q7c)]⟩)) H11
theorem L1_step {s4 : Nat} {s5 : Nat} {s254 : Option Addr} {s254n : Nat} {s254c : Nat} {s255 : Int} {s256 : Int} {H : Heap} {R : Ending → Heap → Prop} (h : L1n s4 s5 s254 s254n s254c s255 s256 H R) : L1 s4 s5 s254 s254n s254c s255 s256 H R :=
  goL_of_den (an := an) (fuel := 100000) (X := L1n s4 s5 s254 s254n s254c s255 s256 H R) mixed fn (by kernel_rfl) (fun ρ0 => by kernel_rfl) h
def L2n (s0 : Option Addr) (s3 : Nat) (s4 : Nat) (s5 : Nat) (s6 : Int) (H : Heap) (R : Ending → Heap → Prop) : Prop :=
  nilD s0 fun a =>
  ldIf H (Addr.add a 8) fun i =>
  ldInt H ⟨s3, 2, none⟩ .i64 fun n =>
  callI Tryz.prog (IV.v i) "Checkpoint" [(.int .i64 s6), (.int .i64 n)] H (panK R) fun v H1 =>
  tIf v fun i1 =>
  callD Tryz.prog 18 [(IV.v i1)] H1 (panK R) fun v1 H2 =>
  tInt v1 .i64 fun n1 =>
  st1 H2 ⟨s5, 0, none⟩ (.int .i64 n1) fun H3 =>
  ldInt H3 ⟨s5, 0, none⟩ .i64 fun n2 =>
  ldInt H3 ⟨s5, 1, none⟩ .i64 fun n3 =>
  ldInt H3 ⟨s5, 2, none⟩ .i64 fun n4 =>
  ldInt H3 ⟨s5, 3, none⟩ .i64 fun n5 =>
  ldBool H3 ⟨s5, 4, none⟩ fun b =>
  ldSl H3 ⟨s5, 5, none⟩ fun q qn qc =>
  ldSl H3 ⟨s5, 6, none⟩ fun q1 q1n q1c =>
  ldSl H3 ⟨s5, 7, none⟩ fun q2 q2n q2c =>
  st1 H3 ⟨s4, 0, none⟩ (.int .i64 n2) fun H4 =>
  st1 H4 ⟨s4, 1, none⟩ (.int .i64 n3) fun H5 =>
  st1 H5 ⟨s4, 2, none⟩ (.int .i64 n4) fun H6 =>
  st1 H6 ⟨s4, 3, none⟩ (.int .i64 n5) fun H7 =>
  st1 H7 ⟨s4, 4, none⟩ (.bool b) fun H8 =>
  st1 H8 ⟨s4, 5, none⟩ (.slice q qn qc) fun H9 =>
  st1 H9 ⟨s4, 6, none⟩ (.slice q1 q1n q1c) fun H10 =>
  st1 H10 ⟨s4, 7, none⟩ (.slice q2 q2n q2c) fun H11 =>
  ldInt H11 ⟨s4, 0, none⟩ .i64 fun n6 =>
  ldInt H11 ⟨s4, 1, none⟩ .i64 fun n7 =>
  ldInt H11 ⟨s4, 2, none⟩ .i64 fun n8 =>
  ldInt H11 ⟨s4, 3, none⟩ .i64 fun n9 =>
  ldBool H11 ⟨s4, 4, none⟩ fun b1 =>
  ldSl H11 ⟨s4, 5, none⟩ fun q3 q3n q3c =>
  ldSl H11 ⟨s4, 6, none⟩ fun q4 q4n q4c =>
  ldSl H11 ⟨s4, 7, none⟩ fun q5 q5n q5c =>
  R (.returned (.agg ⟨[(.int .i64 n6), (.int .i64 n7), (.int .i64 n8), (.int .i64 n9), (.bool b1), (.slice q3 q3n q3c), (.slice q4 q4n q4c), (.slice q5 q5n q5c)]⟩)) H11
theorem L2_step {s0 : Option Addr} {s3 : Nat} {s4 : Nat} {s5 : Nat} {s6 : Int} {H : Heap} {R : Ending → Heap → Prop} (h : L2n s0 s3 s4 s5 s6 H R) : L2 s0 s3 s4 s5 s6 H R :=
  goL_of_den (an := an) (fuel := 100000) (X := L2n s0 s3 s4 s5 s6 H R) mixed fn (by kernel_rfl) (fun ρ0 => by kernel_rfl) h
def L3n (s4 : Nat) (s5 : Nat) (s10 : Option Addr) (s10n : Nat) (s10c : Nat) (s11 : Int) (H : Heap) (R : Ending → Heap → Prop) : Prop :=
  iteB (decide (s11 < ((s10n : Nat) : Int))) (
    idxD s10 s10n s11 fun a =>
    ldSl H ⟨s5, 6, none⟩ fun q qn qc =>
    ldPtr H (Addr.add a (Int.toNat s11 * 1)) fun p =>
    nilD p fun a1 =>
    ldInt H a1 .i64 fun n =>
    newD H (.cells ⟨[(.int .i64 n)]⟩ 2) fun r H1 =>
    apD H1 1 8 [(.int .i64 (0 : Int))] 2 q qn qc (some ⟨r, 0, none⟩) 1 fun q1 q1n q1c H2 =>
    st1 H2 ⟨s5, 6, none⟩ (.slice q1 q1n q1c) fun H3 =>
    L3 s4 s5 s10 s10n s10c (IntKind.wrap .i64 (s11 + (1 : Int))) H3 R) <|
  ldSl H ⟨s5, 6, none⟩ fun q2 q2n q2c =>
  callD Tryz.prog 25 [(.slice q2 q2n q2c)] H (panK R) fun v H4 =>
  tTup v fun l =>
  tNil l <|
  ldInt H4 ⟨s5, 0, none⟩ .i64 fun n1 =>
  ldInt H4 ⟨s5, 1, none⟩ .i64 fun n2 =>
  ldInt H4 ⟨s5, 2, none⟩ .i64 fun n3 =>
  ldInt H4 ⟨s5, 3, none⟩ .i64 fun n4 =>
  ldBool H4 ⟨s5, 4, none⟩ fun b =>
  ldSl H4 ⟨s5, 5, none⟩ fun q3 q3n q3c =>
  ldSl H4 ⟨s5, 6, none⟩ fun q4 q4n q4c =>
  ldSl H4 ⟨s5, 7, none⟩ fun q5 q5n q5c =>
  st1 H4 ⟨s4, 0, none⟩ (.int .i64 n1) fun H5 =>
  st1 H5 ⟨s4, 1, none⟩ (.int .i64 n2) fun H6 =>
  st1 H6 ⟨s4, 2, none⟩ (.int .i64 n3) fun H7 =>
  st1 H7 ⟨s4, 3, none⟩ (.int .i64 n4) fun H8 =>
  st1 H8 ⟨s4, 4, none⟩ (.bool b) fun H9 =>
  st1 H9 ⟨s4, 5, none⟩ (.slice q3 q3n q3c) fun H10 =>
  st1 H10 ⟨s4, 6, none⟩ (.slice q4 q4n q4c) fun H11 =>
  st1 H11 ⟨s4, 7, none⟩ (.slice q5 q5n q5c) fun H12 =>
  ldInt H12 ⟨s4, 0, none⟩ .i64 fun n5 =>
  ldInt H12 ⟨s4, 1, none⟩ .i64 fun n6 =>
  ldInt H12 ⟨s4, 2, none⟩ .i64 fun n7 =>
  ldInt H12 ⟨s4, 3, none⟩ .i64 fun n8 =>
  ldBool H12 ⟨s4, 4, none⟩ fun b1 =>
  ldSl H12 ⟨s4, 5, none⟩ fun q6 q6n q6c =>
  ldSl H12 ⟨s4, 6, none⟩ fun q7 q7n q7c =>
  ldSl H12 ⟨s4, 7, none⟩ fun q8 q8n q8c =>
  R (.returned (.agg ⟨[(.int .i64 n5), (.int .i64 n6), (.int .i64 n7), (.int .i64 n8), (.bool b1), (.slice q6 q6n q6c), (.slice q7 q7n q7c), (.slice q8 q8n q8c)]⟩)) H12
theorem L3_step {s4 : Nat} {s5 : Nat} {s10 : Option Addr} {s10n : Nat} {s10c : Nat} {s11 : Int} {H : Heap} {R : Ending → Heap → Prop} (h : L3n s4 s5 s10 s10n s10c s11 H R) : L3 s4 s5 s10 s10n s10c s11 H R :=
  goL_of_den (an := an) (fuel := 100000) (X := L3n s4 s5 s10 s10n s10c s11 H R) mixed fn (by kernel_rfl) (fun ρ0 => by kernel_rfl) h
def go (s0 : Option Addr) (s1_0 : Int) (s1_1 : Int) (s1_2 : Int) (s1_3 : Option Addr) (s1_3n : Nat) (s1_3c : Nat) (s1_4 : Int) (H : Heap) (R : Ending → Heap → Prop) : Prop :=
  newD H (.cells ⟨[(.int .i64 s1_0), (.int .i64 s1_1), (.int .i64 s1_2), (.slice s1_3 s1_3n s1_3c), (.int .i64 s1_4)]⟩ 28) fun r H1 =>
  newD H1 (.cells ⟨[(.int .i64 (0 : Int)), (.int .i64 (0 : Int)), (.int .i64 (0 : Int)), (.int .i64 (0 : Int)), (.bool false), (.slice none 0 0), (.slice none 0 0), (.slice none 0 0)]⟩ 32) fun r1 H2 =>
  newD H2 (.cells ⟨[(.int .i64 (0 : Int)), (.int .i64 (0 : Int)), (.int .i64 (0 : Int)), (.int .i64 (0 : Int)), (.bool false), (.slice none 0 0), (.slice none 0 0), (.slice none 0 0)]⟩ 32) fun r2 H3 =>
  st1 H3 ⟨r2, 0, none⟩ (.int .i64 (0 : Int)) fun H4 =>
  st1 H4 ⟨r2, 1, none⟩ (.int .i64 (0 : Int)) fun H5 =>
  st1 H5 ⟨r2, 2, none⟩ (.int .i64 (0 : Int)) fun H6 =>
  st1 H6 ⟨r2, 3, none⟩ (.int .i64 (0 : Int)) fun H7 =>
  st1 H7 ⟨r2, 4, none⟩ (.bool false) fun H8 =>
  st1 H8 ⟨r2, 5, none⟩ (.slice none 0 0) fun H9 =>
  st1 H9 ⟨r2, 6, none⟩ (.slice none 0 0) fun H10 =>
  st1 H10 ⟨r2, 7, none⟩ (.slice none 0 0) fun H11 =>
  ldInt H11 ⟨r, 1, none⟩ .i64 fun n =>
  nilD s0 fun a =>
  ldPtr H11 (Addr.add a 7) fun p =>
  ldInt H11 ⟨r, 4, none⟩ .i64 fun n1 =>
  callD Tryz.prog 8 [(.int .i64 n1), (.int .i64 (0 : Int)), (.int .i64 (2305843009213693952 : Int))] H11 nope fun v H12 =>
  tInt v .i64 fun n2 =>
  andD (ExtH H11 H12) <|
  callD Tryz.prog 10 [(.int .i64 n2)] H12 nope fun v1 H13 =>
  tAgg v1 fun l =>
  tCons l fun c l1 =>
  tInt c .i64 fun n3 =>
  tCons l1 fun c1 l2 =>
  tInt c1 .i64 fun n4 =>
  tCons l2 fun c2 l3 =>
  tBool c2 fun b =>
  tNil l3 <|
  andD (ExtH H12 H13) <|
  nilD p fun a1 =>
  st1 H13 a1 (.int .i64 n3) fun H14 =>
  st1 H14 (Addr.add a1 1) (.int .i64 n4) fun H15 =>
  st1 H15 (Addr.add a1 2) (.bool b) fun H16 =>
  ldInt H16 ⟨r, 0, none⟩ .i64 fun n5 =>
  iteB (n5 == (1 : Int)) (
    ldInt H16 ⟨r, 2, none⟩ .i64 fun n6 =>
    iteB (decide (n6 < (-9000000000 : Int))) (
      st1 H16 ⟨r2, 0, none⟩ (.int .i64 (11 : Int)) fun H17 =>
      ldInt H17 ⟨r2, 0, none⟩ .i64 fun n7 =>
      ldInt H17 ⟨r2, 1, none⟩ .i64 fun n8 =>
      ldInt H17 ⟨r2, 2, none⟩ .i64 fun n9 =>
      ldInt H17 ⟨r2, 3, none⟩ .i64 fun n10 =>
      ldBool H17 ⟨r2, 4, none⟩ fun b1 =>
      ldSl H17 ⟨r2, 5, none⟩ fun q qn qc =>
      ldSl H17 ⟨r2, 6, none⟩ fun q1 q1n q1c =>
      ldSl H17 ⟨r2, 7, none⟩ fun q2 q2n q2c =>
      st1 H17 ⟨r1, 0, none⟩ (.int .i64 n7) fun H18 =>
      st1 H18 ⟨r1, 1, none⟩ (.int .i64 n8) fun H19 =>
      st1 H19 ⟨r1, 2, none⟩ (.int .i64 n9) fun H20 =>
      st1 H20 ⟨r1, 3, none⟩ (.int .i64 n10) fun H21 =>
      st1 H21 ⟨r1, 4, none⟩ (.bool b1) fun H22 =>
      st1 H22 ⟨r1, 5, none⟩ (.slice q qn qc) fun H23 =>
      st1 H23 ⟨r1, 6, none⟩ (.slice q1 q1n q1c) fun H24 =>
      st1 H24 ⟨r1, 7, none⟩ (.slice q2 q2n q2c) fun H25 =>
      ldInt H25 ⟨r1, 0, none⟩ .i64 fun n11 =>
      ldInt H25 ⟨r1, 1, none⟩ .i64 fun n12 =>
      ldInt H25 ⟨r1, 2, none⟩ .i64 fun n13 =>
      ldInt H25 ⟨r1, 3, none⟩ .i64 fun n14 =>
      ldBool H25 ⟨r1, 4, none⟩ fun b2 =>
      ldSl H25 ⟨r1, 5, none⟩ fun q3 q3n q3c =>
      ldSl H25 ⟨r1, 6, none⟩ fun q4 q4n q4c =>
      ldSl H25 ⟨r1, 7, none⟩ fun q5 q5n q5c =>
      R (.returned (.agg ⟨[(.int .i64 n11), (.int .i64 n12), (.int .i64 n13), (.int .i64 n14), (.bool b2), (.slice q3 q3n q3c), (.slice q4 q4n q4c), (.slice q5 q5n q5c)]⟩)) H25) <|
    nilD s0 fun a2 =>
    ldIf H16 (Addr.add a2 8) fun i =>
    ldInt H16 ⟨r, 2, none⟩ .i64 fun n15 =>
    callI Tryz.prog (IV.v i) "Grant" [(.int .i64 n), (.int .i64 n15)] H16 (panK R) fun v2 H26 =>
    tTup v2 fun l4 =>
    tCons l4 fun c3 l5 =>
    tPtr c3 fun p1 =>
    tCons l5 fun c4 l6 =>
    tIf c4 fun i1 =>
    tNil l6 <|
    callD Tryz.prog 18 [(IV.v i1)] H26 (panK R) fun v3 H27 =>
    tInt v3 .i64 fun n16 =>
    st1 H27 ⟨r2, 0, none⟩ (.int .i64 n16) fun H28 =>
    ifNilD (IV.v i1) fun b3 =>
    iteB b3 (
      callD Tryz.prog 19 [(.pointer p1)] H28 (panK R) fun v4 H29 =>
      tInt v4 .i64 fun n17 =>
      st1 H29 ⟨r2, 2, none⟩ (.int .i64 n17) fun H30 =>
      ldInt H30 ⟨r2, 0, none⟩ .i64 fun n18 =>
      ldInt H30 ⟨r2, 1, none⟩ .i64 fun n19 =>
      ldInt H30 ⟨r2, 2, none⟩ .i64 fun n20 =>
      ldInt H30 ⟨r2, 3, none⟩ .i64 fun n21 =>
      ldBool H30 ⟨r2, 4, none⟩ fun b4 =>
      ldSl H30 ⟨r2, 5, none⟩ fun q6 q6n q6c =>
      ldSl H30 ⟨r2, 6, none⟩ fun q7 q7n q7c =>
      ldSl H30 ⟨r2, 7, none⟩ fun q8 q8n q8c =>
      st1 H30 ⟨r1, 0, none⟩ (.int .i64 n18) fun H31 =>
      st1 H31 ⟨r1, 1, none⟩ (.int .i64 n19) fun H32 =>
      st1 H32 ⟨r1, 2, none⟩ (.int .i64 n20) fun H33 =>
      st1 H33 ⟨r1, 3, none⟩ (.int .i64 n21) fun H34 =>
      st1 H34 ⟨r1, 4, none⟩ (.bool b4) fun H35 =>
      st1 H35 ⟨r1, 5, none⟩ (.slice q6 q6n q6c) fun H36 =>
      st1 H36 ⟨r1, 6, none⟩ (.slice q7 q7n q7c) fun H37 =>
      st1 H37 ⟨r1, 7, none⟩ (.slice q8 q8n q8c) fun H38 =>
      ldInt H38 ⟨r1, 0, none⟩ .i64 fun n22 =>
      ldInt H38 ⟨r1, 1, none⟩ .i64 fun n23 =>
      ldInt H38 ⟨r1, 2, none⟩ .i64 fun n24 =>
      ldInt H38 ⟨r1, 3, none⟩ .i64 fun n25 =>
      ldBool H38 ⟨r1, 4, none⟩ fun b5 =>
      ldSl H38 ⟨r1, 5, none⟩ fun q9 q9n q9c =>
      ldSl H38 ⟨r1, 6, none⟩ fun q10 q10n q10c =>
      ldSl H38 ⟨r1, 7, none⟩ fun q11 q11n q11c =>
      R (.returned (.agg ⟨[(.int .i64 n22), (.int .i64 n23), (.int .i64 n24), (.int .i64 n25), (.bool b5), (.slice q9 q9n q9c), (.slice q10 q10n q10c), (.slice q11 q11n q11c)]⟩)) H38) <|
    ldInt H28 ⟨r2, 0, none⟩ .i64 fun n26 =>
    ldInt H28 ⟨r2, 1, none⟩ .i64 fun n27 =>
    ldInt H28 ⟨r2, 2, none⟩ .i64 fun n28 =>
    ldInt H28 ⟨r2, 3, none⟩ .i64 fun n29 =>
    ldBool H28 ⟨r2, 4, none⟩ fun b6 =>
    ldSl H28 ⟨r2, 5, none⟩ fun q12 q12n q12c =>
    ldSl H28 ⟨r2, 6, none⟩ fun q13 q13n q13c =>
    ldSl H28 ⟨r2, 7, none⟩ fun q14 q14n q14c =>
    st1 H28 ⟨r1, 0, none⟩ (.int .i64 n26) fun H39 =>
    st1 H39 ⟨r1, 1, none⟩ (.int .i64 n27) fun H40 =>
    st1 H40 ⟨r1, 2, none⟩ (.int .i64 n28) fun H41 =>
    st1 H41 ⟨r1, 3, none⟩ (.int .i64 n29) fun H42 =>
    st1 H42 ⟨r1, 4, none⟩ (.bool b6) fun H43 =>
    st1 H43 ⟨r1, 5, none⟩ (.slice q12 q12n q12c) fun H44 =>
    st1 H44 ⟨r1, 6, none⟩ (.slice q13 q13n q13c) fun H45 =>
    st1 H45 ⟨r1, 7, none⟩ (.slice q14 q14n q14c) fun H46 =>
    ldInt H46 ⟨r1, 0, none⟩ .i64 fun n30 =>
    ldInt H46 ⟨r1, 1, none⟩ .i64 fun n31 =>
    ldInt H46 ⟨r1, 2, none⟩ .i64 fun n32 =>
    ldInt H46 ⟨r1, 3, none⟩ .i64 fun n33 =>
    ldBool H46 ⟨r1, 4, none⟩ fun b7 =>
    ldSl H46 ⟨r1, 5, none⟩ fun q15 q15n q15c =>
    ldSl H46 ⟨r1, 6, none⟩ fun q16 q16n q16c =>
    ldSl H46 ⟨r1, 7, none⟩ fun q17 q17n q17c =>
    R (.returned (.agg ⟨[(.int .i64 n30), (.int .i64 n31), (.int .i64 n32), (.int .i64 n33), (.bool b7), (.slice q15 q15n q15c), (.slice q16 q16n q16c), (.slice q17 q17n q17c)]⟩)) H46) <|
  iteB (n5 == (2 : Int)) (
    nilD s0 fun a3 =>
    st1 H16 (Addr.add a3 9) (.slice none 0 0) fun H47 =>
    nilD s0 fun a4 =>
    ldIf H47 (Addr.add a4 8) fun i2 =>
    callI Tryz.prog (IV.v i2) "Revoke" [(.int .i64 n)] H47 (panK R) fun v5 H48 =>
    tIf v5 fun i3 =>
    callD Tryz.prog 18 [(IV.v i3)] H48 (panK R) fun v6 H49 =>
    tInt v6 .i64 fun n34 =>
    st1 H49 ⟨r2, 0, none⟩ (.int .i64 n34) fun H50 =>
    nilD s0 fun a5 =>
    ldSl H50 (Addr.add a5 9) fun q18 q18n q18c =>
    st1 H50 ⟨r2, 5, none⟩ (.slice q18 q18n q18c) fun H51 =>
    ldInt H51 ⟨r2, 0, none⟩ .i64 fun n35 =>
    ldInt H51 ⟨r2, 1, none⟩ .i64 fun n36 =>
    ldInt H51 ⟨r2, 2, none⟩ .i64 fun n37 =>
    ldInt H51 ⟨r2, 3, none⟩ .i64 fun n38 =>
    ldBool H51 ⟨r2, 4, none⟩ fun b8 =>
    ldSl H51 ⟨r2, 5, none⟩ fun q19 q19n q19c =>
    ldSl H51 ⟨r2, 6, none⟩ fun q20 q20n q20c =>
    ldSl H51 ⟨r2, 7, none⟩ fun q21 q21n q21c =>
    st1 H51 ⟨r1, 0, none⟩ (.int .i64 n35) fun H52 =>
    st1 H52 ⟨r1, 1, none⟩ (.int .i64 n36) fun H53 =>
    st1 H53 ⟨r1, 2, none⟩ (.int .i64 n37) fun H54 =>
    st1 H54 ⟨r1, 3, none⟩ (.int .i64 n38) fun H55 =>
    st1 H55 ⟨r1, 4, none⟩ (.bool b8) fun H56 =>
    st1 H56 ⟨r1, 5, none⟩ (.slice q19 q19n q19c) fun H57 =>
    st1 H57 ⟨r1, 6, none⟩ (.slice q20 q20n q20c) fun H58 =>
    st1 H58 ⟨r1, 7, none⟩ (.slice q21 q21n q21c) fun H59 =>
    ldInt H59 ⟨r1, 0, none⟩ .i64 fun n39 =>
    ldInt H59 ⟨r1, 1, none⟩ .i64 fun n40 =>
    ldInt H59 ⟨r1, 2, none⟩ .i64 fun n41 =>
    ldInt H59 ⟨r1, 3, none⟩ .i64 fun n42 =>
    ldBool H59 ⟨r1, 4, none⟩ fun b9 =>
    ldSl H59 ⟨r1, 5, none⟩ fun q22 q22n q22c =>
    ldSl H59 ⟨r1, 6, none⟩ fun q23 q23n q23c =>
    ldSl H59 ⟨r1, 7, none⟩ fun q24 q24n q24c =>
    R (.returned (.agg ⟨[(.int .i64 n39), (.int .i64 n40), (.int .i64 n41), (.int .i64 n42), (.bool b9), (.slice q22 q22n q22c), (.slice q23 q23n q23c), (.slice q24 q24n q24c)]⟩)) H59) <|
  iteB (n5 == (3 : Int)) (
    nilD s0 fun a6 =>
    ldIf H16 (Addr.add a6 8) fun i4 =>
    nilV Tryz.prog (IV.v i4) fun v7 =>
    ldSl H16 ⟨r, 3, none⟩ fun q25 q25n q25c =>
    callD Tryz.prog 20 [(.slice q25 q25n q25c)] H16 nope fun v8 H60 =>
    tSl v8 fun q26 q26n q26c =>
    andD (ExtH H16 H60) <|
    callI Tryz.prog (IV.v i4) "Attach" [(.int .i64 n), (.slice q26 q26n q26c)] H60 (panK R) fun v9 H61 =>
    tIf v9 fun i5 =>
    callD Tryz.prog 18 [(IV.v i5)] H61 (panK R) fun v10 H62 =>
    tInt v10 .i64 fun n43 =>
    st1 H62 ⟨r2, 0, none⟩ (.int .i64 n43) fun H63 =>
    ldInt H63 ⟨r2, 0, none⟩ .i64 fun n44 =>
    ldInt H63 ⟨r2, 1, none⟩ .i64 fun n45 =>
    ldInt H63 ⟨r2, 2, none⟩ .i64 fun n46 =>
    ldInt H63 ⟨r2, 3, none⟩ .i64 fun n47 =>
    ldBool H63 ⟨r2, 4, none⟩ fun b10 =>
    ldSl H63 ⟨r2, 5, none⟩ fun q27 q27n q27c =>
    ldSl H63 ⟨r2, 6, none⟩ fun q28 q28n q28c =>
    ldSl H63 ⟨r2, 7, none⟩ fun q29 q29n q29c =>
    st1 H63 ⟨r1, 0, none⟩ (.int .i64 n44) fun H64 =>
    st1 H64 ⟨r1, 1, none⟩ (.int .i64 n45) fun H65 =>
    st1 H65 ⟨r1, 2, none⟩ (.int .i64 n46) fun H66 =>
    st1 H66 ⟨r1, 3, none⟩ (.int .i64 n47) fun H67 =>
    st1 H67 ⟨r1, 4, none⟩ (.bool b10) fun H68 =>
    st1 H68 ⟨r1, 5, none⟩ (.slice q27 q27n q27c) fun H69 =>
    st1 H69 ⟨r1, 6, none⟩ (.slice q28 q28n q28c) fun H70 =>
    st1 H70 ⟨r1, 7, none⟩ (.slice q29 q29n q29c) fun H71 =>
    ldInt H71 ⟨r1, 0, none⟩ .i64 fun n48 =>
    ldInt H71 ⟨r1, 1, none⟩ .i64 fun n49 =>
    ldInt H71 ⟨r1, 2, none⟩ .i64 fun n50 =>
    ldInt H71 ⟨r1, 3, none⟩ .i64 fun n51 =>
    ldBool H71 ⟨r1, 4, none⟩ fun b11 =>
    ldSl H71 ⟨r1, 5, none⟩ fun q30 q30n q30c =>
    ldSl H71 ⟨r1, 6, none⟩ fun q31 q31n q31c =>
    ldSl H71 ⟨r1, 7, none⟩ fun q32 q32n q32c =>
    R (.returned (.agg ⟨[(.int .i64 n48), (.int .i64 n49), (.int .i64 n50), (.int .i64 n51), (.bool b11), (.slice q30 q30n q30c), (.slice q31 q31n q31c), (.slice q32 q32n q32c)]⟩)) H71) <|
  iteB (n5 == (4 : Int)) (
    nilD s0 fun a7 =>
    ldIf H16 (Addr.add a7 8) fun i6 =>
    nilV Tryz.prog (IV.v i6) fun v11 =>
    ldSl H16 ⟨r, 3, none⟩ fun q33 q33n q33c =>
    callD Tryz.prog 20 [(.slice q33 q33n q33c)] H16 nope fun v12 H72 =>
    tSl v12 fun q34 q34n q34c =>
    andD (ExtH H16 H72) <|
    callI Tryz.prog (IV.v i6) "Detach" [(.int .i64 n), (.slice q34 q34n q34c)] H72 (panK R) fun v13 H73 =>
    tIf v13 fun i7 =>
    callD Tryz.prog 18 [(IV.v i7)] H73 (panK R) fun v14 H74 =>
    tInt v14 .i64 fun n52 =>
    st1 H74 ⟨r2, 0, none⟩ (.int .i64 n52) fun H75 =>
    ldInt H75 ⟨r2, 0, none⟩ .i64 fun n53 =>
    ldInt H75 ⟨r2, 1, none⟩ .i64 fun n54 =>
    ldInt H75 ⟨r2, 2, none⟩ .i64 fun n55 =>
    ldInt H75 ⟨r2, 3, none⟩ .i64 fun n56 =>
    ldBool H75 ⟨r2, 4, none⟩ fun b12 =>
    ldSl H75 ⟨r2, 5, none⟩ fun q35 q35n q35c =>
    ldSl H75 ⟨r2, 6, none⟩ fun q36 q36n q36c =>
    ldSl H75 ⟨r2, 7, none⟩ fun q37 q37n q37c =>
    st1 H75 ⟨r1, 0, none⟩ (.int .i64 n53) fun H76 =>
    st1 H76 ⟨r1, 1, none⟩ (.int .i64 n54) fun H77 =>
    st1 H77 ⟨r1, 2, none⟩ (.int .i64 n55) fun H78 =>
    st1 H78 ⟨r1, 3, none⟩ (.int .i64 n56) fun H79 =>
    st1 H79 ⟨r1, 4, none⟩ (.bool b12) fun H80 =>
    st1 H80 ⟨r1, 5, none⟩ (.slice q35 q35n q35c) fun H81 =>
    st1 H81 ⟨r1, 6, none⟩ (.slice q36 q36n q36c) fun H82 =>
    st1 H82 ⟨r1, 7, none⟩ (.slice q37 q37n q37c) fun H83 =>
    ldInt H83 ⟨r1, 0, none⟩ .i64 fun n57 =>
    ldInt H83 ⟨r1, 1, none⟩ .i64 fun n58 =>
    ldInt H83 ⟨r1, 2, none⟩ .i64 fun n59 =>
    ldInt H83 ⟨r1, 3, none⟩ .i64 fun n60 =>
    ldBool H83 ⟨r1, 4, none⟩ fun b13 =>
    ldSl H83 ⟨r1, 5, none⟩ fun q38 q38n q38c =>
    ldSl H83 ⟨r1, 6, none⟩ fun q39 q39n q39c =>
    ldSl H83 ⟨r1, 7, none⟩ fun q40 q40n q40c =>
    R (.returned (.agg ⟨[(.int .i64 n57), (.int .i64 n58), (.int .i64 n59), (.int .i64 n60), (.bool b13), (.slice q38 q38n q38c), (.slice q39 q39n q39c), (.slice q40 q40n q40c)]⟩)) H83) <|
  iteB (n5 == (5 : Int)) (
    ldSl H16 ⟨r, 3, none⟩ fun q41 q41n q41c =>
    iteB (((q41n : Nat) : Int) == (0 : Int)) (
      st1 H16 ⟨r2, 0, none⟩ (.int .i64 (11 : Int)) fun H84 =>
      ldInt H84 ⟨r2, 0, none⟩ .i64 fun n61 =>
      ldInt H84 ⟨r2, 1, none⟩ .i64 fun n62 =>
      ldInt H84 ⟨r2, 2, none⟩ .i64 fun n63 =>
      ldInt H84 ⟨r2, 3, none⟩ .i64 fun n64 =>
      ldBool H84 ⟨r2, 4, none⟩ fun b14 =>
      ldSl H84 ⟨r2, 5, none⟩ fun q42 q42n q42c =>
      ldSl H84 ⟨r2, 6, none⟩ fun q43 q43n q43c =>
      ldSl H84 ⟨r2, 7, none⟩ fun q44 q44n q44c =>
      st1 H84 ⟨r1, 0, none⟩ (.int .i64 n61) fun H85 =>
      st1 H85 ⟨r1, 1, none⟩ (.int .i64 n62) fun H86 =>
      st1 H86 ⟨r1, 2, none⟩ (.int .i64 n63) fun H87 =>
      st1 H87 ⟨r1, 3, none⟩ (.int .i64 n64) fun H88 =>
      st1 H88 ⟨r1, 4, none⟩ (.bool b14) fun H89 =>
      st1 H89 ⟨r1, 5, none⟩ (.slice q42 q42n q42c) fun H90 =>
      st1 H90 ⟨r1, 6, none⟩ (.slice q43 q43n q43c) fun H91 =>
      st1 H91 ⟨r1, 7, none⟩ (.slice q44 q44n q44c) fun H92 =>
      ldInt H92 ⟨r1, 0, none⟩ .i64 fun n65 =>
      ldInt H92 ⟨r1, 1, none⟩ .i64 fun n66 =>
      ldInt H92 ⟨r1, 2, none⟩ .i64 fun n67 =>
      ldInt H92 ⟨r1, 3, none⟩ .i64 fun n68 =>
      ldBool H92 ⟨r1, 4, none⟩ fun b15 =>
      ldSl H92 ⟨r1, 5, none⟩ fun q45 q45n q45c =>
      ldSl H92 ⟨r1, 6, none⟩ fun q46 q46n q46c =>
      ldSl H92 ⟨r1, 7, none⟩ fun q47 q47n q47c =>
      R (.returned (.agg ⟨[(.int .i64 n65), (.int .i64 n66), (.int .i64 n67), (.int .i64 n68), (.bool b15), (.slice q45 q45n q45c), (.slice q46 q46n q46c), (.slice q47 q47n q47c)]⟩)) H92) <|
    nilD s0 fun a8 =>
    ldIf H16 (Addr.add a8 8) fun i8 =>
    nilV Tryz.prog (IV.v i8) fun v15 =>
    ldSl H16 ⟨r, 3, none⟩ fun q48 q48n q48c =>
    idxD q48 q48n (0 : Int) fun a9 =>
    ldStr H16 (Addr.add a9 (Int.toNat (0 : Int) * 1)) fun s =>
    callI Tryz.prog (IV.v i8) "GetLease" [(.agg ⟨[(.string s)]⟩)] H16 (panK R) fun v16 H93 =>
    tInt v16 .i64 fun n69 =>
    st1 H93 ⟨r2, 1, none⟩ (.int .i64 n69) fun H94 =>
    ldInt H94 ⟨r2, 0, none⟩ .i64 fun n70 =>
    ldInt H94 ⟨r2, 1, none⟩ .i64 fun n71 =>
    ldInt H94 ⟨r2, 2, none⟩ .i64 fun n72 =>
    ldInt H94 ⟨r2, 3, none⟩ .i64 fun n73 =>
    ldBool H94 ⟨r2, 4, none⟩ fun b16 =>
    ldSl H94 ⟨r2, 5, none⟩ fun q49 q49n q49c =>
    ldSl H94 ⟨r2, 6, none⟩ fun q50 q50n q50c =>
    ldSl H94 ⟨r2, 7, none⟩ fun q51 q51n q51c =>
    st1 H94 ⟨r1, 0, none⟩ (.int .i64 n70) fun H95 =>
    st1 H95 ⟨r1, 1, none⟩ (.int .i64 n71) fun H96 =>
    st1 H96 ⟨r1, 2, none⟩ (.int .i64 n72) fun H97 =>
    st1 H97 ⟨r1, 3, none⟩ (.int .i64 n73) fun H98 =>
    st1 H98 ⟨r1, 4, none⟩ (.bool b16) fun H99 =>
    st1 H99 ⟨r1, 5, none⟩ (.slice q49 q49n q49c) fun H100 =>
    st1 H100 ⟨r1, 6, none⟩ (.slice q50 q50n q50c) fun H101 =>
    st1 H101 ⟨r1, 7, none⟩ (.slice q51 q51n q51c) fun H102 =>
    ldInt H102 ⟨r1, 0, none⟩ .i64 fun n74 =>
    ldInt H102 ⟨r1, 1, none⟩ .i64 fun n75 =>
    ldInt H102 ⟨r1, 2, none⟩ .i64 fun n76 =>
    ldInt H102 ⟨r1, 3, none⟩ .i64 fun n77 =>
    ldBool H102 ⟨r1, 4, none⟩ fun b17 =>
    ldSl H102 ⟨r1, 5, none⟩ fun q52 q52n q52c =>
    ldSl H102 ⟨r1, 6, none⟩ fun q53 q53n q53c =>
    ldSl H102 ⟨r1, 7, none⟩ fun q54 q54n q54c =>
    R (.returned (.agg ⟨[(.int .i64 n74), (.int .i64 n75), (.int .i64 n76), (.int .i64 n77), (.bool b17), (.slice q52 q52n q52c), (.slice q53 q53n q53c), (.slice q54 q54n q54c)]⟩)) H102) <|
  iteB (n5 == (6 : Int)) (
    nilD s0 fun a10 =>
    ldIf H16 (Addr.add a10 8) fun i9 =>
    callI Tryz.prog (IV.v i9) "Lookup" [(.int .i64 n)] H16 (panK R) fun v17 H103 =>
    tPtr v17 fun p2 =>
    iteB (Option.isNone p2) (
      st1 H103 ⟨r2, 0, none⟩ (.int .i64 (3 : Int)) fun H104 =>
      ldInt H104 ⟨r2, 0, none⟩ .i64 fun n78 =>
      ldInt H104 ⟨r2, 1, none⟩ .i64 fun n79 =>
      ldInt H104 ⟨r2, 2, none⟩ .i64 fun n80 =>
      ldInt H104 ⟨r2, 3, none⟩ .i64 fun n81 =>
      ldBool H104 ⟨r2, 4, none⟩ fun b18 =>
      ldSl H104 ⟨r2, 5, none⟩ fun q55 q55n q55c =>
      ldSl H104 ⟨r2, 6, none⟩ fun q56 q56n q56c =>
      ldSl H104 ⟨r2, 7, none⟩ fun q57 q57n q57c =>
      st1 H104 ⟨r1, 0, none⟩ (.int .i64 n78) fun H105 =>
      st1 H105 ⟨r1, 1, none⟩ (.int .i64 n79) fun H106 =>
      st1 H106 ⟨r1, 2, none⟩ (.int .i64 n80) fun H107 =>
      st1 H107 ⟨r1, 3, none⟩ (.int .i64 n81) fun H108 =>
      st1 H108 ⟨r1, 4, none⟩ (.bool b18) fun H109 =>
      st1 H109 ⟨r1, 5, none⟩ (.slice q55 q55n q55c) fun H110 =>
      st1 H110 ⟨r1, 6, none⟩ (.slice q56 q56n q56c) fun H111 =>
      st1 H111 ⟨r1, 7, none⟩ (.slice q57 q57n q57c) fun H112 =>
      ldInt H112 ⟨r1, 0, none⟩ .i64 fun n82 =>
      ldInt H112 ⟨r1, 1, none⟩ .i64 fun n83 =>
      ldInt H112 ⟨r1, 2, none⟩ .i64 fun n84 =>
      ldInt H112 ⟨r1, 3, none⟩ .i64 fun n85 =>
      ldBool H112 ⟨r1, 4, none⟩ fun b19 =>
      ldSl H112 ⟨r1, 5, none⟩ fun q58 q58n q58c =>
      ldSl H112 ⟨r1, 6, none⟩ fun q59 q59n q59c =>
      ldSl H112 ⟨r1, 7, none⟩ fun q60 q60n q60c =>
      R (.returned (.agg ⟨[(.int .i64 n82), (.int .i64 n83), (.int .i64 n84), (.int .i64 n85), (.bool b19), (.slice q58 q58n q58c), (.slice q59 q59n q59c), (.slice q60 q60n q60c)]⟩)) H112) <|
    nilD p2 fun a11 =>
    ldInt H103 a11 .i64 fun n86 =>
    callD Tryz.prog 19 [(.pointer p2)] H103 nope fun v18 H113 =>
    tInt v18 .i64 fun n87 =>
    andD (ExtH H103 H113) <|
    callD Tryz.prog 21 [(.pointer p2)] H113 nope fun v19 H114 =>
    tInt v19 .i64 fun n88 =>
    andD (ExtH H113 H114) <|
    callD Tryz.prog 22 [(.pointer p2)] H114 nope fun v20 H115 =>
    tBool v20 fun b20 =>
    andD (ExtH H114 H115) <|
    callD Tryz.prog 23 [(.pointer p2)] H115 nope fun v21 H116 =>
    tSl v21 fun q61 q61n q61c =>
    andD (ExtH H115 H116) <|
    st1 H116 ⟨r2, 0, none⟩ (.int .i64 (0 : Int)) fun H117 =>
    st1 H117 ⟨r2, 1, none⟩ (.int .i64 n86) fun H118 =>
    st1 H118 ⟨r2, 2, none⟩ (.int .i64 n87) fun H119 =>
    st1 H119 ⟨r2, 3, none⟩ (.int .i64 n88) fun H120 =>
    st1 H120 ⟨r2, 4, none⟩ (.bool b20) fun H121 =>
    st1 H121 ⟨r2, 5, none⟩ (.slice q61 q61n q61c) fun H122 =>
    st1 H122 ⟨r2, 6, none⟩ (.slice none 0 0) fun H123 =>
    st1 H123 ⟨r2, 7, none⟩ (.slice none 0 0) fun H124 =>
    ldSl H124 ⟨r2, 5, none⟩ fun q62 q62n q62c =>
    callD Tryz.prog 24 [(.slice q62 q62n q62c)] H124 (panK R) fun v22 H125 =>
    tTup v22 fun l7 =>
    tNil l7 <|
    ldInt H125 ⟨r2, 0, none⟩ .i64 fun n89 =>
    ldInt H125 ⟨r2, 1, none⟩ .i64 fun n90 =>
    ldInt H125 ⟨r2, 2, none⟩ .i64 fun n91 =>
    ldInt H125 ⟨r2, 3, none⟩ .i64 fun n92 =>
    ldBool H125 ⟨r2, 4, none⟩ fun b21 =>
    ldSl H125 ⟨r2, 5, none⟩ fun q63 q63n q63c =>
    ldSl H125 ⟨r2, 6, none⟩ fun q64 q64n q64c =>
    ldSl H125 ⟨r2, 7, none⟩ fun q65 q65n q65c =>
    st1 H125 ⟨r1, 0, none⟩ (.int .i64 n89) fun H126 =>
    st1 H126 ⟨r1, 1, none⟩ (.int .i64 n90) fun H127 =>
    st1 H127 ⟨r1, 2, none⟩ (.int .i64 n91) fun H128 =>
    st1 H128 ⟨r1, 3, none⟩ (.int .i64 n92) fun H129 =>
    st1 H129 ⟨r1, 4, none⟩ (.bool b21) fun H130 =>
    st1 H130 ⟨r1, 5, none⟩ (.slice q63 q63n q63c) fun H131 =>
    st1 H131 ⟨r1, 6, none⟩ (.slice q64 q64n q64c) fun H132 =>
    st1 H132 ⟨r1, 7, none⟩ (.slice q65 q65n q65c) fun H133 =>
    ldInt H133 ⟨r1, 0, none⟩ .i64 fun n93 =>
    ldInt H133 ⟨r1, 1, none⟩ .i64 fun n94 =>
    ldInt H133 ⟨r1, 2, none⟩ .i64 fun n95 =>
    ldInt H133 ⟨r1, 3, none⟩ .i64 fun n96 =>
    ldBool H133 ⟨r1, 4, none⟩ fun b22 =>
    ldSl H133 ⟨r1, 5, none⟩ fun q66 q66n q66c =>
    ldSl H133 ⟨r1, 6, none⟩ fun q67 q67n q67c =>
    ldSl H133 ⟨r1, 7, none⟩ fun q68 q68n q68c =>
    R (.returned (.agg ⟨[(.int .i64 n93), (.int .i64 n94), (.int .i64 n95), (.int .i64 n96), (.bool b22), (.slice q66 q66n q66c), (.slice q67 q67n q67c), (.slice q68 q68n q68c)]⟩)) H133) <|
  iteB (n5 == (7 : Int)) (
    nilD s0 fun a12 =>
    ldIf H16 (Addr.add a12 8) fun i10 =>
    callI Tryz.prog (IV.v i10) "Leases" [] H16 (panK R) fun v23 H134 =>
    tSl v23 fun q69 q69n q69c =>
    L3 r1 r2 q69 q69n q69c (0 : Int) H134 R) <|
  iteB (n5 == (8 : Int)) (
    nilD s0 fun a13 =>
    ldIf H16 (Addr.add a13 8) fun i11 =>
    callD Tryz.prog 26 [(IV.v i11), (.int .i64 n)] H16 (panK R) fun v24 H135 =>
    tBool v24 fun b23 =>
    iteB b23 (
      st1 H135 ⟨r2, 0, none⟩ (.int .i64 (10 : Int)) fun H136 =>
      ldInt H136 ⟨r2, 0, none⟩ .i64 fun n97 =>
      ldInt H136 ⟨r2, 1, none⟩ .i64 fun n98 =>
      ldInt H136 ⟨r2, 2, none⟩ .i64 fun n99 =>
      ldInt H136 ⟨r2, 3, none⟩ .i64 fun n100 =>
      ldBool H136 ⟨r2, 4, none⟩ fun b24 =>
      ldSl H136 ⟨r2, 5, none⟩ fun q70 q70n q70c =>
      ldSl H136 ⟨r2, 6, none⟩ fun q71 q71n q71c =>
      ldSl H136 ⟨r2, 7, none⟩ fun q72 q72n q72c =>
      st1 H136 ⟨r1, 0, none⟩ (.int .i64 n97) fun H137 =>
      st1 H137 ⟨r1, 1, none⟩ (.int .i64 n98) fun H138 =>
      st1 H138 ⟨r1, 2, none⟩ (.int .i64 n99) fun H139 =>
      st1 H139 ⟨r1, 3, none⟩ (.int .i64 n100) fun H140 =>
      st1 H140 ⟨r1, 4, none⟩ (.bool b24) fun H141 =>
      st1 H141 ⟨r1, 5, none⟩ (.slice q70 q70n q70c) fun H142 =>
      st1 H142 ⟨r1, 6, none⟩ (.slice q71 q71n q71c) fun H143 =>
      st1 H143 ⟨r1, 7, none⟩ (.slice q72 q72n q72c) fun H144 =>
      ldInt H144 ⟨r1, 0, none⟩ .i64 fun n101 =>
      ldInt H144 ⟨r1, 1, none⟩ .i64 fun n102 =>
      ldInt H144 ⟨r1, 2, none⟩ .i64 fun n103 =>
      ldInt H144 ⟨r1, 3, none⟩ .i64 fun n104 =>
      ldBool H144 ⟨r1, 4, none⟩ fun b25 =>
      ldSl H144 ⟨r1, 5, none⟩ fun q73 q73n q73c =>
      ldSl H144 ⟨r1, 6, none⟩ fun q74 q74n q74c =>
      ldSl H144 ⟨r1, 7, none⟩ fun q75 q75n q75c =>
      R (.returned (.agg ⟨[(.int .i64 n101), (.int .i64 n102), (.int .i64 n103), (.int .i64 n104), (.bool b25), (.slice q73 q73n q73c), (.slice q74 q74n q74c), (.slice q75 q75n q75c)]⟩)) H144) <|
    nilD s0 fun a14 =>
    ldIf H135 (Addr.add a14 8) fun i12 =>
    callI Tryz.prog (IV.v i12) "Renew" [(.int .i64 n)] H135 (panK R) fun v25 H145 =>
    tTup v25 fun l8 =>
    tCons l8 fun c5 l9 =>
    tInt c5 .i64 fun n105 =>
    tCons l9 fun c6 l10 =>
    tIf c6 fun i13 =>
    tNil l10 <|
    callD Tryz.prog 18 [(IV.v i13)] H145 (panK R) fun v26 H146 =>
    tInt v26 .i64 fun n106 =>
    st1 H146 ⟨r2, 0, none⟩ (.int .i64 n106) fun H147 =>
    st1 H147 ⟨r2, 2, none⟩ (.int .i64 n105) fun H148 =>
    ldInt H148 ⟨r2, 0, none⟩ .i64 fun n107 =>
    ldInt H148 ⟨r2, 1, none⟩ .i64 fun n108 =>
    ldInt H148 ⟨r2, 2, none⟩ .i64 fun n109 =>
    ldInt H148 ⟨r2, 3, none⟩ .i64 fun n110 =>
    ldBool H148 ⟨r2, 4, none⟩ fun b26 =>
    ldSl H148 ⟨r2, 5, none⟩ fun q76 q76n q76c =>
    ldSl H148 ⟨r2, 6, none⟩ fun q77 q77n q77c =>
    ldSl H148 ⟨r2, 7, none⟩ fun q78 q78n q78c =>
    st1 H148 ⟨r1, 0, none⟩ (.int .i64 n107) fun H149 =>
    st1 H149 ⟨r1, 1, none⟩ (.int .i64 n108) fun H150 =>
    st1 H150 ⟨r1, 2, none⟩ (.int .i64 n109) fun H151 =>
    st1 H151 ⟨r1, 3, none⟩ (.int .i64 n110) fun H152 =>
    st1 H152 ⟨r1, 4, none⟩ (.bool b26) fun H153 =>
    st1 H153 ⟨r1, 5, none⟩ (.slice q76 q76n q76c) fun H154 =>
    st1 H154 ⟨r1, 6, none⟩ (.slice q77 q77n q77c) fun H155 =>
    st1 H155 ⟨r1, 7, none⟩ (.slice q78 q78n q78c) fun H156 =>
    ldInt H156 ⟨r1, 0, none⟩ .i64 fun n111 =>
    ldInt H156 ⟨r1, 1, none⟩ .i64 fun n112 =>
    ldInt H156 ⟨r1, 2, none⟩ .i64 fun n113 =>
    ldInt H156 ⟨r1, 3, none⟩ .i64 fun n114 =>
    ldBool H156 ⟨r1, 4, none⟩ fun b27 =>
    ldSl H156 ⟨r1, 5, none⟩ fun q79 q79n q79c =>
    ldSl H156 ⟨r1, 6, none⟩ fun q80 q80n q80c =>
    ldSl H156 ⟨r1, 7, none⟩ fun q81 q81n q81c =>
    R (.returned (.agg ⟨[(.int .i64 n111), (.int .i64 n112), (.int .i64 n113), (.int .i64 n114), (.bool b27), (.slice q79 q79n q79c), (.slice q80 q80n q80c), (.slice q81 q81n q81c)]⟩)) H156) <|
  iteB (n5 == (9 : Int)) (
    ldInt H16 ⟨r, 2, none⟩ .i64 fun n115 =>
    iteB (decide (n115 < (-9000000000 : Int))) (
      st1 H16 ⟨r2, 0, none⟩ (.int .i64 (11 : Int)) fun H157 =>
      ldInt H157 ⟨r2, 0, none⟩ .i64 fun n116 =>
      ldInt H157 ⟨r2, 1, none⟩ .i64 fun n117 =>
      ldInt H157 ⟨r2, 2, none⟩ .i64 fun n118 =>
      ldInt H157 ⟨r2, 3, none⟩ .i64 fun n119 =>
      ldBool H157 ⟨r2, 4, none⟩ fun b28 =>
      ldSl H157 ⟨r2, 5, none⟩ fun q82 q82n q82c =>
      ldSl H157 ⟨r2, 6, none⟩ fun q83 q83n q83c =>
      ldSl H157 ⟨r2, 7, none⟩ fun q84 q84n q84c =>
      st1 H157 ⟨r1, 0, none⟩ (.int .i64 n116) fun H158 =>
      st1 H158 ⟨r1, 1, none⟩ (.int .i64 n117) fun H159 =>
      st1 H159 ⟨r1, 2, none⟩ (.int .i64 n118) fun H160 =>
      st1 H160 ⟨r1, 3, none⟩ (.int .i64 n119) fun H161 =>
      st1 H161 ⟨r1, 4, none⟩ (.bool b28) fun H162 =>
      st1 H162 ⟨r1, 5, none⟩ (.slice q82 q82n q82c) fun H163 =>
      st1 H163 ⟨r1, 6, none⟩ (.slice q83 q83n q83c) fun H164 =>
      st1 H164 ⟨r1, 7, none⟩ (.slice q84 q84n q84c) fun H165 =>
      ldInt H165 ⟨r1, 0, none⟩ .i64 fun n120 =>
      ldInt H165 ⟨r1, 1, none⟩ .i64 fun n121 =>
      ldInt H165 ⟨r1, 2, none⟩ .i64 fun n122 =>
      ldInt H165 ⟨r1, 3, none⟩ .i64 fun n123 =>
      ldBool H165 ⟨r1, 4, none⟩ fun b29 =>
      ldSl H165 ⟨r1, 5, none⟩ fun q85 q85n q85c =>
      ldSl H165 ⟨r1, 6, none⟩ fun q86 q86n q86c =>
      ldSl H165 ⟨r1, 7, none⟩ fun q87 q87n q87c =>
      R (.returned (.agg ⟨[(.int .i64 n120), (.int .i64 n121), (.int .i64 n122), (.int .i64 n123), (.bool b29), (.slice q85 q85n q85c), (.slice q86 q86n q86c), (.slice q87 q87n q87c)]⟩)) H165) <|
    ldInt H16 ⟨r, 2, none⟩ .i64 fun n124 =>
    iteB (decide (n124 > (9000000000 : Int))) (
      st1 H16 ⟨r2, 0, none⟩ (.int .i64 (11 : Int)) fun H166 =>
      ldInt H166 ⟨r2, 0, none⟩ .i64 fun n125 =>
      ldInt H166 ⟨r2, 1, none⟩ .i64 fun n126 =>
      ldInt H166 ⟨r2, 2, none⟩ .i64 fun n127 =>
      ldInt H166 ⟨r2, 3, none⟩ .i64 fun n128 =>
      ldBool H166 ⟨r2, 4, none⟩ fun b30 =>
      ldSl H166 ⟨r2, 5, none⟩ fun q88 q88n q88c =>
      ldSl H166 ⟨r2, 6, none⟩ fun q89 q89n q89c =>
      ldSl H166 ⟨r2, 7, none⟩ fun q90 q90n q90c =>
      st1 H166 ⟨r1, 0, none⟩ (.int .i64 n125) fun H167 =>
      st1 H167 ⟨r1, 1, none⟩ (.int .i64 n126) fun H168 =>
      st1 H168 ⟨r1, 2, none⟩ (.int .i64 n127) fun H169 =>
      st1 H169 ⟨r1, 3, none⟩ (.int .i64 n128) fun H170 =>
      st1 H170 ⟨r1, 4, none⟩ (.bool b30) fun H171 =>
      st1 H171 ⟨r1, 5, none⟩ (.slice q88 q88n q88c) fun H172 =>
      st1 H172 ⟨r1, 6, none⟩ (.slice q89 q89n q89c) fun H173 =>
      st1 H173 ⟨r1, 7, none⟩ (.slice q90 q90n q90c) fun H174 =>
      ldInt H174 ⟨r1, 0, none⟩ .i64 fun n129 =>
      ldInt H174 ⟨r1, 1, none⟩ .i64 fun n130 =>
      ldInt H174 ⟨r1, 2, none⟩ .i64 fun n131 =>
      ldInt H174 ⟨r1, 3, none⟩ .i64 fun n132 =>
      ldBool H174 ⟨r1, 4, none⟩ fun b31 =>
      ldSl H174 ⟨r1, 5, none⟩ fun q91 q91n q91c =>
      ldSl H174 ⟨r1, 6, none⟩ fun q92 q92n q92c =>
      ldSl H174 ⟨r1, 7, none⟩ fun q93 q93n q93c =>
      R (.returned (.agg ⟨[(.int .i64 n129), (.int .i64 n130), (.int .i64 n131), (.int .i64 n132), (.bool b31), (.slice q91 q91n q91c), (.slice q92 q92n q92c), (.slice q93 q93n q93c)]⟩)) H174) <|
    L2 s0 r r1 r2 n H16 R) <|
  iteB (n5 == (10 : Int)) (
    nilD s0 fun a15 =>
    ldIf H16 (Addr.add a15 8) fun i14 =>
    nilV Tryz.prog (IV.v i14) fun v27 =>
    ldInt H16 ⟨r, 2, none⟩ .i64 fun n133 =>
    callD Tryz.prog 8 [(.int .i64 n133), (.int .i64 (0 : Int)), (.int .i64 (100000000 : Int))] H16 nope fun v28 H175 =>
    tInt v28 .i64 fun n134 =>
    andD (ExtH H16 H175) <|
    callI Tryz.prog (IV.v i14) "Promote" [(.int .i64 (IntKind.wrap .i64 (n134 * (1000000000 : Int))))] H175 (panK R) fun v29 H176 =>
    tTup v29 fun l11 =>
    tNil l11 <|
    ldInt H176 ⟨r2, 0, none⟩ .i64 fun n135 =>
    ldInt H176 ⟨r2, 1, none⟩ .i64 fun n136 =>
    ldInt H176 ⟨r2, 2, none⟩ .i64 fun n137 =>
    ldInt H176 ⟨r2, 3, none⟩ .i64 fun n138 =>
    ldBool H176 ⟨r2, 4, none⟩ fun b32 =>
    ldSl H176 ⟨r2, 5, none⟩ fun q94 q94n q94c =>
    ldSl H176 ⟨r2, 6, none⟩ fun q95 q95n q95c =>
    ldSl H176 ⟨r2, 7, none⟩ fun q96 q96n q96c =>
    st1 H176 ⟨r1, 0, none⟩ (.int .i64 n135) fun H177 =>
    st1 H177 ⟨r1, 1, none⟩ (.int .i64 n136) fun H178 =>
    st1 H178 ⟨r1, 2, none⟩ (.int .i64 n137) fun H179 =>
    st1 H179 ⟨r1, 3, none⟩ (.int .i64 n138) fun H180 =>
    st1 H180 ⟨r1, 4, none⟩ (.bool b32) fun H181 =>
    st1 H181 ⟨r1, 5, none⟩ (.slice q94 q94n q94c) fun H182 =>
    st1 H182 ⟨r1, 6, none⟩ (.slice q95 q95n q95c) fun H183 =>
    st1 H183 ⟨r1, 7, none⟩ (.slice q96 q96n q96c) fun H184 =>
    ldInt H184 ⟨r1, 0, none⟩ .i64 fun n139 =>
    ldInt H184 ⟨r1, 1, none⟩ .i64 fun n140 =>
    ldInt H184 ⟨r1, 2, none⟩ .i64 fun n141 =>
    ldInt H184 ⟨r1, 3, none⟩ .i64 fun n142 =>
    ldBool H184 ⟨r1, 4, none⟩ fun b33 =>
    ldSl H184 ⟨r1, 5, none⟩ fun q97 q97n q97c =>
    ldSl H184 ⟨r1, 6, none⟩ fun q98 q98n q98c =>
    ldSl H184 ⟨r1, 7, none⟩ fun q99 q99n q99c =>
    R (.returned (.agg ⟨[(.int .i64 n139), (.int .i64 n140), (.int .i64 n141), (.int .i64 n142), (.bool b33), (.slice q97 q97n q97c), (.slice q98 q98n q98c), (.slice q99 q99n q99c)]⟩)) H184) <|
  iteB (n5 == (11 : Int)) (
    nilD s0 fun a16 =>
    ldIf H16 (Addr.add a16 8) fun i15 =>
    callI Tryz.prog (IV.v i15) "Demote" [] H16 (panK R) fun v30 H185 =>
    tTup v30 fun l12 =>
    tNil l12 <|
    ldInt H185 ⟨r2, 0, none⟩ .i64 fun n143 =>
    ldInt H185 ⟨r2, 1, none⟩ .i64 fun n144 =>
    ldInt H185 ⟨r2, 2, none⟩ .i64 fun n145 =>
    ldInt H185 ⟨r2, 3, none⟩ .i64 fun n146 =>
    ldBool H185 ⟨r2, 4, none⟩ fun b34 =>
    ldSl H185 ⟨r2, 5, none⟩ fun q100 q100n q100c =>
    ldSl H185 ⟨r2, 6, none⟩ fun q101 q101n q101c =>
    ldSl H185 ⟨r2, 7, none⟩ fun q102 q102n q102c =>
    st1 H185 ⟨r1, 0, none⟩ (.int .i64 n143) fun H186 =>
    st1 H186 ⟨r1, 1, none⟩ (.int .i64 n144) fun H187 =>
    st1 H187 ⟨r1, 2, none⟩ (.int .i64 n145) fun H188 =>
    st1 H188 ⟨r1, 3, none⟩ (.int .i64 n146) fun H189 =>
    st1 H189 ⟨r1, 4, none⟩ (.bool b34) fun H190 =>
    st1 H190 ⟨r1, 5, none⟩ (.slice q100 q100n q100c) fun H191 =>
    st1 H191 ⟨r1, 6, none⟩ (.slice q101 q101n q101c) fun H192 =>
    st1 H192 ⟨r1, 7, none⟩ (.slice q102 q102n q102c) fun H193 =>
    ldInt H193 ⟨r1, 0, none⟩ .i64 fun n147 =>
    ldInt H193 ⟨r1, 1, none⟩ .i64 fun n148 =>
    ldInt H193 ⟨r1, 2, none⟩ .i64 fun n149 =>
    ldInt H193 ⟨r1, 3, none⟩ .i64 fun n150 =>
    ldBool H193 ⟨r1, 4, none⟩ fun b35 =>
    ldSl H193 ⟨r1, 5, none⟩ fun q103 q103n q103c =>
    ldSl H193 ⟨r1, 6, none⟩ fun q104 q104n q104c =>
    ldSl H193 ⟨r1, 7, none⟩ fun q105 q105n q105c =>
    R (.returned (.agg ⟨[(.int .i64 n147), (.int .i64 n148), (.int .i64 n149), (.int .i64 n150), (.bool b35), (.slice q103 q103n q103c), (.slice q104 q104n q104c), (.slice q105 q105n q105c)]⟩)) H193) <|
  iteB (n5 == (12 : Int)) (
    nilD s0 fun a17 =>
    ldIf H16 (Addr.add a17 8) fun i16 =>
    ldInt H16 ⟨r, 2, none⟩ .i64 fun n151 =>
    callD Tryz.prog 27 [(IV.v i16), (.int .i64 n151)] H16 (panK R) fun v31 H194 =>
    tSl v31 fun q106 q106n q106c =>
    L1 r1 r2 q106 q106n q106c ((q106n : Nat) : Int) (0 : Int) H194 R) <|
  iteB (n5 == (13 : Int)) (
    nilD s0 fun a18 =>
    ldIf H16 (Addr.add a18 8) fun i17 =>
    ldInt H16 ⟨r, 2, none⟩ .i64 fun n152 =>
    callD Tryz.prog 28 [(IV.v i17), (.int .i64 n152)] H16 (panK R) fun v32 H195 =>
    tSl v32 fun q107 q107n q107c =>
    L0 r1 r2 q107 q107n q107c ((q107n : Nat) : Int) (0 : Int) H195 R) <|
  iteB (n5 == (14 : Int)) (
    nilD s0 fun a19 =>
    ldIf H16 (Addr.add a19 6) fun i18 =>
    callI Tryz.prog (IV.v i18) "ForceCommit" [] H16 (panK R) fun v33 H196 =>
    tTup v33 fun l13 =>
    tNil l13 <|
    callD Tryz.prog 11 [(.pointer s0)] H196 (panK R) fun v34 H197 =>
    tTup v34 fun l14 =>
    tNil l14 <|
    ldInt H197 ⟨r2, 0, none⟩ .i64 fun n153 =>
    ldInt H197 ⟨r2, 1, none⟩ .i64 fun n154 =>
    ldInt H197 ⟨r2, 2, none⟩ .i64 fun n155 =>
    ldInt H197 ⟨r2, 3, none⟩ .i64 fun n156 =>
    ldBool H197 ⟨r2, 4, none⟩ fun b36 =>
    ldSl H197 ⟨r2, 5, none⟩ fun q108 q108n q108c =>
    ldSl H197 ⟨r2, 6, none⟩ fun q109 q109n q109c =>
    ldSl H197 ⟨r2, 7, none⟩ fun q110 q110n q110c =>
    st1 H197 ⟨r1, 0, none⟩ (.int .i64 n153) fun H198 =>
    st1 H198 ⟨r1, 1, none⟩ (.int .i64 n154) fun H199 =>
    st1 H199 ⟨r1, 2, none⟩ (.int .i64 n155) fun H200 =>
    st1 H200 ⟨r1, 3, none⟩ (.int .i64 n156) fun H201 =>
    st1 H201 ⟨r1, 4, none⟩ (.bool b36) fun H202 =>
    st1 H202 ⟨r1, 5, none⟩ (.slice q108 q108n q108c) fun H203 =>
    st1 H203 ⟨r1, 6, none⟩ (.slice q109 q109n q109c) fun H204 =>
    st1 H204 ⟨r1, 7, none⟩ (.slice q110 q110n q110c) fun H205 =>
    ldInt H205 ⟨r1, 0, none⟩ .i64 fun n157 =>
    ldInt H205 ⟨r1, 1, none⟩ .i64 fun n158 =>
    ldInt H205 ⟨r1, 2, none⟩ .i64 fun n159 =>
    ldInt H205 ⟨r1, 3, none⟩ .i64 fun n160 =>
    ldBool H205 ⟨r1, 4, none⟩ fun b37 =>
    ldSl H205 ⟨r1, 5, none⟩ fun q111 q111n q111c =>
    ldSl H205 ⟨r1, 6, none⟩ fun q112 q112n q112c =>
    ldSl H205 ⟨r1, 7, none⟩ fun q113 q113n q113c =>
    R (.returned (.agg ⟨[(.int .i64 n157), (.int .i64 n158), (.int .i64 n159), (.int .i64 n160), (.bool b37), (.slice q111 q111n q111c), (.slice q112 q112n q112c), (.slice q113 q113n q113c)]⟩)) H205) <|
  st1 H16 ⟨r2, 0, none⟩ (.int .i64 (11 : Int)) fun H206 =>
  ldInt H206 ⟨r2, 0, none⟩ .i64 fun n161 =>
  ldInt H206 ⟨r2, 1, none⟩ .i64 fun n162 =>
  ldInt H206 ⟨r2, 2, none⟩ .i64 fun n163 =>
  ldInt H206 ⟨r2, 3, none⟩ .i64 fun n164 =>
  ldBool H206 ⟨r2, 4, none⟩ fun b38 =>
  ldSl H206 ⟨r2, 5, none⟩ fun q114 q114n q114c =>
  ldSl H206 ⟨r2, 6, none⟩ fun q115 q115n q115c =>
  ldSl H206 ⟨r2, 7, none⟩ fun q116 q116n q116c =>
  st1 H206 ⟨r1, 0, none⟩ (.int .i64 n161) fun H207 =>
  st1 H207 ⟨r1, 1, none⟩ (.int .i64 n162) fun H208 =>
  st1 H208 ⟨r1, 2, none⟩ (.int .i64 n163) fun H209 =>
  st1 H209 ⟨r1, 3, none⟩ (.int .i64 n164) fun H210 =>
  st1 H210 ⟨r1, 4, none⟩ (.bool b38) fun H211 =>
  st1 H211 ⟨r1, 5, none⟩ (.slice q114 q114n q114c) fun H212 =>
  st1 H212 ⟨r1, 6, none⟩ (.slice q115 q115n q115c) fun H213 =>
  st1 H213 ⟨r1, 7, none⟩ (.slice q116 q116n q116c) fun H214 =>
  ldInt H214 ⟨r1, 0, none⟩ .i64 fun n165 =>
  ldInt H214 ⟨r1, 1, none⟩ .i64 fun n166 =>
  ldInt H214 ⟨r1, 2, none⟩ .i64 fun n167 =>
  ldInt H214 ⟨r1, 3, none⟩ .i64 fun n168 =>
  ldBool H214 ⟨r1, 4, none⟩ fun b39 =>
  ldSl H214 ⟨r1, 5, none⟩ fun q117 q117n q117c =>
  ldSl H214 ⟨r1, 6, none⟩ fun q118 q118n q118c =>
  ldSl H214 ⟨r1, 7, none⟩ fun q119 q119n q119c =>
  R (.returned (.agg ⟨[(.int .i64 n165), (.int .i64 n166), (.int .i64 n167), (.int .i64 n168), (.bool b39), (.slice q117 q117n q117c), (.slice q118 q118n q118c), (.slice q119 q119n q119c)]⟩)) H214
theorem calls {s0 : Option Addr} {s1_0 : Int} {s1_1 : Int} {s1_2 : Int} {s1_3 : Option Addr} {s1_3n : Nat} {s1_3c : Nat} {s1_4 : Int} {H : Heap} {R : Ending → Heap → Prop} (h : go s0 s1_0 s1_1 s1_2 s1_3 s1_3n s1_3c s1_4 H R) : CallsH Tryz.prog 12 ⟨[(.pointer s0), (.agg ⟨[(.int .i64 s1_0), (.int .i64 s1_1), (.int .i64 s1_2), (.slice s1_3 s1_3n s1_3c), (.int .i64 s1_4)]⟩)]⟩ H R :=
  callsH_of_den (an := an) (fuel := 100000) (X := go s0 s1_0 s1_1 s1_2 s1_3 s1_3n s1_3c s1_4 H R) (c := body) mixed fn (by kernel_rfl) (by kernel_rfl) (by kernel_rfl) ok (by kernel_rfl) h
end F12
/-! ### 57 "slices.insertionSortOrdered[int64]" -/
namespace F57
def an : Ann := { kinds := [], taus := [(4, [[0, 1, 2, 3, 4, 5, 6, 8, 9, 10, 11, 7, 12, 13, 14]]), (6, [[0, 1, 2, 3, 4, 5, 6, 7, 8, 10, 11, 12, 9, 13, 14, 15, 16, 17]])], pairs := [], lab := [(30000002, [0, 1, 2, 6]), (70000005, [0, 1, 2, 6, 7]), (30000003, [0, 1, 2, 6]), (70000007, [0, 1, 2, 6, 7])] }
noncomputable def body : Code := (Tryz.f57.body).getD .skip
theorem fn : Tryz.prog.funcs[57]? = some Tryz.f57 := by kernel_rfl
theorem ok : codeOk an 49 body = true := by kernel_rfl
noncomputable def L0t : List Item := [.code (sub [1, 0, 0] body), .inLoop (sub [1, 0, 0] body), .inBlock 0]
def L0 (data : Option Addr) (datan : Nat) (datac : Nat) (a : Int) (b : Int) (i : Int) (H : Heap) (R : Ending → Heap → Prop) : Prop :=
  GoL Tryz.prog 57 49 L0t [0, 1, 2, 6] [(.slice data datan datac), (.int .i64 a), (.int .i64 b), (.int .i64 i)] H R
noncomputable def L1t : List Item := [.code (sub [1, 0, 0, 1, 0, 0, 1, 0, 0] body), .inLoop (sub [1, 0, 0, 1, 0, 0, 1, 0, 0] body), .inBlock 2, .inBlock 1, .code (sub [1, 0, 0, 1, 1] body), .inLoop (sub [1, 0, 0] body), .inBlock 0]
def L1 (data : Option Addr) (datan : Nat) (datac : Nat) (a : Int) (b : Int) (i : Int) (j : Int) (H : Heap) (R : Ending → Heap → Prop) : Prop :=
  GoL Tryz.prog 57 49 L1t [0, 1, 2, 6, 7] [(.slice data datan datac), (.int .i64 a), (.int .i64 b), (.int .i64 i), (.int .i64 j)] H R
noncomputable def L2t : List Item := [.code (sub [1, 0, 0, 1, 1] body), .inLoop (sub [1, 0, 0] body), .inBlock 0]
def L2 (data : Option Addr) (datan : Nat) (datac : Nat) (a : Int) (b : Int) (i : Int) (H : Heap) (R : Ending → Heap → Prop) : Prop :=
  GoL Tryz.prog 57 49 L2t [0, 1, 2, 6] [(.slice data datan datac), (.int .i64 a), (.int .i64 b), (.int .i64 i)] H R
noncomputable def L3t : List Item := [.code (sub [1, 0, 0, 1, 0, 0, 1, 0, 0, 1] body), .inLoop (sub [1, 0, 0, 1, 0, 0, 1, 0, 0] body), .inBlock 2, .inBlock 1, .code (sub [1, 0, 0, 1, 1] body), .inLoop (sub [1, 0, 0] body), .inBlock 0]
def L3 (data : Option Addr) (datan : Nat) (datac : Nat) (a : Int) (b : Int) (i : Int) (j : Int) (H : Heap) (R : Ending → Heap → Prop) : Prop :=
  GoL Tryz.prog 57 49 L3t [0, 1, 2, 6, 7] [(.slice data datan datac), (.int .i64 a), (.int .i64 b), (.int .i64 i), (.int .i64 j)] H R
def L0n (data : Option Addr) (datan : Nat) (datac : Nat) (a : Int) (b : Int) (i : Int) (H : Heap) (R : Ending → Heap → Prop) : Prop :=
  iteB (decide (i < b)) (
    L1 data datan datac a b i i H R) <|
  R (.returned (.tuple ⟨[]⟩)) H
theorem L0_step {data : Option Addr} {datan : Nat} {datac : Nat} {a : Int} {b : Int} {i : Int} {H : Heap} {R : Ending → Heap → Prop} (h : L0n data datan datac a b i H R) : L0 data datan datac a b i H R :=
  goL_of_den (an := an) (fuel := 100000) (X := L0n data datan datac a b i H R) mixed fn (by kernel_rfl) (fun ρ0 => by kernel_rfl) h
def L1n (data : Option Addr) (datan : Nat) (datac : Nat) (a : Int) (b : Int) (i : Int) (j : Int) (H : Heap) (R : Ending → Heap → Prop) : Prop :=
  iteB (decide (j > a)) (
    idxD data datan j fun a1 =>
    idxD data datan (IntKind.wrap .i64 (j - (1 : Int))) fun a2 =>
    ldInt H (Addr.add a1 (Int.toNat j * 1)) .i64 fun n =>
    ldInt H (Addr.add a2 (Int.toNat (IntKind.wrap .i64 (j - (1 : Int))) * 1)) .i64 fun n1 =>
    callD Tryz.prog 63 [(.int .i64 n), (.int .i64 n1)] H (panK R) fun v H1 =>
    tBool v fun b1 =>
    iteB b1 (
      L3 data datan datac a b i j H1 R) <|
    L2 data datan datac a b i H1 R) <|
  L2 data datan datac a b i H R
theorem L1_step {data : Option Addr} {datan : Nat} {datac : Nat} {a : Int} {b : Int} {i : Int} {j : Int} {H : Heap} {R : Ending → Heap → Prop} (h : L1n data datan datac a b i j H R) : L1 data datan datac a b i j H R :=
  goL_of_den (an := an) (fuel := 100000) (X := L1n data datan datac a b i j H R) mixed fn (by kernel_rfl) (fun ρ0 => by kernel_rfl) h
def L2n (data : Option Addr) (datan : Nat) (datac : Nat) (a : Int) (b : Int) (i : Int) (H : Heap) (R : Ending → Heap → Prop) : Prop :=
  L0 data datan datac a b (IntKind.wrap .i64 (i + (1 : Int))) H R
theorem L2_step {data : Option Addr} {datan : Nat} {datac : Nat} {a : Int} {b : Int} {i : Int} {H : Heap} {R : Ending → Heap → Prop} (h : L2n data datan datac a b i H R) : L2 data datan datac a b i H R :=
  goL_of_den (an := an) (fuel := 100000) (X := L2n data datan datac a b i H R) mixed fn (by kernel_rfl) (fun ρ0 => by kernel_rfl) h
def L3n (data : Option Addr) (datan : Nat) (datac : Nat) (a : Int) (b : Int) (i : Int) (j : Int) (H : Heap) (R : Ending → Heap → Prop) : Prop :=
  idxD data datan (IntKind.wrap .i64 (j - (1 : Int))) fun a1 =>
  idxD data datan j fun a2 =>
  ldInt H (Addr.add a1 (Int.toNat (IntKind.wrap .i64 (j - (1 : Int))) * 1)) .i64 fun n =>
  ldInt H (Addr.add a2 (Int.toNat j * 1)) .i64 fun n1 =>
  idxD data datan j fun a3 =>
  st1 H (Addr.add a3 (Int.toNat j * 1)) (.int .i64 n) fun H1 =>
  idxD data datan (IntKind.wrap .i64 (j - (1 : Int))) fun a4 =>
  st1 H1 (Addr.add a4 (Int.toNat (IntKind.wrap .i64 (j - (1 : Int))) * 1)) (.int .i64 n1) fun H2 =>
  L1 data datan datac a b i (IntKind.wrap .i64 (j - (1 : Int))) H2 R
theorem L3_step {data : Option Addr} {datan : Nat} {datac : Nat} {a : Int} {b : Int} {i : Int} {j : Int} {H : Heap} {R : Ending → Heap → Prop} (h : L3n data datan datac a b i j H R) : L3 data datan datac a b i j H R :=
  goL_of_den (an := an) (fuel := 100000) (X := L3n data datan datac a b i j H R) mixed fn (by kernel_rfl) (fun ρ0 => by kernel_rfl) h
def go (data : Option Addr) (datan : Nat) (datac : Nat) (a : Int) (b : Int) (H : Heap) (R : Ending → Heap → Prop) : Prop :=
  L0 data datan datac a b (IntKind.wrap .i64 (a + (1 : Int))) H R
theorem calls {data : Option Addr} {datan : Nat} {datac : Nat} {a : Int} {b : Int} {H : Heap} {R : Ending → Heap → Prop} (h : go data datan datac a b H R) : CallsH Tryz.prog 57 ⟨[(.slice data datan datac), (.int .i64 a), (.int .i64 b)]⟩ H R :=
  callsH_of_den (an := an) (fuel := 100000) (X := go data datan datac a b H R) (c := body) mixed fn (by kernel_rfl) (by kernel_rfl) (by kernel_rfl) ok (by kernel_rfl) h
end F57
/-! ### 46 "slices.insertionSortOrdered[string]" -/
namespace F46
def an : Ann := { kinds := [], taus := [(4, [[0, 1, 2, 3, 4, 5, 6, 8, 9, 10, 11, 7, 12, 13, 14]]), (6, [[0, 1, 2, 3, 4, 5, 6, 7, 8, 10, 11, 12, 9, 13, 14, 15, 16, 17]])], pairs := [], lab := [(30000002, [0, 1, 2, 6]), (70000005, [0, 1, 2, 6, 7]), (30000003, [0, 1, 2, 6]), (70000007, [0, 1, 2, 6, 7])] }
noncomputable def body : Code := (Tryz.f46.body).getD .skip
theorem fn : Tryz.prog.funcs[46]? = some Tryz.f46 := by kernel_rfl
theorem ok : codeOk an 49 body = true := by kernel_rfl
noncomputable def L0t : List Item := [.code (sub [1, 0, 0] body), .inLoop (sub [1, 0, 0] body), .inBlock 0]
def L0 (data : Option Addr) (datan : Nat) (datac : Nat) (a : Int) (b : Int) (i : Int) (H : Heap) (R : Ending → Heap → Prop) : Prop :=
  GoL Tryz.prog 46 49 L0t [0, 1, 2, 6] [(.slice data datan datac), (.int .i64 a), (.int .i64 b), (.int .i64 i)] H R
noncomputable def L1t : List Item := [.code (sub [1, 0, 0, 1, 0, 0, 1, 0, 0] body), .inLoop (sub [1, 0, 0, 1, 0, 0, 1, 0, 0] body), .inBlock 2, .inBlock 1, .code (sub [1, 0, 0, 1, 1] body), .inLoop (sub [1, 0, 0] body), .inBlock 0]
def L1 (data : Option Addr) (datan : Nat) (datac : Nat) (a : Int) (b : Int) (i : Int) (j : Int) (H : Heap) (R : Ending → Heap → Prop) : Prop :=
  GoL Tryz.prog 46 49 L1t [0, 1, 2, 6, 7] [(.slice data datan datac), (.int .i64 a), (.int .i64 b), (.int .i64 i), (.int .i64 j)] H R
noncomputable def L2t : List Item := [.code (sub [1, 0, 0, 1, 1] body), .inLoop (sub [1, 0, 0] body), .inBlock 0]
def L2 (data : Option Addr) (datan : Nat) (datac : Nat) (a : Int) (b : Int) (i : Int) (H : Heap) (R : Ending → Heap → Prop) : Prop :=
  GoL Tryz.prog 46 49 L2t [0, 1, 2, 6] [(.slice data datan datac), (.int .i64 a), (.int .i64 b), (.int .i64 i)] H R
noncomputable def L3t : List Item := [.code (sub [1, 0, 0, 1, 0, 0, 1, 0, 0, 1] body), .inLoop (sub [1, 0, 0, 1, 0, 0, 1, 0, 0] body), .inBlock 2, .inBlock 1, .code (sub [1, 0, 0, 1, 1] body), .inLoop (sub [1, 0, 0] body), .inBlock 0]
def L3 (data : Option Addr) (datan : Nat) (datac : Nat) (a : Int) (b : Int) (i : Int) (j : Int) (H : Heap) (R : Ending → Heap → Prop) : Prop :=
  GoL Tryz.prog 46 49 L3t [0, 1, 2, 6, 7] [(.slice data datan datac), (.int .i64 a), (.int .i64 b), (.int .i64 i), (.int .i64 j)] H R
def L0n (data : Option Addr) (datan : Nat) (datac : Nat) (a : Int) (b : Int) (i : Int) (H : Heap) (R : Ending → Heap → Prop) : Prop :=
  iteB (decide (i < b)) (
    L1 data datan datac a b i i H R) <|
  R (.returned (.tuple ⟨[]⟩)) H
theorem L0_step {data : Option Addr} {datan : Nat} {datac : Nat} {a : Int} {b : Int} {i : Int} {H : Heap} {R : Ending → Heap → Prop} (h : L0n data datan datac a b i H R) : L0 data datan datac a b i H R :=
  goL_of_den (an := an) (fuel := 100000) (X := L0n data datan datac a b i H R) mixed fn (by kernel_rfl) (fun ρ0 => by kernel_rfl) h
def L1n (data : Option Addr) (datan : Nat) (datac : Nat) (a : Int) (b : Int) (i : Int) (j : Int) (H : Heap) (R : Ending → Heap → Prop) : Prop :=
  iteB (decide (j > a)) (
    idxD data datan j fun a1 =>
    idxD data datan (IntKind.wrap .i64 (j - (1 : Int))) fun a2 =>
    ldStr H (Addr.add a1 (Int.toNat j * 1)) fun s =>
    ldStr H (Addr.add a2 (Int.toNat (IntKind.wrap .i64 (j - (1 : Int))) * 1)) fun s1 =>
    callD Tryz.prog 52 [(.string s), (.string s1)] H (panK R) fun v H1 =>
    tBool v fun b1 =>
    iteB b1 (
      L3 data datan datac a b i j H1 R) <|
    L2 data datan datac a b i H1 R) <|
  L2 data datan datac a b i H R
theorem L1_step {data : Option Addr} {datan : Nat} {datac : Nat} {a : Int} {b : Int} {i : Int} {j : Int} {H : Heap} {R : Ending → Heap → Prop} (h : L1n data datan datac a b i j H R) : L1 data datan datac a b i j H R :=
  goL_of_den (an := an) (fuel := 100000) (X := L1n data datan datac a b i j H R) mixed fn (by kernel_rfl) (fun ρ0 => by kernel_rfl) h
def L2n (data : Option Addr) (datan : Nat) (datac : Nat) (a : Int) (b : Int) (i : Int) (H : Heap) (R : Ending → Heap → Prop) : Prop :=
  L0 data datan datac a b (IntKind.wrap .i64 (i + (1 : Int))) H R
theorem L2_step {data : Option Addr} {datan : Nat} {datac : Nat} {a : Int} {b : Int} {i : Int} {H : Heap} {R : Ending → Heap → Prop} (h : L2n data datan datac a b i H R) : L2 data datan datac a b i H R :=
  goL_of_den (an := an) (fuel := 100000) (X := L2n data datan datac a b i H R) mixed fn (by kernel_rfl) (fun ρ0 => by kernel_rfl) h
def L3n (data : Option Addr) (datan : Nat) (datac : Nat) (a : Int) (b : Int) (i : Int) (j : Int) (H : Heap) (R : Ending → Heap → Prop) : Prop :=
  idxD data datan (IntKind.wrap .i64 (j - (1 : Int))) fun a1 =>
  idxD data datan j fun a2 =>
  ldStr H (Addr.add a1 (Int.toNat (IntKind.wrap .i64 (j - (1 : Int))) * 1)) fun s =>
  ldStr H (Addr.add a2 (Int.toNat j * 1)) fun s1 =>
  idxD data datan j fun a3 =>
  st1 H (Addr.add a3 (Int.toNat j * 1)) (.string s) fun H1 =>
  idxD data datan (IntKind.wrap .i64 (j - (1 : Int))) fun a4 =>
  st1 H1 (Addr.add a4 (Int.toNat (IntKind.wrap .i64 (j - (1 : Int))) * 1)) (.string s1) fun H2 =>
  L1 data datan datac a b i (IntKind.wrap .i64 (j - (1 : Int))) H2 R
theorem L3_step {data : Option Addr} {datan : Nat} {datac : Nat} {a : Int} {b : Int} {i : Int} {j : Int} {H : Heap} {R : Ending → Heap → Prop} (h : L3n data datan datac a b i j H R) : L3 data datan datac a b i j H R :=
  goL_of_den (an := an) (fuel := 100000) (X := L3n data datan datac a b i j H R) mixed fn (by kernel_rfl) (fun ρ0 => by kernel_rfl) h
def go (data : Option Addr) (datan : Nat) (datac : Nat) (a : Int) (b : Int) (H : Heap) (R : Ending → Heap → Prop) : Prop :=
  L0 data datan datac a b (IntKind.wrap .i64 (a + (1 : Int))) H R
theorem calls {data : Option Addr} {datan : Nat} {datac : Nat} {a : Int} {b : Int} {H : Heap} {R : Ending → Heap → Prop} (h : go data datan datac a b H R) : CallsH Tryz.prog 46 ⟨[(.slice data datan datac), (.int .i64 a), (.int .i64 b)]⟩ H R :=
  callsH_of_den (an := an) (fuel := 100000) (X := go data datan datac a b H R) (c := body) mixed fn (by kernel_rfl) (by kernel_rfl) (by kernel_rfl) ok (by kernel_rfl) h
end F46
/-! ### 221 "slices.insertionSortCmpFunc[*pub-stadtholder/pub/etcdserver/lease.Lease]" -/
namespace F221
def an : Ann := { kinds := [], taus := [(4, [[0, 1, 2, 3, 4, 5, 6, 7, 9, 10, 11, 12, 8, 13, 14, 15, 16]]), (6, [[0, 1, 2, 3, 4, 5, 6, 7, 8, 10, 11, 12, 9, 13, 14, 15, 16, 17]])], pairs := [], lab := [(30000002, [0, 1, 2, 3, 8]), (70000005, [0, 1, 2, 3, 8, 9]), (30000003, [0, 1, 2, 3, 8]), (70000007, [0, 1, 2, 3, 8, 9])] }
noncomputable def body : Code := (Tryz.f221.body).getD .skip
theorem fn : Tryz.prog.funcs[221]? = some Tryz.f221 := by kernel_rfl
theorem ok : codeOk an 53 body = true := by kernel_rfl
noncomputable def L0t : List Item := [.code (sub [1, 0, 0] body), .inLoop (sub [1, 0, 0] body), .inBlock 0]
def L0 (data : Option Addr) (datan : Nat) (datac : Nat) (a : Int) (b : Int) (cmp : FV) (i : Int) (H : Heap) (R : Ending → Heap → Prop) : Prop :=
  GoL Tryz.prog 221 53 L0t [0, 1, 2, 3, 8] [(.slice data datan datac), (.int .i64 a), (.int .i64 b), (FV.v cmp), (.int .i64 i)] H R
noncomputable def L1t : List Item := [.code (sub [1, 0, 0, 1, 0, 0, 1, 0, 0] body), .inLoop (sub [1, 0, 0, 1, 0, 0, 1, 0, 0] body), .inBlock 2, .inBlock 1, .code (sub [1, 0, 0, 1, 1] body), .inLoop (sub [1, 0, 0] body), .inBlock 0]
def L1 (data : Option Addr) (datan : Nat) (datac : Nat) (a : Int) (b : Int) (cmp : FV) (i : Int) (j : Int) (H : Heap) (R : Ending → Heap → Prop) : Prop :=
  GoL Tryz.prog 221 53 L1t [0, 1, 2, 3, 8, 9] [(.slice data datan datac), (.int .i64 a), (.int .i64 b), (FV.v cmp), (.int .i64 i), (.int .i64 j)] H R
noncomputable def L2t : List Item := [.code (sub [1, 0, 0, 1, 1] body), .inLoop (sub [1, 0, 0] body), .inBlock 0]
def L2 (data : Option Addr) (datan : Nat) (datac : Nat) (a : Int) (b : Int) (cmp : FV) (i : Int) (H : Heap) (R : Ending → Heap → Prop) : Prop :=
  GoL Tryz.prog 221 53 L2t [0, 1, 2, 3, 8] [(.slice data datan datac), (.int .i64 a), (.int .i64 b), (FV.v cmp), (.int .i64 i)] H R
noncomputable def L3t : List Item := [.code (sub [1, 0, 0, 1, 0, 0, 1, 0, 0, 1] body), .inLoop (sub [1, 0, 0, 1, 0, 0, 1, 0, 0] body), .inBlock 2, .inBlock 1, .code (sub [1, 0, 0, 1, 1] body), .inLoop (sub [1, 0, 0] body), .inBlock 0]
def L3 (data : Option Addr) (datan : Nat) (datac : Nat) (a : Int) (b : Int) (cmp : FV) (i : Int) (j : Int) (H : Heap) (R : Ending → Heap → Prop) : Prop :=
  GoL Tryz.prog 221 53 L3t [0, 1, 2, 3, 8, 9] [(.slice data datan datac), (.int .i64 a), (.int .i64 b), (FV.v cmp), (.int .i64 i), (.int .i64 j)] H R
def L0n (data : Option Addr) (datan : Nat) (datac : Nat) (a : Int) (b : Int) (cmp : FV) (i : Int) (H : Heap) (R : Ending → Heap → Prop) : Prop :=
  iteB (decide (i < b)) (
    L1 data datan datac a b cmp i i H R) <|
  R (.returned (.tuple ⟨[]⟩)) H
theorem L0_step {data : Option Addr} {datan : Nat} {datac : Nat} {a : Int} {b : Int} {cmp : FV} {i : Int} {H : Heap} {R : Ending → Heap → Prop} (h : L0n data datan datac a b cmp i H R) : L0 data datan datac a b cmp i H R :=
  goL_of_den (an := an) (fuel := 100000) (X := L0n data datan datac a b cmp i H R) mixed fn (by kernel_rfl) (fun ρ0 => by kernel_rfl) h
def L1n (data : Option Addr) (datan : Nat) (datac : Nat) (a : Int) (b : Int) (cmp : FV) (i : Int) (j : Int) (H : Heap) (R : Ending → Heap → Prop) : Prop :=
  iteB (decide (j > a)) (
    idxD data datan j fun a1 =>
    idxD data datan (IntKind.wrap .i64 (j - (1 : Int))) fun a2 =>
    ldPtr H (Addr.add a1 (Int.toNat j * 1)) fun p =>
    ldPtr H (Addr.add a2 (Int.toNat (IntKind.wrap .i64 (j - (1 : Int))) * 1)) fun p1 =>
    callV Tryz.prog (FV.v cmp) [(.pointer p), (.pointer p1)] H (panK R) fun v H1 =>
    tInt v .i64 fun n =>
    iteB (decide (n < (0 : Int))) (
      L3 data datan datac a b cmp i j H1 R) <|
    L2 data datan datac a b cmp i H1 R) <|
  L2 data datan datac a b cmp i H R
theorem L1_step {data : Option Addr} {datan : Nat} {datac : Nat} {a : Int} {b : Int} {cmp : FV} {i : Int} {j : Int} {H : Heap} {R : Ending → Heap → Prop} (h : L1n data datan datac a b cmp i j H R) : L1 data datan datac a b cmp i j H R :=
  goL_of_den (an := an) (fuel := 100000) (X := L1n data datan datac a b cmp i j H R) mixed fn (by kernel_rfl) (fun ρ0 => by kernel_rfl) h
def L2n (data : Option Addr) (datan : Nat) (datac : Nat) (a : Int) (b : Int) (cmp : FV) (i : Int) (H : Heap) (R : Ending → Heap → Prop) : Prop :=
  L0 data datan datac a b cmp (IntKind.wrap .i64 (i + (1 : Int))) H R
theorem L2_step {data : Option Addr} {datan : Nat} {datac : Nat} {a : Int} {b : Int} {cmp : FV} {i : Int} {H : Heap} {R : Ending → Heap → Prop} (h : L2n data datan datac a b cmp i H R) : L2 data datan datac a b cmp i H R :=
  goL_of_den (an := an) (fuel := 100000) (X := L2n data datan datac a b cmp i H R) mixed fn (by kernel_rfl) (fun ρ0 => by kernel_rfl) h
def L3n (data : Option Addr) (datan : Nat) (datac : Nat) (a : Int) (b : Int) (cmp : FV) (i : Int) (j : Int) (H : Heap) (R : Ending → Heap → Prop) : Prop :=
  idxD data datan (IntKind.wrap .i64 (j - (1 : Int))) fun a1 =>
  idxD data datan j fun a2 =>
  ldPtr H (Addr.add a1 (Int.toNat (IntKind.wrap .i64 (j - (1 : Int))) * 1)) fun p =>
  ldPtr H (Addr.add a2 (Int.toNat j * 1)) fun p1 =>
  idxD data datan j fun a3 =>
  st1 H (Addr.add a3 (Int.toNat j * 1)) (.pointer p) fun H1 =>
  idxD data datan (IntKind.wrap .i64 (j - (1 : Int))) fun a4 =>
  st1 H1 (Addr.add a4 (Int.toNat (IntKind.wrap .i64 (j - (1 : Int))) * 1)) (.pointer p1) fun H2 =>
  L1 data datan datac a b cmp i (IntKind.wrap .i64 (j - (1 : Int))) H2 R
theorem L3_step {data : Option Addr} {datan : Nat} {datac : Nat} {a : Int} {b : Int} {cmp : FV} {i : Int} {j : Int} {H : Heap} {R : Ending → Heap → Prop} (h : L3n data datan datac a b cmp i j H R) : L3 data datan datac a b cmp i j H R :=
  goL_of_den (an := an) (fuel := 100000) (X := L3n data datan datac a b cmp i j H R) mixed fn (by kernel_rfl) (fun ρ0 => by kernel_rfl) h
def go (data : Option Addr) (datan : Nat) (datac : Nat) (a : Int) (b : Int) (cmp : FV) (H : Heap) (R : Ending → Heap → Prop) : Prop :=
  L0 data datan datac a b cmp (IntKind.wrap .i64 (a + (1 : Int))) H R
theorem calls {data : Option Addr} {datan : Nat} {datac : Nat} {a : Int} {b : Int} {cmp : FV} {H : Heap} {R : Ending → Heap → Prop} (h : go data datan datac a b cmp H R) : CallsH Tryz.prog 221 ⟨[(.slice data datan datac), (.int .i64 a), (.int .i64 b), (FV.v cmp)]⟩ H R :=
  callsH_of_den (an := an) (fuel := 100000) (X := go data datan datac a b cmp H R) (c := body) mixed fn (by kernel_rfl) (by kernel_rfl) (by kernel_rfl) ok (by kernel_rfl) h
end F221
end Go.Proofs.YtkenjnllegbmjaaGreat
