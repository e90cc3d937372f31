/- What functions of this seat do, each proved by a walk; no condition. -/
import Derived.Test.YtobolifgehagfaaGreatRB
import Derived.KernelRfl
set_option linter.unusedVariables false
namespace Go.Proofs.YtobolifgehagfaaGreat
open Go Go.Den Go.Proofs
/-! ### 118 "(*pub-stadtholder/pub/etcdserver/adt.intervalNode).updateMax" -/
namespace F118
def an : Ann := { kinds := [(2, .read), (3005, .read), (5005, .read)], taus := [], pairs := [], lab := [(30000001, [0, 1]), (50000005, [0, 1, 4]), (40000006, [0, 1, 4, 5]), (50000007, [0, 1, 4]), (40000008, [0, 1, 4, 5])] }
noncomputable def body : Code := (Tryz.f118.body).getD .skip
theorem fn : Tryz.prog.funcs[118]? = some Tryz.f118 := by kernel_rfl
theorem ok : codeOk an 81 body = true := by kernel_rfl
noncomputable def L0t : List Item := [.code (sub [0, 0] body), .inLoop (sub [0, 0] body), .inBlock 0]
def L0 (s0 s1 : OA) (H : Heap) (R : EH) : Prop :=
 GoL Tryz.prog 118 81 L0t [0, 1] [(.pointer s0), (.pointer s1)] H R
noncomputable def L1t : List Item := [.code (sub [0, 0, 1, 0, 1, 1, 0, 1, 0] body), .code (sub [0, 0, 1, 0, 1, 1, 1] body), .inBlock 1, .inLoop (sub [0, 0] body), .inBlock 0]
def L1 (s0 s1 : OA) (s4 : IV) (H : Heap) (R : EH) : Prop :=
 GoL Tryz.prog 118 81 L1t [0, 1, 4] [(.pointer s0), (.pointer s1), (IV.v s4)] H R
noncomputable def L2t : List Item := [.code (sub [0, 0, 1, 0, 1, 1, 1] body), .inBlock 1, .inLoop (sub [0, 0] body), .inBlock 0]
def L2 (s0 s1 : OA) (s4 s5 : IV) (H : Heap) (R : EH) : Prop :=
 GoL Tryz.prog 118 81 L2t [0, 1, 4, 5] [(.pointer s0), (.pointer s1), (IV.v s4), (IV.v s5)] H R
noncomputable def L3t : List Item := [.code (sub [0, 0, 1, 0, 1, 1, 1, 0, 1, 0] body), .code (sub [0, 0, 1, 0, 1, 1, 1, 1] body), .inBlock 1, .inLoop (sub [0, 0] body), .inBlock 0]
def L3 (s0 s1 : OA) (s4 : IV) (H : Heap) (R : EH) : Prop :=
 GoL Tryz.prog 118 81 L3t [0, 1, 4] [(.pointer s0), (.pointer s1), (IV.v s4)] H R
noncomputable def L4t : List Item := [.code (sub [0, 0, 1, 0, 1, 1, 1, 1] body), .inBlock 1, .inLoop (sub [0, 0] body), .inBlock 0]
def L4 (s0 s1 : OA) (s4 s5 : IV) (H : Heap) (R : EH) : Prop :=
 GoL Tryz.prog 118 81 L4t [0, 1, 4, 5] [(.pointer s0), (.pointer s1), (IV.v s4), (IV.v s5)] H R
def L0n (s0 s1 : OA) (H : Heap) (R : EH) : Prop :=
 pqD H s0 s1 fun b =>
 iteB (!b) (
 nilD s0 fun a =>
 ldIf H (Addr.add a 3) fun i =>
 nilD s0 fun a1 =>
 ldIf H (Addr.add a1 1) fun i1 =>
 nilD s0 fun a2 =>
 ldPtr H (Addr.add a2 4) fun p =>
 pqD H p s1 fun b1 =>
 iteB (!b1) (
 nilD s0 fun a3 =>
 ldPtr H (Addr.add a3 4) fun p1 =>
 nilD p1 fun a4 =>
 ldIf H (Addr.add a4 3) fun i2 =>
 callI Tryz.prog (IV.v i2) "Compare" [(IV.v i1)] H (panK R) fun v H1 =>
 tInt v .i64 fun n =>
 iteB (decide (n > (0 : Int))) (
 L1 s0 s1 i H1 R) <|
 L2 s0 s1 i i1 H1 R) <|
 L2 s0 s1 i i1 H R) <|
 R (.returned (.tuple ⟨[]⟩)) H
theorem L0_step {s0 s1 : OA} {H : Heap} {R : EH} (h : L0n s0 s1 H R) : L0 s0 s1 H R :=
 goL_of_den (an := an) (fuel := 100000) (X := L0n s0 s1 H R) mixed fn (by kernel_rfl) (fun ρ0 => by kernel_rfl) h
def L1n (s0 s1 : OA) (s4 : IV) (H : Heap) (R : EH) : Prop :=
 nilD s0 fun a =>
 ldPtr H (Addr.add a 4) fun p =>
 nilD p fun a1 =>
 ldIf H (Addr.add a1 3) fun i =>
 L2 s0 s1 s4 i H R
theorem L1_step {s0 s1 : OA} {s4 : IV} {H : Heap} {R : EH} (h : L1n s0 s1 s4 H R) : L1 s0 s1 s4 H R :=
 goL_of_den (an := an) (fuel := 100000) (X := L1n s0 s1 s4 H R) mixed fn (by kernel_rfl) (fun ρ0 => by kernel_rfl) h
def L2n (s0 s1 : OA) (s4 s5 : IV) (H : Heap) (R : EH) : Prop :=
 nilD s0 fun a =>
 ldPtr H (Addr.add a 5) fun p =>
 pqD H p s1 fun b =>
 iteB (!b) (
 nilD s0 fun a1 =>
 ldPtr H (Addr.add a1 5) fun p1 =>
 nilD p1 fun a2 =>
 ldIf H (Addr.add a2 3) fun i =>
 callI Tryz.prog (IV.v i) "Compare" [(IV.v s5)] H (panK R) fun v H1 =>
 tInt v .i64 fun n =>
 iteB (decide (n > (0 : Int))) (
 L3 s0 s1 s4 H1 R) <|
 L4 s0 s1 s4 s5 H1 R) <|
 L4 s0 s1 s4 s5 H R
theorem L2_step {s0 s1 : OA} {s4 s5 : IV} {H : Heap} {R : EH} (h : L2n s0 s1 s4 s5 H R) : L2 s0 s1 s4 s5 H R :=
 goL_of_den (an := an) (fuel := 100000) (X := L2n s0 s1 s4 s5 H R) mixed fn (by kernel_rfl) (fun ρ0 => by kernel_rfl) h
def L3n (s0 s1 : OA) (s4 : IV) (H : Heap) (R : EH) : Prop :=
 nilD s0 fun a =>
 ldPtr H (Addr.add a 5) fun p =>
 nilD p fun a1 =>
 ldIf H (Addr.add a1 3) fun i =>
 L4 s0 s1 s4 i H R
theorem L3_step {s0 s1 : OA} {s4 : IV} {H : Heap} {R : EH} (h : L3n s0 s1 s4 H R) : L3 s0 s1 s4 H R :=
 goL_of_den (an := an) (fuel := 100000) (X := L3n s0 s1 s4 H R) mixed fn (by kernel_rfl) (fun ρ0 => by kernel_rfl) h
def L4n (s0 s1 : OA) (s4 s5 : IV) (H : Heap) (R : EH) : Prop :=
 callI Tryz.prog (IV.v s4) "Compare" [(IV.v s5)] H (panK R) fun v H1 =>
 tInt v .i64 fun n =>
 iteB (n == (0 : Int)) (
 R (.returned (.tuple ⟨[]⟩)) H1) <|
 nilD s0 fun a =>
 guardB (isCell (IV.v s5)) <|
 st1 H1 (Addr.add a 3) (IV.v s5) fun H2 =>
 nilD s0 fun a1 =>
 ldPtr H2 (Addr.add a1 6) fun p =>
 L0 p s1 H2 R
theorem L4_step {s0 s1 : OA} {s4 s5 : IV} {H : Heap} {R : EH} (h : L4n s0 s1 s4 s5 H R) : L4 s0 s1 s4 s5 H R :=
 goL_of_den (an := an) (fuel := 100000) (X := L4n s0 s1 s4 s5 H R) mixed fn (by kernel_rfl) (fun ρ0 => by kernel_rfl) h
def go (s0 s1 : OA) (H : Heap) (R : EH) : Prop :=
 L0 s0 s1 H R
theorem calls {s0 s1 : OA} {H : Heap} {R : EH} (h : go s0 s1 H R) : CallsH Tryz.prog 118 ⟨[(.pointer s0), (.pointer s1)]⟩ H R :=
 callsH_of_den (an := an) (fuel := 100000) (X := go s0 s1 H R) (c := body) mixed fn (by kernel_rfl) (by kernel_rfl) (by kernel_rfl) ok (by kernel_rfl) h
end F118
/-! ### 130 "(*pub-stadtholder/pub/etcdserver/adt.intervalTree).find" -/
namespace F130
def an : Ann := { kinds := [(2005, .read)], taus := [(3, [[0, 2, 3, 4, 5, 6, 1, 8, 9, 7, 10, 11]]), (4, [[0, 2, 3, 4, 5, 6, 1, 8, 9, 7, 10, 11]])], pairs := [], lab := [(40000003, [0, 3, 5]), (50000008, [0, 3, 5, 6, 7])] }
noncomputable def body : Code := (Tryz.f130.body).getD .skip
theorem fn : Tryz.prog.funcs[130]? = some Tryz.f130 := by kernel_rfl
theorem ok : codeOk an 70 body = true := by kernel_rfl
noncomputable def L0t : List Item := [.code (sub [1, 1, 0, 0, 0] body), .inLoop (sub [1, 1, 0, 0, 0] body), .inBlock 0, .code (sub [1, 1, 1] body)]
def L0 (s0 : OA) (s3 : Nat) (s5 : OA) (H : Heap) (R : EH) : Prop :=
 GoL Tryz.prog 130 70 L0t [0, 3, 5] [(.pointer s0), (.pointer (some ⟨s3, 0, none⟩)), (.pointer s5)] H R
noncomputable def L1t : List Item := [.code (sub [1, 1, 0, 0, 0, 1, 0, 1, 1, 1] body), .inBlock 1, .inLoop (sub [1, 1, 0, 0, 0] body), .inBlock 0, .code (sub [1, 1, 1] body)]
def L1 (s0 : OA) (s3 : Nat) (s5 : OA) (s6 s7 : Int) (H : Heap) (R : EH) : Prop :=
 GoL Tryz.prog 130 70 L1t [0, 3, 5, 6, 7] [(.pointer s0), (.pointer (some ⟨s3, 0, none⟩)), (.pointer s5), (.int .i64 s6), (.int .i64 s7)] H R
def L0n (s0 : OA) (s3 : Nat) (s5 : OA) (H : Heap) (R : EH) : Prop :=
 nilD s0 fun a =>
 ldPtr H (Addr.add a 2) fun p =>
 pqD H s5 p fun b =>
 iteB (!b) (
 nilD s5 fun a1 =>
 ldIf H ⟨s3, 0, none⟩ fun i =>
 nilV Tryz.prog (IV.v i) fun v =>
 ldIf H a1 fun i1 =>
 callI Tryz.prog (IV.v i) "Compare" [(IV.v i1)] H (panK R) fun v1 H1 =>
 tInt v1 .i64 fun n =>
 nilD s5 fun a2 =>
 ldIf H1 ⟨s3, 1, none⟩ fun i2 =>
 nilV Tryz.prog (IV.v i2) fun v2 =>
 ldIf H1 (Addr.add a2 1) fun i3 =>
 callI Tryz.prog (IV.v i2) "Compare" [(IV.v i3)] H1 (panK R) fun v3 H2 =>
 tInt v3 .i64 fun n1 =>
 iteB (n == (0 : Int)) (
 iteB (n1 == (0 : Int)) (
 R (.returned (.pointer s5)) H2) <|
 L1 s0 s3 s5 n n1 H2 R) <|
 L1 s0 s3 s5 n n1 H2 R) <|
 R (.returned (.pointer s5)) H
theorem L0_step {s0 : OA} {s3 : Nat} {s5 : OA} {H : Heap} {R : EH} (h : L0n s0 s3 s5 H R) : L0 s0 s3 s5 H R :=
 goL_of_den (an := an) (fuel := 100000) (X := L0n s0 s3 s5 H R) mixed fn (by kernel_rfl) (fun ρ0 => by kernel_rfl) h
def L1n (s0 : OA) (s3 : Nat) (s5 : OA) (s6 s7 : Int) (H : Heap) (R : EH) : Prop :=
 iteB (decide (s6 < (0 : Int))) (
 nilD s5 fun a =>
 ldPtr H (Addr.add a 4) fun p =>
 L0 s0 s3 p H R) <|
 iteB (s6 == (0 : Int)) (
 iteB (decide (s7 < (0 : Int))) (
 nilD s5 fun a1 =>
 ldPtr H (Addr.add a1 4) fun p1 =>
 L0 s0 s3 p1 H R) <|
 nilD s5 fun a2 =>
 ldPtr H (Addr.add a2 5) fun p2 =>
 L0 s0 s3 p2 H R) <|
 nilD s5 fun a3 =>
 ldPtr H (Addr.add a3 5) fun p3 =>
 L0 s0 s3 p3 H R
theorem L1_step {s0 : OA} {s3 : Nat} {s5 : OA} {s6 s7 : Int} {H : Heap} {R : EH} (h : L1n s0 s3 s5 s6 s7 H R) : L1 s0 s3 s5 s6 s7 H R :=
 goL_of_den (an := an) (fuel := 100000) (X := L1n s0 s3 s5 s6 s7 H R) mixed fn (by kernel_rfl) (fun ρ0 => by kernel_rfl) h
def go (s0 : OA) (s1_0 s1_1 : IV) (H : Heap) (R : EH) : Prop :=
 newD H (.cells ⟨[(IV.v s1_0), (IV.v s1_1)]⟩ 141) fun r H1 =>
 nilD s0 fun a =>
 ldPtr H1 a fun p =>
 L0 s0 r p H1 R
theorem calls {s0 : OA} {s1_0 s1_1 : IV} {H : Heap} {R : EH} (h : go s0 s1_0 s1_1 H R) : CallsH Tryz.prog 130 ⟨[(.pointer s0), (.agg ⟨[(IV.v s1_0), (IV.v s1_1)]⟩)]⟩ H R :=
 callsH_of_den (an := an) (fuel := 100000) (X := go s0 s1_0 s1_1 H R) (c := body) mixed fn (by kernel_rfl) (by kernel_rfl) (by kernel_rfl) ok (by kernel_rfl) h
end F130
/-! ### 132 "(*pub-stadtholder/pub/etcdserver/adt.intervalNode).color" -/
namespace F132
def an : Ann := { kinds := [(1002, .read)], taus := [], pairs := [], lab := [] }
noncomputable def body : Code := (Tryz.f132.body).getD .skip
theorem fn : Tryz.prog.funcs[132]? = some Tryz.f132 := by kernel_rfl
theorem ok : codeOk an 12 body = true := by kernel_rfl
def go (x sentinel : OA) (H : Heap) (R : EH) : Prop :=
 pqD H x sentinel fun b =>
 iteB b (
 R (.returned (.int .i64 (0 : Int))) H) <|
 nilD x fun a =>
 ldInt H (Addr.add a 7) .i64 fun n =>
 R (.returned (.int .i64 n)) H
theorem calls {x sentinel : OA} {H : Heap} {R : EH} (h : go x sentinel H R) : CallsH Tryz.prog 132 ⟨[(.pointer x), (.pointer sentinel)]⟩ H R :=
 callsH_of_den (an := an) (fuel := 100000) (X := go x sentinel H R) (c := body) mixed fn (by kernel_rfl) (by kernel_rfl) (by kernel_rfl) ok (by kernel_rfl) h
end F132
/-! ### 134 "(*pub-stadtholder/pub/etcdserver/adt.intervalTree).createIntervalNode" -/
namespace F134
def an : Ann := { kinds := [(1018, .grow)], taus := [(1, [[1, 3, 5, 6, 7, 9, 10, 11, 13, 14, 15, 0, 2, 4, 8, 12, 16, 17, 18, 19]])], pairs := [], lab := [] }
noncomputable def body : Code := (Tryz.f134.body).getD .skip
theorem fn : Tryz.prog.funcs[134]? = some Tryz.f134 := by kernel_rfl
theorem ok : codeOk an 26 body = true := by kernel_rfl
def go (ivt : OA) (ivl_0 ivl_1 val : IV) (H : Heap) (R : EH) : Prop :=
 newD H (.cells ⟨[(IV.v ivl_0), (IV.v ivl_1)]⟩ 141) fun r H1 =>
 nilD ivt fun a =>
 nilD ivt fun a1 =>
 nilD ivt fun a2 =>
 ldIf H1 ⟨r, 0, none⟩ fun i =>
 ldIf H1 ⟨r, 1, none⟩ fun i1 =>
 guardB (isCell (IV.v val)) <|
 ldIf H1 ⟨r, 1, none⟩ fun i2 =>
 ldPtr H1 (Addr.add a 2) fun p =>
 ldPtr H1 (Addr.add a1 2) fun p1 =>
 ldPtr H1 (Addr.add a2 2) fun p2 =>
 guardB (isCell (IV.v i2)) <|
 newD H1 (.cells ⟨[(IV.v i), (IV.v i1), (IV.v val), (IV.v i2), (.pointer p), (.pointer p1), (.pointer p2), (.int .i64 (1 : Int))]⟩ 146) fun r1 H2 =>
 R (.returned (.pointer (some ⟨r1, 0, none⟩))) H2
theorem calls {ivt : OA} {ivl_0 ivl_1 val : IV} {H : Heap} {R : EH} (h : go ivt ivl_0 ivl_1 val H R) : CallsH Tryz.prog 134 ⟨[(.pointer ivt), (.agg ⟨[(IV.v ivl_0), (IV.v ivl_1)]⟩), (IV.v val)]⟩ H R :=
 callsH_of_den (an := an) (fuel := 100000) (X := go ivt ivl_0 ivl_1 val H R) (c := body) mixed fn (by kernel_rfl) (by kernel_rfl) (by kernel_rfl) ok (by kernel_rfl) h
end F134
/-! ### 136 "(*pub-stadtholder/pub/etcdserver/adt.Interval).Compare" -/
namespace F136
def an : Ann := { kinds := [(1001, .heavy 0)], taus := [(2, [[0, 1, 2, 4, 5, 6, 3, 8, 9, 7, 10, 11]]), (3, [[0, 1, 2, 4, 5, 6, 3, 8, 9, 7, 10, 11]]), (4, [[0, 1, 2, 4, 5, 6, 3, 8, 9, 7, 10, 11]])], pairs := [], lab := [(10000008, [7])] }
noncomputable def body : Code := (Tryz.f136.body).getD .skip
theorem fn : Tryz.prog.funcs[136]? = some Tryz.f136 := by kernel_rfl
theorem ok : codeOk an 52 body = true := by kernel_rfl
noncomputable def L0t : List Item := [.code (sub [1, 1, 1, 1, 1, 1] body)]
def L0 (ivbCmpEnd : Int) (H : Heap) (R : EH) : Prop :=
 GoL Tryz.prog 136 52 L0t [7] [(.int .i64 ivbCmpEnd)] H R
def L0n (ivbCmpEnd : Int) (H : Heap) (R : EH) : Prop :=
 iteB (decide (ivbCmpEnd ≥ (0 : Int))) (
 R (.returned (.int .i64 (1 : Int))) H) <|
 R (.returned (.int .i64 (0 : Int))) H
theorem L0_step {ivbCmpEnd : Int} {H : Heap} {R : EH} (h : L0n ivbCmpEnd H R) : L0 ivbCmpEnd H R :=
 goL_of_den (an := an) (fuel := 100000) (X := L0n ivbCmpEnd H R) mixed fn (by kernel_rfl) (fun ρ0 => by kernel_rfl) h
def go (ivl : OA) (c : IV) (H : Heap) (R : EH) : Prop :=
 valD Tryz.prog (Instr.typeAssert (IV.v c) 139 222 false) H (panK R) fun v H1 =>
 tPtr v fun p =>
 nilD ivl fun a =>
 nilD p fun a1 =>
 ldIf H1 a fun i =>
 nilV Tryz.prog (IV.v i) fun v1 =>
 ldIf H1 a1 fun i1 =>
 callI Tryz.prog (IV.v i) "Compare" [(IV.v i1)] H1 (panK R) fun v2 H2 =>
 tInt v2 .i64 fun n =>
 nilD ivl fun a2 =>
 nilD p fun a3 =>
 ldIf H2 a2 fun i2 =>
 nilV Tryz.prog (IV.v i2) fun v3 =>
 ldIf H2 (Addr.add a3 1) fun i3 =>
 callI Tryz.prog (IV.v i2) "Compare" [(IV.v i3)] H2 (panK R) fun v4 H3 =>
 tInt v4 .i64 fun n1 =>
 nilD ivl fun a4 =>
 nilD p fun a5 =>
 ldIf H3 (Addr.add a4 1) fun i4 =>
 nilV Tryz.prog (IV.v i4) fun v5 =>
 ldIf H3 a5 fun i5 =>
 callI Tryz.prog (IV.v i4) "Compare" [(IV.v i5)] H3 (panK R) fun v6 H4 =>
 tInt v6 .i64 fun n2 =>
 iteB (decide (n < (0 : Int))) (
 iteB (decide (n2 ≤ (0 : Int))) (
 R (.returned (.int .i64 (-1 : Int))) H4) <|
 L0 n1 H4 R) <|
 L0 n1 H4 R
theorem calls {ivl : OA} {c : IV} {H : Heap} {R : EH} (h : go ivl c H R) : CallsH Tryz.prog 136 ⟨[(.pointer ivl), (IV.v c)]⟩ H R :=
 callsH_of_den (an := an) (fuel := 100000) (X := go ivl c H R) (c := body) mixed fn (by kernel_rfl) (by kernel_rfl) (by kernel_rfl) ok (by kernel_rfl) h
end F136
/-! ### 138 "(*pub-stadtholder/pub/etcdserver/adt.intervalNode).visit" -/
namespace F138
def an : Ann := { kinds := [(1002, .read), (10011, .grow)], taus := [(10, [[0, 1, 2, 3, 4, 6, 7, 8, 5, 9, 10, 11, 12]])], pairs := [], lab := [] }
noncomputable def body : Code := (Tryz.f138.body).getD .skip
theorem fn : Tryz.prog.funcs[138]? = some Tryz.f138 := by kernel_rfl
theorem ok : codeOk an 97 body = true := by kernel_rfl
def go (s0 s1 s2 : OA) (s3 : FV) (H : Heap) (R : EH) : Prop :=
 pqD H s0 s2 fun b =>
 iteB b (
 R (.returned (.bool true)) H) <|
 nilD s0 fun a =>
 callD Tryz.prog 136 [(.pointer s1), (.iface 222 (.pointer (some a)))] H (panK R) fun v H1 =>
 tInt v .i64 fun n =>
 iteB (decide (n < (0 : Int))) (
 nilD s0 fun a1 =>
 ldPtr H1 (Addr.add a1 4) fun p =>
 callD Tryz.prog 138 [(.pointer p), (.pointer s1), (.pointer s2), (FV.v s3)] H1 (panK R) fun v1 H2 =>
 tBool v1 fun b1 =>
 iteB (!b1) (
 R (.returned (.bool false)) H2) <|
 R (.returned (.bool true)) H2) <|
 iteB (decide (n > (0 : Int))) (
 nilD s0 fun a2 =>
 nilD s0 fun a3 =>
 ldIf H1 a2 fun i =>
 ldIf H1 (Addr.add a3 3) fun i1 =>
 guardB (isCell (IV.v i)) <|
 guardB (isCell (IV.v i1)) <|
 newD H1 (.cells ⟨[.nilIface, .nilIface]⟩ 141) fun r H3 =>
 st1 H3 ⟨r, 0, none⟩ (IV.v i) fun H4 =>
 st1 H4 ⟨r, 1, none⟩ (IV.v i1) fun H5 =>
 callD Tryz.prog 136 [(.pointer (some ⟨r, 0, none⟩)), (.iface 222 (.pointer s1))] H5 (panK R) fun v2 H6 =>
 tInt v2 .i64 fun n1 =>
 iteB (n1 == (0 : Int)) (
 nilD s0 fun a4 =>
 ldPtr H6 (Addr.add a4 4) fun p1 =>
 callD Tryz.prog 138 [(.pointer p1), (.pointer s1), (.pointer s2), (FV.v s3)] H6 (panK R) fun v3 H7 =>
 tBool v3 fun b2 =>
 iteB (!b2) (
 R (.returned (.bool false)) H7) <|
 nilD s0 fun a5 =>
 ldPtr H7 (Addr.add a5 5) fun p2 =>
 callD Tryz.prog 138 [(.pointer p2), (.pointer s1), (.pointer s2), (FV.v s3)] H7 (panK R) fun v4 H8 =>
 tBool v4 fun b3 =>
 iteB (!b3) (
 R (.returned (.bool false)) H8) <|
 R (.returned (.bool true)) H8) <|
 R (.returned (.bool true)) H6) <|
 nilD s0 fun a6 =>
 ldPtr H1 (Addr.add a6 4) fun p3 =>
 callD Tryz.prog 138 [(.pointer p3), (.pointer s1), (.pointer s2), (FV.v s3)] H1 (panK R) fun v5 H9 =>
 tBool v5 fun b4 =>
 iteB (!b4) (
 R (.returned (.bool false)) H9) <|
 callV Tryz.prog (FV.v s3) [(.pointer s0)] H9 (panK R) fun v6 H10 =>
 tBool v6 fun b5 =>
 iteB (!b5) (
 R (.returned (.bool false)) H10) <|
 nilD s0 fun a7 =>
 ldPtr H10 (Addr.add a7 5) fun p4 =>
 callD Tryz.prog 138 [(.pointer p4), (.pointer s1), (.pointer s2), (FV.v s3)] H10 (panK R) fun v7 H11 =>
 tBool v7 fun b6 =>
 iteB (!b6) (
 R (.returned (.bool false)) H11) <|
 R (.returned (.bool true)) H11
theorem calls {s0 s1 s2 : OA} {s3 : FV} {H : Heap} {R : EH} (h : go s0 s1 s2 s3 H R) : CallsH Tryz.prog 138 ⟨[(.pointer s0), (.pointer s1), (.pointer s2), (FV.v s3)]⟩ H R :=
 callsH_of_den (an := an) (fuel := 100000) (X := go s0 s1 s2 s3 H R) (c := body) mixed fn (by kernel_rfl) (by kernel_rfl) (by kernel_rfl) ok (by kernel_rfl) h
end F138
/-! ### 139 "(*pub-stadtholder/pub/etcdserver/adt.intervalTree).Visit$1" -/
namespace F139
def an : Ann := { kinds := [], taus := [(1, [[1, 2, 3, 0, 4, 5]])], pairs := [], lab := [] }
noncomputable def body : Code := (Tryz.f139.body).getD .skip
theorem fn : Tryz.prog.funcs[139]? = some Tryz.f139 := by kernel_rfl
theorem ok : codeOk an 9 body = true := by kernel_rfl
def go (n : OA) (s1 : Addr) (H : Heap) (R : EH) : Prop :=
 nilD n fun a =>
 ldFn H s1 fun f =>
 callV Tryz.prog (FV.v f) [(.pointer (some a))] H (panK R) fun v H1 =>
 tBool v fun b =>
 R (.returned (.bool b)) H1
theorem calls {n : OA} {s1 : Addr} {H : Heap} {R : EH} (h : go n s1 H R) : CallsH Tryz.prog 139 ⟨[(.pointer n), (.pointer (some s1))]⟩ H R :=
 callsH_of_den (an := an) (fuel := 100000) (X := go n s1 H R) (c := body) mixed fn (by kernel_rfl) (by kernel_rfl) (by kernel_rfl) ok (by kernel_rfl) h
end F139
/-! ### 141 "(*pub-stadtholder/pub/etcdserver/adt.intervalTree).rotateLeft" -/
namespace F141
def an : Ann := { kinds := [(8, .read), (3008, .read)], taus := [(0, [[0, 1, 2, 4, 5, 6, 3, 7, 8]]), (3, [[0, 1, 2, 4, 5, 6, 3, 7, 8]])], pairs := [], lab := [(10000006, [0, 1, 4])] }
noncomputable def body : Code := (Tryz.f141.body).getD .skip
theorem fn : Tryz.prog.funcs[141]? = some Tryz.f141 := by kernel_rfl
theorem ok : codeOk an 61 body = true := by kernel_rfl
noncomputable def L0t : List Item := [.code (sub [1, 1, 1, 1] body)]
def L0 (ivt x y : OA) (H : Heap) (R : EH) : Prop :=
 GoL Tryz.prog 141 61 L0t [0, 1, 4] [(.pointer ivt), (.pointer x), (.pointer y)] H R
def L0n (ivt x y : OA) (H : Heap) (R : EH) : Prop :=
 nilD ivt fun a =>
 ldPtr H (Addr.add a 2) fun p =>
 callD Tryz.prog 118 [(.pointer x), (.pointer p)] H (panK R) fun v H1 =>
 tTup v fun l =>
 tNil l <|
 callD Tryz.prog 143 [(.pointer ivt), (.pointer x), (.pointer y)] H1 (panK R) fun v1 H2 =>
 tTup v1 fun l1 =>
 tNil l1 <|
 nilD y fun a1 =>
 st1 H2 (Addr.add a1 4) (.pointer x) fun H3 =>
 nilD ivt fun a2 =>
 ldPtr H3 (Addr.add a2 2) fun p1 =>
 callD Tryz.prog 118 [(.pointer y), (.pointer p1)] H3 (panK R) fun v2 H4 =>
 tTup v2 fun l2 =>
 tNil l2 <|
 R (.returned (.tuple ⟨[]⟩)) H4
theorem L0_step {ivt x y : OA} {H : Heap} {R : EH} (h : L0n ivt x y H R) : L0 ivt x y H R :=
 goL_of_den (an := an) (fuel := 100000) (X := L0n ivt x y H R) mixed fn (by kernel_rfl) (fun ρ0 => by kernel_rfl) h
def go (ivt x : OA) (H : Heap) (R : EH) : Prop :=
 nilD x fun a =>
 nilD ivt fun a1 =>
 ldPtr H (Addr.add a 5) fun p =>
 ldPtr H (Addr.add a1 2) fun p1 =>
 pqD H p p1 fun b =>
 iteB b (
 R (.returned (.tuple ⟨[]⟩)) H) <|
 nilD x fun a2 =>
 ldPtr H (Addr.add a2 5) fun p2 =>
 nilD p2 fun a3 =>
 ldPtr H (Addr.add a3 4) fun p3 =>
 nilD x fun a4 =>
 st1 H (Addr.add a4 5) (.pointer p3) fun H1 =>
 nilD p2 fun a5 =>
 nilD ivt fun a6 =>
 ldPtr H1 (Addr.add a5 4) fun p4 =>
 ldPtr H1 (Addr.add a6 2) fun p5 =>
 pqD H1 p4 p5 fun b1 =>
 iteB (!b1) (
 nilD p2 fun a7 =>
 ldPtr H1 (Addr.add a7 4) fun p6 =>
 nilD p6 fun a8 =>
 st1 H1 (Addr.add a8 6) (.pointer x) fun H2 =>
 L0 ivt x p2 H2 R) <|
 L0 ivt x p2 H1 R
theorem calls {ivt x : OA} {H : Heap} {R : EH} (h : go ivt x H R) : CallsH Tryz.prog 141 ⟨[(.pointer ivt), (.pointer x)]⟩ H R :=
 callsH_of_den (an := an) (fuel := 100000) (X := go ivt x H R) (c := body) mixed fn (by kernel_rfl) (by kernel_rfl) (by kernel_rfl) ok (by kernel_rfl) h
end F141
/-! ### 142 "(*pub-stadtholder/pub/etcdserver/adt.intervalTree).rotateRight" -/
namespace F142
def an : Ann := { kinds := [(8, .read), (3008, .read)], taus := [(0, [[0, 1, 2, 4, 5, 6, 3, 7, 8]]), (3, [[0, 1, 2, 4, 5, 6, 3, 7, 8]])], pairs := [], lab := [(10000006, [0, 1, 4])] }
noncomputable def body : Code := (Tryz.f142.body).getD .skip
theorem fn : Tryz.prog.funcs[142]? = some Tryz.f142 := by kernel_rfl
theorem ok : codeOk an 61 body = true := by kernel_rfl
noncomputable def L0t : List Item := [.code (sub [1, 1, 1, 1] body)]
def L0 (ivt x y : OA) (H : Heap) (R : EH) : Prop :=
 GoL Tryz.prog 142 61 L0t [0, 1, 4] [(.pointer ivt), (.pointer x), (.pointer y)] H R
def L0n (ivt x y : OA) (H : Heap) (R : EH) : Prop :=
 nilD ivt fun a =>
 ldPtr H (Addr.add a 2) fun p =>
 callD Tryz.prog 118 [(.pointer x), (.pointer p)] H (panK R) fun v H1 =>
 tTup v fun l =>
 tNil l <|
 callD Tryz.prog 143 [(.pointer ivt), (.pointer x), (.pointer y)] H1 (panK R) fun v1 H2 =>
 tTup v1 fun l1 =>
 tNil l1 <|
 nilD y fun a1 =>
 st1 H2 (Addr.add a1 5) (.pointer x) fun H3 =>
 nilD ivt fun a2 =>
 ldPtr H3 (Addr.add a2 2) fun p1 =>
 callD Tryz.prog 118 [(.pointer y), (.pointer p1)] H3 (panK R) fun v2 H4 =>
 tTup v2 fun l2 =>
 tNil l2 <|
 R (.returned (.tuple ⟨[]⟩)) H4
theorem L0_step {ivt x y : OA} {H : Heap} {R : EH} (h : L0n ivt x y H R) : L0 ivt x y H R :=
 goL_of_den (an := an) (fuel := 100000) (X := L0n ivt x y H R) mixed fn (by kernel_rfl) (fun ρ0 => by kernel_rfl) h
def go (ivt x : OA) (H : Heap) (R : EH) : Prop :=
 nilD x fun a =>
 nilD ivt fun a1 =>
 ldPtr H (Addr.add a 4) fun p =>
 ldPtr H (Addr.add a1 2) fun p1 =>
 pqD H p p1 fun b =>
 iteB b (
 R (.returned (.tuple ⟨[]⟩)) H) <|
 nilD x fun a2 =>
 ldPtr H (Addr.add a2 4) fun p2 =>
 nilD p2 fun a3 =>
 ldPtr H (Addr.add a3 5) fun p3 =>
 nilD x fun a4 =>
 st1 H (Addr.add a4 4) (.pointer p3) fun H1 =>
 nilD p2 fun a5 =>
 nilD ivt fun a6 =>
 ldPtr H1 (Addr.add a5 5) fun p4 =>
 ldPtr H1 (Addr.add a6 2) fun p5 =>
 pqD H1 p4 p5 fun b1 =>
 iteB (!b1) (
 nilD p2 fun a7 =>
 ldPtr H1 (Addr.add a7 5) fun p6 =>
 nilD p6 fun a8 =>
 st1 H1 (Addr.add a8 6) (.pointer x) fun H2 =>
 L0 ivt x p2 H2 R) <|
 L0 ivt x p2 H1 R
theorem calls {ivt x : OA} {H : Heap} {R : EH} (h : go ivt x H R) : CallsH Tryz.prog 142 ⟨[(.pointer ivt), (.pointer x)]⟩ H R :=
 callsH_of_den (an := an) (fuel := 100000) (X := go ivt x H R) (c := body) mixed fn (by kernel_rfl) (by kernel_rfl) (by kernel_rfl) ok (by kernel_rfl) h
end F142
/-! ### 143 "(*pub-stadtholder/pub/etcdserver/adt.intervalTree).replaceParent" -/
namespace F143
def an : Ann := { kinds := [(1008, .read), (3008, .read)], taus := [(1, [[0, 1, 2, 4, 5, 6, 3, 7, 8]]), (6, [[0, 1, 2, 4, 5, 6, 3, 7, 8]])], pairs := [], lab := [(20000007, [0, 1, 2])] }
noncomputable def body : Code := (Tryz.f143.body).getD .skip
theorem fn : Tryz.prog.funcs[143]? = some Tryz.f143 := by kernel_rfl
theorem ok : codeOk an 62 body = true := by kernel_rfl
noncomputable def L0t : List Item := [.code (sub [1, 0, 1, 1, 1] body), .code (sub [1, 1] body)]
def L0 (ivt x y : OA) (H : Heap) (R : EH) : Prop :=
 GoL Tryz.prog 143 62 L0t [0, 1, 2] [(.pointer ivt), (.pointer x), (.pointer y)] H R
def L0n (ivt x y : OA) (H : Heap) (R : EH) : Prop :=
 nilD x fun a =>
 nilD ivt fun a1 =>
 ldPtr H (Addr.add a 6) fun p =>
 ldPtr H (Addr.add a1 2) fun p1 =>
 callD Tryz.prog 118 [(.pointer p), (.pointer p1)] H (panK R) fun v H1 =>
 tTup v fun l =>
 tNil l <|
 nilD x fun a2 =>
 st1 H1 (Addr.add a2 6) (.pointer y) fun H2 =>
 R (.returned (.tuple ⟨[]⟩)) H2
theorem L0_step {ivt x y : OA} {H : Heap} {R : EH} (h : L0n ivt x y H R) : L0 ivt x y H R :=
 goL_of_den (an := an) (fuel := 100000) (X := L0n ivt x y H R) mixed fn (by kernel_rfl) (fun ρ0 => by kernel_rfl) h
def go (ivt x y : OA) (H : Heap) (R : EH) : Prop :=
 nilD x fun a =>
 ldPtr H (Addr.add a 6) fun p =>
 nilD y fun a1 =>
 st1 H (Addr.add a1 6) (.pointer p) fun H1 =>
 nilD x fun a2 =>
 nilD ivt fun a3 =>
 ldPtr H1 (Addr.add a2 6) fun p1 =>
 ldPtr H1 (Addr.add a3 2) fun p2 =>
 pqD H1 p1 p2 fun b =>
 iteB b (
 nilD ivt fun a4 =>
 st1 H1 a4 (.pointer y) fun H2 =>
 nilD x fun a5 =>
 st1 H2 (Addr.add a5 6) (.pointer y) fun H3 =>
 R (.returned (.tuple ⟨[]⟩)) H3) <|
 nilD x fun a6 =>
 ldPtr H1 (Addr.add a6 6) fun p3 =>
 nilD p3 fun a7 =>
 ldPtr H1 (Addr.add a7 4) fun p4 =>
 pqD H1 x p4 fun b1 =>
 iteB b1 (
 nilD x fun a8 =>
 ldPtr H1 (Addr.add a8 6) fun p5 =>
 nilD p5 fun a9 =>
 st1 H1 (Addr.add a9 4) (.pointer y) fun H4 =>
 L0 ivt x y H4 R) <|
 nilD x fun a10 =>
 ldPtr H1 (Addr.add a10 6) fun p6 =>
 nilD p6 fun a11 =>
 st1 H1 (Addr.add a11 5) (.pointer y) fun H5 =>
 L0 ivt x y H5 R
theorem calls {ivt x y : OA} {H : Heap} {R : EH} (h : go ivt x y H R) : CallsH Tryz.prog 143 ⟨[(.pointer ivt), (.pointer x), (.pointer y)]⟩ H R :=
 callsH_of_den (an := an) (fuel := 100000) (X := go ivt x y H R) (c := body) mixed fn (by kernel_rfl) (by kernel_rfl) (by kernel_rfl) ok (by kernel_rfl) h
end F143
/-! ### 144 "(pub-stadtholder/pub/etcdserver/adt.StringAffineComparable).Compare" -/
namespace F144
def an : Ann := { kinds := [(1001, .heavy 0)], taus := [], pairs := [], lab := [] }
noncomputable def body : Code := (Tryz.f144.body).getD .skip
theorem fn : Tryz.prog.funcs[144]? = some Tryz.f144 := by kernel_rfl
theorem ok : codeOk an 23 body = true := by kernel_rfl
def go (s : ByteArray) (c : IV) (H : Heap) (R : EH) : Prop :=
 valD Tryz.prog (Instr.typeAssert (IV.v c) 139 181 false) H (panK R) fun v H1 =>
 tStr v fun s1 =>
 iteB (((ByteArray.size s : Nat) : Int) == (0 : Int)) (
 iteB (((ByteArray.size s1 : Nat) : Int) == (0 : Int)) (
 R (.returned (.int .i64 (0 : Int))) H1) <|
 R (.returned (.int .i64 (1 : Int))) H1) <|
 iteB (((ByteArray.size s1 : Nat) : Int) == (0 : Int)) (
 R (.returned (.int .i64 (-1 : Int))) H1) <|
 iteB (ltS s s1) (
 R (.returned (.int .i64 (-1 : Int))) H1) <|
 iteB (!(ltS s s1 || eqS s s1)) (
 R (.returned (.int .i64 (1 : Int))) H1) <|
 R (.returned (.int .i64 (0 : Int))) H1
theorem calls {s : ByteArray} {c : IV} {H : Heap} {R : EH} (h : go s c H R) : CallsH Tryz.prog 144 ⟨[(.string s), (IV.v c)]⟩ H R :=
 callsH_of_den (an := an) (fuel := 100000) (X := go s c H R) (c := body) mixed fn (by kernel_rfl) (by kernel_rfl) (by kernel_rfl) ok (by kernel_rfl) h
end F144
/-! ### 137 "(*pub-stadtholder/pub/etcdserver/adt.intervalTree).Stab$1" -/
namespace F137
def an : Ann := { kinds := [], taus := [], pairs := [], lab := [] }
noncomputable def body : Code := (Tryz.f137.body).getD .skip
theorem fn : Tryz.prog.funcs[137]? = some Tryz.f137 := by kernel_rfl
theorem ok : codeOk an 8 body = true := by kernel_rfl
def go (n : OA) (s1 : Addr) (H : Heap) (R : EH) : Prop :=
 ldSl H s1 fun q qn qc =>
 newD H (.cells ⟨[(.pointer n)]⟩ 151) fun r H1 =>
 apD H1 1 8 [(.pointer none)] 151 q qn qc (some ⟨r, 0, none⟩) 1 fun q1 q1n q1c H2 =>
 st1 H2 s1 (.slice q1 q1n q1c) fun H3 =>
 R (.returned (.bool true)) H3
theorem calls {n : OA} {s1 : Addr} {H : Heap} {R : EH} (h : go n s1 H R) : CallsH Tryz.prog 137 ⟨[(.pointer n), (.pointer (some s1))]⟩ H R :=
 callsH_of_den (an := an) (fuel := 100000) (X := go n s1 H R) (c := body) mixed fn (by kernel_rfl) (by kernel_rfl) (by kernel_rfl) ok (by kernel_rfl) h
end F137
end Go.Proofs.YtobolifgehagfaaGreat
