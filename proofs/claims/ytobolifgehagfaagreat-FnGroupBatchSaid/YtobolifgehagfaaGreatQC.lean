/- What functions of this seat do, each proved by a walk; no condition. -/
import Derived.Test.YtobolifgehagfaaGreatQB
import Derived.KernelRfl
set_option linter.unusedVariables false
namespace Go.Proofs.YtobolifgehagfaaGreat
open Go Go.Den Go.Proofs
/-! ### 121 "(*pub-stadtholder/pub/etcdserver/adt.intervalTree).Find" -/
namespace F121
def an : Ann := { kinds := [(2005, .read)], taus := [], pairs := [], lab := [] }
noncomputable def body : Code := (Tryz.f121.body).getD .skip
theorem fn : Tryz.prog.funcs[121]? = some Tryz.f121 := by kernel_rfl
theorem ok : codeOk an 18 body = true := by kernel_rfl
def go (ivt : OA) (ivl_0 ivl_1 : IV) (H : Heap) (R : EH) : Prop :=
 newD H (.cells ⟨[(IV.v ivl_0), (IV.v ivl_1)]⟩ 141) fun r H1 =>
 ldIf H1 ⟨r, 0, none⟩ fun i =>
 ldIf H1 ⟨r, 1, none⟩ fun i1 =>
 callD Tryz.prog 130 [(.pointer ivt), (.agg ⟨[(IV.v i), (IV.v i1)]⟩)] H1 (panK R) fun v H2 =>
 tPtr v fun p =>
 nilD ivt fun a =>
 ldPtr H2 (Addr.add a 2) fun p1 =>
 pqD H2 p p1 fun b =>
 iteB b (
 R (.returned (.pointer none)) H2) <|
 nilD p fun a1 =>
 R (.returned (.pointer (some a1))) H2
theorem calls {ivt : OA} {ivl_0 ivl_1 : IV} {H : Heap} {R : EH} (h : go ivt ivl_0 ivl_1 H R) : CallsH Tryz.prog 121 ⟨[(.pointer ivt), (.agg ⟨[(IV.v ivl_0), (IV.v ivl_1)]⟩)]⟩ H R :=
 callsH_of_den (an := an) (fuel := 100000) (X := go ivt ivl_0 ivl_1 H R) (c := body) mixed fn (by kernel_rfl) (by kernel_rfl) (by kernel_rfl) ok (by kernel_rfl) h
end F121
/-! ### 123 "(*pub-stadtholder/pub/etcdserver/adt.intervalTree).Insert" -/
namespace F123
def an : Ann := { kinds := [(4005, .read), (15005, .read)], taus := [(6, [[0, 1, 2, 3, 4, 6, 7, 8, 9, 10, 5, 12, 13, 11, 14, 15]]), (10, [[0, 1, 2, 3, 4, 6, 7, 8, 9, 10, 5, 12, 13, 11, 14, 15]]), (17, [[0, 1, 2, 3, 4, 6, 7, 8, 9, 10, 5, 12, 13, 11, 14, 15]]), (21, [[0, 1, 2, 3, 4, 6, 7, 8, 9, 10, 5, 12, 13, 11, 14, 15]])], pairs := [], lab := [(40000005, [0, 6, 7, 8]), (20000026, [0, 6, 7]), (10000027, [0, 7])] }
noncomputable def body : Code := (Tryz.f123.body).getD .skip
theorem fn : Tryz.prog.funcs[123]? = some Tryz.f123 := by kernel_rfl
theorem ok : codeOk an 165 body = true := by kernel_rfl
noncomputable def L0t : List Item := [.code (sub [1, 1, 1, 1, 0, 0, 0] body), .inLoop (sub [1, 1, 1, 1, 0, 0, 0] body), .inBlock 0, .code (sub [1, 1, 1, 1, 1] body)]
def L0 (s0 s6 s7 s8 : OA) (H : Heap) (R : EH) : Prop :=
 GoL Tryz.prog 123 165 L0t [0, 6, 7, 8] [(.pointer s0), (.pointer s6), (.pointer s7), (.pointer s8)] H R
noncomputable def L1t : List Item := [.code (sub [1, 1, 1, 1, 1, 1, 0, 1, 1, 1, 1] body), .code (sub [1, 1, 1, 1, 1, 1, 1] body)]
def L1 (s0 s6 s7 : OA) (H : Heap) (R : EH) : Prop :=
 GoL Tryz.prog 123 165 L1t [0, 6, 7] [(.pointer s0), (.pointer s6), (.pointer s7)] H R
noncomputable def L2t : List Item := [.code (sub [1, 1, 1, 1, 1, 1, 1] body)]
def L2 (s0 s7 : OA) (H : Heap) (R : EH) : Prop :=
 GoL Tryz.prog 123 165 L2t [0, 7] [(.pointer s0), (.pointer s7)] H R
def L0n (s0 s6 s7 s8 : OA) (H : Heap) (R : EH) : Prop :=
 nilD s0 fun a =>
 ldPtr H (Addr.add a 2) fun p =>
 pqD H s8 p fun b =>
 iteB (!b) (
 nilD s7 fun a1 =>
 nilD s8 fun a2 =>
 ldIf H a1 fun i =>
 nilV Tryz.prog (IV.v i) fun v =>
 ldIf H a2 fun i1 =>
 callI Tryz.prog (IV.v i) "Compare" [(IV.v i1)] H (panK R) fun v1 H1 =>
 tInt v1 .i64 fun n =>
 iteB (decide (n < (0 : Int))) (
 nilD s8 fun a3 =>
 ldPtr H1 (Addr.add a3 4) fun p1 =>
 L0 s0 s8 s7 p1 H1 R) <|
 iteB (n == (0 : Int)) (
 nilD s7 fun a4 =>
 nilD s8 fun a5 =>
 ldIf H1 (Addr.add a4 1) fun i2 =>
 nilV Tryz.prog (IV.v i2) fun v2 =>
 ldIf H1 (Addr.add a5 1) fun i3 =>
 callI Tryz.prog (IV.v i2) "Compare" [(IV.v i3)] H1 (panK R) fun v3 H2 =>
 tInt v3 .i64 fun n1 =>
 iteB (decide (n1 < (0 : Int))) (
 nilD s8 fun a6 =>
 ldPtr H2 (Addr.add a6 4) fun p2 =>
 L0 s0 s8 s7 p2 H2 R) <|
 nilD s8 fun a7 =>
 ldPtr H2 (Addr.add a7 5) fun p3 =>
 L0 s0 s8 s7 p3 H2 R) <|
 nilD s8 fun a8 =>
 ldPtr H1 (Addr.add a8 5) fun p4 =>
 L0 s0 s8 s7 p4 H1 R) <|
 nilD s7 fun a9 =>
 st1 H (Addr.add a9 6) (.pointer s6) fun H3 =>
 nilD s0 fun a10 =>
 ldPtr H3 (Addr.add a10 2) fun p5 =>
 pqD H3 s6 p5 fun b1 =>
 iteB b1 (
 nilD s0 fun a11 =>
 st1 H3 a11 (.pointer s7) fun H4 =>
 L2 s0 s7 H4 R) <|
 nilD s7 fun a12 =>
 nilD s6 fun a13 =>
 ldIf H3 a12 fun i4 =>
 nilV Tryz.prog (IV.v i4) fun v4 =>
 ldIf H3 a13 fun i5 =>
 callI Tryz.prog (IV.v i4) "Compare" [(IV.v i5)] H3 (panK R) fun v5 H5 =>
 tInt v5 .i64 fun n2 =>
 iteB (decide (n2 < (0 : Int))) (
 nilD s6 fun a14 =>
 st1 H5 (Addr.add a14 4) (.pointer s7) fun H6 =>
 L1 s0 s6 s7 H6 R) <|
 iteB (n2 == (0 : Int)) (
 nilD s7 fun a15 =>
 nilD s6 fun a16 =>
 ldIf H5 (Addr.add a15 1) fun i6 =>
 nilV Tryz.prog (IV.v i6) fun v6 =>
 ldIf H5 (Addr.add a16 1) fun i7 =>
 callI Tryz.prog (IV.v i6) "Compare" [(IV.v i7)] H5 (panK R) fun v7 H7 =>
 tInt v7 .i64 fun n3 =>
 iteB (decide (n3 < (0 : Int))) (
 nilD s6 fun a17 =>
 st1 H7 (Addr.add a17 4) (.pointer s7) fun H8 =>
 L1 s0 s6 s7 H8 R) <|
 nilD s6 fun a18 =>
 st1 H7 (Addr.add a18 5) (.pointer s7) fun H9 =>
 L1 s0 s6 s7 H9 R) <|
 nilD s6 fun a19 =>
 st1 H5 (Addr.add a19 5) (.pointer s7) fun H10 =>
 L1 s0 s6 s7 H10 R
theorem L0_step {s0 s6 s7 s8 : OA} {H : Heap} {R : EH} (h : L0n s0 s6 s7 s8 H R) : L0 s0 s6 s7 s8 H R :=
 goL_of_den (an := an) (fuel := 100000) (X := L0n s0 s6 s7 s8 H R) mixed fn (by kernel_rfl) (fun ρ0 => by kernel_rfl) h
def L1n (s0 s6 s7 : OA) (H : Heap) (R : EH) : Prop :=
 nilD s0 fun a =>
 ldPtr H (Addr.add a 2) fun p =>
 callD Tryz.prog 118 [(.pointer s6), (.pointer p)] H (panK R) fun v H1 =>
 tTup v fun l =>
 tNil l <|
 L2 s0 s7 H1 R
theorem L1_step {s0 s6 s7 : OA} {H : Heap} {R : EH} (h : L1n s0 s6 s7 H R) : L1 s0 s6 s7 H R :=
 goL_of_den (an := an) (fuel := 100000) (X := L1n s0 s6 s7 H R) mixed fn (by kernel_rfl) (fun ρ0 => by kernel_rfl) h
def L2n (s0 s7 : OA) (H : Heap) (R : EH) : Prop :=
 nilD s7 fun a =>
 st1 H (Addr.add a 7) (.int .i64 (1 : Int)) fun H1 =>
 callD Tryz.prog 135 [(.pointer s0), (.pointer s7)] H1 (panK R) fun v H2 =>
 tTup v fun l =>
 tNil l <|
 nilD s0 fun a1 =>
 ldInt H2 (Addr.add a1 1) .i64 fun n =>
 nilD s0 fun a2 =>
 st1 H2 (Addr.add a2 1) (.int .i64 (IntKind.wrap .i64 (n + (1 : Int)))) fun H3 =>
 R (.returned (.tuple ⟨[]⟩)) H3
theorem L2_step {s0 s7 : OA} {H : Heap} {R : EH} (h : L2n s0 s7 H R) : L2 s0 s7 H R :=
 goL_of_den (an := an) (fuel := 100000) (X := L2n s0 s7 H R) mixed fn (by kernel_rfl) (fun ρ0 => by kernel_rfl) h
def go (s0 : OA) (s1_0 s1_1 s2 : IV) (H : Heap) (R : EH) : Prop :=
 newD H (.cells ⟨[(IV.v s1_0), (IV.v s1_1)]⟩ 141) fun r H1 =>
 nilD s0 fun a =>
 ldPtr H1 (Addr.add a 2) fun p =>
 ldIf H1 ⟨r, 0, none⟩ fun i =>
 ldIf H1 ⟨r, 1, none⟩ fun i1 =>
 callD Tryz.prog 134 [(.pointer s0), (.agg ⟨[(IV.v i), (IV.v i1)]⟩), (IV.v s2)] H1 (panK R) fun v H2 =>
 tPtr v fun p1 =>
 nilD s0 fun a1 =>
 ldPtr H2 a1 fun p2 =>
 L0 s0 p p1 p2 H2 R
theorem calls {s0 : OA} {s1_0 s1_1 s2 : IV} {H : Heap} {R : EH} (h : go s0 s1_0 s1_1 s2 H R) : CallsH Tryz.prog 123 ⟨[(.pointer s0), (.agg ⟨[(IV.v s1_0), (IV.v s1_1)]⟩), (IV.v s2)]⟩ H R :=
 callsH_of_den (an := an) (fuel := 100000) (X := go s0 s1_0 s1_1 s2 H R) (c := body) mixed fn (by kernel_rfl) (by kernel_rfl) (by kernel_rfl) ok (by kernel_rfl) h
end F123
/-! ### 129 "(*pub-stadtholder/pub/etcdserver/adt.intervalTree).Visit" -/
namespace F129
def an : Ann := { kinds := [], taus := [(1, [[0, 1, 2, 4, 5, 6, 8, 3, 7, 9]])], pairs := [], lab := [] }
noncomputable def body : Code := (Tryz.f129.body).getD .skip
theorem fn : Tryz.prog.funcs[129]? = some Tryz.f129 := by kernel_rfl
theorem ok : codeOk an 16 body = true := by kernel_rfl
def go (ivt : OA) (ivl_0 ivl_1 : IV) (ivv : FV) (H : Heap) (R : EH) : Prop :=
 newD H (.cells ⟨[(IV.v ivl_0), (IV.v ivl_1)]⟩ 141) fun r H1 =>
 guardB (isCell (FV.v ivv)) <|
 newD H1 (.cells ⟨[(FV.v ivv)]⟩ 224) fun r1 H2 =>
 nilD ivt fun a =>
 nilD ivt fun a1 =>
 ldPtr H2 a fun p =>
 ldPtr H2 (Addr.add a1 2) fun p1 =>
 callD Tryz.prog 138 [(.pointer p), (.pointer (some ⟨r, 0, none⟩)), (.pointer p1), (.func (.func 139) ⟨[]⟩ ⟨[(.pointer (some ⟨r1, 0, none⟩))]⟩)] H2 (panK R) fun v H3 =>
 tBool v fun b =>
 R (.returned (.tuple ⟨[]⟩)) H3
theorem calls {ivt : OA} {ivl_0 ivl_1 : IV} {ivv : FV} {H : Heap} {R : EH} (h : go ivt ivl_0 ivl_1 ivv H R) : CallsH Tryz.prog 129 ⟨[(.pointer ivt), (.agg ⟨[(IV.v ivl_0), (IV.v ivl_1)]⟩), (FV.v ivv)]⟩ H R :=
 callsH_of_den (an := an) (fuel := 100000) (X := go ivt ivl_0 ivl_1 ivv H R) (c := body) mixed fn (by kernel_rfl) (by kernel_rfl) (by kernel_rfl) ok (by kernel_rfl) h
end F129
/-! ### 135 "(*pub-stadtholder/pub/etcdserver/adt.intervalTree).insertFixup" -/
namespace F135
def an : Ann := { kinds := [(1014, .read), (8008, .read), (20008, .read)], taus := [(0, [[0, 1, 2, 4, 5, 6, 3, 7, 8, 9]]), (1, [[0, 1, 2, 4, 5, 6, 3, 7, 8, 9, 10, 11, 12, 13, 14]])], pairs := [], lab := [(40000001, [0, 1]), (50000024, [0, 1]), (50000012, [0, 1])] }
noncomputable def body : Code := (Tryz.f135.body).getD .skip
theorem fn : Tryz.prog.funcs[135]? = some Tryz.f135 := by kernel_rfl
theorem ok : codeOk an 201 body = true := by kernel_rfl
noncomputable def L0t : List Item := [.code (sub [0, 0, 0] body), .inLoop (sub [0, 0, 0] body), .inBlock 0, .code (sub [1] body)]
def L0 (s0 s1 : OA) (H : Heap) (R : EH) : Prop :=
 GoL Tryz.prog 135 201 L0t [0, 1] [(.pointer s0), (.pointer s1)] H R
noncomputable def L1t : List Item := [.code (sub [0, 0, 0, 1, 0, 1, 1, 1, 1, 1, 1] body), .inBlock 1, .inLoop (sub [0, 0, 0] body), .inBlock 0, .code (sub [1] body)]
def L1 (s0 s1 : OA) (H : Heap) (R : EH) : Prop :=
 GoL Tryz.prog 135 201 L1t [0, 1] [(.pointer s0), (.pointer s1)] H R
noncomputable def L2t : List Item := [.code (sub [0, 0, 0, 1, 0, 1, 0, 1, 1, 1, 1] body), .inBlock 1, .inLoop (sub [0, 0, 0] body), .inBlock 0, .code (sub [1] body)]
def L2 (s0 s1 : OA) (H : Heap) (R : EH) : Prop :=
 GoL Tryz.prog 135 201 L2t [0, 1] [(.pointer s0), (.pointer s1)] H R
def L0n (s0 s1 : OA) (H : Heap) (R : EH) : Prop :=
 nilD s1 fun a =>
 nilD s0 fun a1 =>
 ldPtr H (Addr.add a 6) fun p =>
 ldPtr H (Addr.add a1 2) fun p1 =>
 callD Tryz.prog 132 [(.pointer p), (.pointer p1)] H (panK R) fun v H1 =>
 tInt v .i64 fun n =>
 iteB (n == (1 : Int)) (
 nilD s1 fun a2 =>
 nilD s1 fun a3 =>
 ldPtr H1 (Addr.add a2 6) fun p2 =>
 ldPtr H1 (Addr.add a3 6) fun p3 =>
 nilD p3 fun a4 =>
 ldPtr H1 (Addr.add a4 6) fun p4 =>
 nilD p4 fun a5 =>
 ldPtr H1 (Addr.add a5 4) fun p5 =>
 pqD H1 p2 p5 fun b =>
 iteB b (
 nilD s1 fun a6 =>
 ldPtr H1 (Addr.add a6 6) fun p6 =>
 nilD p6 fun a7 =>
 ldPtr H1 (Addr.add a7 6) fun p7 =>
 nilD p7 fun a8 =>
 ldPtr H1 (Addr.add a8 5) fun p8 =>
 nilD s0 fun a9 =>
 ldPtr H1 (Addr.add a9 2) fun p9 =>
 callD Tryz.prog 132 [(.pointer p8), (.pointer p9)] H1 (panK R) fun v1 H2 =>
 tInt v1 .i64 fun n1 =>
 iteB (n1 == (1 : Int)) (
 nilD p8 fun a10 =>
 st1 H2 (Addr.add a10 7) (.int .i64 (0 : Int)) fun H3 =>
 nilD s1 fun a11 =>
 ldPtr H3 (Addr.add a11 6) fun p10 =>
 nilD p10 fun a12 =>
 st1 H3 (Addr.add a12 7) (.int .i64 (0 : Int)) fun H4 =>
 nilD s1 fun a13 =>
 ldPtr H4 (Addr.add a13 6) fun p11 =>
 nilD p11 fun a14 =>
 ldPtr H4 (Addr.add a14 6) fun p12 =>
 nilD p12 fun a15 =>
 st1 H4 (Addr.add a15 7) (.int .i64 (1 : Int)) fun H5 =>
 nilD s1 fun a16 =>
 ldPtr H5 (Addr.add a16 6) fun p13 =>
 nilD p13 fun a17 =>
 ldPtr H5 (Addr.add a17 6) fun p14 =>
 L0 s0 p14 H5 R) <|
 nilD s1 fun a18 =>
 ldPtr H2 (Addr.add a18 6) fun p15 =>
 nilD p15 fun a19 =>
 ldPtr H2 (Addr.add a19 5) fun p16 =>
 pqD H2 s1 p16 fun b1 =>
 iteB b1 (
 nilD s1 fun a20 =>
 ldPtr H2 (Addr.add a20 6) fun p17 =>
 callD Tryz.prog 141 [(.pointer s0), (.pointer p17)] H2 (panK R) fun v2 H6 =>
 tTup v2 fun l =>
 tNil l <|
 L2 s0 p17 H6 R) <|
 L2 s0 s1 H2 R) <|
 nilD s1 fun a21 =>
 ldPtr H1 (Addr.add a21 6) fun p18 =>
 nilD p18 fun a22 =>
 ldPtr H1 (Addr.add a22 6) fun p19 =>
 nilD p19 fun a23 =>
 ldPtr H1 (Addr.add a23 4) fun p20 =>
 nilD s0 fun a24 =>
 ldPtr H1 (Addr.add a24 2) fun p21 =>
 callD Tryz.prog 132 [(.pointer p20), (.pointer p21)] H1 (panK R) fun v3 H7 =>
 tInt v3 .i64 fun n2 =>
 iteB (n2 == (1 : Int)) (
 nilD p20 fun a25 =>
 st1 H7 (Addr.add a25 7) (.int .i64 (0 : Int)) fun H8 =>
 nilD s1 fun a26 =>
 ldPtr H8 (Addr.add a26 6) fun p22 =>
 nilD p22 fun a27 =>
 st1 H8 (Addr.add a27 7) (.int .i64 (0 : Int)) fun H9 =>
 nilD s1 fun a28 =>
 ldPtr H9 (Addr.add a28 6) fun p23 =>
 nilD p23 fun a29 =>
 ldPtr H9 (Addr.add a29 6) fun p24 =>
 nilD p24 fun a30 =>
 st1 H9 (Addr.add a30 7) (.int .i64 (1 : Int)) fun H10 =>
 nilD s1 fun a31 =>
 ldPtr H10 (Addr.add a31 6) fun p25 =>
 nilD p25 fun a32 =>
 ldPtr H10 (Addr.add a32 6) fun p26 =>
 L0 s0 p26 H10 R) <|
 nilD s1 fun a33 =>
 ldPtr H7 (Addr.add a33 6) fun p27 =>
 nilD p27 fun a34 =>
 ldPtr H7 (Addr.add a34 4) fun p28 =>
 pqD H7 s1 p28 fun b2 =>
 iteB b2 (
 nilD s1 fun a35 =>
 ldPtr H7 (Addr.add a35 6) fun p29 =>
 callD Tryz.prog 142 [(.pointer s0), (.pointer p29)] H7 (panK R) fun v4 H11 =>
 tTup v4 fun l1 =>
 tNil l1 <|
 L1 s0 p29 H11 R) <|
 L1 s0 s1 H7 R) <|
 nilD s0 fun a36 =>
 ldPtr H1 a36 fun p30 =>
 nilD p30 fun a37 =>
 st1 H1 (Addr.add a37 7) (.int .i64 (0 : Int)) fun H12 =>
 R (.returned (.tuple ⟨[]⟩)) H12
theorem L0_step {s0 s1 : OA} {H : Heap} {R : EH} (h : L0n s0 s1 H R) : L0 s0 s1 H R :=
 goL_of_den (an := an) (fuel := 100000) (X := L0n s0 s1 H R) mixed fn (by kernel_rfl) (fun ρ0 => by kernel_rfl) h
def L1n (s0 s1 : OA) (H : Heap) (R : EH) : Prop :=
 nilD s1 fun a =>
 ldPtr H (Addr.add a 6) fun p =>
 nilD p fun a1 =>
 st1 H (Addr.add a1 7) (.int .i64 (0 : Int)) fun H1 =>
 nilD s1 fun a2 =>
 ldPtr H1 (Addr.add a2 6) fun p1 =>
 nilD p1 fun a3 =>
 ldPtr H1 (Addr.add a3 6) fun p2 =>
 nilD p2 fun a4 =>
 st1 H1 (Addr.add a4 7) (.int .i64 (1 : Int)) fun H2 =>
 nilD s1 fun a5 =>
 ldPtr H2 (Addr.add a5 6) fun p3 =>
 nilD p3 fun a6 =>
 ldPtr H2 (Addr.add a6 6) fun p4 =>
 callD Tryz.prog 141 [(.pointer s0), (.pointer p4)] H2 (panK R) fun v H3 =>
 tTup v fun l =>
 tNil l <|
 L0 s0 s1 H3 R
theorem L1_step {s0 s1 : OA} {H : Heap} {R : EH} (h : L1n s0 s1 H R) : L1 s0 s1 H R :=
 goL_of_den (an := an) (fuel := 100000) (X := L1n s0 s1 H R) mixed fn (by kernel_rfl) (fun ρ0 => by kernel_rfl) h
def L2n (s0 s1 : OA) (H : Heap) (R : EH) : Prop :=
 nilD s1 fun a =>
 ldPtr H (Addr.add a 6) fun p =>
 nilD p fun a1 =>
 st1 H (Addr.add a1 7) (.int .i64 (0 : Int)) fun H1 =>
 nilD s1 fun a2 =>
 ldPtr H1 (Addr.add a2 6) fun p1 =>
 nilD p1 fun a3 =>
 ldPtr H1 (Addr.add a3 6) fun p2 =>
 nilD p2 fun a4 =>
 st1 H1 (Addr.add a4 7) (.int .i64 (1 : Int)) fun H2 =>
 nilD s1 fun a5 =>
 ldPtr H2 (Addr.add a5 6) fun p3 =>
 nilD p3 fun a6 =>
 ldPtr H2 (Addr.add a6 6) fun p4 =>
 callD Tryz.prog 142 [(.pointer s0), (.pointer p4)] H2 (panK R) fun v H3 =>
 tTup v fun l =>
 tNil l <|
 L0 s0 s1 H3 R
theorem L2_step {s0 s1 : OA} {H : Heap} {R : EH} (h : L2n s0 s1 H R) : L2 s0 s1 H R :=
 goL_of_den (an := an) (fuel := 100000) (X := L2n s0 s1 H R) mixed fn (by kernel_rfl) (fun ρ0 => by kernel_rfl) h
def go (s0 s1 : OA) (H : Heap) (R : EH) : Prop :=
 L0 s0 s1 H R
theorem calls {s0 s1 : OA} {H : Heap} {R : EH} (h : go s0 s1 H R) : CallsH Tryz.prog 135 ⟨[(.pointer s0), (.pointer s1)]⟩ H R :=
 callsH_of_den (an := an) (fuel := 100000) (X := go s0 s1 H R) (c := body) mixed fn (by kernel_rfl) (by kernel_rfl) (by kernel_rfl) ok (by kernel_rfl) h
end F135
end Go.Proofs.YtobolifgehagfaaGreat
