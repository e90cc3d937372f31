/- What functions of this seat do, each proved by a walk; no condition. -/
import Derived.Test.YtobolifgehagfaaDenZB
import Derived.Test.YtobolifgehagfaaProg
import Derived.KernelRfl
set_option linter.unusedVariables false
namespace Go.Proofs.Ytobolifgehagfaa
open Go Go.Den Go.Proofs
theorem mixed : Try.prog.follows .mixedOrders = true := by kernel_rfl
/-! ### 39 "pub-stadtholder/pub/etcdserver/adt.NewIntervalTree" -/
namespace F39
def an : Ann := { kinds := [], taus := [], pairs := [], lab := [] }
noncomputable def body : Code := (Try.f39.body).getD .skip
theorem fn : Try.prog.funcs[39]? = some Try.f39 := by kernel_rfl
theorem ok : codeOk an 10 body = true := by kernel_rfl
def go  (H : Heap) (R : EH) : Prop :=
 newD H (.cells ⟨[.nilIface, .nilIface, .nilIface, .nilIface, (.pointer none), (.pointer none), (.pointer none), (.int .i64 (0 : Int))]⟩ 135) fun r H1 =>
 newD H1 (.cells ⟨[(.pointer (some ⟨r, 0, none⟩)), (.int .i64 (0 : Int)), (.pointer (some ⟨r, 0, none⟩))]⟩ 138) fun r1 H2 =>
 R (.returned (.iface 136 (.pointer (some ⟨r1, 0, none⟩)))) H2
theorem calls  {H : Heap} {R : EH} (h : go  H R) : CallsH Try.prog 39 ⟨[]⟩ H R :=
 callsH_of_den (an := an) (fuel := 100000) (X := go  H R) (c := body) mixed fn (by kernel_rfl) (by kernel_rfl) (by kernel_rfl) ok (by kernel_rfl) h
end F39
/-! ### 50 "pub-stadtholder/pub/etcdserver/adt.NewStringAffineInterval" -/
namespace F50
def an : Ann := { kinds := [], taus := [], pairs := [], lab := [] }
noncomputable def body : Code := (Try.f50.body).getD .skip
theorem fn : Try.prog.funcs[50]? = some Try.f50 := by kernel_rfl
theorem ok : codeOk an 10 body = true := by kernel_rfl
def go (begin xend : ByteArray) (H : Heap) (R : EH) : Prop :=
 newD H (.cells ⟨[.nilIface, .nilIface]⟩ 109) fun r H1 =>
 st1 H1 ⟨r, 0, none⟩ (.iface 180 (.string begin)) fun H2 =>
 st1 H2 ⟨r, 1, none⟩ (.iface 180 (.string xend)) fun H3 =>
 ldIf H3 ⟨r, 0, none⟩ fun i =>
 ldIf H3 ⟨r, 1, none⟩ fun i1 =>
 R (.returned (.agg ⟨[(IV.v i), (IV.v i1)]⟩)) H3
theorem calls {begin xend : ByteArray} {H : Heap} {R : EH} (h : go begin xend H R) : CallsH Try.prog 50 ⟨[(.string begin), (.string xend)]⟩ H R :=
 callsH_of_den (an := an) (fuel := 100000) (X := go begin xend H R) (c := body) mixed fn (by kernel_rfl) (by kernel_rfl) (by kernel_rfl) ok (by kernel_rfl) h
end F50
/-! ### 52 "pub-stadtholder/impl.spanOut" -/
namespace F52
def an : Ann := { kinds := [(3000, .heavy 0), (6000, .heavy 0), (9000, .heavy 0), (11001, .read), (12000, .heavy 0), (16000, .heavy 0), (19000, .heavy 0), (22000, .heavy 0), (24001, .read), (25000, .heavy 0)], taus := [], pairs := [], lab := [(10000016, [1, 2, 3])] }
noncomputable def body : Code := (Try.f52.body).getD .skip
theorem fn : Try.prog.funcs[52]? = some Try.f52 := by kernel_rfl
theorem ok : codeOk an 66 body = true := by kernel_rfl
noncomputable def L0t : List Item := [.code (sub [1, 1, 1] body)]
def L0 (s1 s2 s3 : Nat) (H : Heap) (R : EH) : Prop :=
 GoL Try.prog 52 66 L0t [1, 2, 3] [(.pointer (some ⟨s1, 0, none⟩)), (.pointer (some ⟨s2, 0, none⟩)), (.pointer (some ⟨s3, 0, none⟩))] H R
def L0n (s1 s2 s3 : Nat) (H : Heap) (R : EH) : Prop :=
 ldIf H ⟨s1, 1, none⟩ fun i =>
 valD Try.prog (Instr.typeAssert (IV.v i) 107 181 true) H (panK R) fun v H1 =>
 tTup v fun l =>
 tCons l fun c l1 =>
 tStr c fun s =>
 tCons l1 fun c1 l2 =>
 tBool c1 fun b =>
 tNil l2 <|
 iteB b (
 st1 H1 ⟨s3, 1, none⟩ (.string s) fun H2 =>
 ldStr H2 ⟨s3, 0, none⟩ fun s4 =>
 ldStr H2 ⟨s3, 1, none⟩ fun s5 =>
 ldBool H2 ⟨s3, 2, none⟩ fun b1 =>
 ldInt H2 ⟨s3, 3, none⟩ .i64 fun n =>
 ldInt H2 ⟨s3, 4, none⟩ .i64 fun n1 =>
 st1 H2 ⟨s2, 0, none⟩ (.string s4) fun H3 =>
 st1 H3 ⟨s2, 1, none⟩ (.string s5) fun H4 =>
 st1 H4 ⟨s2, 2, none⟩ (.bool b1) fun H5 =>
 st1 H5 ⟨s2, 3, none⟩ (.int .i64 n) fun H6 =>
 st1 H6 ⟨s2, 4, none⟩ (.int .i64 n1) fun H7 =>
 ldStr H7 ⟨s2, 0, none⟩ fun s6 =>
 ldStr H7 ⟨s2, 1, none⟩ fun s7 =>
 ldBool H7 ⟨s2, 2, none⟩ fun b2 =>
 ldInt H7 ⟨s2, 3, none⟩ .i64 fun n2 =>
 ldInt H7 ⟨s2, 4, none⟩ .i64 fun n3 =>
 R (.returned (.agg ⟨[(.string s6), (.string s7), (.bool b2), (.int .i64 n2), (.int .i64 n3)]⟩)) H7) <|
 valD Try.prog (Instr.typeAssert (IV.v i) 107 180 true) H1 (panK R) fun v1 H8 =>
 tTup v1 fun l3 =>
 tCons l3 fun c2 l4 =>
 tStr c2 fun s8 =>
 tCons l4 fun c3 l5 =>
 tBool c3 fun b3 =>
 tNil l5 <|
 iteB b3 (
 st1 H8 ⟨s3, 1, none⟩ (.string s8) fun H9 =>
 ldStr H9 ⟨s3, 0, none⟩ fun s9 =>
 ldStr H9 ⟨s3, 1, none⟩ fun s10 =>
 ldBool H9 ⟨s3, 2, none⟩ fun b4 =>
 ldInt H9 ⟨s3, 3, none⟩ .i64 fun n4 =>
 ldInt H9 ⟨s3, 4, none⟩ .i64 fun n5 =>
 st1 H9 ⟨s2, 0, none⟩ (.string s9) fun H10 =>
 st1 H10 ⟨s2, 1, none⟩ (.string s10) fun H11 =>
 st1 H11 ⟨s2, 2, none⟩ (.bool b4) fun H12 =>
 st1 H12 ⟨s2, 3, none⟩ (.int .i64 n4) fun H13 =>
 st1 H13 ⟨s2, 4, none⟩ (.int .i64 n5) fun H14 =>
 ldStr H14 ⟨s2, 0, none⟩ fun s11 =>
 ldStr H14 ⟨s2, 1, none⟩ fun s12 =>
 ldBool H14 ⟨s2, 2, none⟩ fun b5 =>
 ldInt H14 ⟨s2, 3, none⟩ .i64 fun n6 =>
 ldInt H14 ⟨s2, 4, none⟩ .i64 fun n7 =>
 R (.returned (.agg ⟨[(.string s11), (.string s12), (.bool b5), (.int .i64 n6), (.int .i64 n7)]⟩)) H14) <|
 valD Try.prog (Instr.typeAssert (IV.v i) 107 182 true) H8 (panK R) fun v2 H15 =>
 tTup v2 fun l6 =>
 tCons l6 fun c4 l7 =>
 tSl c4 fun q qn qc =>
 tCons l7 fun c5 l8 =>
 tBool c5 fun b6 =>
 tNil l8 <|
 iteB b6 (
 bsD H15 q qn fun s13 =>
 st1 H15 ⟨s3, 1, none⟩ (.string s13) fun H16 =>
 ldStr H16 ⟨s3, 0, none⟩ fun s14 =>
 ldStr H16 ⟨s3, 1, none⟩ fun s15 =>
 ldBool H16 ⟨s3, 2, none⟩ fun b7 =>
 ldInt H16 ⟨s3, 3, none⟩ .i64 fun n8 =>
 ldInt H16 ⟨s3, 4, none⟩ .i64 fun n9 =>
 st1 H16 ⟨s2, 0, none⟩ (.string s14) fun H17 =>
 st1 H17 ⟨s2, 1, none⟩ (.string s15) fun H18 =>
 st1 H18 ⟨s2, 2, none⟩ (.bool b7) fun H19 =>
 st1 H19 ⟨s2, 3, none⟩ (.int .i64 n8) fun H20 =>
 st1 H20 ⟨s2, 4, none⟩ (.int .i64 n9) fun H21 =>
 ldStr H21 ⟨s2, 0, none⟩ fun s16 =>
 ldStr H21 ⟨s2, 1, none⟩ fun s17 =>
 ldBool H21 ⟨s2, 2, none⟩ fun b8 =>
 ldInt H21 ⟨s2, 3, none⟩ .i64 fun n10 =>
 ldInt H21 ⟨s2, 4, none⟩ .i64 fun n11 =>
 R (.returned (.agg ⟨[(.string s16), (.string s17), (.bool b8), (.int .i64 n10), (.int .i64 n11)]⟩)) H21) <|
 valD Try.prog (Instr.typeAssert (IV.v i) 107 183 true) H15 (panK R) fun v3 H22 =>
 tTup v3 fun l9 =>
 tCons l9 fun c6 l10 =>
 tInt c6 .i64 fun n12 =>
 tCons l10 fun c7 l11 =>
 tBool c7 fun b9 =>
 tNil l11 <|
 iteB b9 (
 st1 H22 ⟨s3, 4, none⟩ (.int .i64 n12) fun H23 =>
 ldStr H23 ⟨s3, 0, none⟩ fun s18 =>
 ldStr H23 ⟨s3, 1, none⟩ fun s19 =>
 ldBool H23 ⟨s3, 2, none⟩ fun b10 =>
 ldInt H23 ⟨s3, 3, none⟩ .i64 fun n13 =>
 ldInt H23 ⟨s3, 4, none⟩ .i64 fun n14 =>
 st1 H23 ⟨s2, 0, none⟩ (.string s18) fun H24 =>
 st1 H24 ⟨s2, 1, none⟩ (.string s19) fun H25 =>
 st1 H25 ⟨s2, 2, none⟩ (.bool b10) fun H26 =>
 st1 H26 ⟨s2, 3, none⟩ (.int .i64 n13) fun H27 =>
 st1 H27 ⟨s2, 4, none⟩ (.int .i64 n14) fun H28 =>
 ldStr H28 ⟨s2, 0, none⟩ fun s20 =>
 ldStr H28 ⟨s2, 1, none⟩ fun s21 =>
 ldBool H28 ⟨s2, 2, none⟩ fun b11 =>
 ldInt H28 ⟨s2, 3, none⟩ .i64 fun n15 =>
 ldInt H28 ⟨s2, 4, none⟩ .i64 fun n16 =>
 R (.returned (.agg ⟨[(.string s20), (.string s21), (.bool b11), (.int .i64 n15), (.int .i64 n16)]⟩)) H28) <|
 ldStr H22 ⟨s3, 0, none⟩ fun s22 =>
 ldStr H22 ⟨s3, 1, none⟩ fun s23 =>
 ldBool H22 ⟨s3, 2, none⟩ fun b12 =>
 ldInt H22 ⟨s3, 3, none⟩ .i64 fun n17 =>
 ldInt H22 ⟨s3, 4, none⟩ .i64 fun n18 =>
 st1 H22 ⟨s2, 0, none⟩ (.string s22) fun H29 =>
 st1 H29 ⟨s2, 1, none⟩ (.string s23) fun H30 =>
 st1 H30 ⟨s2, 2, none⟩ (.bool b12) fun H31 =>
 st1 H31 ⟨s2, 3, none⟩ (.int .i64 n17) fun H32 =>
 st1 H32 ⟨s2, 4, none⟩ (.int .i64 n18) fun H33 =>
 ldStr H33 ⟨s2, 0, none⟩ fun s24 =>
 ldStr H33 ⟨s2, 1, none⟩ fun s25 =>
 ldBool H33 ⟨s2, 2, none⟩ fun b13 =>
 ldInt H33 ⟨s2, 3, none⟩ .i64 fun n19 =>
 ldInt H33 ⟨s2, 4, none⟩ .i64 fun n20 =>
 R (.returned (.agg ⟨[(.string s24), (.string s25), (.bool b13), (.int .i64 n19), (.int .i64 n20)]⟩)) H33
theorem L0_step {s1 s2 s3 : Nat} {H : Heap} {R : EH} (h : L0n s1 s2 s3 H R) : L0 s1 s2 s3 H R :=
 goL_of_den (an := an) (fuel := 100000) (X := L0n s1 s2 s3 H R) mixed fn (by kernel_rfl) (fun ρ0 => by kernel_rfl) h
def go (s0_0 s0_1 : IV) (H : Heap) (R : EH) : Prop :=
 newD H (.cells ⟨[(IV.v s0_0), (IV.v s0_1)]⟩ 109) fun r H1 =>
 newD H1 (.cells ⟨[(.string (ByteArray.mk #[])), (.string (ByteArray.mk #[])), (.bool false), (.int .i64 (0 : Int)), (.int .i64 (0 : Int))]⟩ 35) fun r1 H2 =>
 newD H2 (.cells ⟨[(.string (ByteArray.mk #[])), (.string (ByteArray.mk #[])), (.bool false), (.int .i64 (0 : Int)), (.int .i64 (0 : Int))]⟩ 35) fun r2 H3 =>
 st1 H3 ⟨r2, 0, none⟩ (.string (ByteArray.mk #[])) fun H4 =>
 st1 H4 ⟨r2, 1, none⟩ (.string (ByteArray.mk #[])) fun H5 =>
 st1 H5 ⟨r2, 2, none⟩ (.bool false) fun H6 =>
 st1 H6 ⟨r2, 3, none⟩ (.int .i64 (0 : Int)) fun H7 =>
 st1 H7 ⟨r2, 4, none⟩ (.int .i64 (0 : Int)) fun H8 =>
 ldIf H8 ⟨r, 0, none⟩ fun i =>
 valD Try.prog (Instr.typeAssert (IV.v i) 107 181 true) H8 (panK R) fun v H9 =>
 tTup v fun l =>
 tCons l fun c l1 =>
 tStr c fun s =>
 tCons l1 fun c1 l2 =>
 tBool c1 fun b =>
 tNil l2 <|
 iteB b (
 st1 H9 ⟨r2, 0, none⟩ (.string s) fun H10 =>
 L0 r r1 r2 H10 R) <|
 valD Try.prog (Instr.typeAssert (IV.v i) 107 180 true) H9 (panK R) fun v1 H11 =>
 tTup v1 fun l3 =>
 tCons l3 fun c2 l4 =>
 tStr c2 fun s1 =>
 tCons l4 fun c3 l5 =>
 tBool c3 fun b1 =>
 tNil l5 <|
 iteB b1 (
 st1 H11 ⟨r2, 0, none⟩ (.string s1) fun H12 =>
 L0 r r1 r2 H12 R) <|
 valD Try.prog (Instr.typeAssert (IV.v i) 107 182 true) H11 (panK R) fun v2 H13 =>
 tTup v2 fun l6 =>
 tCons l6 fun c4 l7 =>
 tSl c4 fun q qn qc =>
 tCons l7 fun c5 l8 =>
 tBool c5 fun b2 =>
 tNil l8 <|
 iteB b2 (
 bsD H13 q qn fun s2 =>
 st1 H13 ⟨r2, 0, none⟩ (.string s2) fun H14 =>
 L0 r r1 r2 H14 R) <|
 valD Try.prog (Instr.typeAssert (IV.v i) 107 183 true) H13 (panK R) fun v3 H15 =>
 tTup v3 fun l9 =>
 tCons l9 fun c6 l10 =>
 tInt c6 .i64 fun n =>
 tCons l10 fun c7 l11 =>
 tBool c7 fun b3 =>
 tNil l11 <|
 iteB b3 (
 st1 H15 ⟨r2, 3, none⟩ (.int .i64 n) fun H16 =>
 L0 r r1 r2 H16 R) <|
 L0 r r1 r2 H15 R
theorem calls {s0_0 s0_1 : IV} {H : Heap} {R : EH} (h : go s0_0 s0_1 H R) : CallsH Try.prog 52 ⟨[(.agg ⟨[(IV.v s0_0), (IV.v s0_1)]⟩)]⟩ H R :=
 callsH_of_den (an := an) (fuel := 100000) (X := go s0_0 s0_1 H R) (c := body) mixed fn (by kernel_rfl) (by kernel_rfl) (by kernel_rfl) ok (by kernel_rfl) h
end F52
/-! ### 87 "pub-stadtholder/pub/etcdserver/adt.NewStringAffinePoint" -/
namespace F87
def an : Ann := { kinds := [], taus := [], pairs := [], lab := [] }
noncomputable def body : Code := (Try.f87.body).getD .skip
theorem fn : Try.prog.funcs[87]? = some Try.f87 := by kernel_rfl
theorem ok : codeOk an 7 body = true := by kernel_rfl
def go (s : ByteArray) (H : Heap) (R : EH) : Prop :=
 newD H (.cells ⟨[.nilIface, .nilIface]⟩ 109) fun r H1 =>
 catD s (ByteArray.mk #[0]) fun s1 =>
 callD Try.prog 50 [(.string s), (.string s1)] H1 (panK R) fun v H2 =>
 tAgg v fun l =>
 tCons l fun c l1 =>
 tIf c fun i =>
 tCons l1 fun c1 l2 =>
 tIf c1 fun i1 =>
 tNil l2 <|
 st1 H2 ⟨r, 0, none⟩ (IV.v i) fun H3 =>
 st1 H3 ⟨r, 1, none⟩ (IV.v i1) fun H4 =>
 ldIf H4 ⟨r, 0, none⟩ fun i2 =>
 ldIf H4 ⟨r, 1, none⟩ fun i3 =>
 R (.returned (.agg ⟨[(IV.v i2), (IV.v i3)]⟩)) H4
theorem calls {s : ByteArray} {H : Heap} {R : EH} (h : go s H R) : CallsH Try.prog 87 ⟨[(.string s)]⟩ H R :=
 callsH_of_den (an := an) (fuel := 100000) (X := go s H R) (c := body) mixed fn (by kernel_rfl) (by kernel_rfl) (by kernel_rfl) ok (by kernel_rfl) h
end F87
/-! ### 137 "(*pub-stadtholder/pub/etcdserver/adt.intervalNode).updateMax" -/
namespace F137
def an : Ann := { kinds := [(2, .read), (3005, .read), (5005, .read)], taus := [], pairs := [], lab := [(30000001, [0, 1]), (50000005, [0, 1, 4]), (40000006, [0, 1, 4, 5]), (50000007, [0, 1, 4]), (40000008, [0, 1, 4, 5])] }
noncomputable def body : Code := (Try.f137.body).getD .skip
theorem fn : Try.prog.funcs[137]? = some Try.f137 := by kernel_rfl
theorem ok : codeOk an 81 body = true := by kernel_rfl
noncomputable def L0t : List Item := [.code (sub [0, 0] body), .inLoop (sub [0, 0] body), .inBlock 0]
def L0 (s0 s1 : OA) (H : Heap) (R : EH) : Prop :=
 GoL Try.prog 137 81 L0t [0, 1] [(.pointer s0), (.pointer s1)] H R
noncomputable def L1t : List Item := [.code (sub [0, 0, 1, 0, 1, 1, 0, 1, 0] body), .code (sub [0, 0, 1, 0, 1, 1, 1] body), .inBlock 1, .inLoop (sub [0, 0] body), .inBlock 0]
def L1 (s0 s1 : OA) (s4 : IV) (H : Heap) (R : EH) : Prop :=
 GoL Try.prog 137 81 L1t [0, 1, 4] [(.pointer s0), (.pointer s1), (IV.v s4)] H R
noncomputable def L2t : List Item := [.code (sub [0, 0, 1, 0, 1, 1, 1] body), .inBlock 1, .inLoop (sub [0, 0] body), .inBlock 0]
def L2 (s0 s1 : OA) (s4 s5 : IV) (H : Heap) (R : EH) : Prop :=
 GoL Try.prog 137 81 L2t [0, 1, 4, 5] [(.pointer s0), (.pointer s1), (IV.v s4), (IV.v s5)] H R
noncomputable def L3t : List Item := [.code (sub [0, 0, 1, 0, 1, 1, 1, 0, 1, 0] body), .code (sub [0, 0, 1, 0, 1, 1, 1, 1] body), .inBlock 1, .inLoop (sub [0, 0] body), .inBlock 0]
def L3 (s0 s1 : OA) (s4 : IV) (H : Heap) (R : EH) : Prop :=
 GoL Try.prog 137 81 L3t [0, 1, 4] [(.pointer s0), (.pointer s1), (IV.v s4)] H R
noncomputable def L4t : List Item := [.code (sub [0, 0, 1, 0, 1, 1, 1, 1] body), .inBlock 1, .inLoop (sub [0, 0] body), .inBlock 0]
def L4 (s0 s1 : OA) (s4 s5 : IV) (H : Heap) (R : EH) : Prop :=
 GoL Try.prog 137 81 L4t [0, 1, 4, 5] [(.pointer s0), (.pointer s1), (IV.v s4), (IV.v s5)] H R
def L0n (s0 s1 : OA) (H : Heap) (R : EH) : Prop :=
 pqD H s0 s1 fun b =>
 iteB (!b) (
 nilD s0 fun a =>
 ldIf H (Addr.add a 3) fun i =>
 nilD s0 fun a1 =>
 ldIf H (Addr.add a1 1) fun i1 =>
 nilD s0 fun a2 =>
 ldPtr H (Addr.add a2 4) fun p =>
 pqD H p s1 fun b1 =>
 iteB (!b1) (
 nilD s0 fun a3 =>
 ldPtr H (Addr.add a3 4) fun p1 =>
 nilD p1 fun a4 =>
 ldIf H (Addr.add a4 3) fun i2 =>
 callI Try.prog (IV.v i2) "Compare" [(IV.v i1)] H (panK R) fun v H1 =>
 tInt v .i64 fun n =>
 iteB (decide (n > (0 : Int))) (
 L1 s0 s1 i H1 R) <|
 L2 s0 s1 i i1 H1 R) <|
 L2 s0 s1 i i1 H R) <|
 R (.returned (.tuple ⟨[]⟩)) H
theorem L0_step {s0 s1 : OA} {H : Heap} {R : EH} (h : L0n s0 s1 H R) : L0 s0 s1 H R :=
 goL_of_den (an := an) (fuel := 100000) (X := L0n s0 s1 H R) mixed fn (by kernel_rfl) (fun ρ0 => by kernel_rfl) h
def L1n (s0 s1 : OA) (s4 : IV) (H : Heap) (R : EH) : Prop :=
 nilD s0 fun a =>
 ldPtr H (Addr.add a 4) fun p =>
 nilD p fun a1 =>
 ldIf H (Addr.add a1 3) fun i =>
 L2 s0 s1 s4 i H R
theorem L1_step {s0 s1 : OA} {s4 : IV} {H : Heap} {R : EH} (h : L1n s0 s1 s4 H R) : L1 s0 s1 s4 H R :=
 goL_of_den (an := an) (fuel := 100000) (X := L1n s0 s1 s4 H R) mixed fn (by kernel_rfl) (fun ρ0 => by kernel_rfl) h
def L2n (s0 s1 : OA) (s4 s5 : IV) (H : Heap) (R : EH) : Prop :=
 nilD s0 fun a =>
 ldPtr H (Addr.add a 5) fun p =>
 pqD H p s1 fun b =>
 iteB (!b) (
 nilD s0 fun a1 =>
 ldPtr H (Addr.add a1 5) fun p1 =>
 nilD p1 fun a2 =>
 ldIf H (Addr.add a2 3) fun i =>
 callI Try.prog (IV.v i) "Compare" [(IV.v s5)] H (panK R) fun v H1 =>
 tInt v .i64 fun n =>
 iteB (decide (n > (0 : Int))) (
 L3 s0 s1 s4 H1 R) <|
 L4 s0 s1 s4 s5 H1 R) <|
 L4 s0 s1 s4 s5 H R
theorem L2_step {s0 s1 : OA} {s4 s5 : IV} {H : Heap} {R : EH} (h : L2n s0 s1 s4 s5 H R) : L2 s0 s1 s4 s5 H R :=
 goL_of_den (an := an) (fuel := 100000) (X := L2n s0 s1 s4 s5 H R) mixed fn (by kernel_rfl) (fun ρ0 => by kernel_rfl) h
def L3n (s0 s1 : OA) (s4 : IV) (H : Heap) (R : EH) : Prop :=
 nilD s0 fun a =>
 ldPtr H (Addr.add a 5) fun p =>
 nilD p fun a1 =>
 ldIf H (Addr.add a1 3) fun i =>
 L4 s0 s1 s4 i H R
theorem L3_step {s0 s1 : OA} {s4 : IV} {H : Heap} {R : EH} (h : L3n s0 s1 s4 H R) : L3 s0 s1 s4 H R :=
 goL_of_den (an := an) (fuel := 100000) (X := L3n s0 s1 s4 H R) mixed fn (by kernel_rfl) (fun ρ0 => by kernel_rfl) h
def L4n (s0 s1 : OA) (s4 s5 : IV) (H : Heap) (R : EH) : Prop :=
 callI Try.prog (IV.v s4) "Compare" [(IV.v s5)] H (panK R) fun v H1 =>
 tInt v .i64 fun n =>
 iteB (n == (0 : Int)) (
 R (.returned (.tuple ⟨[]⟩)) H1) <|
 nilD s0 fun a =>
 guardB (isCell (IV.v s5)) <|
 st1 H1 (Addr.add a 3) (IV.v s5) fun H2 =>
 nilD s0 fun a1 =>
 ldPtr H2 (Addr.add a1 6) fun p =>
 L0 p s1 H2 R
theorem L4_step {s0 s1 : OA} {s4 s5 : IV} {H : Heap} {R : EH} (h : L4n s0 s1 s4 s5 H R) : L4 s0 s1 s4 s5 H R :=
 goL_of_den (an := an) (fuel := 100000) (X := L4n s0 s1 s4 s5 H R) mixed fn (by kernel_rfl) (fun ρ0 => by kernel_rfl) h
def go (s0 s1 : OA) (H : Heap) (R : EH) : Prop :=
 L0 s0 s1 H R
theorem calls {s0 s1 : OA} {H : Heap} {R : EH} (h : go s0 s1 H R) : CallsH Try.prog 137 ⟨[(.pointer s0), (.pointer s1)]⟩ H R :=
 callsH_of_den (an := an) (fuel := 100000) (X := go s0 s1 H R) (c := body) mixed fn (by kernel_rfl) (by kernel_rfl) (by kernel_rfl) ok (by kernel_rfl) h
end F137
/-! ### 142 "(*pub-stadtholder/pub/etcdserver/adt.intervalTree).Insert" -/
namespace F142
def an : Ann := { kinds := [(4005, .read), (15005, .read)], taus := [(6, [[0, 1, 2, 3, 4, 6, 7, 8, 9, 10, 5, 12, 13, 11, 14, 15]]), (10, [[0, 1, 2, 3, 4, 6, 7, 8, 9, 10, 5, 12, 13, 11, 14, 15]]), (17, [[0, 1, 2, 3, 4, 6, 7, 8, 9, 10, 5, 12, 13, 11, 14, 15]]), (21, [[0, 1, 2, 3, 4, 6, 7, 8, 9, 10, 5, 12, 13, 11, 14, 15]])], pairs := [], lab := [(40000005, [0, 6, 7, 8]), (20000026, [0, 6, 7]), (10000027, [0, 7])] }
noncomputable def body : Code := (Try.f142.body).getD .skip
theorem fn : Try.prog.funcs[142]? = some Try.f142 := by kernel_rfl
theorem ok : codeOk an 165 body = true := by kernel_rfl
noncomputable def L0t : List Item := [.code (sub [1, 1, 1, 1, 0, 0, 0] body), .inLoop (sub [1, 1, 1, 1, 0, 0, 0] body), .inBlock 0, .code (sub [1, 1, 1, 1, 1] body)]
def L0 (s0 s6 s7 s8 : OA) (H : Heap) (R : EH) : Prop :=
 GoL Try.prog 142 165 L0t [0, 6, 7, 8] [(.pointer s0), (.pointer s6), (.pointer s7), (.pointer s8)] H R
noncomputable def L1t : List Item := [.code (sub [1, 1, 1, 1, 1, 1, 0, 1, 1, 1, 1] body), .code (sub [1, 1, 1, 1, 1, 1, 1] body)]
def L1 (s0 s6 s7 : OA) (H : Heap) (R : EH) : Prop :=
 GoL Try.prog 142 165 L1t [0, 6, 7] [(.pointer s0), (.pointer s6), (.pointer s7)] H R
noncomputable def L2t : List Item := [.code (sub [1, 1, 1, 1, 1, 1, 1] body)]
def L2 (s0 s7 : OA) (H : Heap) (R : EH) : Prop :=
 GoL Try.prog 142 165 L2t [0, 7] [(.pointer s0), (.pointer s7)] H R
def L0n (s0 s6 s7 s8 : OA) (H : Heap) (R : EH) : Prop :=
 nilD s0 fun a =>
 ldPtr H (Addr.add a 2) fun p =>
 pqD H s8 p fun b =>
 iteB (!b) (
 nilD s7 fun a1 =>
 nilD s8 fun a2 =>
 ldIf H a1 fun i =>
 nilV Try.prog (IV.v i) fun v =>
 ldIf H a2 fun i1 =>
 callI Try.prog (IV.v i) "Compare" [(IV.v i1)] H (panK R) fun v1 H1 =>
 tInt v1 .i64 fun n =>
 iteB (decide (n < (0 : Int))) (
 nilD s8 fun a3 =>
 ldPtr H1 (Addr.add a3 4) fun p1 =>
 L0 s0 s8 s7 p1 H1 R) <|
 iteB (n == (0 : Int)) (
 nilD s7 fun a4 =>
 nilD s8 fun a5 =>
 ldIf H1 (Addr.add a4 1) fun i2 =>
 nilV Try.prog (IV.v i2) fun v2 =>
 ldIf H1 (Addr.add a5 1) fun i3 =>
 callI Try.prog (IV.v i2) "Compare" [(IV.v i3)] H1 (panK R) fun v3 H2 =>
 tInt v3 .i64 fun n1 =>
 iteB (decide (n1 < (0 : Int))) (
 nilD s8 fun a6 =>
 ldPtr H2 (Addr.add a6 4) fun p2 =>
 L0 s0 s8 s7 p2 H2 R) <|
 nilD s8 fun a7 =>
 ldPtr H2 (Addr.add a7 5) fun p3 =>
 L0 s0 s8 s7 p3 H2 R) <|
 nilD s8 fun a8 =>
 ldPtr H1 (Addr.add a8 5) fun p4 =>
 L0 s0 s8 s7 p4 H1 R) <|
 nilD s7 fun a9 =>
 st1 H (Addr.add a9 6) (.pointer s6) fun H3 =>
 nilD s0 fun a10 =>
 ldPtr H3 (Addr.add a10 2) fun p5 =>
 pqD H3 s6 p5 fun b1 =>
 iteB b1 (
 nilD s0 fun a11 =>
 st1 H3 a11 (.pointer s7) fun H4 =>
 L2 s0 s7 H4 R) <|
 nilD s7 fun a12 =>
 nilD s6 fun a13 =>
 ldIf H3 a12 fun i4 =>
 nilV Try.prog (IV.v i4) fun v4 =>
 ldIf H3 a13 fun i5 =>
 callI Try.prog (IV.v i4) "Compare" [(IV.v i5)] H3 (panK R) fun v5 H5 =>
 tInt v5 .i64 fun n2 =>
 iteB (decide (n2 < (0 : Int))) (
 nilD s6 fun a14 =>
 st1 H5 (Addr.add a14 4) (.pointer s7) fun H6 =>
 L1 s0 s6 s7 H6 R) <|
 iteB (n2 == (0 : Int)) (
 nilD s7 fun a15 =>
 nilD s6 fun a16 =>
 ldIf H5 (Addr.add a15 1) fun i6 =>
 nilV Try.prog (IV.v i6) fun v6 =>
 ldIf H5 (Addr.add a16 1) fun i7 =>
 callI Try.prog (IV.v i6) "Compare" [(IV.v i7)] H5 (panK R) fun v7 H7 =>
 tInt v7 .i64 fun n3 =>
 iteB (decide (n3 < (0 : Int))) (
 nilD s6 fun a17 =>
 st1 H7 (Addr.add a17 4) (.pointer s7) fun H8 =>
 L1 s0 s6 s7 H8 R) <|
 nilD s6 fun a18 =>
 st1 H7 (Addr.add a18 5) (.pointer s7) fun H9 =>
 L1 s0 s6 s7 H9 R) <|
 nilD s6 fun a19 =>
 st1 H5 (Addr.add a19 5) (.pointer s7) fun H10 =>
 L1 s0 s6 s7 H10 R
theorem L0_step {s0 s6 s7 s8 : OA} {H : Heap} {R : EH} (h : L0n s0 s6 s7 s8 H R) : L0 s0 s6 s7 s8 H R :=
 goL_of_den (an := an) (fuel := 100000) (X := L0n s0 s6 s7 s8 H R) mixed fn (by kernel_rfl) (fun ρ0 => by kernel_rfl) h
def L1n (s0 s6 s7 : OA) (H : Heap) (R : EH) : Prop :=
 nilD s0 fun a =>
 ldPtr H (Addr.add a 2) fun p =>
 callD Try.prog 137 [(.pointer s6), (.pointer p)] H (panK R) fun v H1 =>
 tTup v fun l =>
 tNil l <|
 L2 s0 s7 H1 R
theorem L1_step {s0 s6 s7 : OA} {H : Heap} {R : EH} (h : L1n s0 s6 s7 H R) : L1 s0 s6 s7 H R :=
 goL_of_den (an := an) (fuel := 100000) (X := L1n s0 s6 s7 H R) mixed fn (by kernel_rfl) (fun ρ0 => by kernel_rfl) h
def L2n (s0 s7 : OA) (H : Heap) (R : EH) : Prop :=
 nilD s7 fun a =>
 st1 H (Addr.add a 7) (.int .i64 (1 : Int)) fun H1 =>
 callD Try.prog 156 [(.pointer s0), (.pointer s7)] H1 (panK R) fun v H2 =>
 tTup v fun l =>
 tNil l <|
 nilD s0 fun a1 =>
 ldInt H2 (Addr.add a1 1) .i64 fun n =>
 nilD s0 fun a2 =>
 st1 H2 (Addr.add a2 1) (.int .i64 (IntKind.wrap .i64 (n + (1 : Int)))) fun H3 =>
 R (.returned (.tuple ⟨[]⟩)) H3
theorem L2_step {s0 s7 : OA} {H : Heap} {R : EH} (h : L2n s0 s7 H R) : L2 s0 s7 H R :=
 goL_of_den (an := an) (fuel := 100000) (X := L2n s0 s7 H R) mixed fn (by kernel_rfl) (fun ρ0 => by kernel_rfl) h
def go (s0 : OA) (s1_0 s1_1 s2 : IV) (H : Heap) (R : EH) : Prop :=
 newD H (.cells ⟨[(IV.v s1_0), (IV.v s1_1)]⟩ 109) fun r H1 =>
 nilD s0 fun a =>
 ldPtr H1 (Addr.add a 2) fun p =>
 ldIf H1 ⟨r, 0, none⟩ fun i =>
 ldIf H1 ⟨r, 1, none⟩ fun i1 =>
 callD Try.prog 155 [(.pointer s0), (.agg ⟨[(IV.v i), (IV.v i1)]⟩), (IV.v s2)] H1 (panK R) fun v H2 =>
 tPtr v fun p1 =>
 nilD s0 fun a1 =>
 ldPtr H2 a1 fun p2 =>
 L0 s0 p p1 p2 H2 R
theorem calls {s0 : OA} {s1_0 s1_1 s2 : IV} {H : Heap} {R : EH} (h : go s0 s1_0 s1_1 s2 H R) : CallsH Try.prog 142 ⟨[(.pointer s0), (.agg ⟨[(IV.v s1_0), (IV.v s1_1)]⟩), (IV.v s2)]⟩ H R :=
 callsH_of_den (an := an) (fuel := 100000) (X := go s0 s1_0 s1_1 s2 H R) (c := body) mixed fn (by kernel_rfl) (by kernel_rfl) (by kernel_rfl) ok (by kernel_rfl) h
end F142
/-! ### 143 "(*pub-stadtholder/pub/etcdserver/adt.intervalTree).Intersects" -/
namespace F143
def an : Ann := { kinds := [(2005, .read), (3008, .read), (6005, .read)], taus := [(3, [[0, 1, 2, 4, 5, 6, 3, 7, 8, 9, 10, 11, 12, 17, 13, 14, 15, 16, 18, 19, 20, 21]])], pairs := [], lab := [(40000003, [0, 3, 5]), (10000007, [0, 5]), (40000004, [0, 3, 5]), (50000006, [0, 3, 5]), (50000005, [0, 3, 5])] }
noncomputable def body : Code := (Try.f143.body).getD .skip
theorem fn : Try.prog.funcs[143]? = some Try.f143 := by kernel_rfl
theorem ok : codeOk an 61 body = true := by kernel_rfl
noncomputable def L0t : List Item := [.code (sub [1, 1, 0, 0, 0] body), .inLoop (sub [1, 1, 0, 0, 0] body), .inBlock 0, .code (sub [1, 1, 1] body)]
def L0 (ivt : OA) (iv : Nat) (x : OA) (H : Heap) (R : EH) : Prop :=
 GoL Try.prog 143 61 L0t [0, 3, 5] [(.pointer ivt), (.pointer (some ⟨iv, 0, none⟩)), (.pointer x)] H R
noncomputable def L1t : List Item := [.code (sub [1, 1, 1] body)]
def L1 (ivt x : OA) (H : Heap) (R : EH) : Prop :=
 GoL Try.prog 143 61 L1t [0, 5] [(.pointer ivt), (.pointer x)] H R
noncomputable def L2t : List Item := [.code (sub [1, 1, 0, 0, 0, 1] body), .inLoop (sub [1, 1, 0, 0, 0] body), .inBlock 0, .code (sub [1, 1, 1] body)]
def L2 (ivt : OA) (iv : Nat) (x : OA) (H : Heap) (R : EH) : Prop :=
 GoL Try.prog 143 61 L2t [0, 3, 5] [(.pointer ivt), (.pointer (some ⟨iv, 0, none⟩)), (.pointer x)] H R
noncomputable def L3t : List Item := [.code (sub [1, 1, 0, 0, 0, 1, 0, 1, 1] body), .inBlock 1, .inLoop (sub [1, 1, 0, 0, 0] body), .inBlock 0, .code (sub [1, 1, 1] body)]
def L3 (ivt : OA) (iv : Nat) (x : OA) (H : Heap) (R : EH) : Prop :=
 GoL Try.prog 143 61 L3t [0, 3, 5] [(.pointer ivt), (.pointer (some ⟨iv, 0, none⟩)), (.pointer x)] H R
noncomputable def L4t : List Item := [.code (sub [1, 1, 0, 0, 0, 1, 0, 1, 0] body), .inBlock 1, .inLoop (sub [1, 1, 0, 0, 0] body), .inBlock 0, .code (sub [1, 1, 1] body)]
def L4 (ivt : OA) (iv : Nat) (x : OA) (H : Heap) (R : EH) : Prop :=
 GoL Try.prog 143 61 L4t [0, 3, 5] [(.pointer ivt), (.pointer (some ⟨iv, 0, none⟩)), (.pointer x)] H R
def L0n (ivt : OA) (iv : Nat) (x : OA) (H : Heap) (R : EH) : Prop :=
 nilD ivt fun a =>
 ldPtr H (Addr.add a 2) fun p =>
 pqD H x p fun b =>
 iteB (!b) (
 nilD x fun a1 =>
 callD Try.prog 157 [(.pointer (some ⟨iv, 0, none⟩)), (.iface 291 (.pointer (some a1)))] H (panK R) fun v H1 =>
 tInt v .i64 fun n =>
 iteB (n != (0 : Int)) (
 L2 ivt iv x H1 R) <|
 L1 ivt x H1 R) <|
 L1 ivt x H R
theorem L0_step {ivt : OA} {iv : Nat} {x : OA} {H : Heap} {R : EH} (h : L0n ivt iv x H R) : L0 ivt iv x H R :=
 goL_of_den (an := an) (fuel := 100000) (X := L0n ivt iv x H R) mixed fn (by kernel_rfl) (fun ρ0 => by kernel_rfl) h
def L1n (ivt x : OA) (H : Heap) (R : EH) : Prop :=
 nilD ivt fun a =>
 ldPtr H (Addr.add a 2) fun p =>
 pqD H x p fun b =>
 R (.returned (.bool (!b))) H
theorem L1_step {ivt x : OA} {H : Heap} {R : EH} (h : L1n ivt x H R) : L1 ivt x H R :=
 goL_of_den (an := an) (fuel := 100000) (X := L1n ivt x H R) mixed fn (by kernel_rfl) (fun ρ0 => by kernel_rfl) h
def L2n (ivt : OA) (iv : Nat) (x : OA) (H : Heap) (R : EH) : Prop :=
 nilD x fun a =>
 nilD ivt fun a1 =>
 ldPtr H (Addr.add a 4) fun p =>
 ldPtr H (Addr.add a1 2) fun p1 =>
 pqD H p p1 fun b =>
 iteB (!b) (
 nilD x fun a2 =>
 ldPtr H (Addr.add a2 4) fun p2 =>
 nilD p2 fun a3 =>
 ldIf H (Addr.add a3 3) fun i =>
 ldIf H ⟨iv, 0, none⟩ fun i1 =>
 callI Try.prog (IV.v i) "Compare" [(IV.v i1)] H (panK R) fun v H1 =>
 tInt v .i64 fun n =>
 iteB (decide (n > (0 : Int))) (
 L4 ivt iv x H1 R) <|
 L3 ivt iv x H1 R) <|
 L3 ivt iv x H R
theorem L2_step {ivt : OA} {iv : Nat} {x : OA} {H : Heap} {R : EH} (h : L2n ivt iv x H R) : L2 ivt iv x H R :=
 goL_of_den (an := an) (fuel := 100000) (X := L2n ivt iv x H R) mixed fn (by kernel_rfl) (fun ρ0 => by kernel_rfl) h
def L3n (ivt : OA) (iv : Nat) (x : OA) (H : Heap) (R : EH) : Prop :=
 nilD x fun a =>
 ldPtr H (Addr.add a 5) fun p =>
 L0 ivt iv p H R
theorem L3_step {ivt : OA} {iv : Nat} {x : OA} {H : Heap} {R : EH} (h : L3n ivt iv x H R) : L3 ivt iv x H R :=
 goL_of_den (an := an) (fuel := 100000) (X := L3n ivt iv x H R) mixed fn (by kernel_rfl) (fun ρ0 => by kernel_rfl) h
def L4n (ivt : OA) (iv : Nat) (x : OA) (H : Heap) (R : EH) : Prop :=
 nilD x fun a =>
 ldPtr H (Addr.add a 4) fun p =>
 L0 ivt iv p H R
theorem L4_step {ivt : OA} {iv : Nat} {x : OA} {H : Heap} {R : EH} (h : L4n ivt iv x H R) : L4 ivt iv x H R :=
 goL_of_den (an := an) (fuel := 100000) (X := L4n ivt iv x H R) mixed fn (by kernel_rfl) (fun ρ0 => by kernel_rfl) h
def go (ivt : OA) (iv_0 iv_1 : IV) (H : Heap) (R : EH) : Prop :=
 newD H (.cells ⟨[(IV.v iv_0), (IV.v iv_1)]⟩ 109) fun r H1 =>
 nilD ivt fun a =>
 ldPtr H1 a fun p =>
 L0 ivt r p H1 R
theorem calls {ivt : OA} {iv_0 iv_1 : IV} {H : Heap} {R : EH} (h : go ivt iv_0 iv_1 H R) : CallsH Try.prog 143 ⟨[(.pointer ivt), (.agg ⟨[(IV.v iv_0), (IV.v iv_1)]⟩)]⟩ H R :=
 callsH_of_den (an := an) (fuel := 100000) (X := go ivt iv_0 iv_1 H R) (c := body) mixed fn (by kernel_rfl) (by kernel_rfl) (by kernel_rfl) ok (by kernel_rfl) h
end F143
/-! ### 147 "(*pub-stadtholder/pub/etcdserver/adt.intervalTree).Union" -/
namespace F147
def an : Ann := { kinds := [], taus := [], pairs := [], lab := [] }
noncomputable def body : Code := (Try.f147.body).getD .skip
theorem fn : Try.prog.funcs[147]? = some Try.f147 := by kernel_rfl
theorem ok : codeOk an 12 body = true := by kernel_rfl
def go (ivt : OA) (inIvt ivl_0 ivl_1 : IV) (H : Heap) (R : EH) : Prop :=
 newD H (.cells ⟨[(.pointer ivt)]⟩ 136) fun r H1 =>
 newD H1 (.cells ⟨[(IV.v ivl_0), (IV.v ivl_1)]⟩ 109) fun r1 H2 =>
 ldIf H2 ⟨r1, 0, none⟩ fun i =>
 ldIf H2 ⟨r1, 1, none⟩ fun i1 =>
 callI Try.prog (IV.v inIvt) "Visit" [(.agg ⟨[(IV.v i), (IV.v i1)]⟩), (.func (.func 160) ⟨[]⟩ ⟨[(.pointer (some ⟨r, 0, none⟩))]⟩)] H2 (panK R) fun v H3 =>
 tTup v fun l =>
 tNil l <|
 R (.returned (.tuple ⟨[]⟩)) H3
theorem calls {ivt : OA} {inIvt ivl_0 ivl_1 : IV} {H : Heap} {R : EH} (h : go ivt inIvt ivl_0 ivl_1 H R) : CallsH Try.prog 147 ⟨[(.pointer ivt), (IV.v inIvt), (.agg ⟨[(IV.v ivl_0), (IV.v ivl_1)]⟩)]⟩ H R :=
 callsH_of_den (an := an) (fuel := 100000) (X := go ivt inIvt ivl_0 ivl_1 H R) (c := body) mixed fn (by kernel_rfl) (by kernel_rfl) (by kernel_rfl) ok (by kernel_rfl) h
end F147
/-! ### 148 "(*pub-stadtholder/pub/etcdserver/adt.intervalTree).Visit" -/
namespace F148
def an : Ann := { kinds := [], taus := [(1, [[0, 1, 2, 4, 5, 6, 8, 3, 7, 9]])], pairs := [], lab := [] }
noncomputable def body : Code := (Try.f148.body).getD .skip
theorem fn : Try.prog.funcs[148]? = some Try.f148 := by kernel_rfl
theorem ok : codeOk an 16 body = true := by kernel_rfl
def go (ivt : OA) (ivl_0 ivl_1 : IV) (ivv : FV) (H : Heap) (R : EH) : Prop :=
 newD H (.cells ⟨[(IV.v ivl_0), (IV.v ivl_1)]⟩ 109) fun r H1 =>
 guardB (isCell (FV.v ivv)) <|
 newD H1 (.cells ⟨[(FV.v ivv)]⟩ 283) fun r1 H2 =>
 nilD ivt fun a =>
 nilD ivt fun a1 =>
 ldPtr H2 a fun p =>
 ldPtr H2 (Addr.add a1 2) fun p1 =>
 callD Try.prog 161 [(.pointer p), (.pointer (some ⟨r, 0, none⟩)), (.pointer p1), (.func (.func 162) ⟨[]⟩ ⟨[(.pointer (some ⟨r1, 0, none⟩))]⟩)] H2 (panK R) fun v H3 =>
 tBool v fun b =>
 R (.returned (.tuple ⟨[]⟩)) H3
theorem calls {ivt : OA} {ivl_0 ivl_1 : IV} {ivv : FV} {H : Heap} {R : EH} (h : go ivt ivl_0 ivl_1 ivv H R) : CallsH Try.prog 148 ⟨[(.pointer ivt), (.agg ⟨[(IV.v ivl_0), (IV.v ivl_1)]⟩), (FV.v ivv)]⟩ H R :=
 callsH_of_den (an := an) (fuel := 100000) (X := go ivt ivl_0 ivl_1 ivv H R) (c := body) mixed fn (by kernel_rfl) (by kernel_rfl) (by kernel_rfl) ok (by kernel_rfl) h
end F148
/-! ### 152 "(*pub-stadtholder/pub/etcdserver/adt.intervalNode).color" -/
namespace F152
def an : Ann := { kinds := [(1002, .read)], taus := [], pairs := [], lab := [] }
noncomputable def body : Code := (Try.f152.body).getD .skip
theorem fn : Try.prog.funcs[152]? = some Try.f152 := by kernel_rfl
theorem ok : codeOk an 12 body = true := by kernel_rfl
def go (x sentinel : OA) (H : Heap) (R : EH) : Prop :=
 pqD H x sentinel fun b =>
 iteB b (
 R (.returned (.int .i64 (0 : Int))) H) <|
 nilD x fun a =>
 ldInt H (Addr.add a 7) .i64 fun n =>
 R (.returned (.int .i64 n)) H
theorem calls {x sentinel : OA} {H : Heap} {R : EH} (h : go x sentinel H R) : CallsH Try.prog 152 ⟨[(.pointer x), (.pointer sentinel)]⟩ H R :=
 callsH_of_den (an := an) (fuel := 100000) (X := go x sentinel H R) (c := body) mixed fn (by kernel_rfl) (by kernel_rfl) (by kernel_rfl) ok (by kernel_rfl) h
end F152
/-! ### 155 "(*pub-stadtholder/pub/etcdserver/adt.intervalTree).createIntervalNode" -/
namespace F155
def an : Ann := { kinds := [(1018, .grow)], taus := [(1, [[1, 3, 5, 6, 7, 9, 10, 11, 13, 14, 15, 0, 2, 4, 8, 12, 16, 17, 18, 19]])], pairs := [], lab := [] }
noncomputable def body : Code := (Try.f155.body).getD .skip
theorem fn : Try.prog.funcs[155]? = some Try.f155 := by kernel_rfl
theorem ok : codeOk an 26 body = true := by kernel_rfl
def go (ivt : OA) (ivl_0 ivl_1 val : IV) (H : Heap) (R : EH) : Prop :=
 newD H (.cells ⟨[(IV.v ivl_0), (IV.v ivl_1)]⟩ 109) fun r H1 =>
 nilD ivt fun a =>
 nilD ivt fun a1 =>
 nilD ivt fun a2 =>
 ldIf H1 ⟨r, 0, none⟩ fun i =>
 ldIf H1 ⟨r, 1, none⟩ fun i1 =>
 guardB (isCell (IV.v val)) <|
 ldIf H1 ⟨r, 1, none⟩ fun i2 =>
 ldPtr H1 (Addr.add a 2) fun p =>
 ldPtr H1 (Addr.add a1 2) fun p1 =>
 ldPtr H1 (Addr.add a2 2) fun p2 =>
 guardB (isCell (IV.v i2)) <|
 newD H1 (.cells ⟨[(IV.v i), (IV.v i1), (IV.v val), (IV.v i2), (.pointer p), (.pointer p1), (.pointer p2), (.int .i64 (1 : Int))]⟩ 135) fun r1 H2 =>
 R (.returned (.pointer (some ⟨r1, 0, none⟩))) H2
theorem calls {ivt : OA} {ivl_0 ivl_1 val : IV} {H : Heap} {R : EH} (h : go ivt ivl_0 ivl_1 val H R) : CallsH Try.prog 155 ⟨[(.pointer ivt), (.agg ⟨[(IV.v ivl_0), (IV.v ivl_1)]⟩), (IV.v val)]⟩ H R :=
 callsH_of_den (an := an) (fuel := 100000) (X := go ivt ivl_0 ivl_1 val H R) (c := body) mixed fn (by kernel_rfl) (by kernel_rfl) (by kernel_rfl) ok (by kernel_rfl) h
end F155
/-! ### 156 "(*pub-stadtholder/pub/etcdserver/adt.intervalTree).insertFixup" -/
namespace F156
def an : Ann := { kinds := [(1014, .read), (8008, .read), (20008, .read)], taus := [(0, [[0, 1, 2, 4, 5, 6, 3, 7, 8, 9]]), (1, [[0, 1, 2, 4, 5, 6, 3, 7, 8, 9, 10, 11, 12, 13, 14]])], pairs := [], lab := [(40000001, [0, 1]), (50000024, [0, 1]), (50000012, [0, 1])] }
noncomputable def body : Code := (Try.f156.body).getD .skip
theorem fn : Try.prog.funcs[156]? = some Try.f156 := by kernel_rfl
theorem ok : codeOk an 201 body = true := by kernel_rfl
noncomputable def L0t : List Item := [.code (sub [0, 0, 0] body), .inLoop (sub [0, 0, 0] body), .inBlock 0, .code (sub [1] body)]
def L0 (s0 s1 : OA) (H : Heap) (R : EH) : Prop :=
 GoL Try.prog 156 201 L0t [0, 1] [(.pointer s0), (.pointer s1)] H R
noncomputable def L1t : List Item := [.code (sub [0, 0, 0, 1, 0, 1, 1, 1, 1, 1, 1] body), .inBlock 1, .inLoop (sub [0, 0, 0] body), .inBlock 0, .code (sub [1] body)]
def L1 (s0 s1 : OA) (H : Heap) (R : EH) : Prop :=
 GoL Try.prog 156 201 L1t [0, 1] [(.pointer s0), (.pointer s1)] H R
noncomputable def L2t : List Item := [.code (sub [0, 0, 0, 1, 0, 1, 0, 1, 1, 1, 1] body), .inBlock 1, .inLoop (sub [0, 0, 0] body), .inBlock 0, .code (sub [1] body)]
def L2 (s0 s1 : OA) (H : Heap) (R : EH) : Prop :=
 GoL Try.prog 156 201 L2t [0, 1] [(.pointer s0), (.pointer s1)] H R
def L0n (s0 s1 : OA) (H : Heap) (R : EH) : Prop :=
 nilD s1 fun a =>
 nilD s0 fun a1 =>
 ldPtr H (Addr.add a 6) fun p =>
 ldPtr H (Addr.add a1 2) fun p1 =>
 callD Try.prog 152 [(.pointer p), (.pointer p1)] H (panK R) fun v H1 =>
 tInt v .i64 fun n =>
 iteB (n == (1 : Int)) (
 nilD s1 fun a2 =>
 nilD s1 fun a3 =>
 ldPtr H1 (Addr.add a2 6) fun p2 =>
 ldPtr H1 (Addr.add a3 6) fun p3 =>
 nilD p3 fun a4 =>
 ldPtr H1 (Addr.add a4 6) fun p4 =>
 nilD p4 fun a5 =>
 ldPtr H1 (Addr.add a5 4) fun p5 =>
 pqD H1 p2 p5 fun b =>
 iteB b (
 nilD s1 fun a6 =>
 ldPtr H1 (Addr.add a6 6) fun p6 =>
 nilD p6 fun a7 =>
 ldPtr H1 (Addr.add a7 6) fun p7 =>
 nilD p7 fun a8 =>
 ldPtr H1 (Addr.add a8 5) fun p8 =>
 nilD s0 fun a9 =>
 ldPtr H1 (Addr.add a9 2) fun p9 =>
 callD Try.prog 152 [(.pointer p8), (.pointer p9)] H1 (panK R) fun v1 H2 =>
 tInt v1 .i64 fun n1 =>
 iteB (n1 == (1 : Int)) (
 nilD p8 fun a10 =>
 st1 H2 (Addr.add a10 7) (.int .i64 (0 : Int)) fun H3 =>
 nilD s1 fun a11 =>
 ldPtr H3 (Addr.add a11 6) fun p10 =>
 nilD p10 fun a12 =>
 st1 H3 (Addr.add a12 7) (.int .i64 (0 : Int)) fun H4 =>
 nilD s1 fun a13 =>
 ldPtr H4 (Addr.add a13 6) fun p11 =>
 nilD p11 fun a14 =>
 ldPtr H4 (Addr.add a14 6) fun p12 =>
 nilD p12 fun a15 =>
 st1 H4 (Addr.add a15 7) (.int .i64 (1 : Int)) fun H5 =>
 nilD s1 fun a16 =>
 ldPtr H5 (Addr.add a16 6) fun p13 =>
 nilD p13 fun a17 =>
 ldPtr H5 (Addr.add a17 6) fun p14 =>
 L0 s0 p14 H5 R) <|
 nilD s1 fun a18 =>
 ldPtr H2 (Addr.add a18 6) fun p15 =>
 nilD p15 fun a19 =>
 ldPtr H2 (Addr.add a19 5) fun p16 =>
 pqD H2 s1 p16 fun b1 =>
 iteB b1 (
 nilD s1 fun a20 =>
 ldPtr H2 (Addr.add a20 6) fun p17 =>
 callD Try.prog 164 [(.pointer s0), (.pointer p17)] H2 (panK R) fun v2 H6 =>
 tTup v2 fun l =>
 tNil l <|
 L2 s0 p17 H6 R) <|
 L2 s0 s1 H2 R) <|
 nilD s1 fun a21 =>
 ldPtr H1 (Addr.add a21 6) fun p18 =>
 nilD p18 fun a22 =>
 ldPtr H1 (Addr.add a22 6) fun p19 =>
 nilD p19 fun a23 =>
 ldPtr H1 (Addr.add a23 4) fun p20 =>
 nilD s0 fun a24 =>
 ldPtr H1 (Addr.add a24 2) fun p21 =>
 callD Try.prog 152 [(.pointer p20), (.pointer p21)] H1 (panK R) fun v3 H7 =>
 tInt v3 .i64 fun n2 =>
 iteB (n2 == (1 : Int)) (
 nilD p20 fun a25 =>
 st1 H7 (Addr.add a25 7) (.int .i64 (0 : Int)) fun H8 =>
 nilD s1 fun a26 =>
 ldPtr H8 (Addr.add a26 6) fun p22 =>
 nilD p22 fun a27 =>
 st1 H8 (Addr.add a27 7) (.int .i64 (0 : Int)) fun H9 =>
 nilD s1 fun a28 =>
 ldPtr H9 (Addr.add a28 6) fun p23 =>
 nilD p23 fun a29 =>
 ldPtr H9 (Addr.add a29 6) fun p24 =>
 nilD p24 fun a30 =>
 st1 H9 (Addr.add a30 7) (.int .i64 (1 : Int)) fun H10 =>
 nilD s1 fun a31 =>
 ldPtr H10 (Addr.add a31 6) fun p25 =>
 nilD p25 fun a32 =>
 ldPtr H10 (Addr.add a32 6) fun p26 =>
 L0 s0 p26 H10 R) <|
 nilD s1 fun a33 =>
 ldPtr H7 (Addr.add a33 6) fun p27 =>
 nilD p27 fun a34 =>
 ldPtr H7 (Addr.add a34 4) fun p28 =>
 pqD H7 s1 p28 fun b2 =>
 iteB b2 (
 nilD s1 fun a35 =>
 ldPtr H7 (Addr.add a35 6) fun p29 =>
 callD Try.prog 165 [(.pointer s0), (.pointer p29)] H7 (panK R) fun v4 H11 =>
 tTup v4 fun l1 =>
 tNil l1 <|
 L1 s0 p29 H11 R) <|
 L1 s0 s1 H7 R) <|
 nilD s0 fun a36 =>
 ldPtr H1 a36 fun p30 =>
 nilD p30 fun a37 =>
 st1 H1 (Addr.add a37 7) (.int .i64 (0 : Int)) fun H12 =>
 R (.returned (.tuple ⟨[]⟩)) H12
theorem L0_step {s0 s1 : OA} {H : Heap} {R : EH} (h : L0n s0 s1 H R) : L0 s0 s1 H R :=
 goL_of_den (an := an) (fuel := 100000) (X := L0n s0 s1 H R) mixed fn (by kernel_rfl) (fun ρ0 => by kernel_rfl) h
def L1n (s0 s1 : OA) (H : Heap) (R : EH) : Prop :=
 nilD s1 fun a =>
 ldPtr H (Addr.add a 6) fun p =>
 nilD p fun a1 =>
 st1 H (Addr.add a1 7) (.int .i64 (0 : Int)) fun H1 =>
 nilD s1 fun a2 =>
 ldPtr H1 (Addr.add a2 6) fun p1 =>
 nilD p1 fun a3 =>
 ldPtr H1 (Addr.add a3 6) fun p2 =>
 nilD p2 fun a4 =>
 st1 H1 (Addr.add a4 7) (.int .i64 (1 : Int)) fun H2 =>
 nilD s1 fun a5 =>
 ldPtr H2 (Addr.add a5 6) fun p3 =>
 nilD p3 fun a6 =>
 ldPtr H2 (Addr.add a6 6) fun p4 =>
 callD Try.prog 164 [(.pointer s0), (.pointer p4)] H2 (panK R) fun v H3 =>
 tTup v fun l =>
 tNil l <|
 L0 s0 s1 H3 R
theorem L1_step {s0 s1 : OA} {H : Heap} {R : EH} (h : L1n s0 s1 H R) : L1 s0 s1 H R :=
 goL_of_den (an := an) (fuel := 100000) (X := L1n s0 s1 H R) mixed fn (by kernel_rfl) (fun ρ0 => by kernel_rfl) h
def L2n (s0 s1 : OA) (H : Heap) (R : EH) : Prop :=
 nilD s1 fun a =>
 ldPtr H (Addr.add a 6) fun p =>
 nilD p fun a1 =>
 st1 H (Addr.add a1 7) (.int .i64 (0 : Int)) fun H1 =>
 nilD s1 fun a2 =>
 ldPtr H1 (Addr.add a2 6) fun p1 =>
 nilD p1 fun a3 =>
 ldPtr H1 (Addr.add a3 6) fun p2 =>
 nilD p2 fun a4 =>
 st1 H1 (Addr.add a4 7) (.int .i64 (1 : Int)) fun H2 =>
 nilD s1 fun a5 =>
 ldPtr H2 (Addr.add a5 6) fun p3 =>
 nilD p3 fun a6 =>
 ldPtr H2 (Addr.add a6 6) fun p4 =>
 callD Try.prog 165 [(.pointer s0), (.pointer p4)] H2 (panK R) fun v H3 =>
 tTup v fun l =>
 tNil l <|
 L0 s0 s1 H3 R
theorem L2_step {s0 s1 : OA} {H : Heap} {R : EH} (h : L2n s0 s1 H R) : L2 s0 s1 H R :=
 goL_of_den (an := an) (fuel := 100000) (X := L2n s0 s1 H R) mixed fn (by kernel_rfl) (fun ρ0 => by kernel_rfl) h
def go (s0 s1 : OA) (H : Heap) (R : EH) : Prop :=
 L0 s0 s1 H R
theorem calls {s0 s1 : OA} {H : Heap} {R : EH} (h : go s0 s1 H R) : CallsH Try.prog 156 ⟨[(.pointer s0), (.pointer s1)]⟩ H R :=
 callsH_of_den (an := an) (fuel := 100000) (X := go s0 s1 H R) (c := body) mixed fn (by kernel_rfl) (by kernel_rfl) (by kernel_rfl) ok (by kernel_rfl) h
end F156
/-! ### 157 "(*pub-stadtholder/pub/etcdserver/adt.Interval).Compare" -/
namespace F157
def an : Ann := { kinds := [(1001, .heavy 0)], taus := [(2, [[0, 1, 2, 4, 5, 6, 3, 8, 9, 7, 10, 11]]), (3, [[0, 1, 2, 4, 5, 6, 3, 8, 9, 7, 10, 11]]), (4, [[0, 1, 2, 4, 5, 6, 3, 8, 9, 7, 10, 11]])], pairs := [], lab := [(10000008, [7])] }
noncomputable def body : Code := (Try.f157.body).getD .skip
theorem fn : Try.prog.funcs[157]? = some Try.f157 := by kernel_rfl
theorem ok : codeOk an 52 body = true := by kernel_rfl
noncomputable def L0t : List Item := [.code (sub [1, 1, 1, 1, 1, 1] body)]
def L0 (ivbCmpEnd : Int) (H : Heap) (R : EH) : Prop :=
 GoL Try.prog 157 52 L0t [7] [(.int .i64 ivbCmpEnd)] H R
def L0n (ivbCmpEnd : Int) (H : Heap) (R : EH) : Prop :=
 iteB (decide (ivbCmpEnd ≥ (0 : Int))) (
 R (.returned (.int .i64 (1 : Int))) H) <|
 R (.returned (.int .i64 (0 : Int))) H
theorem L0_step {ivbCmpEnd : Int} {H : Heap} {R : EH} (h : L0n ivbCmpEnd H R) : L0 ivbCmpEnd H R :=
 goL_of_den (an := an) (fuel := 100000) (X := L0n ivbCmpEnd H R) mixed fn (by kernel_rfl) (fun ρ0 => by kernel_rfl) h
def go (ivl : OA) (c : IV) (H : Heap) (R : EH) : Prop :=
 valD Try.prog (Instr.typeAssert (IV.v c) 107 291 false) H (panK R) fun v H1 =>
 tPtr v fun p =>
 nilD ivl fun a =>
 nilD p fun a1 =>
 ldIf H1 a fun i =>
 nilV Try.prog (IV.v i) fun v1 =>
 ldIf H1 a1 fun i1 =>
 callI Try.prog (IV.v i) "Compare" [(IV.v i1)] H1 (panK R) fun v2 H2 =>
 tInt v2 .i64 fun n =>
 nilD ivl fun a2 =>
 nilD p fun a3 =>
 ldIf H2 a2 fun i2 =>
 nilV Try.prog (IV.v i2) fun v3 =>
 ldIf H2 (Addr.add a3 1) fun i3 =>
 callI Try.prog (IV.v i2) "Compare" [(IV.v i3)] H2 (panK R) fun v4 H3 =>
 tInt v4 .i64 fun n1 =>
 nilD ivl fun a4 =>
 nilD p fun a5 =>
 ldIf H3 (Addr.add a4 1) fun i4 =>
 nilV Try.prog (IV.v i4) fun v5 =>
 ldIf H3 a5 fun i5 =>
 callI Try.prog (IV.v i4) "Compare" [(IV.v i5)] H3 (panK R) fun v6 H4 =>
 tInt v6 .i64 fun n2 =>
 iteB (decide (n < (0 : Int))) (
 iteB (decide (n2 ≤ (0 : Int))) (
 R (.returned (.int .i64 (-1 : Int))) H4) <|
 L0 n1 H4 R) <|
 L0 n1 H4 R
theorem calls {ivl : OA} {c : IV} {H : Heap} {R : EH} (h : go ivl c H R) : CallsH Try.prog 157 ⟨[(.pointer ivl), (IV.v c)]⟩ H R :=
 callsH_of_den (an := an) (fuel := 100000) (X := go ivl c H R) (c := body) mixed fn (by kernel_rfl) (by kernel_rfl) (by kernel_rfl) ok (by kernel_rfl) h
end F157
/-! ### 160 "(*pub-stadtholder/pub/etcdserver/adt.intervalTree).Union$1" -/
namespace F160
def an : Ann := { kinds := [], taus := [(1, [[1, 2, 3, 5, 6, 7, 0, 4, 8, 9]])], pairs := [], lab := [] }
noncomputable def body : Code := (Try.f160.body).getD .skip
theorem fn : Try.prog.funcs[160]? = some Try.f160 := by kernel_rfl
theorem ok : codeOk an 14 body = true := by kernel_rfl
def go (n : OA) (s1 : Addr) (H : Heap) (R : EH) : Prop :=
 nilD n fun a =>
 nilD n fun a1 =>
 ldPtr H s1 fun p =>
 ldIf H a fun i =>
 ldIf H (Addr.add a 1) fun i1 =>
 ldIf H (Addr.add a1 2) fun i2 =>
 callD Try.prog 142 [(.pointer p), (.agg ⟨[(IV.v i), (IV.v i1)]⟩), (IV.v i2)] H (panK R) fun v H1 =>
 tTup v fun l =>
 tNil l <|
 R (.returned (.bool true)) H1
theorem calls {n : OA} {s1 : Addr} {H : Heap} {R : EH} (h : go n s1 H R) : CallsH Try.prog 160 ⟨[(.pointer n), (.pointer (some s1))]⟩ H R :=
 callsH_of_den (an := an) (fuel := 100000) (X := go n s1 H R) (c := body) mixed fn (by kernel_rfl) (by kernel_rfl) (by kernel_rfl) ok (by kernel_rfl) h
end F160
/-! ### 161 "(*pub-stadtholder/pub/etcdserver/adt.intervalNode).visit" -/
namespace F161
def an : Ann := { kinds := [(1002, .read), (10011, .grow)], taus := [(10, [[0, 1, 2, 3, 4, 6, 7, 8, 5, 9, 10, 11, 12]])], pairs := [], lab := [] }
noncomputable def body : Code := (Try.f161.body).getD .skip
theorem fn : Try.prog.funcs[161]? = some Try.f161 := by kernel_rfl
theorem ok : codeOk an 97 body = true := by kernel_rfl
def go (s0 s1 s2 : OA) (s3 : FV) (H : Heap) (R : EH) : Prop :=
 pqD H s0 s2 fun b =>
 iteB b (
 R (.returned (.bool true)) H) <|
 nilD s0 fun a =>
 callD Try.prog 157 [(.pointer s1), (.iface 291 (.pointer (some a)))] H (panK R) fun v H1 =>
 tInt v .i64 fun n =>
 iteB (decide (n < (0 : Int))) (
 nilD s0 fun a1 =>
 ldPtr H1 (Addr.add a1 4) fun p =>
 callD Try.prog 161 [(.pointer p), (.pointer s1), (.pointer s2), (FV.v s3)] H1 (panK R) fun v1 H2 =>
 tBool v1 fun b1 =>
 iteB (!b1) (
 R (.returned (.bool false)) H2) <|
 R (.returned (.bool true)) H2) <|
 iteB (decide (n > (0 : Int))) (
 nilD s0 fun a2 =>
 nilD s0 fun a3 =>
 ldIf H1 a2 fun i =>
 ldIf H1 (Addr.add a3 3) fun i1 =>
 guardB (isCell (IV.v i)) <|
 guardB (isCell (IV.v i1)) <|
 newD H1 (.cells ⟨[.nilIface, .nilIface]⟩ 109) fun r H3 =>
 st1 H3 ⟨r, 0, none⟩ (IV.v i) fun H4 =>
 st1 H4 ⟨r, 1, none⟩ (IV.v i1) fun H5 =>
 callD Try.prog 157 [(.pointer (some ⟨r, 0, none⟩)), (.iface 291 (.pointer s1))] H5 (panK R) fun v2 H6 =>
 tInt v2 .i64 fun n1 =>
 iteB (n1 == (0 : Int)) (
 nilD s0 fun a4 =>
 ldPtr H6 (Addr.add a4 4) fun p1 =>
 callD Try.prog 161 [(.pointer p1), (.pointer s1), (.pointer s2), (FV.v s3)] H6 (panK R) fun v3 H7 =>
 tBool v3 fun b2 =>
 iteB (!b2) (
 R (.returned (.bool false)) H7) <|
 nilD s0 fun a5 =>
 ldPtr H7 (Addr.add a5 5) fun p2 =>
 callD Try.prog 161 [(.pointer p2), (.pointer s1), (.pointer s2), (FV.v s3)] H7 (panK R) fun v4 H8 =>
 tBool v4 fun b3 =>
 iteB (!b3) (
 R (.returned (.bool false)) H8) <|
 R (.returned (.bool true)) H8) <|
 R (.returned (.bool true)) H6) <|
 nilD s0 fun a6 =>
 ldPtr H1 (Addr.add a6 4) fun p3 =>
 callD Try.prog 161 [(.pointer p3), (.pointer s1), (.pointer s2), (FV.v s3)] H1 (panK R) fun v5 H9 =>
 tBool v5 fun b4 =>
 iteB (!b4) (
 R (.returned (.bool false)) H9) <|
 callV Try.prog (FV.v s3) [(.pointer s0)] H9 (panK R) fun v6 H10 =>
 tBool v6 fun b5 =>
 iteB (!b5) (
 R (.returned (.bool false)) H10) <|
 nilD s0 fun a7 =>
 ldPtr H10 (Addr.add a7 5) fun p4 =>
 callD Try.prog 161 [(.pointer p4), (.pointer s1), (.pointer s2), (FV.v s3)] H10 (panK R) fun v7 H11 =>
 tBool v7 fun b6 =>
 iteB (!b6) (
 R (.returned (.bool false)) H11) <|
 R (.returned (.bool true)) H11
theorem calls {s0 s1 s2 : OA} {s3 : FV} {H : Heap} {R : EH} (h : go s0 s1 s2 s3 H R) : CallsH Try.prog 161 ⟨[(.pointer s0), (.pointer s1), (.pointer s2), (FV.v s3)]⟩ H R :=
 callsH_of_den (an := an) (fuel := 100000) (X := go s0 s1 s2 s3 H R) (c := body) mixed fn (by kernel_rfl) (by kernel_rfl) (by kernel_rfl) ok (by kernel_rfl) h
end F161
/-! ### 162 "(*pub-stadtholder/pub/etcdserver/adt.intervalTree).Visit$1" -/
namespace F162
def an : Ann := { kinds := [], taus := [(1, [[1, 2, 3, 0, 4, 5]])], pairs := [], lab := [] }
noncomputable def body : Code := (Try.f162.body).getD .skip
theorem fn : Try.prog.funcs[162]? = some Try.f162 := by kernel_rfl
theorem ok : codeOk an 9 body = true := by kernel_rfl
def go (n : OA) (s1 : Addr) (H : Heap) (R : EH) : Prop :=
 nilD n fun a =>
 ldFn H s1 fun f =>
 callV Try.prog (FV.v f) [(.pointer (some a))] H (panK R) fun v H1 =>
 tBool v fun b =>
 R (.returned (.bool b)) H1
theorem calls {n : OA} {s1 : Addr} {H : Heap} {R : EH} (h : go n s1 H R) : CallsH Try.prog 162 ⟨[(.pointer n), (.pointer (some s1))]⟩ H R :=
 callsH_of_den (an := an) (fuel := 100000) (X := go n s1 H R) (c := body) mixed fn (by kernel_rfl) (by kernel_rfl) (by kernel_rfl) ok (by kernel_rfl) h
end F162
/-! ### 164 "(*pub-stadtholder/pub/etcdserver/adt.intervalTree).rotateLeft" -/
namespace F164
def an : Ann := { kinds := [(8, .read), (3008, .read)], taus := [(0, [[0, 1, 2, 4, 5, 6, 3, 7, 8]]), (3, [[0, 1, 2, 4, 5, 6, 3, 7, 8]])], pairs := [], lab := [(10000006, [0, 1, 4])] }
noncomputable def body : Code := (Try.f164.body).getD .skip
theorem fn : Try.prog.funcs[164]? = some Try.f164 := by kernel_rfl
theorem ok : codeOk an 61 body = true := by kernel_rfl
noncomputable def L0t : List Item := [.code (sub [1, 1, 1, 1] body)]
def L0 (ivt x y : OA) (H : Heap) (R : EH) : Prop :=
 GoL Try.prog 164 61 L0t [0, 1, 4] [(.pointer ivt), (.pointer x), (.pointer y)] H R
def L0n (ivt x y : OA) (H : Heap) (R : EH) : Prop :=
 nilD ivt fun a =>
 ldPtr H (Addr.add a 2) fun p =>
 callD Try.prog 137 [(.pointer x), (.pointer p)] H (panK R) fun v H1 =>
 tTup v fun l =>
 tNil l <|
 callD Try.prog 168 [(.pointer ivt), (.pointer x), (.pointer y)] H1 (panK R) fun v1 H2 =>
 tTup v1 fun l1 =>
 tNil l1 <|
 nilD y fun a1 =>
 st1 H2 (Addr.add a1 4) (.pointer x) fun H3 =>
 nilD ivt fun a2 =>
 ldPtr H3 (Addr.add a2 2) fun p1 =>
 callD Try.prog 137 [(.pointer y), (.pointer p1)] H3 (panK R) fun v2 H4 =>
 tTup v2 fun l2 =>
 tNil l2 <|
 R (.returned (.tuple ⟨[]⟩)) H4
theorem L0_step {ivt x y : OA} {H : Heap} {R : EH} (h : L0n ivt x y H R) : L0 ivt x y H R :=
 goL_of_den (an := an) (fuel := 100000) (X := L0n ivt x y H R) mixed fn (by kernel_rfl) (fun ρ0 => by kernel_rfl) h
def go (ivt x : OA) (H : Heap) (R : EH) : Prop :=
 nilD x fun a =>
 nilD ivt fun a1 =>
 ldPtr H (Addr.add a 5) fun p =>
 ldPtr H (Addr.add a1 2) fun p1 =>
 pqD H p p1 fun b =>
 iteB b (
 R (.returned (.tuple ⟨[]⟩)) H) <|
 nilD x fun a2 =>
 ldPtr H (Addr.add a2 5) fun p2 =>
 nilD p2 fun a3 =>
 ldPtr H (Addr.add a3 4) fun p3 =>
 nilD x fun a4 =>
 st1 H (Addr.add a4 5) (.pointer p3) fun H1 =>
 nilD p2 fun a5 =>
 nilD ivt fun a6 =>
 ldPtr H1 (Addr.add a5 4) fun p4 =>
 ldPtr H1 (Addr.add a6 2) fun p5 =>
 pqD H1 p4 p5 fun b1 =>
 iteB (!b1) (
 nilD p2 fun a7 =>
 ldPtr H1 (Addr.add a7 4) fun p6 =>
 nilD p6 fun a8 =>
 st1 H1 (Addr.add a8 6) (.pointer x) fun H2 =>
 L0 ivt x p2 H2 R) <|
 L0 ivt x p2 H1 R
theorem calls {ivt x : OA} {H : Heap} {R : EH} (h : go ivt x H R) : CallsH Try.prog 164 ⟨[(.pointer ivt), (.pointer x)]⟩ H R :=
 callsH_of_den (an := an) (fuel := 100000) (X := go ivt x H R) (c := body) mixed fn (by kernel_rfl) (by kernel_rfl) (by kernel_rfl) ok (by kernel_rfl) h
end F164
/-! ### 165 "(*pub-stadtholder/pub/etcdserver/adt.intervalTree).rotateRight" -/
namespace F165
def an : Ann := { kinds := [(8, .read), (3008, .read)], taus := [(0, [[0, 1, 2, 4, 5, 6, 3, 7, 8]]), (3, [[0, 1, 2, 4, 5, 6, 3, 7, 8]])], pairs := [], lab := [(10000006, [0, 1, 4])] }
noncomputable def body : Code := (Try.f165.body).getD .skip
theorem fn : Try.prog.funcs[165]? = some Try.f165 := by kernel_rfl
theorem ok : codeOk an 61 body = true := by kernel_rfl
noncomputable def L0t : List Item := [.code (sub [1, 1, 1, 1] body)]
def L0 (ivt x y : OA) (H : Heap) (R : EH) : Prop :=
 GoL Try.prog 165 61 L0t [0, 1, 4] [(.pointer ivt), (.pointer x), (.pointer y)] H R
def L0n (ivt x y : OA) (H : Heap) (R : EH) : Prop :=
 nilD ivt fun a =>
 ldPtr H (Addr.add a 2) fun p =>
 callD Try.prog 137 [(.pointer x), (.pointer p)] H (panK R) fun v H1 =>
 tTup v fun l =>
 tNil l <|
 callD Try.prog 168 [(.pointer ivt), (.pointer x), (.pointer y)] H1 (panK R) fun v1 H2 =>
 tTup v1 fun l1 =>
 tNil l1 <|
 nilD y fun a1 =>
 st1 H2 (Addr.add a1 5) (.pointer x) fun H3 =>
 nilD ivt fun a2 =>
 ldPtr H3 (Addr.add a2 2) fun p1 =>
 callD Try.prog 137 [(.pointer y), (.pointer p1)] H3 (panK R) fun v2 H4 =>
 tTup v2 fun l2 =>
 tNil l2 <|
 R (.returned (.tuple ⟨[]⟩)) H4
theorem L0_step {ivt x y : OA} {H : Heap} {R : EH} (h : L0n ivt x y H R) : L0 ivt x y H R :=
 goL_of_den (an := an) (fuel := 100000) (X := L0n ivt x y H R) mixed fn (by kernel_rfl) (fun ρ0 => by kernel_rfl) h
def go (ivt x : OA) (H : Heap) (R : EH) : Prop :=
 nilD x fun a =>
 nilD ivt fun a1 =>
 ldPtr H (Addr.add a 4) fun p =>
 ldPtr H (Addr.add a1 2) fun p1 =>
 pqD H p p1 fun b =>
 iteB b (
 R (.returned (.tuple ⟨[]⟩)) H) <|
 nilD x fun a2 =>
 ldPtr H (Addr.add a2 4) fun p2 =>
 nilD p2 fun a3 =>
 ldPtr H (Addr.add a3 5) fun p3 =>
 nilD x fun a4 =>
 st1 H (Addr.add a4 4) (.pointer p3) fun H1 =>
 nilD p2 fun a5 =>
 nilD ivt fun a6 =>
 ldPtr H1 (Addr.add a5 5) fun p4 =>
 ldPtr H1 (Addr.add a6 2) fun p5 =>
 pqD H1 p4 p5 fun b1 =>
 iteB (!b1) (
 nilD p2 fun a7 =>
 ldPtr H1 (Addr.add a7 5) fun p6 =>
 nilD p6 fun a8 =>
 st1 H1 (Addr.add a8 6) (.pointer x) fun H2 =>
 L0 ivt x p2 H2 R) <|
 L0 ivt x p2 H1 R
theorem calls {ivt x : OA} {H : Heap} {R : EH} (h : go ivt x H R) : CallsH Try.prog 165 ⟨[(.pointer ivt), (.pointer x)]⟩ H R :=
 callsH_of_den (an := an) (fuel := 100000) (X := go ivt x H R) (c := body) mixed fn (by kernel_rfl) (by kernel_rfl) (by kernel_rfl) ok (by kernel_rfl) h
end F165
/-! ### 168 "(*pub-stadtholder/pub/etcdserver/adt.intervalTree).replaceParent" -/
namespace F168
def an : Ann := { kinds := [(1008, .read), (3008, .read)], taus := [(1, [[0, 1, 2, 4, 5, 6, 3, 7, 8]]), (6, [[0, 1, 2, 4, 5, 6, 3, 7, 8]])], pairs := [], lab := [(20000007, [0, 1, 2])] }
noncomputable def body : Code := (Try.f168.body).getD .skip
theorem fn : Try.prog.funcs[168]? = some Try.f168 := by kernel_rfl
theorem ok : codeOk an 62 body = true := by kernel_rfl
noncomputable def L0t : List Item := [.code (sub [1, 0, 1, 1, 1] body), .code (sub [1, 1] body)]
def L0 (ivt x y : OA) (H : Heap) (R : EH) : Prop :=
 GoL Try.prog 168 62 L0t [0, 1, 2] [(.pointer ivt), (.pointer x), (.pointer y)] H R
def L0n (ivt x y : OA) (H : Heap) (R : EH) : Prop :=
 nilD x fun a =>
 nilD ivt fun a1 =>
 ldPtr H (Addr.add a 6) fun p =>
 ldPtr H (Addr.add a1 2) fun p1 =>
 callD Try.prog 137 [(.pointer p), (.pointer p1)] H (panK R) fun v H1 =>
 tTup v fun l =>
 tNil l <|
 nilD x fun a2 =>
 st1 H1 (Addr.add a2 6) (.pointer y) fun H2 =>
 R (.returned (.tuple ⟨[]⟩)) H2
theorem L0_step {ivt x y : OA} {H : Heap} {R : EH} (h : L0n ivt x y H R) : L0 ivt x y H R :=
 goL_of_den (an := an) (fuel := 100000) (X := L0n ivt x y H R) mixed fn (by kernel_rfl) (fun ρ0 => by kernel_rfl) h
def go (ivt x y : OA) (H : Heap) (R : EH) : Prop :=
 nilD x fun a =>
 ldPtr H (Addr.add a 6) fun p =>
 nilD y fun a1 =>
 st1 H (Addr.add a1 6) (.pointer p) fun H1 =>
 nilD x fun a2 =>
 nilD ivt fun a3 =>
 ldPtr H1 (Addr.add a2 6) fun p1 =>
 ldPtr H1 (Addr.add a3 2) fun p2 =>
 pqD H1 p1 p2 fun b =>
 iteB b (
 nilD ivt fun a4 =>
 st1 H1 a4 (.pointer y) fun H2 =>
 nilD x fun a5 =>
 st1 H2 (Addr.add a5 6) (.pointer y) fun H3 =>
 R (.returned (.tuple ⟨[]⟩)) H3) <|
 nilD x fun a6 =>
 ldPtr H1 (Addr.add a6 6) fun p3 =>
 nilD p3 fun a7 =>
 ldPtr H1 (Addr.add a7 4) fun p4 =>
 pqD H1 x p4 fun b1 =>
 iteB b1 (
 nilD x fun a8 =>
 ldPtr H1 (Addr.add a8 6) fun p5 =>
 nilD p5 fun a9 =>
 st1 H1 (Addr.add a9 4) (.pointer y) fun H4 =>
 L0 ivt x y H4 R) <|
 nilD x fun a10 =>
 ldPtr H1 (Addr.add a10 6) fun p6 =>
 nilD p6 fun a11 =>
 st1 H1 (Addr.add a11 5) (.pointer y) fun H5 =>
 L0 ivt x y H5 R
theorem calls {ivt x y : OA} {H : Heap} {R : EH} (h : go ivt x y H R) : CallsH Try.prog 168 ⟨[(.pointer ivt), (.pointer x), (.pointer y)]⟩ H R :=
 callsH_of_den (an := an) (fuel := 100000) (X := go ivt x y H R) (c := body) mixed fn (by kernel_rfl) (by kernel_rfl) (by kernel_rfl) ok (by kernel_rfl) h
end F168
/-! ### 185 "(pub-stadtholder/pub/etcdserver/adt.StringAffineComparable).Compare" -/
namespace F185
def an : Ann := { kinds := [(1001, .heavy 0)], taus := [], pairs := [], lab := [] }
noncomputable def body : Code := (Try.f185.body).getD .skip
theorem fn : Try.prog.funcs[185]? = some Try.f185 := by kernel_rfl
theorem ok : codeOk an 23 body = true := by kernel_rfl
def go (s : ByteArray) (c : IV) (H : Heap) (R : EH) : Prop :=
 valD Try.prog (Instr.typeAssert (IV.v c) 107 180 false) H (panK R) fun v H1 =>
 tStr v fun s1 =>
 iteB (((ByteArray.size s : Nat) : Int) == (0 : Int)) (
 iteB (((ByteArray.size s1 : Nat) : Int) == (0 : Int)) (
 R (.returned (.int .i64 (0 : Int))) H1) <|
 R (.returned (.int .i64 (1 : Int))) H1) <|
 iteB (((ByteArray.size s1 : Nat) : Int) == (0 : Int)) (
 R (.returned (.int .i64 (-1 : Int))) H1) <|
 iteB (ltS s s1) (
 R (.returned (.int .i64 (-1 : Int))) H1) <|
 iteB (!(ltS s s1 || eqS s s1)) (
 R (.returned (.int .i64 (1 : Int))) H1) <|
 R (.returned (.int .i64 (0 : Int))) H1
theorem calls {s : ByteArray} {c : IV} {H : Heap} {R : EH} (h : go s c H R) : CallsH Try.prog 185 ⟨[(.string s), (IV.v c)]⟩ H R :=
 callsH_of_den (an := an) (fuel := 100000) (X := go s c H R) (c := body) mixed fn (by kernel_rfl) (by kernel_rfl) (by kernel_rfl) ok (by kernel_rfl) h
end F185
/-! ### 186 "(pub-stadtholder/pub/etcdserver/adt.StringComparable).Compare" -/
namespace F186
def an : Ann := { kinds := [(1001, .heavy 0)], taus := [], pairs := [], lab := [] }
noncomputable def body : Code := (Try.f186.body).getD .skip
theorem fn : Try.prog.funcs[186]? = some Try.f186 := by kernel_rfl
theorem ok : codeOk an 14 body = true := by kernel_rfl
def go (s : ByteArray) (c : IV) (H : Heap) (R : EH) : Prop :=
 valD Try.prog (Instr.typeAssert (IV.v c) 107 181 false) H (panK R) fun v H1 =>
 tStr v fun s1 =>
 iteB (ltS s s1) (
 R (.returned (.int .i64 (-1 : Int))) H1) <|
 iteB (!(ltS s s1 || eqS s s1)) (
 R (.returned (.int .i64 (1 : Int))) H1) <|
 R (.returned (.int .i64 (0 : Int))) H1
theorem calls {s : ByteArray} {c : IV} {H : Heap} {R : EH} (h : go s c H R) : CallsH Try.prog 186 ⟨[(.string s), (IV.v c)]⟩ H R :=
 callsH_of_den (an := an) (fuel := 100000) (X := go s c H R) (c := body) mixed fn (by kernel_rfl) (by kernel_rfl) (by kernel_rfl) ok (by kernel_rfl) h
end F186
/-! ### 187 "(pub-stadtholder/pub/etcdserver/adt.BytesAffineComparable).Compare" -/
namespace F187
def an : Ann := { kinds := [(1001, .heavy 0)], taus := [], pairs := [], lab := [] }
noncomputable def body : Code := (Try.f187.body).getD .skip
theorem fn : Try.prog.funcs[187]? = some Try.f187 := by kernel_rfl
theorem ok : codeOk an 20 body = true := by kernel_rfl
def go (b : OA) (bn bc : Nat) (c : IV) (H : Heap) (R : EH) : Prop :=
 valD Try.prog (Instr.typeAssert (IV.v c) 107 182 false) H (panK R) fun v H1 =>
 tSl v fun q qn qc =>
 iteB (((bn : Nat) : Int) == (0 : Int)) (
 iteB (((qn : Nat) : Int) == (0 : Int)) (
 R (.returned (.int .i64 (0 : Int))) H1) <|
 R (.returned (.int .i64 (1 : Int))) H1) <|
 iteB (((qn : Nat) : Int) == (0 : Int)) (
 R (.returned (.int .i64 (-1 : Int))) H1) <|
 callD Try.prog 188 [(.slice b bn bc), (.slice q qn qc)] H1 (panK R) fun v1 H2 =>
 tInt v1 .i64 fun n =>
 R (.returned (.int .i64 n)) H2
theorem calls {b : OA} {bn bc : Nat} {c : IV} {H : Heap} {R : EH} (h : go b bn bc c H R) : CallsH Try.prog 187 ⟨[(.slice b bn bc), (IV.v c)]⟩ H R :=
 callsH_of_den (an := an) (fuel := 100000) (X := go b bn bc c H R) (c := body) mixed fn (by kernel_rfl) (by kernel_rfl) (by kernel_rfl) ok (by kernel_rfl) h
end F187
/-! ### 188 "bytes.Compare" -/
namespace F188
def an : Ann := { kinds := [], taus := [], pairs := [], lab := [] }
noncomputable def body : Code := (Try.f188.body).getD .skip
theorem fn : Try.prog.funcs[188]? = some Try.f188 := by kernel_rfl
theorem ok : codeOk an 8 body = true := by kernel_rfl
def go (a : OA) (an1 ac : Nat) (b : OA) (bn bc : Nat) (H : Heap) (R : EH) : Prop :=
 callX Try.prog 189 [(.slice a an1 ac), (.slice b bn bc)] H (panK R) fun v H1 =>
 tInt v .i64 fun n =>
 R (.returned (.int .i64 n)) H1
theorem calls {a : OA} {an1 ac : Nat} {b : OA} {bn bc : Nat} {H : Heap} {R : EH} (h : go a an1 ac b bn bc H R) : CallsH Try.prog 188 ⟨[(.slice a an1 ac), (.slice b bn bc)]⟩ H R :=
 callsH_of_den (an := an) (fuel := 100000) (X := go a an1 ac b bn bc H R) (c := body) mixed fn (by kernel_rfl) (by kernel_rfl) (by kernel_rfl) ok (by kernel_rfl) h
end F188
/-! ### 190 "(pub-stadtholder/pub/etcdserver/adt.Int64Comparable).Compare" -/
namespace F190
def an : Ann := { kinds := [(1001, .heavy 0)], taus := [], pairs := [], lab := [] }
noncomputable def body : Code := (Try.f190.body).getD .skip
theorem fn : Try.prog.funcs[190]? = some Try.f190 := by kernel_rfl
theorem ok : codeOk an 16 body = true := by kernel_rfl
def go (v : Int) (c : IV) (H : Heap) (R : EH) : Prop :=
 valD Try.prog (Instr.typeAssert (IV.v c) 107 183 false) H (panK R) fun v1 H1 =>
 tInt v1 .i64 fun n =>
 iteB (decide ((IntKind.wrap .i64 (v - n)) < (0 : Int))) (
 R (.returned (.int .i64 (-1 : Int))) H1) <|
 iteB (decide ((IntKind.wrap .i64 (v - n)) > (0 : Int))) (
 R (.returned (.int .i64 (1 : Int))) H1) <|
 R (.returned (.int .i64 (0 : Int))) H1
theorem calls {v : Int} {c : IV} {H : Heap} {R : EH} (h : go v c H R) : CallsH Try.prog 190 ⟨[(.int .i64 v), (IV.v c)]⟩ H R :=
 callsH_of_den (an := an) (fuel := 100000) (X := go v c H R) (c := body) mixed fn (by kernel_rfl) (by kernel_rfl) (by kernel_rfl) ok (by kernel_rfl) h
end F190
end Go.Proofs.Ytobolifgehagfaa
