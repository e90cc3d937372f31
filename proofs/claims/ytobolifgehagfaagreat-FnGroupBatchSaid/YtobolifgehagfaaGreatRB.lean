/- What functions of this seat do, each proved by a walk; no condition. -/
import Derived.Test.YtobolifgehagfaaGreatRA
import Derived.KernelRfl
set_option linter.unusedVariables false
namespace Go.Proofs.YtobolifgehagfaaGreat
open Go Go.Den Go.Proofs
/-! ### 15 "pub-stadtholder/impl.Group" -/
namespace F15
def an : Ann := { kinds := [], taus := [], pairs := [], lab := [(40000005, [0, 3, 4, 5])] }
noncomputable def body : Code := (Tryz.f15.body).getD .skip
theorem fn : Tryz.prog.funcs[15]? = some Tryz.f15 := by kernel_rfl
theorem ok : codeOk an 23 body = true := by kernel_rfl
noncomputable def L0t : List Item := [.code (sub [1, 1, 1, 0, 1, 0, 0] body), .inLoop (sub [1, 1, 1, 0, 1, 0, 0] body), .inBlock 0, .code (sub [1, 1, 1, 1] body)]
def L0 (ops : OA) (opsn opsc : Nat) (z out : OA) (outn outc : Nat) (i : Int) (H : Heap) (R : EH) : Prop :=
 GoL Tryz.prog 15 23 L0t [0, 3, 4, 5] [(.slice ops opsn opsc), (.pointer z), (.slice out outn outc), (.int .i64 i)] H R
def L0n (ops : OA) (opsn opsc : Nat) (z out : OA) (outn outc : Nat) (i : Int) (H : Heap) (R : EH) : Prop :=
 iteB (decide (i < ((opsn : Nat) : Int))) (
 idxD ops opsn i fun a =>
 ldInt H (Addr.add a (Int.toNat i * 10)) .i64 fun n =>
 ldInt H (Addr.add (Addr.add a (Int.toNat i * 10)) 1) .i64 fun n1 =>
 ldStr H (Addr.add (Addr.add a (Int.toNat i * 10)) 2) fun s =>
 ldStr H (Addr.add (Addr.add a (Int.toNat i * 10)) 3) fun s1 =>
 ldBool H (Addr.add (Addr.add a (Int.toNat i * 10)) 4) fun b =>
 ldInt H (Addr.add (Addr.add a (Int.toNat i * 10)) 5) .i64 fun n2 =>
 ldStr H (Addr.add (Addr.add a (Int.toNat i * 10)) 6) fun s2 =>
 ldInt H (Addr.add (Addr.add a (Int.toNat i * 10)) 7) .i64 fun n3 =>
 ldInt H (Addr.add (Addr.add a (Int.toNat i * 10)) 8) .i64 fun n4 =>
 ldSl H (Addr.add (Addr.add a (Int.toNat i * 10)) 9) fun q qn qc =>
 callD Tryz.prog 24 [(.pointer z), (.agg ⟨[(.int .i64 n), (.int .i64 n1), (.string s), (.string s1), (.bool b), (.int .i64 n2), (.string s2), (.int .i64 n3), (.int .i64 n4), (.slice q qn qc)]⟩)] H (panK R) fun v H1 =>
 tAgg v fun l =>
 tCons l fun c l1 =>
 tBool c fun b1 =>
 tCons l1 fun c1 l2 =>
 tInt c1 .i64 fun n5 =>
 tCons l2 fun c2 l3 =>
 tSl c2 fun q1 q1n q1c =>
 tCons l3 fun c3 l4 =>
 tSl c3 fun q2 q2n q2c =>
 tNil l4 <|
 newD H1 (.cells ⟨[(.bool b1), (.int .i64 n5), (.slice q1 q1n q1c), (.slice q2 q2n q2c)]⟩ 55) fun r H2 =>
 apD H2 4 64 [(.bool false), (.int .i64 (0 : Int)), (.slice none 0 0), (.slice none 0 0)] 55 out outn outc (some ⟨r, 0, none⟩) 1 fun q3 q3n q3c H3 =>
 L0 ops opsn opsc z q3 q3n q3c (IntKind.wrap .i64 (i + (1 : Int))) H3 R) <|
 R (.returned (.slice out outn outc)) H
theorem L0_step {ops : OA} {opsn opsc : Nat} {z out : OA} {outn outc : Nat} {i : Int} {H : Heap} {R : EH} (h : L0n ops opsn opsc z out outn outc i H R) : L0 ops opsn opsc z out outn outc i H R :=
 goL_of_den (an := an) (fuel := 100000) (X := L0n ops opsn opsc z out outn outc i H R) mixed fn (by kernel_rfl) (fun ρ0 => by kernel_rfl) h
def go (ops : OA) (opsn opsc : Nat) (H : Heap) (R : EH) : Prop :=
 callD Tryz.prog 23 [] H (panK R) fun v H1 =>
 tPtr v fun p =>
 L0 ops opsn opsc p none 0 0 (0 : Int) H1 R
theorem calls {ops : OA} {opsn opsc : Nat} {H : Heap} {R : EH} (h : go ops opsn opsc H R) : CallsH Tryz.prog 15 ⟨[(.slice ops opsn opsc)]⟩ H R :=
 callsH_of_den (an := an) (fuel := 100000) (X := go ops opsn opsc H R) (c := body) mixed fn (by kernel_rfl) (by kernel_rfl) (by kernel_rfl) ok (by kernel_rfl) h
end F15
/-! ### 23 "pub-stadtholder/pub/etcdserver/storage/mvcc.ZzNewGroup" -/
namespace F23
def an : Ann := { kinds := [], taus := [], pairs := [], lab := [] }
noncomputable def body : Code := (Tryz.f23.body).getD .skip
theorem fn : Tryz.prog.funcs[23]? = some Tryz.f23 := by kernel_rfl
theorem ok : codeOk an 5 body = true := by kernel_rfl
def go  (H : Heap) (R : EH) : Prop :=
 callD Tryz.prog 35 [] H (panK R) fun v H1 =>
 tAgg v fun l =>
 tCons l fun c l1 =>
 tMap c fun m =>
 tCons l1 fun c1 l2 =>
 tIf c1 fun i =>
 tCons l2 fun c2 l3 =>
 tMap c2 fun m1 =>
 tNil l3 <|
 newD H1 (.map #[] 0) fun r H2 =>
 newD H2 (.cells ⟨[(.map m), (IV.v i), (.map m1), (.map (some r))]⟩ 100) fun r1 H3 =>
 R (.returned (.pointer (some ⟨r1, 0, none⟩))) H3
theorem calls  {H : Heap} {R : EH} (h : go  H R) : CallsH Tryz.prog 23 ⟨[]⟩ H R :=
 callsH_of_den (an := an) (fuel := 100000) (X := go  H R) (c := body) mixed fn (by kernel_rfl) (by kernel_rfl) (by kernel_rfl) ok (by kernel_rfl) h
end F23
/-! ### 24 "pub-stadtholder/impl.grouped" -/
namespace F24
def an : Ann := { kinds := [(5007, .grow), (5014, .grow), (26006, .grow), (26007, .grow)], taus := [(5, [[0, 1, 2, 4, 5, 8, 9, 11, 12, 15, 16, 3, 6, 10, 13, 17, 7, 14, 18], [0, 1, 2, 4, 5, 8, 9, 11, 12, 15, 16, 3, 6, 10, 13, 17, 14, 7, 18]]), (26, [[0, 2, 3, 4, 1, 5, 6, 7, 8, 9, 10]])], pairs := [(5, [(7, 14)])], lab := [(60000025, [4, 5, 6, 7]), (30000006, [0, 3, 4, 5])] }
noncomputable def body : Code := (Tryz.f24.body).getD .skip
theorem fn : Tryz.prog.funcs[24]? = some Tryz.f24 := by kernel_rfl
theorem ok : codeOk an 154 body = true := by kernel_rfl
noncomputable def L0t : List Item := [.code (sub [1, 1, 0, 1, 0, 1, 1, 1, 1, 1, 1, 1, 1, 1, 1, 1, 1, 1, 0, 1, 0, 1, 0, 0] body), .inLoop (sub [1, 1, 0, 1, 0, 1, 1, 1, 1, 1, 1, 1, 1, 1, 1, 1, 1, 1, 0, 1, 0, 1, 0, 0] body), .inBlock 1, .code (sub [1, 1, 0, 1, 0, 1, 1, 1, 1, 1, 1, 1, 1, 1, 1, 1, 1, 1, 0, 1, 1] body), .inBlock 0, .code (sub [1, 1, 1] body)]
def L0 (s4 s5 : Nat) (s6 : OA) (s6n s6c : Nat) (s7 : Int) (H : Heap) (R : EH) : Prop :=
 GoL Tryz.prog 24 154 L0t [4, 5, 6, 7] [(.pointer (some ⟨s4, 0, none⟩)), (.pointer (some ⟨s5, 0, none⟩)), (.slice s6 s6n s6c), (.int .i64 s7)] H R
noncomputable def L1t : List Item := [.code (sub [1, 1, 0, 1, 0, 1, 0, 1] body), .inBlock 0, .code (sub [1, 1, 1] body)]
def L1 (s0 : OA) (s3 s4 s5 : Nat) (H : Heap) (R : EH) : Prop :=
 GoL Tryz.prog 24 154 L1t [0, 3, 4, 5] [(.pointer s0), (.pointer (some ⟨s3, 0, none⟩)), (.pointer (some ⟨s4, 0, none⟩)), (.pointer (some ⟨s5, 0, none⟩))] H R
def L0n (s4 s5 : Nat) (s6 : OA) (s6n s6c : Nat) (s7 : Int) (H : Heap) (R : EH) : Prop :=
 iteB (decide (s7 < ((s6n : Nat) : Int))) (
 idxD s6 s6n s7 fun a =>
 ldSl H ⟨s5, 3, none⟩ fun q qn qc =>
 ldInt H (Addr.add a (Int.toNat s7 * 4)) .i64 fun n =>
 ldSl H (Addr.add (Addr.add a (Int.toNat s7 * 4)) 1) fun q1 q1n q1c =>
 ldInt H (Addr.add (Addr.add a (Int.toNat s7 * 4)) 2) .i64 fun n1 =>
 ldInt H (Addr.add (Addr.add a (Int.toNat s7 * 4)) 3) .i64 fun n2 =>
 callD Tryz.prog 18 [(.agg ⟨[(.int .i64 n), (.slice q1 q1n q1c), (.int .i64 n1), (.int .i64 n2)]⟩)] H nope fun v H1 =>
 tAgg v fun l =>
 tCons l fun c l1 =>
 tInt c .i64 fun n3 =>
 tCons l1 fun c1 l2 =>
 tSl c1 fun q2 q2n q2c =>
 tCons l2 fun c2 l3 =>
 tInt c2 .i64 fun n4 =>
 tCons l3 fun c3 l4 =>
 tInt c3 .i64 fun n5 =>
 tNil l4 <|
 andD (ExtH H H1) <|
 newD H1 (.cells ⟨[(.int .i64 n3), (.slice q2 q2n q2c), (.int .i64 n4), (.int .i64 n5)]⟩ 39) fun r H2 =>
 apD H2 4 48 [(.int .i64 (0 : Int)), (.slice none 0 0), (.int .i64 (0 : Int)), (.int .i64 (0 : Int))] 39 q qn qc (some ⟨r, 0, none⟩) 1 fun q3 q3n q3c H3 =>
 st1 H3 ⟨s5, 3, none⟩ (.slice q3 q3n q3c) fun H4 =>
 L0 s4 s5 s6 s6n s6c (IntKind.wrap .i64 (s7 + (1 : Int))) H4 R) <|
 ldSl H ⟨s5, 3, none⟩ fun q4 q4n q4c =>
 callD Tryz.prog 47 [(.slice q4 q4n q4c), (.func (.func 48) ⟨[]⟩ ⟨[]⟩)] H (panK R) fun v1 H5 =>
 tTup v1 fun l5 =>
 tNil l5 <|
 ldBool H5 ⟨s5, 0, none⟩ fun b =>
 ldInt H5 ⟨s5, 1, none⟩ .i64 fun n6 =>
 ldSl H5 ⟨s5, 2, none⟩ fun q5 q5n q5c =>
 ldSl H5 ⟨s5, 3, none⟩ fun q6 q6n q6c =>
 st1 H5 ⟨s4, 0, none⟩ (.bool b) fun H6 =>
 st1 H6 ⟨s4, 1, none⟩ (.int .i64 n6) fun H7 =>
 st1 H7 ⟨s4, 2, none⟩ (.slice q5 q5n q5c) fun H8 =>
 st1 H8 ⟨s4, 3, none⟩ (.slice q6 q6n q6c) fun H9 =>
 ldBool H9 ⟨s4, 0, none⟩ fun b1 =>
 ldInt H9 ⟨s4, 1, none⟩ .i64 fun n7 =>
 ldSl H9 ⟨s4, 2, none⟩ fun q7 q7n q7c =>
 ldSl H9 ⟨s4, 3, none⟩ fun q8 q8n q8c =>
 R (.returned (.agg ⟨[(.bool b1), (.int .i64 n7), (.slice q7 q7n q7c), (.slice q8 q8n q8c)]⟩)) H9
theorem L0_step {s4 s5 : Nat} {s6 : OA} {s6n s6c : Nat} {s7 : Int} {H : Heap} {R : EH} (h : L0n s4 s5 s6 s6n s6c s7 H R) : L0 s4 s5 s6 s6n s6c s7 H R :=
 goL_of_den (an := an) (fuel := 100000) (X := L0n s4 s5 s6 s6n s6c s7 H R) mixed fn (by kernel_rfl) (fun ρ0 => by kernel_rfl) h
def L1n (s0 : OA) (s3 s4 s5 : Nat) (H : Heap) (R : EH) : Prop :=
 (
 ldInt H ⟨s3, 1, none⟩ .i64 fun n =>
 ldStr H ⟨s3, 2, none⟩ fun s =>
 ldStr H ⟨s3, 3, none⟩ fun s1 =>
 ldBool H ⟨s3, 4, none⟩ fun b =>
 ldInt H ⟨s3, 5, none⟩ .i64 fun n1 =>
 sbD H 5 s fun r c H1 =>
 callD Tryz.prog 39 [(.string s1), (.bool b)] H1 nope fun v H2 =>
 tSl v fun q qn qc =>
 andD (ExtH H1 H2) <|
 callD Tryz.prog 38 [(.pointer s0), (.int .i64 n), (.slice (some ⟨r, 0, none⟩) (ByteArray.size s) c), (.slice q qn qc), (.int .i64 n1)] H2 (panK R) fun v1 H3 =>
 tTup v1 fun l =>
 tNil l <|
 st1 H3 ⟨s5, 0, none⟩ (.bool true) fun H4 =>
 ldBool H4 ⟨s5, 0, none⟩ fun b1 =>
 ldInt H4 ⟨s5, 1, none⟩ .i64 fun n2 =>
 ldSl H4 ⟨s5, 2, none⟩ fun q1 q1n q1c =>
 ldSl H4 ⟨s5, 3, none⟩ fun q2 q2n q2c =>
 st1 H4 ⟨s4, 0, none⟩ (.bool b1) fun H5 =>
 st1 H5 ⟨s4, 1, none⟩ (.int .i64 n2) fun H6 =>
 st1 H6 ⟨s4, 2, none⟩ (.slice q1 q1n q1c) fun H7 =>
 st1 H7 ⟨s4, 3, none⟩ (.slice q2 q2n q2c) fun H8 =>
 ldBool H8 ⟨s4, 0, none⟩ fun b2 =>
 ldInt H8 ⟨s4, 1, none⟩ .i64 fun n3 =>
 ldSl H8 ⟨s4, 2, none⟩ fun q3 q3n q3c =>
 ldSl H8 ⟨s4, 3, none⟩ fun q4 q4n q4c =>
 R (.returned (.agg ⟨[(.bool b2), (.int .i64 n3), (.slice q3 q3n q3c), (.slice q4 q4n q4c)]⟩)) H8) ∧
 (
 ldInt H ⟨s3, 1, none⟩ .i64 fun n4 =>
 ldStr H ⟨s3, 2, none⟩ fun s2 =>
 ldStr H ⟨s3, 3, none⟩ fun s6 =>
 ldBool H ⟨s3, 4, none⟩ fun b3 =>
 ldInt H ⟨s3, 5, none⟩ .i64 fun n5 =>
 callD Tryz.prog 39 [(.string s6), (.bool b3)] H nope fun v2 H9 =>
 tSl v2 fun q5 q5n q5c =>
 andD (ExtH H H9) <|
 sbD H9 5 s2 fun r1 c1 H10 =>
 callD Tryz.prog 38 [(.pointer s0), (.int .i64 n4), (.slice (some ⟨r1, 0, none⟩) (ByteArray.size s2) c1), (.slice q5 q5n q5c), (.int .i64 n5)] H10 (panK R) fun v3 H11 =>
 tTup v3 fun l1 =>
 tNil l1 <|
 st1 H11 ⟨s5, 0, none⟩ (.bool true) fun H12 =>
 ldBool H12 ⟨s5, 0, none⟩ fun b4 =>
 ldInt H12 ⟨s5, 1, none⟩ .i64 fun n6 =>
 ldSl H12 ⟨s5, 2, none⟩ fun q6 q6n q6c =>
 ldSl H12 ⟨s5, 3, none⟩ fun q7 q7n q7c =>
 st1 H12 ⟨s4, 0, none⟩ (.bool b4) fun H13 =>
 st1 H13 ⟨s4, 1, none⟩ (.int .i64 n6) fun H14 =>
 st1 H14 ⟨s4, 2, none⟩ (.slice q6 q6n q6c) fun H15 =>
 st1 H15 ⟨s4, 3, none⟩ (.slice q7 q7n q7c) fun H16 =>
 ldBool H16 ⟨s4, 0, none⟩ fun b5 =>
 ldInt H16 ⟨s4, 1, none⟩ .i64 fun n7 =>
 ldSl H16 ⟨s4, 2, none⟩ fun q8 q8n q8c =>
 ldSl H16 ⟨s4, 3, none⟩ fun q9 q9n q9c =>
 R (.returned (.agg ⟨[(.bool b5), (.int .i64 n7), (.slice q8 q8n q8c), (.slice q9 q9n q9c)]⟩)) H16)
theorem L1_step {s0 : OA} {s3 s4 s5 : Nat} {H : Heap} {R : EH} (h : L1n s0 s3 s4 s5 H R) : L1 s0 s3 s4 s5 H R :=
 goL_of_den (an := an) (fuel := 100000) (X := L1n s0 s3 s4 s5 H R) mixed fn (by kernel_rfl) (fun ρ0 => by kernel_rfl) h
def go (s0 : OA) (s1_0 s1_1 : Int) (s1_2 s1_3 : ByteArray) (s1_4 : Bool) (s1_5 : Int) (s1_6 : ByteArray) (s1_7 s1_8 : Int) (s1_9 : OA) (s1_9n s1_9c : Nat) (H : Heap) (R : EH) : Prop :=
 newD H (.cells ⟨[(.int .i64 s1_0), (.int .i64 s1_1), (.string s1_2), (.string s1_3), (.bool s1_4), (.int .i64 s1_5), (.string s1_6), (.int .i64 s1_7), (.int .i64 s1_8), (.slice s1_9 s1_9n s1_9c)]⟩ 30) fun r H1 =>
 newD H1 (.cells ⟨[(.bool false), (.int .i64 (0 : Int)), (.slice none 0 0), (.slice none 0 0)]⟩ 55) fun r1 H2 =>
 newD H2 (.cells ⟨[(.bool false), (.int .i64 (0 : Int)), (.slice none 0 0), (.slice none 0 0)]⟩ 55) fun r2 H3 =>
 st1 H3 ⟨r2, 0, none⟩ (.bool false) fun H4 =>
 st1 H4 ⟨r2, 1, none⟩ (.int .i64 (0 : Int)) fun H5 =>
 st1 H5 ⟨r2, 2, none⟩ (.slice none 0 0) fun H6 =>
 st1 H6 ⟨r2, 3, none⟩ (.slice none 0 0) fun H7 =>
 ldInt H7 ⟨r, 0, none⟩ .i64 fun n =>
 iteB (n == (1 : Int)) (
 ldInt H7 ⟨r, 1, none⟩ .i64 fun n1 =>
 callD Tryz.prog 36 [(.pointer s0), (.int .i64 n1)] H7 (panK R) fun v H8 =>
 tBool v fun b =>
 iteB b (
 ldBool H8 ⟨r2, 0, none⟩ fun b1 =>
 ldInt H8 ⟨r2, 1, none⟩ .i64 fun n2 =>
 ldSl H8 ⟨r2, 2, none⟩ fun q qn qc =>
 ldSl H8 ⟨r2, 3, none⟩ fun q1 q1n q1c =>
 st1 H8 ⟨r1, 0, none⟩ (.bool b1) fun H9 =>
 st1 H9 ⟨r1, 1, none⟩ (.int .i64 n2) fun H10 =>
 st1 H10 ⟨r1, 2, none⟩ (.slice q qn qc) fun H11 =>
 st1 H11 ⟨r1, 3, none⟩ (.slice q1 q1n q1c) fun H12 =>
 ldBool H12 ⟨r1, 0, none⟩ fun b2 =>
 ldInt H12 ⟨r1, 1, none⟩ .i64 fun n3 =>
 ldSl H12 ⟨r1, 2, none⟩ fun q2 q2n q2c =>
 ldSl H12 ⟨r1, 3, none⟩ fun q3 q3n q3c =>
 R (.returned (.agg ⟨[(.bool b2), (.int .i64 n3), (.slice q2 q2n q2c), (.slice q3 q3n q3c)]⟩)) H12) <|
 callD Tryz.prog 37 [(.pointer s0)] H8 (panK R) fun v1 H13 =>
 tInt v1 .i64 fun n4 =>
 iteB (decide (n4 ≥ (500 : Int))) (
 ldBool H13 ⟨r2, 0, none⟩ fun b3 =>
 ldInt H13 ⟨r2, 1, none⟩ .i64 fun n5 =>
 ldSl H13 ⟨r2, 2, none⟩ fun q4 q4n q4c =>
 ldSl H13 ⟨r2, 3, none⟩ fun q5 q5n q5c =>
 st1 H13 ⟨r1, 0, none⟩ (.bool b3) fun H14 =>
 st1 H14 ⟨r1, 1, none⟩ (.int .i64 n5) fun H15 =>
 st1 H15 ⟨r1, 2, none⟩ (.slice q4 q4n q4c) fun H16 =>
 st1 H16 ⟨r1, 3, none⟩ (.slice q5 q5n q5c) fun H17 =>
 ldBool H17 ⟨r1, 0, none⟩ fun b4 =>
 ldInt H17 ⟨r1, 1, none⟩ .i64 fun n6 =>
 ldSl H17 ⟨r1, 2, none⟩ fun q6 q6n q6c =>
 ldSl H17 ⟨r1, 3, none⟩ fun q7 q7n q7c =>
 R (.returned (.agg ⟨[(.bool b4), (.int .i64 n6), (.slice q6 q6n q6c), (.slice q7 q7n q7c)]⟩)) H17) <|
 ldBool H13 ⟨r, 4, none⟩ fun b5 =>
 iteB b5 (
 ldStr H13 ⟨r, 2, none⟩ fun s =>
 iteB (eqS s (ByteArray.mk #[])) (
 ldBool H13 ⟨r2, 0, none⟩ fun b6 =>
 ldInt H13 ⟨r2, 1, none⟩ .i64 fun n7 =>
 ldSl H13 ⟨r2, 2, none⟩ fun q8 q8n q8c =>
 ldSl H13 ⟨r2, 3, none⟩ fun q9 q9n q9c =>
 st1 H13 ⟨r1, 0, none⟩ (.bool b6) fun H18 =>
 st1 H18 ⟨r1, 1, none⟩ (.int .i64 n7) fun H19 =>
 st1 H19 ⟨r1, 2, none⟩ (.slice q8 q8n q8c) fun H20 =>
 st1 H20 ⟨r1, 3, none⟩ (.slice q9 q9n q9c) fun H21 =>
 ldBool H21 ⟨r1, 0, none⟩ fun b7 =>
 ldInt H21 ⟨r1, 1, none⟩ .i64 fun n8 =>
 ldSl H21 ⟨r1, 2, none⟩ fun q10 q10n q10c =>
 ldSl H21 ⟨r1, 3, none⟩ fun q11 q11n q11c =>
 R (.returned (.agg ⟨[(.bool b7), (.int .i64 n8), (.slice q10 q10n q10c), (.slice q11 q11n q11c)]⟩)) H21) <|
 ldStr H13 ⟨r, 3, none⟩ fun s1 =>
 iteB (!eqS s1 (ByteArray.mk #[])) (
 ldStr H13 ⟨r, 3, none⟩ fun s2 =>
 ldStr H13 ⟨r, 2, none⟩ fun s3 =>
 iteB (ltS s2 s3 || eqS s2 s3) (
 ldBool H13 ⟨r2, 0, none⟩ fun b8 =>
 ldInt H13 ⟨r2, 1, none⟩ .i64 fun n9 =>
 ldSl H13 ⟨r2, 2, none⟩ fun q12 q12n q12c =>
 ldSl H13 ⟨r2, 3, none⟩ fun q13 q13n q13c =>
 st1 H13 ⟨r1, 0, none⟩ (.bool b8) fun H22 =>
 st1 H22 ⟨r1, 1, none⟩ (.int .i64 n9) fun H23 =>
 st1 H23 ⟨r1, 2, none⟩ (.slice q12 q12n q12c) fun H24 =>
 st1 H24 ⟨r1, 3, none⟩ (.slice q13 q13n q13c) fun H25 =>
 ldBool H25 ⟨r1, 0, none⟩ fun b9 =>
 ldInt H25 ⟨r1, 1, none⟩ .i64 fun n10 =>
 ldSl H25 ⟨r1, 2, none⟩ fun q14 q14n q14c =>
 ldSl H25 ⟨r1, 3, none⟩ fun q15 q15n q15c =>
 R (.returned (.agg ⟨[(.bool b9), (.int .i64 n10), (.slice q14 q14n q14c), (.slice q15 q15n q15c)]⟩)) H25) <|
 L1 s0 r r1 r2 H13 R) <|
 L1 s0 r r1 r2 H13 R) <|
 L1 s0 r r1 r2 H13 R) <|
 iteB (n == (2 : Int)) (
 ldInt H7 ⟨r, 1, none⟩ .i64 fun n11 =>
 callD Tryz.prog 36 [(.pointer s0), (.int .i64 n11)] H7 (panK R) fun v2 H26 =>
 tBool v2 fun b10 =>
 iteB b10 (
 ldInt H26 ⟨r, 1, none⟩ .i64 fun n12 =>
 callD Tryz.prog 40 [(.pointer s0), (.int .i64 n12)] H26 (panK R) fun v3 H27 =>
 tBool v3 fun b11 =>
 st1 H27 ⟨r2, 0, none⟩ (.bool b11) fun H28 =>
 ldBool H28 ⟨r2, 0, none⟩ fun b12 =>
 ldInt H28 ⟨r2, 1, none⟩ .i64 fun n13 =>
 ldSl H28 ⟨r2, 2, none⟩ fun q16 q16n q16c =>
 ldSl H28 ⟨r2, 3, none⟩ fun q17 q17n q17c =>
 st1 H28 ⟨r1, 0, none⟩ (.bool b12) fun H29 =>
 st1 H29 ⟨r1, 1, none⟩ (.int .i64 n13) fun H30 =>
 st1 H30 ⟨r1, 2, none⟩ (.slice q16 q16n q16c) fun H31 =>
 st1 H31 ⟨r1, 3, none⟩ (.slice q17 q17n q17c) fun H32 =>
 ldBool H32 ⟨r1, 0, none⟩ fun b13 =>
 ldInt H32 ⟨r1, 1, none⟩ .i64 fun n14 =>
 ldSl H32 ⟨r1, 2, none⟩ fun q18 q18n q18c =>
 ldSl H32 ⟨r1, 3, none⟩ fun q19 q19n q19c =>
 R (.returned (.agg ⟨[(.bool b13), (.int .i64 n14), (.slice q18 q18n q18c), (.slice q19 q19n q19c)]⟩)) H32) <|
 st1 H26 ⟨r2, 0, none⟩ (.bool false) fun H33 =>
 ldBool H33 ⟨r2, 0, none⟩ fun b14 =>
 ldInt H33 ⟨r2, 1, none⟩ .i64 fun n15 =>
 ldSl H33 ⟨r2, 2, none⟩ fun q20 q20n q20c =>
 ldSl H33 ⟨r2, 3, none⟩ fun q21 q21n q21c =>
 st1 H33 ⟨r1, 0, none⟩ (.bool b14) fun H34 =>
 st1 H34 ⟨r1, 1, none⟩ (.int .i64 n15) fun H35 =>
 st1 H35 ⟨r1, 2, none⟩ (.slice q20 q20n q20c) fun H36 =>
 st1 H36 ⟨r1, 3, none⟩ (.slice q21 q21n q21c) fun H37 =>
 ldBool H37 ⟨r1, 0, none⟩ fun b15 =>
 ldInt H37 ⟨r1, 1, none⟩ .i64 fun n16 =>
 ldSl H37 ⟨r1, 2, none⟩ fun q22 q22n q22c =>
 ldSl H37 ⟨r1, 3, none⟩ fun q23 q23n q23c =>
 R (.returned (.agg ⟨[(.bool b15), (.int .i64 n16), (.slice q22 q22n q22c), (.slice q23 q23n q23c)]⟩)) H37) <|
 iteB (n == (3 : Int)) (
 ldStr H7 ⟨r, 6, none⟩ fun s4 =>
 callD Tryz.prog 41 [(.pointer s0), (.string s4)] H7 (panK R) fun v4 H38 =>
 tBool v4 fun b16 =>
 st1 H38 ⟨r2, 0, none⟩ (.bool b16) fun H39 =>
 ldBool H39 ⟨r2, 0, none⟩ fun b17 =>
 ldInt H39 ⟨r2, 1, none⟩ .i64 fun n17 =>
 ldSl H39 ⟨r2, 2, none⟩ fun q24 q24n q24c =>
 ldSl H39 ⟨r2, 3, none⟩ fun q25 q25n q25c =>
 st1 H39 ⟨r1, 0, none⟩ (.bool b17) fun H40 =>
 st1 H40 ⟨r1, 1, none⟩ (.int .i64 n17) fun H41 =>
 st1 H41 ⟨r1, 2, none⟩ (.slice q24 q24n q24c) fun H42 =>
 st1 H42 ⟨r1, 3, none⟩ (.slice q25 q25n q25c) fun H43 =>
 ldBool H43 ⟨r1, 0, none⟩ fun b18 =>
 ldInt H43 ⟨r1, 1, none⟩ .i64 fun n18 =>
 ldSl H43 ⟨r1, 2, none⟩ fun q26 q26n q26c =>
 ldSl H43 ⟨r1, 3, none⟩ fun q27 q27n q27c =>
 R (.returned (.agg ⟨[(.bool b18), (.int .i64 n18), (.slice q26 q26n q26c), (.slice q27 q27n q27c)]⟩)) H43) <|
 iteB (n == (4 : Int)) (
 ldStr H7 ⟨r, 6, none⟩ fun s5 =>
 callD Tryz.prog 42 [(.pointer s0), (.string s5)] H7 (panK R) fun v5 H44 =>
 tSl v5 fun q28 q28n q28c =>
 st1 H44 ⟨r2, 2, none⟩ (.slice q28 q28n q28c) fun H45 =>
 ldSl H45 ⟨r2, 2, none⟩ fun q29 q29n q29c =>
 callD Tryz.prog 43 [(.slice q29 q29n q29c)] H45 (panK R) fun v6 H46 =>
 tTup v6 fun l =>
 tNil l <|
 ldBool H46 ⟨r2, 0, none⟩ fun b19 =>
 ldInt H46 ⟨r2, 1, none⟩ .i64 fun n19 =>
 ldSl H46 ⟨r2, 2, none⟩ fun q30 q30n q30c =>
 ldSl H46 ⟨r2, 3, none⟩ fun q31 q31n q31c =>
 st1 H46 ⟨r1, 0, none⟩ (.bool b19) fun H47 =>
 st1 H47 ⟨r1, 1, none⟩ (.int .i64 n19) fun H48 =>
 st1 H48 ⟨r1, 2, none⟩ (.slice q30 q30n q30c) fun H49 =>
 st1 H49 ⟨r1, 3, none⟩ (.slice q31 q31n q31c) fun H50 =>
 ldBool H50 ⟨r1, 0, none⟩ fun b20 =>
 ldInt H50 ⟨r1, 1, none⟩ .i64 fun n20 =>
 ldSl H50 ⟨r1, 2, none⟩ fun q32 q32n q32c =>
 ldSl H50 ⟨r1, 3, none⟩ fun q33 q33n q33c =>
 R (.returned (.agg ⟨[(.bool b20), (.int .i64 n20), (.slice q32 q32n q32c), (.slice q33 q33n q33c)]⟩)) H50) <|
 iteB (n == (5 : Int)) (
 callD Tryz.prog 37 [(.pointer s0)] H7 (panK R) fun v7 H51 =>
 tInt v7 .i64 fun n21 =>
 st1 H51 ⟨r2, 1, none⟩ (.int .i64 n21) fun H52 =>
 ldBool H52 ⟨r2, 0, none⟩ fun b21 =>
 ldInt H52 ⟨r2, 1, none⟩ .i64 fun n22 =>
 ldSl H52 ⟨r2, 2, none⟩ fun q34 q34n q34c =>
 ldSl H52 ⟨r2, 3, none⟩ fun q35 q35n q35c =>
 st1 H52 ⟨r1, 0, none⟩ (.bool b21) fun H53 =>
 st1 H53 ⟨r1, 1, none⟩ (.int .i64 n22) fun H54 =>
 st1 H54 ⟨r1, 2, none⟩ (.slice q34 q34n q34c) fun H55 =>
 st1 H55 ⟨r1, 3, none⟩ (.slice q35 q35n q35c) fun H56 =>
 ldBool H56 ⟨r1, 0, none⟩ fun b22 =>
 ldInt H56 ⟨r1, 1, none⟩ .i64 fun n23 =>
 ldSl H56 ⟨r1, 2, none⟩ fun q36 q36n q36c =>
 ldSl H56 ⟨r1, 3, none⟩ fun q37 q37n q37c =>
 R (.returned (.agg ⟨[(.bool b22), (.int .i64 n23), (.slice q36 q36n q36c), (.slice q37 q37n q37c)]⟩)) H56) <|
 iteB (n == (6 : Int)) (
 ldInt H7 ⟨r, 7, none⟩ .i64 fun n24 =>
 callD Tryz.prog 44 [(.pointer s0), (.int .i64 n24)] H7 (panK R) fun v8 H57 =>
 tBool v8 fun b23 =>
 iteB b23 (
 ldBool H57 ⟨r2, 0, none⟩ fun b24 =>
 ldInt H57 ⟨r2, 1, none⟩ .i64 fun n25 =>
 ldSl H57 ⟨r2, 2, none⟩ fun q38 q38n q38c =>
 ldSl H57 ⟨r2, 3, none⟩ fun q39 q39n q39c =>
 st1 H57 ⟨r1, 0, none⟩ (.bool b24) fun H58 =>
 st1 H58 ⟨r1, 1, none⟩ (.int .i64 n25) fun H59 =>
 st1 H59 ⟨r1, 2, none⟩ (.slice q38 q38n q38c) fun H60 =>
 st1 H60 ⟨r1, 3, none⟩ (.slice q39 q39n q39c) fun H61 =>
 ldBool H61 ⟨r1, 0, none⟩ fun b25 =>
 ldInt H61 ⟨r1, 1, none⟩ .i64 fun n26 =>
 ldSl H61 ⟨r1, 2, none⟩ fun q40 q40n q40c =>
 ldSl H61 ⟨r1, 3, none⟩ fun q41 q41n q41c =>
 R (.returned (.agg ⟨[(.bool b25), (.int .i64 n26), (.slice q40 q40n q40c), (.slice q41 q41n q41c)]⟩)) H61) <|
 st1 H57 ⟨r2, 0, none⟩ (.bool true) fun H62 =>
 ldInt H62 ⟨r, 7, none⟩ .i64 fun n27 =>
 ldInt H62 ⟨r, 8, none⟩ .i64 fun n28 =>
 callD Tryz.prog 45 [(.pointer s0), (.int .i64 n27), (.int .i64 n28)] H62 (panK R) fun v9 H63 =>
 tTup v9 fun l1 =>
 tCons l1 fun c l2 =>
 tInt c .i64 fun n29 =>
 tCons l2 fun c1 l3 =>
 tSl c1 fun q42 q42n q42c =>
 tNil l3 <|
 st1 H63 ⟨r2, 1, none⟩ (.int .i64 n29) fun H64 =>
 st1 H64 ⟨r2, 2, none⟩ (.slice q42 q42n q42c) fun H65 =>
 ldSl H65 ⟨r2, 2, none⟩ fun q43 q43n q43c =>
 callD Tryz.prog 43 [(.slice q43 q43n q43c)] H65 (panK R) fun v10 H66 =>
 tTup v10 fun l4 =>
 tNil l4 <|
 ldBool H66 ⟨r2, 0, none⟩ fun b26 =>
 ldInt H66 ⟨r2, 1, none⟩ .i64 fun n30 =>
 ldSl H66 ⟨r2, 2, none⟩ fun q44 q44n q44c =>
 ldSl H66 ⟨r2, 3, none⟩ fun q45 q45n q45c =>
 st1 H66 ⟨r1, 0, none⟩ (.bool b26) fun H67 =>
 st1 H67 ⟨r1, 1, none⟩ (.int .i64 n30) fun H68 =>
 st1 H68 ⟨r1, 2, none⟩ (.slice q44 q44n q44c) fun H69 =>
 st1 H69 ⟨r1, 3, none⟩ (.slice q45 q45n q45c) fun H70 =>
 ldBool H70 ⟨r1, 0, none⟩ fun b27 =>
 ldInt H70 ⟨r1, 1, none⟩ .i64 fun n31 =>
 ldSl H70 ⟨r1, 2, none⟩ fun q46 q46n q46c =>
 ldSl H70 ⟨r1, 3, none⟩ fun q47 q47n q47c =>
 R (.returned (.agg ⟨[(.bool b27), (.int .i64 n31), (.slice q46 q46n q46c), (.slice q47 q47n q47c)]⟩)) H70) <|
 iteB (n == (7 : Int)) (
 ldSl H7 ⟨r, 9, none⟩ fun q48 q48n q48c =>
 callD Tryz.prog 20 [(.slice q48 q48n q48c)] H7 (panK R) fun v11 H71 =>
 tSl v11 fun q49 q49n q49c =>
 callD Tryz.prog 46 [(.pointer s0), (.slice q49 q49n q49c)] H71 (panK R) fun v12 H72 =>
 tSl v12 fun q50 q50n q50c =>
 L0 r1 r2 q50 q50n q50c (0 : Int) H72 R) <|
 ldBool H7 ⟨r2, 0, none⟩ fun b28 =>
 ldInt H7 ⟨r2, 1, none⟩ .i64 fun n32 =>
 ldSl H7 ⟨r2, 2, none⟩ fun q51 q51n q51c =>
 ldSl H7 ⟨r2, 3, none⟩ fun q52 q52n q52c =>
 st1 H7 ⟨r1, 0, none⟩ (.bool b28) fun H73 =>
 st1 H73 ⟨r1, 1, none⟩ (.int .i64 n32) fun H74 =>
 st1 H74 ⟨r1, 2, none⟩ (.slice q51 q51n q51c) fun H75 =>
 st1 H75 ⟨r1, 3, none⟩ (.slice q52 q52n q52c) fun H76 =>
 ldBool H76 ⟨r1, 0, none⟩ fun b29 =>
 ldInt H76 ⟨r1, 1, none⟩ .i64 fun n33 =>
 ldSl H76 ⟨r1, 2, none⟩ fun q53 q53n q53c =>
 ldSl H76 ⟨r1, 3, none⟩ fun q54 q54n q54c =>
 R (.returned (.agg ⟨[(.bool b29), (.int .i64 n33), (.slice q53 q53n q53c), (.slice q54 q54n q54c)]⟩)) H76
theorem calls {s0 : OA} {s1_0 s1_1 : Int} {s1_2 s1_3 : ByteArray} {s1_4 : Bool} {s1_5 : Int} {s1_6 : ByteArray} {s1_7 s1_8 : Int} {s1_9 : OA} {s1_9n s1_9c : Nat} {H : Heap} {R : EH} (h : go s0 s1_0 s1_1 s1_2 s1_3 s1_4 s1_5 s1_6 s1_7 s1_8 s1_9 s1_9n s1_9c H R) : CallsH Tryz.prog 24 ⟨[(.pointer s0), (.agg ⟨[(.int .i64 s1_0), (.int .i64 s1_1), (.string s1_2), (.string s1_3), (.bool s1_4), (.int .i64 s1_5), (.string s1_6), (.int .i64 s1_7), (.int .i64 s1_8), (.slice s1_9 s1_9n s1_9c)]⟩)]⟩ H R :=
 callsH_of_den (an := an) (fuel := 100000) (X := go s0 s1_0 s1_1 s1_2 s1_3 s1_4 s1_5 s1_6 s1_7 s1_8 s1_9 s1_9n s1_9c H R) (c := body) mixed fn (by kernel_rfl) (by kernel_rfl) (by kernel_rfl) ok (by kernel_rfl) h
end F24
/-! ### 35 "pub-stadtholder/pub/etcdserver/storage/mvcc.newWatcherGroup" -/
namespace F35
def an : Ann := { kinds := [], taus := [], pairs := [], lab := [] }
noncomputable def body : Code := (Tryz.f35.body).getD .skip
theorem fn : Tryz.prog.funcs[35]? = some Tryz.f35 := by kernel_rfl
theorem ok : codeOk an 5 body = true := by kernel_rfl
def go  (H : Heap) (R : EH) : Prop :=
 newD H (.cells ⟨[(.map none), .nilIface, (.map none)]⟩ 96) fun r H1 =>
 newD H1 (.map #[] 0) fun r1 H2 =>
 callD Tryz.prog 51 [] H2 (panK R) fun v H3 =>
 tIf v fun i =>
 newD H3 (.map #[] 0) fun r2 H4 =>
 guardB (isCell (IV.v i)) <|
 st1 H4 ⟨r, 0, none⟩ (.map (some r1)) fun H5 =>
 st1 H5 ⟨r, 1, none⟩ (IV.v i) fun H6 =>
 st1 H6 ⟨r, 2, none⟩ (.map (some r2)) fun H7 =>
 ldMap H7 ⟨r, 0, none⟩ fun m =>
 ldIf H7 ⟨r, 1, none⟩ fun i1 =>
 ldMap H7 ⟨r, 2, none⟩ fun m1 =>
 R (.returned (.agg ⟨[(.map m), (IV.v i1), (.map m1)]⟩)) H7
theorem calls  {H : Heap} {R : EH} (h : go  H R) : CallsH Tryz.prog 35 ⟨[]⟩ H R :=
 callsH_of_den (an := an) (fuel := 100000) (X := go  H R) (c := body) mixed fn (by kernel_rfl) (by kernel_rfl) (by kernel_rfl) ok (by kernel_rfl) h
end F35
/-! ### 36 "(*pub-stadtholder/pub/etcdserver/storage/mvcc.ZzGroup).Has" -/
namespace F36
def an : Ann := { kinds := [(1005, .heavy 0)], taus := [], pairs := [], lab := [] }
noncomputable def body : Code := (Tryz.f36.body).getD .skip
theorem fn : Tryz.prog.funcs[36]? = some Tryz.f36 := by kernel_rfl
theorem ok : codeOk an 12 body = true := by kernel_rfl
def go (z : OA) (id : Int) (H : Heap) (R : EH) : Prop :=
 nilD z fun a =>
 ldMap H (Addr.add a 3) fun m =>
 valD Tryz.prog (Instr.lookup 98 (.map m) (.int .i64 id) false) H (panK R) fun v H1 =>
 tPtr v fun p =>
 R (.returned (.bool (!(Option.isNone p)))) H1
theorem calls {z : OA} {id : Int} {H : Heap} {R : EH} (h : go z id H R) : CallsH Tryz.prog 36 ⟨[(.pointer z), (.int .i64 id)]⟩ H R :=
 callsH_of_den (an := an) (fuel := 100000) (X := go z id H R) (c := body) mixed fn (by kernel_rfl) (by kernel_rfl) (by kernel_rfl) ok (by kernel_rfl) h
end F36
/-! ### 37 "(*pub-stadtholder/pub/etcdserver/storage/mvcc.ZzGroup).Size" -/
namespace F37
def an : Ann := { kinds := [], taus := [], pairs := [], lab := [] }
noncomputable def body : Code := (Tryz.f37.body).getD .skip
theorem fn : Tryz.prog.funcs[37]? = some Tryz.f37 := by kernel_rfl
theorem ok : codeOk an 7 body = true := by kernel_rfl
def go (z : OA) (H : Heap) (R : EH) : Prop :=
 nilD z fun a =>
 callD Tryz.prog 52 [(.pointer (some a))] H (panK R) fun v H1 =>
 tInt v .i64 fun n =>
 R (.returned (.int .i64 n)) H1
theorem calls {z : OA} {H : Heap} {R : EH} (h : go z H R) : CallsH Tryz.prog 37 ⟨[(.pointer z)]⟩ H R :=
 callsH_of_den (an := an) (fuel := 100000) (X := go z H R) (c := body) mixed fn (by kernel_rfl) (by kernel_rfl) (by kernel_rfl) ok (by kernel_rfl) h
end F37
/-! ### 38 "(*pub-stadtholder/pub/etcdserver/storage/mvcc.ZzGroup).Add" -/
namespace F38
def an : Ann := { kinds := [(4, .heavy 0), (1006, .heavy 0)], taus := [], pairs := [], lab := [] }
noncomputable def body : Code := (Tryz.f38.body).getD .skip
theorem fn : Tryz.prog.funcs[38]? = some Tryz.f38 := by kernel_rfl
theorem ok : codeOk an 29 body = true := by kernel_rfl
def go (z : OA) (id : Int) (key : OA) (keyn keyc : Nat) (xend : OA) (xendn xendc : Nat) (minRev : Int) (H : Heap) (R : EH) : Prop :=
 valD Tryz.prog (Instr.makeChan 119 (.int .i64 (1 : Int))) H (panK R) fun v H1 =>
 tCh v fun r =>
 newD H1 (.cells ⟨[(.slice key keyn keyc), (.slice xend xendn xendc), (.bool false), (.bool false), (.bool false), (.int .i64 (0 : Int)), (.int .i64 minRev), (.int .i64 id), (.slice none 0 0), (.chan r)]⟩ 123) fun r1 H2 =>
 nilD z fun a =>
 ldMap H2 (Addr.add a 3) fun m =>
 uniD Tryz.prog (Instr.mapUpdate 98 (.map m) (.int .i64 id) (.pointer (some ⟨r1, 0, none⟩))) H2 (panK R) fun H3 =>
 nilD z fun a1 =>
 callD Tryz.prog 53 [(.pointer (some a1)), (.pointer (some ⟨r1, 0, none⟩))] H3 (panK R) fun v2 H4 =>
 tTup v2 fun l =>
 tNil l <|
 R (.returned (.tuple ⟨[]⟩)) H4
theorem calls {z : OA} {id : Int} {key : OA} {keyn keyc : Nat} {xend : OA} {xendn xendc : Nat} {minRev : Int} {H : Heap} {R : EH} (h : go z id key keyn keyc xend xendn xendc minRev H R) : CallsH Tryz.prog 38 ⟨[(.pointer z), (.int .i64 id), (.slice key keyn keyc), (.slice xend xendn xendc), (.int .i64 minRev)]⟩ H R :=
 callsH_of_den (an := an) (fuel := 100000) (X := go z id key keyn keyc xend xendn xendc minRev H R) (c := body) mixed fn (by kernel_rfl) (by kernel_rfl) (by kernel_rfl) ok (by kernel_rfl) h
end F38
/-! ### 39 "pub-stadtholder/impl.end" -/
namespace F39
def an : Ann := { kinds := [], taus := [], pairs := [], lab := [] }
noncomputable def body : Code := (Tryz.f39.body).getD .skip
theorem fn : Tryz.prog.funcs[39]? = some Tryz.f39 := by kernel_rfl
theorem ok : codeOk an 10 body = true := by kernel_rfl
def go (text : ByteArray) (is : Bool) (H : Heap) (R : EH) : Prop :=
 iteB (!is) (
 R (.returned (.slice none 0 0)) H) <|
 newD H (.cells ⟨[]⟩ 5) fun r H1 =>
 apV H1 1 1 [(.int .u8 (0 : Int))] 5 (some ⟨r, 0, none⟩) 0 0 (ByteArray.size text) (bytesOf (Array.toList (ByteArray.data text))) fun q qn qc H2 =>
 R (.returned (.slice q qn qc)) H2
theorem calls {text : ByteArray} {is : Bool} {H : Heap} {R : EH} (h : go text is H R) : CallsH Tryz.prog 39 ⟨[(.string text), (.bool is)]⟩ H R :=
 callsH_of_den (an := an) (fuel := 100000) (X := go text is H R) (c := body) mixed fn (by kernel_rfl) (by kernel_rfl) (by kernel_rfl) ok (by kernel_rfl) h
end F39
/-! ### 42 "(*pub-stadtholder/pub/etcdserver/storage/mvcc.ZzGroup).ByKey" -/
namespace F42
def an : Ann := { kinds := [(2005, .heavy 0), (3000, .heavy 94), (4000, .heavy 94)], taus := [], pairs := [], lab := [(40000004, [5, 12])] }
noncomputable def body : Code := (Tryz.f42.body).getD .skip
theorem fn : Tryz.prog.funcs[42]? = some Tryz.f42 := by kernel_rfl
theorem ok : codeOk an 25 body = true := by kernel_rfl
noncomputable def L0t : List Item := [.code (sub [1, 1, 0, 1, 0, 0] body), .inLoop (sub [1, 1, 0, 1, 0, 0] body), .inBlock 0, .code (sub [1, 1, 1] body)]
def L0 (out : OA) (outn outc : Nat) (s12 : OA) (H : Heap) (R : EH) : Prop :=
 GoL Tryz.prog 42 25 L0t [5, 12] [(.slice out outn outc), (.pointer s12)] H R
def L0n (out : OA) (outn outc : Nat) (s12 : OA) (H : Heap) (R : EH) : Prop :=
 valD Tryz.prog (Instr.next (.pointer s12) false 0) H (panK R) fun v H1 =>
 tTup v fun l =>
 tCons l fun c l1 =>
 tBool c fun b =>
 iteB b (
 tCons l1 fun c1 l2 =>
 tPtr c1 fun p =>
 tCons l2 fun c2 l3 =>
 tAgg c2 fun l4 =>
 tNil l4 <|
 tNil l3 <|
 valD Tryz.prog (Instr.entry (.pointer s12)) H1 (panK R) fun v1 H2 =>
 tTup v1 fun l5 =>
 tCons l5 fun c3 l6 =>
 tPtr c3 fun p1 =>
 tCons l6 fun c4 l7 =>
 tAgg c4 fun l8 =>
 tNil l8 <|
 tNil l7 <|
 nilD p1 fun a =>
 ldInt H2 (Addr.add a 7) .i64 fun n =>
 newD H2 (.cells ⟨[(.int .i64 n)]⟩ 2) fun r H3 =>
 apD H3 1 8 [(.int .i64 (0 : Int))] 2 out outn outc (some ⟨r, 0, none⟩) 1 fun q qn qc H4 =>
 L0 q qn qc s12 H4 R) <|
 tNil l1 <|
 R (.returned (.slice out outn outc)) H1
theorem L0_step {out : OA} {outn outc : Nat} {s12 : OA} {H : Heap} {R : EH} (h : L0n out outn outc s12 H R) : L0 out outn outc s12 H R :=
 goL_of_den (an := an) (fuel := 100000) (X := L0n out outn outc s12 H R) mixed fn (by kernel_rfl) (fun ρ0 => by kernel_rfl) h
def go (z : OA) (key : ByteArray) (H : Heap) (R : EH) : Prop :=
 nilD z fun a =>
 callD Tryz.prog 56 [(.pointer (some a)), (.string key)] H (panK R) fun v H1 =>
 tMap v fun m =>
 valD Tryz.prog (Instr.range 94 (.map m)) H1 (panK R) fun v1 H2 =>
 tPtr v1 fun p =>
 L0 none 0 0 p H2 R
theorem calls {z : OA} {key : ByteArray} {H : Heap} {R : EH} (h : go z key H R) : CallsH Tryz.prog 42 ⟨[(.pointer z), (.string key)]⟩ H R :=
 callsH_of_den (an := an) (fuel := 100000) (X := go z key H R) (c := body) mixed fn (by kernel_rfl) (by kernel_rfl) (by kernel_rfl) ok (by kernel_rfl) h
end F42
/-! ### 43 "slices.Sort[[]int64,int64]" -/
namespace F43
def an : Ann := { kinds := [], taus := [], pairs := [], lab := [] }
noncomputable def body : Code := (Tryz.f43.body).getD .skip
theorem fn : Tryz.prog.funcs[43]? = some Tryz.f43 := by kernel_rfl
theorem ok : codeOk an 11 body = true := by kernel_rfl
def go (x : OA) (xn xc : Nat) (H : Heap) (R : EH) : Prop :=
 callD Tryz.prog 58 [(.int .u64 (IntKind.wrap .u64 ((xn : Nat) : Int)))] H (panK R) fun v H1 =>
 tInt v .i64 fun n =>
 callD Tryz.prog 57 [(.slice x xn xc), (.int .i64 (0 : Int)), (.int .i64 ((xn : Nat) : Int)), (.int .i64 n)] H1 (panK R) fun v1 H2 =>
 tTup v1 fun l =>
 tNil l <|
 R (.returned (.tuple ⟨[]⟩)) H2
theorem calls {x : OA} {xn xc : Nat} {H : Heap} {R : EH} (h : go x xn xc H R) : CallsH Tryz.prog 43 ⟨[(.slice x xn xc)]⟩ H R :=
 callsH_of_den (an := an) (fuel := 100000) (X := go x xn xc H R) (c := body) mixed fn (by kernel_rfl) (by kernel_rfl) (by kernel_rfl) ok (by kernel_rfl) h
end F43
/-! ### 51 "pub-stadtholder/pub/etcdserver/adt.NewIntervalTree" -/
namespace F51
def an : Ann := { kinds := [], taus := [], pairs := [], lab := [] }
noncomputable def body : Code := (Tryz.f51.body).getD .skip
theorem fn : Tryz.prog.funcs[51]? = some Tryz.f51 := by kernel_rfl
theorem ok : codeOk an 10 body = true := by kernel_rfl
def go  (H : Heap) (R : EH) : Prop :=
 newD H (.cells ⟨[.nilIface, .nilIface, .nilIface, .nilIface, (.pointer none), (.pointer none), (.pointer none), (.int .i64 (0 : Int))]⟩ 146) fun r H1 =>
 newD H1 (.cells ⟨[(.pointer (some ⟨r, 0, none⟩)), (.int .i64 (0 : Int)), (.pointer (some ⟨r, 0, none⟩))]⟩ 149) fun r1 H2 =>
 R (.returned (.iface 147 (.pointer (some ⟨r1, 0, none⟩)))) H2
theorem calls  {H : Heap} {R : EH} (h : go  H R) : CallsH Tryz.prog 51 ⟨[]⟩ H R :=
 callsH_of_den (an := an) (fuel := 100000) (X := go  H R) (c := body) mixed fn (by kernel_rfl) (by kernel_rfl) (by kernel_rfl) ok (by kernel_rfl) h
end F51
/-! ### 52 "(*pub-stadtholder/pub/etcdserver/storage/mvcc.watcherGroup).size" -/
namespace F52
def an : Ann := { kinds := [(1004, .heavy 0)], taus := [], pairs := [], lab := [] }
noncomputable def body : Code := (Tryz.f52.body).getD .skip
theorem fn : Tryz.prog.funcs[52]? = some Tryz.f52 := by kernel_rfl
theorem ok : codeOk an 8 body = true := by kernel_rfl
def go (wg : OA) (H : Heap) (R : EH) : Prop :=
 nilD wg fun a =>
 ldMap H (Addr.add a 2) fun m =>
 valD Tryz.prog (Builtin.len_ #[94] 3 ⟨[(.map m)]⟩) H (panK R) fun v H1 =>
 tInt v .i64 fun n =>
 R (.returned (.int .i64 n)) H1
theorem calls {wg : OA} {H : Heap} {R : EH} (h : go wg H R) : CallsH Tryz.prog 52 ⟨[(.pointer wg)]⟩ H R :=
 callsH_of_den (an := an) (fuel := 100000) (X := go wg H R) (c := body) mixed fn (by kernel_rfl) (by kernel_rfl) (by kernel_rfl) ok (by kernel_rfl) h
end F52
/-! ### 53 "(*pub-stadtholder/pub/etcdserver/storage/mvcc.watcherGroup).add" -/
namespace F53
def an : Ann := { kinds := [(3004, .read), (3009, .read), (3011, .grow), (6004, .heavy 0)], taus := [(3, [[0, 1, 2, 5, 6, 7, 3, 4, 8, 9, 11, 10, 12], [0, 1, 2, 5, 6, 7, 3, 4, 8, 9, 10, 11, 12]]), (4, [[0, 1, 2, 3, 4, 5, 6]]), (9, [[0, 1, 2, 5, 6, 3, 4, 7]])], pairs := [(3, [(11, 10)])], lab := [(10000005, [0, 1, 4])] }
noncomputable def body : Code := (Tryz.f53.body).getD .skip
theorem fn : Tryz.prog.funcs[53]? = some Tryz.f53 := by kernel_rfl
theorem ok : codeOk an 62 body = true := by kernel_rfl
noncomputable def L0t : List Item := [.code (sub [1, 1, 1] body)]
def L0 (wg wa : OA) (ivl : Nat) (H : Heap) (R : EH) : Prop :=
 GoL Tryz.prog 53 62 L0t [0, 1, 4] [(.pointer wg), (.pointer wa), (.pointer (some ⟨ivl, 0, none⟩))] H R
def L0n (wg wa : OA) (ivl : Nat) (H : Heap) (R : EH) : Prop :=
 nilD wg fun a =>
 ldIf H (Addr.add a 1) fun i =>
 ldIf H ⟨ivl, 0, none⟩ fun i1 =>
 ldIf H ⟨ivl, 1, none⟩ fun i2 =>
 callI Tryz.prog (IV.v i) "Find" [(.agg ⟨[(IV.v i1), (IV.v i2)]⟩)] H (panK R) fun v H1 =>
 tPtr v fun p =>
 iteB (!(Option.isNone p)) (
 nilD p fun a1 =>
 ldIf H1 (Addr.add a1 2) fun i3 =>
 valD Tryz.prog (Instr.typeAssert (IV.v i3) 20 94 false) H1 (panK R) fun v1 H2 =>
 tMap v1 fun m =>
 callD Tryz.prog 62 [(.map m), (.pointer wa)] H2 (panK R) fun v2 H3 =>
 tTup v2 fun l =>
 tNil l <|
 R (.returned (.tuple ⟨[]⟩)) H3) <|
 newD H1 (.map #[] 0) fun r H4 =>
 callD Tryz.prog 62 [(.map (some r)), (.pointer wa)] H4 (panK R) fun v3 H5 =>
 tTup v3 fun l1 =>
 tNil l1 <|
 nilD wg fun a2 =>
 ldIf H5 (Addr.add a2 1) fun i4 =>
 ldIf H5 ⟨ivl, 0, none⟩ fun i5 =>
 ldIf H5 ⟨ivl, 1, none⟩ fun i6 =>
 callI Tryz.prog (IV.v i4) "Insert" [(.agg ⟨[(IV.v i5), (IV.v i6)]⟩), (.iface 94 (.map (some r)))] H5 (panK R) fun v4 H6 =>
 tTup v4 fun l2 =>
 tNil l2 <|
 R (.returned (.tuple ⟨[]⟩)) H6
theorem L0_step {wg wa : OA} {ivl : Nat} {H : Heap} {R : EH} (h : L0n wg wa ivl H R) : L0 wg wa ivl H R :=
 goL_of_den (an := an) (fuel := 100000) (X := L0n wg wa ivl H R) mixed fn (by kernel_rfl) (fun ρ0 => by kernel_rfl) h
def go (wg wa : OA) (H : Heap) (R : EH) : Prop :=
 nilD wg fun a =>
 ldMap H (Addr.add a 2) fun m =>
 callD Tryz.prog 62 [(.map m), (.pointer wa)] H (panK R) fun v H1 =>
 tTup v fun l =>
 tNil l <|
 nilD wa fun a1 =>
 ldSl H1 (Addr.add a1 1) fun q qn qc =>
 iteB (Option.isNone q) (
 nilD wg fun a2 =>
 ldMap H1 a2 fun m1 =>
 callD Tryz.prog 63 [(.map m1), (.pointer wa)] H1 (panK R) fun v1 H2 =>
 tTup v1 fun l1 =>
 tNil l1 <|
 R (.returned (.tuple ⟨[]⟩)) H2) <|
 (
 nilD wa fun a3 =>
 nilD wa fun a4 =>
 ldSl H1 a3 fun q1 q1n q1c =>
 bsD H1 q1 q1n fun s =>
 ldSl H1 (Addr.add a4 1) fun q2 q2n q2c =>
 bsD H1 q2 q2n fun s1 =>
 newD H1 (.cells ⟨[.nilIface, .nilIface]⟩ 141) fun r H3 =>
 callD Tryz.prog 64 [(.string s), (.string s1)] H3 (panK R) fun v2 H4 =>
 tAgg v2 fun l2 =>
 tCons l2 fun c l3 =>
 tIf c fun i =>
 tCons l3 fun c1 l4 =>
 tIf c1 fun i1 =>
 tNil l4 <|
 st1 H4 ⟨r, 0, none⟩ (IV.v i) fun H5 =>
 st1 H5 ⟨r, 1, none⟩ (IV.v i1) fun H6 =>
 L0 wg wa r H6 R) ∧
 (
 nilD wa fun a5 =>
 nilD wa fun a6 =>
 ldSl H1 a5 fun q3 q3n q3c =>
 bsD H1 q3 q3n fun s2 =>
 ldSl H1 (Addr.add a6 1) fun q4 q4n q4c =>
 bsD H1 q4 q4n fun s3 =>
 callD Tryz.prog 64 [(.string s2), (.string s3)] H1 (panK R) fun v3 H7 =>
 tAgg v3 fun l5 =>
 tCons l5 fun c2 l6 =>
 tIf c2 fun i2 =>
 tCons l6 fun c3 l7 =>
 tIf c3 fun i3 =>
 tNil l7 <|
 newD H7 (.cells ⟨[.nilIface, .nilIface]⟩ 141) fun r1 H8 =>
 st1 H8 ⟨r1, 0, none⟩ (IV.v i2) fun H9 =>
 st1 H9 ⟨r1, 1, none⟩ (IV.v i3) fun H10 =>
 L0 wg wa r1 H10 R)
theorem calls {wg wa : OA} {H : Heap} {R : EH} (h : go wg wa H R) : CallsH Tryz.prog 53 ⟨[(.pointer wg), (.pointer wa)]⟩ H R :=
 callsH_of_den (an := an) (fuel := 100000) (X := go wg wa H R) (c := body) mixed fn (by kernel_rfl) (by kernel_rfl) (by kernel_rfl) ok (by kernel_rfl) h
end F53
/-! ### 56 "(*pub-stadtholder/pub/etcdserver/storage/mvcc.watcherGroup).watcherSetByKey" -/
namespace F56
def an : Ann := { kinds := [(1005, .heavy 0), (2005, .grow), (5005, .heavy 0), (7005, .heavy 0), (8006, .heavy 0), (10006, .heavy 0), (14005, .heavy 0)], taus := [(2, [[0, 1, 2, 4, 3, 6, 7, 5, 8, 9]])], pairs := [], lab := [(30000008, [0, 1, 5, 6]), (10000010, [0, 1, 6]), (40000013, [7, 64, 65, 66]), (30000009, [6])] }
noncomputable def body : Code := (Tryz.f56.body).getD .skip
theorem fn : Tryz.prog.funcs[56]? = some Tryz.f56 := by kernel_rfl
theorem ok : codeOk an 79 body = true := by kernel_rfl
noncomputable def L0t : List Item := [.code (sub [1, 1, 1, 0, 0, 1, 1, 1, 1] body), .inBlock 0, .code (sub [1, 1, 1, 1] body)]
def L0 (s0 : OA) (s1 : ByteArray) (s5 : Option Nat) (s6 : OA) (s6n s6c : Nat) (H : Heap) (R : EH) : Prop :=
 GoL Tryz.prog 56 79 L0t [0, 1, 5, 6] [(.pointer s0), (.string s1), (.map s5), (.slice s6 s6n s6c)] H R
noncomputable def L1t : List Item := [.code (sub [1, 1, 1, 1] body)]
def L1 (s0 : OA) (s1 : ByteArray) (s6 : OA) (s6n s6c : Nat) (H : Heap) (R : EH) : Prop :=
 GoL Tryz.prog 56 79 L1t [0, 1, 6] [(.pointer s0), (.string s1), (.slice s6 s6n s6c)] H R
noncomputable def L2t : List Item := [.code (sub [1, 1, 1, 1, 1, 1, 0, 1, 0, 0] body), .inLoop (sub [1, 1, 1, 1, 1, 1, 0, 1, 0, 0] body), .inBlock 1, .code (sub [1, 1, 1, 1, 1, 1, 1] body)]
def L2 (s7 : Nat) (s64 : OA) (s64n s64c : Nat) (s65 s66 : Int) (H : Heap) (R : EH) : Prop :=
 GoL Tryz.prog 56 79 L2t [7, 64, 65, 66] [(.map (some s7)), (.slice s64 s64n s64c), (.int .i64 s65), (.int .i64 s66)] H R
noncomputable def L3t : List Item := [.code (sub [1, 1, 1, 0, 0, 1, 1, 1, 1, 1, 0] body), .inBlock 0, .code (sub [1, 1, 1, 1] body)]
def L3 (s6 : OA) (s6n s6c : Nat) (H : Heap) (R : EH) : Prop :=
 GoL Tryz.prog 56 79 L3t [6] [(.slice s6 s6n s6c)] H R
def L0n (s0 : OA) (s1 : ByteArray) (s5 : Option Nat) (s6 : OA) (s6n s6c : Nat) (H : Heap) (R : EH) : Prop :=
 iteB (((s6n : Nat) : Int) == (1 : Int)) (
 valD Tryz.prog (Builtin.len_ #[94] 3 ⟨[(.map s5)]⟩) H (panK R) fun v H1 =>
 tInt v .i64 fun n =>
 iteB (n == (0 : Int)) (
 L3 s6 s6n s6c H1 R) <|
 L1 s0 s1 s6 s6n s6c H1 R) <|
 L1 s0 s1 s6 s6n s6c H R
theorem L0_step {s0 : OA} {s1 : ByteArray} {s5 : Option Nat} {s6 : OA} {s6n s6c : Nat} {H : Heap} {R : EH} (h : L0n s0 s1 s5 s6 s6n s6c H R) : L0 s0 s1 s5 s6 s6n s6c H R :=
 goL_of_den (an := an) (fuel := 100000) (X := L0n s0 s1 s5 s6 s6n s6c H R) mixed fn (by kernel_rfl) (fun ρ0 => by kernel_rfl) h
def L1n (s0 : OA) (s1 : ByteArray) (s6 : OA) (s6n s6c : Nat) (H : Heap) (R : EH) : Prop :=
 newD H (.map #[] 0) fun r H1 =>
 nilD s0 fun a =>
 ldMap H1 a fun m =>
 valD Tryz.prog (Instr.lookup 90 (.map m) (.string s1) false) H1 (panK R) fun v H2 =>
 tMap v fun m1 =>
 callD Tryz.prog 68 [(.map (some r)), (.map m1)] H2 (panK R) fun v1 H3 =>
 tTup v1 fun l =>
 tNil l <|
 L2 r s6 s6n s6c ((s6n : Nat) : Int) (0 : Int) H3 R
theorem L1_step {s0 : OA} {s1 : ByteArray} {s6 : OA} {s6n s6c : Nat} {H : Heap} {R : EH} (h : L1n s0 s1 s6 s6n s6c H R) : L1 s0 s1 s6 s6n s6c H R :=
 goL_of_den (an := an) (fuel := 100000) (X := L1n s0 s1 s6 s6n s6c H R) mixed fn (by kernel_rfl) (fun ρ0 => by kernel_rfl) h
def L2n (s7 : Nat) (s64 : OA) (s64n s64c : Nat) (s65 s66 : Int) (H : Heap) (R : EH) : Prop :=
 iteB (decide (s66 < s65)) (
 idxD s64 s64n s66 fun a =>
 ldPtr H (Addr.add a (Int.toNat s66 * 1)) fun p =>
 nilD p fun a1 =>
 ldIf H (Addr.add a1 2) fun i =>
 valD Tryz.prog (Instr.typeAssert (IV.v i) 20 94 false) H (panK R) fun v H1 =>
 tMap v fun m =>
 callD Tryz.prog 68 [(.map (some s7)), (.map m)] H1 (panK R) fun v1 H2 =>
 tTup v1 fun l =>
 tNil l <|
 L2 s7 s64 s64n s64c s65 (IntKind.wrap .i64 (s66 + (1 : Int))) H2 R) <|
 R (.returned (.map (some s7))) H
theorem L2_step {s7 : Nat} {s64 : OA} {s64n s64c : Nat} {s65 s66 : Int} {H : Heap} {R : EH} (h : L2n s7 s64 s64n s64c s65 s66 H R) : L2 s7 s64 s64n s64c s65 s66 H R :=
 goL_of_den (an := an) (fuel := 100000) (X := L2n s7 s64 s64n s64c s65 s66 H R) mixed fn (by kernel_rfl) (fun ρ0 => by kernel_rfl) h
def L3n (s6 : OA) (s6n s6c : Nat) (H : Heap) (R : EH) : Prop :=
 idxD s6 s6n (0 : Int) fun a =>
 ldPtr H (Addr.add a (Int.toNat (0 : Int) * 1)) fun p =>
 nilD p fun a1 =>
 ldIf H (Addr.add a1 2) fun i =>
 valD Tryz.prog (Instr.typeAssert (IV.v i) 20 94 false) H (panK R) fun v H1 =>
 tMap v fun m =>
 R (.returned (.map m)) H1
theorem L3_step {s6 : OA} {s6n s6c : Nat} {H : Heap} {R : EH} (h : L3n s6 s6n s6c H R) : L3 s6 s6n s6c H R :=
 goL_of_den (an := an) (fuel := 100000) (X := L3n s6 s6n s6c H R) mixed fn (by kernel_rfl) (fun ρ0 => by kernel_rfl) h
def go (s0 : OA) (s1 : ByteArray) (H : Heap) (R : EH) : Prop :=
 nilD s0 fun a =>
 ldMap H a fun m =>
 valD Tryz.prog (Instr.lookup 90 (.map m) (.string s1) false) H (panK R) fun v H1 =>
 tMap v fun m1 =>
 nilD s0 fun a1 =>
 ldIf H1 (Addr.add a1 1) fun i =>
 nilV Tryz.prog (IV.v i) fun v1 =>
 callD Tryz.prog 67 [(.string s1)] H1 nope fun v2 H2 =>
 tAgg v2 fun l =>
 tCons l fun c l1 =>
 tIf c fun i1 =>
 tCons l1 fun c1 l2 =>
 tIf c1 fun i2 =>
 tNil l2 <|
 andD (ExtH H1 H2) <|
 callI Tryz.prog (IV.v i) "Stab" [(.agg ⟨[(IV.v i1), (IV.v i2)]⟩)] H2 (panK R) fun v3 H3 =>
 tSl v3 fun q qn qc =>
 iteB (((qn : Nat) : Int) == (0 : Int)) (
 R (.returned (.map m1)) H3) <|
 iteB (((qn : Nat) : Int) == (0 : Int)) (
 valD Tryz.prog (Builtin.len_ #[94] 3 ⟨[(.map m1)]⟩) H3 (panK R) fun v4 H4 =>
 tInt v4 .i64 fun n =>
 iteB (n == (0 : Int)) (
 R (.returned (.map none)) H4) <|
 L0 s0 s1 m1 q qn qc H4 R) <|
 L0 s0 s1 m1 q qn qc H3 R
theorem calls {s0 : OA} {s1 : ByteArray} {H : Heap} {R : EH} (h : go s0 s1 H R) : CallsH Tryz.prog 56 ⟨[(.pointer s0), (.string s1)]⟩ H R :=
 callsH_of_den (an := an) (fuel := 100000) (X := go s0 s1 H R) (c := body) mixed fn (by kernel_rfl) (by kernel_rfl) (by kernel_rfl) ok (by kernel_rfl) h
end F56
/-! ### 57 "slices.pdqsortOrdered[int64]" -/
namespace F57
def an : Ann := { kinds := [], taus := [(17, [[0, 1, 2, 3, 4, 5, 6, 8, 9, 10, 7, 11, 12, 13, 14]])], pairs := [], lab := [(30000003, [0, 1, 2, 3, 8, 9]), (40000011, [0, 1, 2, 3, 8, 9, 10]), (40000016, [0, 1, 2, 3, 8, 9, 10, 11, 12]), (50000017, [0, 1, 2, 3, 8, 9, 10, 11]), (40000018, [0, 1, 2, 3, 8, 9, 10, 11]), (40000021, [0, 1, 2, 3, 10, 11]), (50000019, [0, 1, 2, 3, 8, 9, 11])] }
noncomputable def body : Code := (Tryz.f57.body).getD .skip
theorem fn : Tryz.prog.funcs[57]? = some Tryz.f57 := by kernel_rfl
theorem ok : codeOk an 134 body = true := by kernel_rfl
noncomputable def L0t : List Item := [.code (sub [1, 1, 0, 0] body), .inLoop (sub [1, 1, 0, 0] body), .inBlock 0]
def L0 (s0 : OA) (s0n s0c : Nat) (s1 s2 s3 : Int) (s8 s9 : Bool) (H : Heap) (R : EH) : Prop :=
 GoL Tryz.prog 57 134 L0t [0, 1, 2, 3, 8, 9] [(.slice s0 s0n s0c), (.int .i64 s1), (.int .i64 s2), (.int .i64 s3), (.bool s8), (.bool s9)] H R
noncomputable def L1t : List Item := [.code (sub [1, 1, 0, 0, 0, 1, 1, 1, 1] body), .inBlock 1, .inLoop (sub [1, 1, 0, 0] body), .inBlock 0]
def L1 (s0 : OA) (s0n s0c : Nat) (s1 s2 s3 : Int) (s8 s9 : Bool) (s10 : Int) (H : Heap) (R : EH) : Prop :=
 GoL Tryz.prog 57 134 L1t [0, 1, 2, 3, 8, 9, 10] [(.slice s0 s0n s0c), (.int .i64 s1), (.int .i64 s2), (.int .i64 s3), (.bool s8), (.bool s9), (.int .i64 s10)] H R
noncomputable def L2t : List Item := [.code (sub [1, 1, 0, 0, 0, 1, 1, 1, 1, 1, 1] body), .inBlock 1, .inLoop (sub [1, 1, 0, 0] body), .inBlock 0]
def L2 (s0 : OA) (s0n s0c : Nat) (s1 s2 s3 : Int) (s8 s9 : Bool) (s10 s11 s12 : Int) (H : Heap) (R : EH) : Prop :=
 GoL Tryz.prog 57 134 L2t [0, 1, 2, 3, 8, 9, 10, 11, 12] [(.slice s0 s0n s0c), (.int .i64 s1), (.int .i64 s2), (.int .i64 s3), (.bool s8), (.bool s9), (.int .i64 s10), (.int .i64 s11), (.int .i64 s12)] H R
noncomputable def L3t : List Item := [.code (sub [1, 1, 0, 0, 0, 1, 1, 1, 1, 1, 1, 0, 1, 0] body), .code (sub [1, 1, 0, 0, 0, 1, 1, 1, 1, 1, 1, 1] body), .inBlock 1, .inLoop (sub [1, 1, 0, 0] body), .inBlock 0]
def L3 (s0 : OA) (s0n s0c : Nat) (s1 s2 s3 : Int) (s8 s9 : Bool) (s10 s11 : Int) (H : Heap) (R : EH) : Prop :=
 GoL Tryz.prog 57 134 L3t [0, 1, 2, 3, 8, 9, 10, 11] [(.slice s0 s0n s0c), (.int .i64 s1), (.int .i64 s2), (.int .i64 s3), (.bool s8), (.bool s9), (.int .i64 s10), (.int .i64 s11)] H R
noncomputable def L4t : List Item := [.code (sub [1, 1, 0, 0, 0, 1, 1, 1, 1, 1, 1, 1] body), .inBlock 1, .inLoop (sub [1, 1, 0, 0] body), .inBlock 0]
def L4 (s0 : OA) (s0n s0c : Nat) (s1 s2 s3 : Int) (s8 s9 : Bool) (s10 s11 : Int) (H : Heap) (R : EH) : Prop :=
 GoL Tryz.prog 57 134 L4t [0, 1, 2, 3, 8, 9, 10, 11] [(.slice s0 s0n s0c), (.int .i64 s1), (.int .i64 s2), (.int .i64 s3), (.bool s8), (.bool s9), (.int .i64 s10), (.int .i64 s11)] H R
noncomputable def L5t : List Item := [.code (sub [1, 1, 0, 0, 0, 1, 1, 1, 1, 1, 1, 1, 1] body), .inBlock 1, .inLoop (sub [1, 1, 0, 0] body), .inBlock 0]
def L5 (s0 : OA) (s0n s0c : Nat) (s1 s2 s3 s10 s11 : Int) (H : Heap) (R : EH) : Prop :=
 GoL Tryz.prog 57 134 L5t [0, 1, 2, 3, 10, 11] [(.slice s0 s0n s0c), (.int .i64 s1), (.int .i64 s2), (.int .i64 s3), (.int .i64 s10), (.int .i64 s11)] H R
noncomputable def L6t : List Item := [.code (sub [1, 1, 0, 0, 0, 1, 1, 1, 1, 1, 1, 1, 0, 1, 0] body), .code (sub [1, 1, 0, 0, 0, 1, 1, 1, 1, 1, 1, 1, 1] body), .inBlock 1, .inLoop (sub [1, 1, 0, 0] body), .inBlock 0]
def L6 (s0 : OA) (s0n s0c : Nat) (s1 s2 s3 : Int) (s8 s9 : Bool) (s11 : Int) (H : Heap) (R : EH) : Prop :=
 GoL Tryz.prog 57 134 L6t [0, 1, 2, 3, 8, 9, 11] [(.slice s0 s0n s0c), (.int .i64 s1), (.int .i64 s2), (.int .i64 s3), (.bool s8), (.bool s9), (.int .i64 s11)] H R
def L0n (s0 : OA) (s0n s0c : Nat) (s1 s2 s3 : Int) (s8 s9 : Bool) (H : Heap) (R : EH) : Prop :=
 iteB (decide ((IntKind.wrap .i64 (s2 - s1)) ≤ (12 : Int))) (
 callD Tryz.prog 69 [(.slice s0 s0n s0c), (.int .i64 s1), (.int .i64 s2)] H (panK R) fun v H1 =>
 tTup v fun l =>
 tNil l <|
 R (.returned (.tuple ⟨[]⟩)) H1) <|
 iteB (s3 == (0 : Int)) (
 callD Tryz.prog 70 [(.slice s0 s0n s0c), (.int .i64 s1), (.int .i64 s2)] H (panK R) fun v1 H2 =>
 tTup v1 fun l1 =>
 tNil l1 <|
 R (.returned (.tuple ⟨[]⟩)) H2) <|
 iteB (!s8) (
 callD Tryz.prog 71 [(.slice s0 s0n s0c), (.int .i64 s1), (.int .i64 s2)] H (panK R) fun v2 H3 =>
 tTup v2 fun l2 =>
 tNil l2 <|
 L1 s0 s0n s0c s1 s2 (IntKind.wrap .i64 (s3 - (1 : Int))) s8 s9 (IntKind.wrap .i64 (s2 - s1)) H3 R) <|
 L1 s0 s0n s0c s1 s2 s3 s8 s9 (IntKind.wrap .i64 (s2 - s1)) H R
theorem L0_step {s0 : OA} {s0n s0c : Nat} {s1 s2 s3 : Int} {s8 s9 : Bool} {H : Heap} {R : EH} (h : L0n s0 s0n s0c s1 s2 s3 s8 s9 H R) : L0 s0 s0n s0c s1 s2 s3 s8 s9 H R :=
 goL_of_den (an := an) (fuel := 100000) (X := L0n s0 s0n s0c s1 s2 s3 s8 s9 H R) mixed fn (by kernel_rfl) (fun ρ0 => by kernel_rfl) h
def L1n (s0 : OA) (s0n s0c : Nat) (s1 s2 s3 : Int) (s8 s9 : Bool) (s10 : Int) (H : Heap) (R : EH) : Prop :=
 callD Tryz.prog 72 [(.slice s0 s0n s0c), (.int .i64 s1), (.int .i64 s2)] H (panK R) fun v H1 =>
 tTup v fun l =>
 tCons l fun c l1 =>
 tInt c .i64 fun n =>
 tCons l1 fun c1 l2 =>
 tInt c1 .i64 fun n1 =>
 tNil l2 <|
 iteB (n1 == (2 : Int)) (
 callD Tryz.prog 73 [(.slice s0 s0n s0c), (.int .i64 s1), (.int .i64 s2)] H1 (panK R) fun v1 H2 =>
 tTup v1 fun l3 =>
 tNil l3 <|
 L2 s0 s0n s0c s1 s2 s3 s8 s9 s10 (IntKind.wrap .i64 ((IntKind.wrap .i64 (s2 - (1 : Int))) - (IntKind.wrap .i64 (n - s1)))) (1 : Int) H2 R) <|
 L2 s0 s0n s0c s1 s2 s3 s8 s9 s10 n n1 H1 R
theorem L1_step {s0 : OA} {s0n s0c : Nat} {s1 s2 s3 : Int} {s8 s9 : Bool} {s10 : Int} {H : Heap} {R : EH} (h : L1n s0 s0n s0c s1 s2 s3 s8 s9 s10 H R) : L1 s0 s0n s0c s1 s2 s3 s8 s9 s10 H R :=
 goL_of_den (an := an) (fuel := 100000) (X := L1n s0 s0n s0c s1 s2 s3 s8 s9 s10 H R) mixed fn (by kernel_rfl) (fun ρ0 => by kernel_rfl) h
def L2n (s0 : OA) (s0n s0c : Nat) (s1 s2 s3 : Int) (s8 s9 : Bool) (s10 s11 s12 : Int) (H : Heap) (R : EH) : Prop :=
 iteB s8 (
 iteB s9 (
 iteB (s12 == (1 : Int)) (
 L3 s0 s0n s0c s1 s2 s3 s8 s9 s10 s11 H R) <|
 L4 s0 s0n s0c s1 s2 s3 s8 s9 s10 s11 H R) <|
 L4 s0 s0n s0c s1 s2 s3 s8 s9 s10 s11 H R) <|
 L4 s0 s0n s0c s1 s2 s3 s8 s9 s10 s11 H R
theorem L2_step {s0 : OA} {s0n s0c : Nat} {s1 s2 s3 : Int} {s8 s9 : Bool} {s10 s11 s12 : Int} {H : Heap} {R : EH} (h : L2n s0 s0n s0c s1 s2 s3 s8 s9 s10 s11 s12 H R) : L2 s0 s0n s0c s1 s2 s3 s8 s9 s10 s11 s12 H R :=
 goL_of_den (an := an) (fuel := 100000) (X := L2n s0 s0n s0c s1 s2 s3 s8 s9 s10 s11 s12 H R) mixed fn (by kernel_rfl) (fun ρ0 => by kernel_rfl) h
def L3n (s0 : OA) (s0n s0c : Nat) (s1 s2 s3 : Int) (s8 s9 : Bool) (s10 s11 : Int) (H : Heap) (R : EH) : Prop :=
 callD Tryz.prog 74 [(.slice s0 s0n s0c), (.int .i64 s1), (.int .i64 s2)] H (panK R) fun v H1 =>
 tBool v fun b =>
 iteB b (
 R (.returned (.tuple ⟨[]⟩)) H1) <|
 L4 s0 s0n s0c s1 s2 s3 s8 s9 s10 s11 H1 R
theorem L3_step {s0 : OA} {s0n s0c : Nat} {s1 s2 s3 : Int} {s8 s9 : Bool} {s10 s11 : Int} {H : Heap} {R : EH} (h : L3n s0 s0n s0c s1 s2 s3 s8 s9 s10 s11 H R) : L3 s0 s0n s0c s1 s2 s3 s8 s9 s10 s11 H R :=
 goL_of_den (an := an) (fuel := 100000) (X := L3n s0 s0n s0c s1 s2 s3 s8 s9 s10 s11 H R) mixed fn (by kernel_rfl) (fun ρ0 => by kernel_rfl) h
def L4n (s0 : OA) (s0n s0c : Nat) (s1 s2 s3 : Int) (s8 s9 : Bool) (s10 s11 : Int) (H : Heap) (R : EH) : Prop :=
 iteB (decide (s1 > (0 : Int))) (
 idxD s0 s0n (IntKind.wrap .i64 (s1 - (1 : Int))) fun a =>
 idxD s0 s0n s11 fun a1 =>
 ldInt H (Addr.add a (Int.toNat (IntKind.wrap .i64 (s1 - (1 : Int))) * 1)) .i64 fun n =>
 ldInt H (Addr.add a1 (Int.toNat s11 * 1)) .i64 fun n1 =>
 callD Tryz.prog 75 [(.int .i64 n), (.int .i64 n1)] H (panK R) fun v H1 =>
 tBool v fun b =>
 iteB (!b) (
 L6 s0 s0n s0c s1 s2 s3 s8 s9 s11 H1 R) <|
 L5 s0 s0n s0c s1 s2 s3 s10 s11 H1 R) <|
 L5 s0 s0n s0c s1 s2 s3 s10 s11 H R
theorem L4_step {s0 : OA} {s0n s0c : Nat} {s1 s2 s3 : Int} {s8 s9 : Bool} {s10 s11 : Int} {H : Heap} {R : EH} (h : L4n s0 s0n s0c s1 s2 s3 s8 s9 s10 s11 H R) : L4 s0 s0n s0c s1 s2 s3 s8 s9 s10 s11 H R :=
 goL_of_den (an := an) (fuel := 100000) (X := L4n s0 s0n s0c s1 s2 s3 s8 s9 s10 s11 H R) mixed fn (by kernel_rfl) (fun ρ0 => by kernel_rfl) h
def L5n (s0 : OA) (s0n s0c : Nat) (s1 s2 s3 s10 s11 : Int) (H : Heap) (R : EH) : Prop :=
 callD Tryz.prog 77 [(.slice s0 s0n s0c), (.int .i64 s1), (.int .i64 s2), (.int .i64 s11)] H (panK R) fun v H1 =>
 tTup v fun l =>
 tCons l fun c l1 =>
 tInt c .i64 fun n =>
 tCons l1 fun c1 l2 =>
 tBool c1 fun b =>
 tNil l2 <|
 divD (8 : Int) <|
 iteB (decide ((IntKind.wrap .i64 (n - s1)) < (IntKind.wrap .i64 (s2 - n)))) (
 callD Tryz.prog 57 [(.slice s0 s0n s0c), (.int .i64 s1), (.int .i64 n), (.int .i64 s3)] H1 (panK R) fun v1 H2 =>
 tTup v1 fun l3 =>
 tNil l3 <|
 L0 s0 s0n s0c (IntKind.wrap .i64 (n + (1 : Int))) s2 s3 (decide ((IntKind.wrap .i64 (n - s1)) ≥ (IntKind.wrap .i64 (Int.tdiv s10 (8 : Int))))) b H2 R) <|
 callD Tryz.prog 57 [(.slice s0 s0n s0c), (.int .i64 (IntKind.wrap .i64 (n + (1 : Int)))), (.int .i64 s2), (.int .i64 s3)] H1 (panK R) fun v2 H3 =>
 tTup v2 fun l4 =>
 tNil l4 <|
 L0 s0 s0n s0c s1 n s3 (decide ((IntKind.wrap .i64 (s2 - n)) ≥ (IntKind.wrap .i64 (Int.tdiv s10 (8 : Int))))) b H3 R
theorem L5_step {s0 : OA} {s0n s0c : Nat} {s1 s2 s3 s10 s11 : Int} {H : Heap} {R : EH} (h : L5n s0 s0n s0c s1 s2 s3 s10 s11 H R) : L5 s0 s0n s0c s1 s2 s3 s10 s11 H R :=
 goL_of_den (an := an) (fuel := 100000) (X := L5n s0 s0n s0c s1 s2 s3 s10 s11 H R) mixed fn (by kernel_rfl) (fun ρ0 => by kernel_rfl) h
def L6n (s0 : OA) (s0n s0c : Nat) (s1 s2 s3 : Int) (s8 s9 : Bool) (s11 : Int) (H : Heap) (R : EH) : Prop :=
 callD Tryz.prog 76 [(.slice s0 s0n s0c), (.int .i64 s1), (.int .i64 s2), (.int .i64 s11)] H (panK R) fun v H1 =>
 tInt v .i64 fun n =>
 L0 s0 s0n s0c n s2 s3 s8 s9 H1 R
theorem L6_step {s0 : OA} {s0n s0c : Nat} {s1 s2 s3 : Int} {s8 s9 : Bool} {s11 : Int} {H : Heap} {R : EH} (h : L6n s0 s0n s0c s1 s2 s3 s8 s9 s11 H R) : L6 s0 s0n s0c s1 s2 s3 s8 s9 s11 H R :=
 goL_of_den (an := an) (fuel := 100000) (X := L6n s0 s0n s0c s1 s2 s3 s8 s9 s11 H R) mixed fn (by kernel_rfl) (fun ρ0 => by kernel_rfl) h
def go (s0 : OA) (s0n s0c : Nat) (s1 s2 s3 : Int) (H : Heap) (R : EH) : Prop :=
 L0 s0 s0n s0c s1 s2 s3 true true H R
theorem calls {s0 : OA} {s0n s0c : Nat} {s1 s2 s3 : Int} {H : Heap} {R : EH} (h : go s0 s0n s0c s1 s2 s3 H R) : CallsH Tryz.prog 57 ⟨[(.slice s0 s0n s0c), (.int .i64 s1), (.int .i64 s2), (.int .i64 s3)]⟩ H R :=
 callsH_of_den (an := an) (fuel := 100000) (X := go s0 s0n s0c s1 s2 s3 H R) (c := body) mixed fn (by kernel_rfl) (by kernel_rfl) (by kernel_rfl) ok (by kernel_rfl) h
end F57
/-! ### 58 "math/bits.Len" -/
namespace F58
def an : Ann := { kinds := [], taus := [], pairs := [], lab := [] }
noncomputable def body : Code := (Tryz.f58.body).getD .skip
theorem fn : Tryz.prog.funcs[58]? = some Tryz.f58 := by kernel_rfl
theorem ok : codeOk an 8 body = true := by kernel_rfl
def go (x : Int) (H : Heap) (R : EH) : Prop :=
 callD Tryz.prog 79 [(.int .u64 x)] H (panK R) fun v H1 =>
 tInt v .i64 fun n =>
 R (.returned (.int .i64 n)) H1
theorem calls {x : Int} {H : Heap} {R : EH} (h : go x H R) : CallsH Tryz.prog 58 ⟨[(.int .u64 x)]⟩ H R :=
 callsH_of_den (an := an) (fuel := 100000) (X := go x H R) (c := body) mixed fn (by kernel_rfl) (by kernel_rfl) (by kernel_rfl) ok (by kernel_rfl) h
end F58
/-! ### 62 "(pub-stadtholder/pub/etcdserver/storage/mvcc.watcherSet).add" -/
namespace F62
def an : Ann := { kinds := [(2, .heavy 0), (3003, .heavy 0)], taus := [], pairs := [], lab := [] }
noncomputable def body : Code := (Tryz.f62.body).getD .skip
theorem fn : Tryz.prog.funcs[62]? = some Tryz.f62 := by kernel_rfl
theorem ok : codeOk an 17 body = true := by kernel_rfl
def go (w : Option Nat) (wa : OA) (H : Heap) (R : EH) : Prop :=
 valD Tryz.prog (Instr.lookup 94 (.map w) (.pointer wa) true) H (panK R) fun v H1 =>
 tTup v fun l =>
 tCons l fun c l1 =>
 tAgg c fun l3 =>
 tNil l3 <|
 tCons l1 fun c1 l2 =>
 tBool c1 fun b =>
 tNil l2 <|
 newD H1 (.cells ⟨[]⟩ 154) fun r H2 =>
 iteB b (
 panD (.iface 9 (.string (ByteArray.mk #[97, 100, 100, 32, 119, 97, 116, 99, 104, 101, 114, 32, 116, 119, 105, 99, 101, 33]))) H2 (panK R)) <|
 uniD Tryz.prog (Instr.mapUpdate 94 (.map w) (.pointer wa) (.agg ⟨[]⟩)) H2 (panK R) fun H3 =>
 R (.returned (.tuple ⟨[]⟩)) H3
theorem calls {w : Option Nat} {wa : OA} {H : Heap} {R : EH} (h : go w wa H R) : CallsH Tryz.prog 62 ⟨[(.map w), (.pointer wa)]⟩ H R :=
 callsH_of_den (an := an) (fuel := 100000) (X := go w wa H R) (c := body) mixed fn (by kernel_rfl) (by kernel_rfl) (by kernel_rfl) ok (by kernel_rfl) h
end F62
/-! ### 63 "(pub-stadtholder/pub/etcdserver/storage/mvcc.watcherSetByKey).add" -/
namespace F63
def an : Ann := { kinds := [(5, .read), (6, .heavy 0), (3005, .read), (3007, .heavy 0)], taus := [], pairs := [], lab := [] }
noncomputable def body : Code := (Tryz.f63.body).getD .skip
theorem fn : Tryz.prog.funcs[63]? = some Tryz.f63 := by kernel_rfl
theorem ok : codeOk an 25 body = true := by kernel_rfl
def go (w : Option Nat) (wa : OA) (H : Heap) (R : EH) : Prop :=
 nilD wa fun a =>
 ldSl H a fun q qn qc =>
 bsD H q qn fun s =>
 valD Tryz.prog (Instr.lookup 90 (.map w) (.string s) false) H (panK R) fun v H1 =>
 tMap v fun m =>
 iteB (Option.isNone m) (
 newD H1 (.map #[] 0) fun r H2 =>
 nilD wa fun a1 =>
 ldSl H2 a1 fun q1 q1n q1c =>
 bsD H2 q1 q1n fun s1 =>
 uniD Tryz.prog (Instr.mapUpdate 90 (.map w) (.string s1) (.map (some r))) H2 (panK R) fun H3 =>
 callD Tryz.prog 62 [(.map (some r)), (.pointer wa)] H3 (panK R) fun v2 H4 =>
 tTup v2 fun l =>
 tNil l <|
 R (.returned (.tuple ⟨[]⟩)) H4) <|
 callD Tryz.prog 62 [(.map m), (.pointer wa)] H1 (panK R) fun v3 H5 =>
 tTup v3 fun l1 =>
 tNil l1 <|
 R (.returned (.tuple ⟨[]⟩)) H5
theorem calls {w : Option Nat} {wa : OA} {H : Heap} {R : EH} (h : go w wa H R) : CallsH Tryz.prog 63 ⟨[(.map w), (.pointer wa)]⟩ H R :=
 callsH_of_den (an := an) (fuel := 100000) (X := go w wa H R) (c := body) mixed fn (by kernel_rfl) (by kernel_rfl) (by kernel_rfl) ok (by kernel_rfl) h
end F63
/-! ### 64 "pub-stadtholder/pub/etcdserver/adt.NewStringAffineInterval" -/
namespace F64
def an : Ann := { kinds := [], taus := [], pairs := [], lab := [] }
noncomputable def body : Code := (Tryz.f64.body).getD .skip
theorem fn : Tryz.prog.funcs[64]? = some Tryz.f64 := by kernel_rfl
theorem ok : codeOk an 10 body = true := by kernel_rfl
def go (begin xend : ByteArray) (H : Heap) (R : EH) : Prop :=
 newD H (.cells ⟨[.nilIface, .nilIface]⟩ 141) fun r H1 =>
 st1 H1 ⟨r, 0, none⟩ (.iface 181 (.string begin)) fun H2 =>
 st1 H2 ⟨r, 1, none⟩ (.iface 181 (.string xend)) fun H3 =>
 ldIf H3 ⟨r, 0, none⟩ fun i =>
 ldIf H3 ⟨r, 1, none⟩ fun i1 =>
 R (.returned (.agg ⟨[(IV.v i), (IV.v i1)]⟩)) H3
theorem calls {begin xend : ByteArray} {H : Heap} {R : EH} (h : go begin xend H R) : CallsH Tryz.prog 64 ⟨[(.string begin), (.string xend)]⟩ H R :=
 callsH_of_den (an := an) (fuel := 100000) (X := go begin xend H R) (c := body) mixed fn (by kernel_rfl) (by kernel_rfl) (by kernel_rfl) ok (by kernel_rfl) h
end F64
/-! ### 67 "pub-stadtholder/pub/etcdserver/adt.NewStringAffinePoint" -/
namespace F67
def an : Ann := { kinds := [], taus := [], pairs := [], lab := [] }
noncomputable def body : Code := (Tryz.f67.body).getD .skip
theorem fn : Tryz.prog.funcs[67]? = some Tryz.f67 := by kernel_rfl
theorem ok : codeOk an 7 body = true := by kernel_rfl
def go (s : ByteArray) (H : Heap) (R : EH) : Prop :=
 newD H (.cells ⟨[.nilIface, .nilIface]⟩ 141) fun r H1 =>
 catD s (ByteArray.mk #[0]) fun s1 =>
 callD Tryz.prog 64 [(.string s), (.string s1)] H1 (panK R) fun v H2 =>
 tAgg v fun l =>
 tCons l fun c l1 =>
 tIf c fun i =>
 tCons l1 fun c1 l2 =>
 tIf c1 fun i1 =>
 tNil l2 <|
 st1 H2 ⟨r, 0, none⟩ (IV.v i) fun H3 =>
 st1 H3 ⟨r, 1, none⟩ (IV.v i1) fun H4 =>
 ldIf H4 ⟨r, 0, none⟩ fun i2 =>
 ldIf H4 ⟨r, 1, none⟩ fun i3 =>
 R (.returned (.agg ⟨[(IV.v i2), (IV.v i3)]⟩)) H4
theorem calls {s : ByteArray} {H : Heap} {R : EH} (h : go s H R) : CallsH Tryz.prog 67 ⟨[(.string s)]⟩ H R :=
 callsH_of_den (an := an) (fuel := 100000) (X := go s H R) (c := body) mixed fn (by kernel_rfl) (by kernel_rfl) (by kernel_rfl) ok (by kernel_rfl) h
end F67
/-! ### 69 "slices.insertionSortOrdered[int64]" -/
namespace F69
def an : Ann := { kinds := [], taus := [(4, [[0, 1, 2, 3, 4, 5, 6, 8, 9, 10, 11, 7, 12, 13, 14]]), (6, [[0, 1, 2, 3, 4, 5, 6, 7, 8, 10, 11, 12, 9, 13, 14, 15, 16, 17]])], pairs := [], lab := [(30000002, [0, 1, 2, 6]), (70000005, [0, 1, 2, 6, 7]), (30000003, [0, 1, 2, 6]), (70000007, [0, 1, 2, 6, 7])] }
noncomputable def body : Code := (Tryz.f69.body).getD .skip
theorem fn : Tryz.prog.funcs[69]? = some Tryz.f69 := by kernel_rfl
theorem ok : codeOk an 49 body = true := by kernel_rfl
noncomputable def L0t : List Item := [.code (sub [1, 0, 0] body), .inLoop (sub [1, 0, 0] body), .inBlock 0]
def L0 (data : OA) (datan datac : Nat) (a b i : Int) (H : Heap) (R : EH) : Prop :=
 GoL Tryz.prog 69 49 L0t [0, 1, 2, 6] [(.slice data datan datac), (.int .i64 a), (.int .i64 b), (.int .i64 i)] H R
noncomputable def L1t : List Item := [.code (sub [1, 0, 0, 1, 0, 0, 1, 0, 0] body), .inLoop (sub [1, 0, 0, 1, 0, 0, 1, 0, 0] body), .inBlock 2, .inBlock 1, .code (sub [1, 0, 0, 1, 1] body), .inLoop (sub [1, 0, 0] body), .inBlock 0]
def L1 (data : OA) (datan datac : Nat) (a b i j : Int) (H : Heap) (R : EH) : Prop :=
 GoL Tryz.prog 69 49 L1t [0, 1, 2, 6, 7] [(.slice data datan datac), (.int .i64 a), (.int .i64 b), (.int .i64 i), (.int .i64 j)] H R
noncomputable def L2t : List Item := [.code (sub [1, 0, 0, 1, 1] body), .inLoop (sub [1, 0, 0] body), .inBlock 0]
def L2 (data : OA) (datan datac : Nat) (a b i : Int) (H : Heap) (R : EH) : Prop :=
 GoL Tryz.prog 69 49 L2t [0, 1, 2, 6] [(.slice data datan datac), (.int .i64 a), (.int .i64 b), (.int .i64 i)] H R
noncomputable def L3t : List Item := [.code (sub [1, 0, 0, 1, 0, 0, 1, 0, 0, 1] body), .inLoop (sub [1, 0, 0, 1, 0, 0, 1, 0, 0] body), .inBlock 2, .inBlock 1, .code (sub [1, 0, 0, 1, 1] body), .inLoop (sub [1, 0, 0] body), .inBlock 0]
def L3 (data : OA) (datan datac : Nat) (a b i j : Int) (H : Heap) (R : EH) : Prop :=
 GoL Tryz.prog 69 49 L3t [0, 1, 2, 6, 7] [(.slice data datan datac), (.int .i64 a), (.int .i64 b), (.int .i64 i), (.int .i64 j)] H R
def L0n (data : OA) (datan datac : Nat) (a b i : Int) (H : Heap) (R : EH) : Prop :=
 iteB (decide (i < b)) (
 L1 data datan datac a b i i H R) <|
 R (.returned (.tuple ⟨[]⟩)) H
theorem L0_step {data : OA} {datan datac : Nat} {a b i : Int} {H : Heap} {R : EH} (h : L0n data datan datac a b i H R) : L0 data datan datac a b i H R :=
 goL_of_den (an := an) (fuel := 100000) (X := L0n data datan datac a b i H R) mixed fn (by kernel_rfl) (fun ρ0 => by kernel_rfl) h
def L1n (data : OA) (datan datac : Nat) (a b i j : Int) (H : Heap) (R : EH) : Prop :=
 iteB (decide (j > a)) (
 idxD data datan j fun a1 =>
 idxD data datan (IntKind.wrap .i64 (j - (1 : Int))) fun a2 =>
 ldInt H (Addr.add a1 (Int.toNat j * 1)) .i64 fun n =>
 ldInt H (Addr.add a2 (Int.toNat (IntKind.wrap .i64 (j - (1 : Int))) * 1)) .i64 fun n1 =>
 callD Tryz.prog 75 [(.int .i64 n), (.int .i64 n1)] H (panK R) fun v H1 =>
 tBool v fun b1 =>
 iteB b1 (
 L3 data datan datac a b i j H1 R) <|
 L2 data datan datac a b i H1 R) <|
 L2 data datan datac a b i H R
theorem L1_step {data : OA} {datan datac : Nat} {a b i j : Int} {H : Heap} {R : EH} (h : L1n data datan datac a b i j H R) : L1 data datan datac a b i j H R :=
 goL_of_den (an := an) (fuel := 100000) (X := L1n data datan datac a b i j H R) mixed fn (by kernel_rfl) (fun ρ0 => by kernel_rfl) h
def L2n (data : OA) (datan datac : Nat) (a b i : Int) (H : Heap) (R : EH) : Prop :=
 L0 data datan datac a b (IntKind.wrap .i64 (i + (1 : Int))) H R
theorem L2_step {data : OA} {datan datac : Nat} {a b i : Int} {H : Heap} {R : EH} (h : L2n data datan datac a b i H R) : L2 data datan datac a b i H R :=
 goL_of_den (an := an) (fuel := 100000) (X := L2n data datan datac a b i H R) mixed fn (by kernel_rfl) (fun ρ0 => by kernel_rfl) h
def L3n (data : OA) (datan datac : Nat) (a b i j : Int) (H : Heap) (R : EH) : Prop :=
 idxD data datan (IntKind.wrap .i64 (j - (1 : Int))) fun a1 =>
 idxD data datan j fun a2 =>
 ldInt H (Addr.add a1 (Int.toNat (IntKind.wrap .i64 (j - (1 : Int))) * 1)) .i64 fun n =>
 ldInt H (Addr.add a2 (Int.toNat j * 1)) .i64 fun n1 =>
 idxD data datan j fun a3 =>
 st1 H (Addr.add a3 (Int.toNat j * 1)) (.int .i64 n) fun H1 =>
 idxD data datan (IntKind.wrap .i64 (j - (1 : Int))) fun a4 =>
 st1 H1 (Addr.add a4 (Int.toNat (IntKind.wrap .i64 (j - (1 : Int))) * 1)) (.int .i64 n1) fun H2 =>
 L1 data datan datac a b i (IntKind.wrap .i64 (j - (1 : Int))) H2 R
theorem L3_step {data : OA} {datan datac : Nat} {a b i j : Int} {H : Heap} {R : EH} (h : L3n data datan datac a b i j H R) : L3 data datan datac a b i j H R :=
 goL_of_den (an := an) (fuel := 100000) (X := L3n data datan datac a b i j H R) mixed fn (by kernel_rfl) (fun ρ0 => by kernel_rfl) h
def go (data : OA) (datan datac : Nat) (a b : Int) (H : Heap) (R : EH) : Prop :=
 L0 data datan datac a b (IntKind.wrap .i64 (a + (1 : Int))) H R
theorem calls {data : OA} {datan datac : Nat} {a b : Int} {H : Heap} {R : EH} (h : go data datan datac a b H R) : CallsH Tryz.prog 69 ⟨[(.slice data datan datac), (.int .i64 a), (.int .i64 b)]⟩ H R :=
 callsH_of_den (an := an) (fuel := 100000) (X := go data datan datac a b H R) (c := body) mixed fn (by kernel_rfl) (by kernel_rfl) (by kernel_rfl) ok (by kernel_rfl) h
end F69
/-! ### 79 "math/bits.Len64" -/
namespace F79
def an : Ann := { kinds := [], taus := [], pairs := [], lab := [(10000005, [0, 2]), (10000008, [0, 2]), (10000011, [0, 2])] }
noncomputable def body : Code := (Tryz.f79.body).getD .skip
theorem fn : Tryz.prog.funcs[79]? = some Tryz.f79 := by kernel_rfl
theorem ok : codeOk an 25 body = true := by kernel_rfl
noncomputable def L0t : List Item := [.code (sub [1, 1] body)]
def L0 (x n : Int) (H : Heap) (R : EH) : Prop :=
 GoL Tryz.prog 79 25 L0t [0, 2] [(.int .u64 x), (.int .i64 n)] H R
noncomputable def L1t : List Item := [.code (sub [1, 1, 1] body)]
def L1 (x n : Int) (H : Heap) (R : EH) : Prop :=
 GoL Tryz.prog 79 25 L1t [0, 2] [(.int .u64 x), (.int .i64 n)] H R
noncomputable def L2t : List Item := [.code (sub [1, 1, 1, 1] body)]
def L2 (x n : Int) (H : Heap) (R : EH) : Prop :=
 GoL Tryz.prog 79 25 L2t [0, 2] [(.int .u64 x), (.int .i64 n)] H R
def L0n (x n : Int) (H : Heap) (R : EH) : Prop :=
 iteB (decide (x ≥ (65536 : Int))) (
 shD (16 : Int) <|
 L1 (shrZ .u64 x (16 : Int)) (IntKind.wrap .i64 (n + (16 : Int))) H R) <|
 L1 x n H R
theorem L0_step {x n : Int} {H : Heap} {R : EH} (h : L0n x n H R) : L0 x n H R :=
 goL_of_den (an := an) (fuel := 100000) (X := L0n x n H R) mixed fn (by kernel_rfl) (fun ρ0 => by kernel_rfl) h
def L1n (x n : Int) (H : Heap) (R : EH) : Prop :=
 iteB (decide (x ≥ (256 : Int))) (
 shD (8 : Int) <|
 L2 (shrZ .u64 x (8 : Int)) (IntKind.wrap .i64 (n + (8 : Int))) H R) <|
 L2 x n H R
theorem L1_step {x n : Int} {H : Heap} {R : EH} (h : L1n x n H R) : L1 x n H R :=
 goL_of_den (an := an) (fuel := 100000) (X := L1n x n H R) mixed fn (by kernel_rfl) (fun ρ0 => by kernel_rfl) h
def L2n (x n : Int) (H : Heap) (R : EH) : Prop :=
 ixS (ByteArray.mk #[0, 1, 2, 2, 3, 3, 3, 3, 4, 4, 4, 4, 4, 4, 4, 4, 5, 5, 5, 5, 5, 5, 5, 5, 5, 5, 5, 5, 5, 5, 5, 5, 6, 6, 6, 6, 6, 6, 6, 6, 6, 6, 6, 6, 6, 6, 6, 6, 6, 6, 6, 6, 6, 6, 6, 6, 6, 6, 6, 6, 6, 6, 6, 6, 7, 7, 7, 7, 7, 7, 7, 7, 7, 7, 7, 7, 7, 7, 7, 7, 7, 7, 7, 7, 7, 7, 7, 7, 7, 7, 7, 7, 7, 7, 7, 7, 7, 7, 7, 7, 7, 7, 7, 7, 7, 7, 7, 7, 7, 7, 7, 7, 7, 7, 7, 7, 7, 7, 7, 7, 7, 7, 7, 7, 7, 7, 7, 7, 8, 8, 8, 8, 8, 8, 8, 8, 8, 8, 8, 8, 8, 8, 8, 8, 8, 8, 8, 8, 8, 8, 8, 8, 8, 8, 8, 8, 8, 8, 8, 8, 8, 8, 8, 8, 8, 8, 8, 8, 8, 8, 8, 8, 8, 8, 8, 8, 8, 8, 8, 8, 8, 8, 8, 8, 8, 8, 8, 8, 8, 8, 8, 8, 8, 8, 8, 8, 8, 8, 8, 8, 8, 8, 8, 8, 8, 8, 8, 8, 8, 8, 8, 8, 8, 8, 8, 8, 8, 8, 8, 8, 8, 8, 8, 8, 8, 8, 8, 8, 8, 8, 8, 8, 8, 8, 8, 8, 8, 8, 8, 8, 8, 8, 8, 8, 8, 8, 8, 8, 8, 8, 8, 8, 8, 8, 8, 8]) (IntKind.wrap .u8 x) fun b =>
 R (.returned (.int .i64 (IntKind.wrap .i64 (n + (IntKind.wrap .i64 ((UInt8.toNat b : Nat) : Int)))))) H
theorem L2_step {x n : Int} {H : Heap} {R : EH} (h : L2n x n H R) : L2 x n H R :=
 goL_of_den (an := an) (fuel := 100000) (X := L2n x n H R) mixed fn (by kernel_rfl) (fun ρ0 => by kernel_rfl) h
def go (x : Int) (H : Heap) (R : EH) : Prop :=
 iteB (decide (x ≥ (4294967296 : Int))) (
 shD (32 : Int) <|
 L0 (shrZ .u64 x (32 : Int)) (32 : Int) H R) <|
 L0 x (0 : Int) H R
theorem calls {x : Int} {H : Heap} {R : EH} (h : go x H R) : CallsH Tryz.prog 79 ⟨[(.int .u64 x)]⟩ H R :=
 callsH_of_den (an := an) (fuel := 100000) (X := go x H R) (c := body) mixed fn (by kernel_rfl) (by kernel_rfl) (by kernel_rfl) ok (by kernel_rfl) h
end F79
/-! ### 127 "(*pub-stadtholder/pub/etcdserver/adt.intervalTree).Stab" -/
namespace F127
def an : Ann := { kinds := [], taus := [], pairs := [], lab := [] }
noncomputable def body : Code := (Tryz.f127.body).getD .skip
theorem fn : Tryz.prog.funcs[127]? = some Tryz.f127 := by kernel_rfl
theorem ok : codeOk an 17 body = true := by kernel_rfl
def go (ivt : OA) (iv_0 iv_1 : IV) (H : Heap) (R : EH) : Prop :=
 newD H (.cells ⟨[(IV.v iv_0), (IV.v iv_1)]⟩ 141) fun r H1 =>
 newD H1 (.cells ⟨[(.slice none 0 0)]⟩ 159) fun r1 H2 =>
 nilD ivt fun a =>
 ldInt H2 (Addr.add a 1) .i64 fun n =>
 iteB (n == (0 : Int)) (
 st1 H2 ⟨r1, 0, none⟩ (.slice none 0 0) fun H3 =>
 ldSl H3 ⟨r1, 0, none⟩ fun q qn qc =>
 R (.returned (.slice q qn qc)) H3) <|
 ldIf H2 ⟨r, 0, none⟩ fun i =>
 ldIf H2 ⟨r, 1, none⟩ fun i1 =>
 callD Tryz.prog 129 [(.pointer ivt), (.agg ⟨[(IV.v i), (IV.v i1)]⟩), (.func (.func 137) ⟨[]⟩ ⟨[(.pointer (some ⟨r1, 0, none⟩))]⟩)] H2 (panK R) fun v H4 =>
 tTup v fun l =>
 tNil l <|
 ldSl H4 ⟨r1, 0, none⟩ fun q1 q1n q1c =>
 st1 H4 ⟨r1, 0, none⟩ (.slice q1 q1n q1c) fun H5 =>
 ldSl H5 ⟨r1, 0, none⟩ fun q2 q2n q2c =>
 R (.returned (.slice q2 q2n q2c)) H5
theorem calls {ivt : OA} {iv_0 iv_1 : IV} {H : Heap} {R : EH} (h : go ivt iv_0 iv_1 H R) : CallsH Tryz.prog 127 ⟨[(.pointer ivt), (.agg ⟨[(IV.v iv_0), (IV.v iv_1)]⟩)]⟩ H R :=
 callsH_of_den (an := an) (fuel := 100000) (X := go ivt iv_0 iv_1 H R) (c := body) mixed fn (by kernel_rfl) (by kernel_rfl) (by kernel_rfl) ok (by kernel_rfl) h
end F127
end Go.Proofs.YtobolifgehagfaaGreat
