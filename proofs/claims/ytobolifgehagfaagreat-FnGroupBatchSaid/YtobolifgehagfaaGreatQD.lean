/- What functions of this seat do, each proved by a walk; no condition. -/
import Derived.Test.YtobolifgehagfaaGreatQC
import Derived.KernelRfl
set_option linter.unusedVariables false
namespace Go.Proofs.YtobolifgehagfaaGreat
open Go Go.Den Go.Proofs
/-! ### 6 "pub-stadtholder/laws.zzFits20" -/
namespace F6
def an : Ann := { kinds := [], taus := [], pairs := [], lab := [(40000005, [8, 9, 10])] }
noncomputable def body : Code := (Tryz.f6.body).getD .skip
theorem fn : Tryz.prog.funcs[6]? = some Tryz.f6 := by kernel_rfl
theorem ok : codeOk an 18 body = true := by kernel_rfl
noncomputable def L0t : List Item := [.code (sub [1, 1, 0, 1, 0, 0] body), .inLoop (sub [1, 1, 0, 1, 0, 0] body), .inBlock 0, .code (sub [1, 1, 1] body)]
def L0 (s8 : OA) (s8n s8c : Nat) (s9 s10 : Int) (H : Heap) (R : EH) : Prop :=
 GoL Tryz.prog 6 18 L0t [8, 9, 10] [(.slice s8 s8n s8c), (.int .i64 s9), (.int .i64 s10)] H R
def L0n (s8 : OA) (s8n s8c : Nat) (s9 s10 : Int) (H : Heap) (R : EH) : Prop :=
 iteB (decide (s10 < s9)) (
 idxD s8 s8n s10 fun a =>
 ldInt H (Addr.add a (Int.toNat s10 * 5)) .i64 fun n =>
 ldStr H (Addr.add (Addr.add a (Int.toNat s10 * 5)) 1) fun s =>
 ldStr H (Addr.add (Addr.add a (Int.toNat s10 * 5)) 2) fun s1 =>
 ldBool H (Addr.add (Addr.add a (Int.toNat s10 * 5)) 3) fun b =>
 ldInt H (Addr.add (Addr.add a (Int.toNat s10 * 5)) 4) .i64 fun n1 =>
 newD H (.cells ⟨[(.int .i64 (0 : Int)), (.string (ByteArray.mk #[])), (.string (ByteArray.mk #[])), (.bool false), (.int .i64 (0 : Int))]⟩ 28) fun r H1 =>
 st1 H1 ⟨r, 0, none⟩ (.int .i64 n) fun H2 =>
 st1 H2 ⟨r, 1, none⟩ (.string s) fun H3 =>
 st1 H3 ⟨r, 2, none⟩ (.string s1) fun H4 =>
 st1 H4 ⟨r, 3, none⟩ (.bool b) fun H5 =>
 st1 H5 ⟨r, 4, none⟩ (.int .i64 n1) fun H6 =>
 ldInt H6 ⟨r, 0, none⟩ .i64 fun n2 =>
 ldStr H6 ⟨r, 1, none⟩ fun s2 =>
 ldStr H6 ⟨r, 2, none⟩ fun s3 =>
 ldBool H6 ⟨r, 3, none⟩ fun b1 =>
 ldInt H6 ⟨r, 4, none⟩ .i64 fun n3 =>
 callD Tryz.prog 12 [(.agg ⟨[(.int .i64 n2), (.string s2), (.string s3), (.bool b1), (.int .i64 n3)]⟩)] H6 (panK R) fun v H7 =>
 tBool v fun b2 =>
 iteB (!b2) (
 R (.returned (.bool false)) H7) <|
 L0 s8 s8n s8c s9 (IntKind.wrap .i64 (s10 + (1 : Int))) H7 R) <|
 R (.returned (.bool true)) H
theorem L0_step {s8 : OA} {s8n s8c : Nat} {s9 s10 : Int} {H : Heap} {R : EH} (h : L0n s8 s8n s8c s9 s10 H R) : L0 s8 s8n s8c s9 s10 H R :=
 goL_of_den (an := an) (fuel := 100000) (X := L0n s8 s8n s8c s9 s10 H R) mixed fn (by kernel_rfl) (fun ρ0 => by kernel_rfl) h
def go (x : OA) (xn xc : Nat) (H : Heap) (R : EH) : Prop :=
 iteB (decide (((xn : Nat) : Int) > (2147483647 : Int))) (
 R (.returned (.bool false)) H) <|
 L0 x xn xc ((xn : Nat) : Int) (0 : Int) H R
theorem calls {x : OA} {xn xc : Nat} {H : Heap} {R : EH} (h : go x xn xc H R) : CallsH Tryz.prog 6 ⟨[(.slice x xn xc)]⟩ H R :=
 callsH_of_den (an := an) (fuel := 100000) (X := go x xn xc H R) (c := body) mixed fn (by kernel_rfl) (by kernel_rfl) (by kernel_rfl) ok (by kernel_rfl) h
end F6
/-! ### 8 "pub-stadtholder/laws.grLast" -/
namespace F8
def an : Ann := { kinds := [], taus := [(12, [[0, 1, 2, 3, 4, 5, 6, 7, 8, 9, 10, 11, 12, 13, 14, 15, 16, 17, 18]])], pairs := [], lab := [(40000009, [5, 7, 8, 9, 25, 26, 27])] }
noncomputable def body : Code := (Tryz.f8.body).getD .skip
theorem fn : Tryz.prog.funcs[8]? = some Tryz.f8 := by kernel_rfl
theorem ok : codeOk an 53 body = true := by kernel_rfl
noncomputable def L0t : List Item := [.code (sub [1, 1, 1, 1, 1, 1, 0, 1, 0, 0] body), .inLoop (sub [1, 1, 1, 1, 1, 1, 0, 1, 0, 0] body), .inBlock 0, .code (sub [1, 1, 1, 1, 1, 1, 1] body)]
def L0 (ops : OA) (opsn opsc : Nat) (got : OA) (gotn gotc w want : Nat) (s25 : OA) (s25n s25c : Nat) (s26 s27 : Int) (H : Heap) (R : EH) : Prop :=
 GoL Tryz.prog 8 53 L0t [5, 7, 8, 9, 25, 26, 27] [(.slice ops opsn opsc), (.slice got gotn gotc), (.pointer (some ⟨w, 0, none⟩)), (.pointer (some ⟨want, 0, none⟩)), (.slice s25 s25n s25c), (.int .i64 s26), (.int .i64 s27)] H R
def L0n (ops : OA) (opsn opsc : Nat) (got : OA) (gotn gotc w want : Nat) (s25 : OA) (s25n s25c : Nat) (s26 s27 : Int) (H : Heap) (R : EH) : Prop :=
 iteB (decide (s27 < s26)) (
 idxD s25 s25n s27 fun a =>
 ldInt H (Addr.add a (Int.toNat s27 * 10)) .i64 fun n =>
 ldInt H (Addr.add (Addr.add a (Int.toNat s27 * 10)) 1) .i64 fun n1 =>
 ldStr H (Addr.add (Addr.add a (Int.toNat s27 * 10)) 2) fun s =>
 ldStr H (Addr.add (Addr.add a (Int.toNat s27 * 10)) 3) fun s1 =>
 ldBool H (Addr.add (Addr.add a (Int.toNat s27 * 10)) 4) fun b =>
 ldInt H (Addr.add (Addr.add a (Int.toNat s27 * 10)) 5) .i64 fun n2 =>
 ldStr H (Addr.add (Addr.add a (Int.toNat s27 * 10)) 6) fun s2 =>
 ldInt H (Addr.add (Addr.add a (Int.toNat s27 * 10)) 7) .i64 fun n3 =>
 ldInt H (Addr.add (Addr.add a (Int.toNat s27 * 10)) 8) .i64 fun n4 =>
 ldSl H (Addr.add (Addr.add a (Int.toNat s27 * 10)) 9) fun q qn qc =>
 newD H (.cells ⟨[(.int .i64 (0 : Int)), (.int .i64 (0 : Int)), (.string (ByteArray.mk #[])), (.string (ByteArray.mk #[])), (.bool false), (.int .i64 (0 : Int)), (.string (ByteArray.mk #[])), (.int .i64 (0 : Int)), (.int .i64 (0 : Int)), (.slice none 0 0)]⟩ 30) fun r H1 =>
 st1 H1 ⟨r, 0, none⟩ (.int .i64 n) fun H2 =>
 st1 H2 ⟨r, 1, none⟩ (.int .i64 n1) fun H3 =>
 st1 H3 ⟨r, 2, none⟩ (.string s) fun H4 =>
 st1 H4 ⟨r, 3, none⟩ (.string s1) fun H5 =>
 st1 H5 ⟨r, 4, none⟩ (.bool b) fun H6 =>
 st1 H6 ⟨r, 5, none⟩ (.int .i64 n2) fun H7 =>
 st1 H7 ⟨r, 6, none⟩ (.string s2) fun H8 =>
 st1 H8 ⟨r, 7, none⟩ (.int .i64 n3) fun H9 =>
 st1 H9 ⟨r, 8, none⟩ (.int .i64 n4) fun H10 =>
 st1 H10 ⟨r, 9, none⟩ (.slice q qn qc) fun H11 =>
 ldInt H11 ⟨r, 0, none⟩ .i64 fun n5 =>
 ldInt H11 ⟨r, 1, none⟩ .i64 fun n6 =>
 ldStr H11 ⟨r, 2, none⟩ fun s3 =>
 ldStr H11 ⟨r, 3, none⟩ fun s4 =>
 ldBool H11 ⟨r, 4, none⟩ fun b1 =>
 ldInt H11 ⟨r, 5, none⟩ .i64 fun n7 =>
 ldStr H11 ⟨r, 6, none⟩ fun s5 =>
 ldInt H11 ⟨r, 7, none⟩ .i64 fun n8 =>
 ldInt H11 ⟨r, 8, none⟩ .i64 fun n9 =>
 ldSl H11 ⟨r, 9, none⟩ fun q1 q1n q1c =>
 callD Tryz.prog 16 [(.pointer (some ⟨w, 0, none⟩)), (.agg ⟨[(.int .i64 n5), (.int .i64 n6), (.string s3), (.string s4), (.bool b1), (.int .i64 n7), (.string s5), (.int .i64 n8), (.int .i64 n9), (.slice q1 q1n q1c)]⟩)] H11 (panK R) fun v H12 =>
 tAgg v fun l =>
 tCons l fun c l1 =>
 tBool c fun b2 =>
 tCons l1 fun c1 l2 =>
 tInt c1 .i64 fun n10 =>
 tCons l2 fun c2 l3 =>
 tSl c2 fun q2 q2n q2c =>
 tCons l3 fun c3 l4 =>
 tSl c3 fun q3 q3n q3c =>
 tNil l4 <|
 st1 H12 ⟨want, 0, none⟩ (.bool b2) fun H13 =>
 st1 H13 ⟨want, 1, none⟩ (.int .i64 n10) fun H14 =>
 st1 H14 ⟨want, 2, none⟩ (.slice q2 q2n q2c) fun H15 =>
 st1 H15 ⟨want, 3, none⟩ (.slice q3 q3n q3c) fun H16 =>
 L0 ops opsn opsc got gotn gotc w want s25 s25n s25c s26 (IntKind.wrap .i64 (s27 + (1 : Int))) H16 R) <|
 iteB (((gotn : Nat) : Int) == ((opsn : Nat) : Int)) (
 idxD got gotn (IntKind.wrap .i64 (((opsn : Nat) : Int) - (1 : Int))) fun a1 =>
 ldBool H (Addr.add a1 (Int.toNat (IntKind.wrap .i64 (((opsn : Nat) : Int) - (1 : Int))) * 4)) fun b3 =>
 ldInt H (Addr.add (Addr.add a1 (Int.toNat (IntKind.wrap .i64 (((opsn : Nat) : Int) - (1 : Int))) * 4)) 1) .i64 fun n11 =>
 ldSl H (Addr.add (Addr.add a1 (Int.toNat (IntKind.wrap .i64 (((opsn : Nat) : Int) - (1 : Int))) * 4)) 2) fun q4 q4n q4c =>
 ldSl H (Addr.add (Addr.add a1 (Int.toNat (IntKind.wrap .i64 (((opsn : Nat) : Int) - (1 : Int))) * 4)) 3) fun q5 q5n q5c =>
 ldBool H ⟨want, 0, none⟩ fun b4 =>
 ldInt H ⟨want, 1, none⟩ .i64 fun n12 =>
 ldSl H ⟨want, 2, none⟩ fun q6 q6n q6c =>
 ldSl H ⟨want, 3, none⟩ fun q7 q7n q7c =>
 callD Tryz.prog 17 [(.agg ⟨[(.bool b3), (.int .i64 n11), (.slice q4 q4n q4c), (.slice q5 q5n q5c)]⟩), (.agg ⟨[(.bool b4), (.int .i64 n12), (.slice q6 q6n q6c), (.slice q7 q7n q7c)]⟩)] H (panK R) fun v1 H17 =>
 tBool v1 fun b5 =>
 iteB b5 (
 callD Tryz.prog 9 [] H17 (panK R) fun v2 H18 =>
 tBool v2 fun b6 =>
 R (.returned (.bool b6)) H18) <|
 R (.returned (.bool false)) H17) <|
 R (.returned (.bool false)) H
theorem L0_step {ops : OA} {opsn opsc : Nat} {got : OA} {gotn gotc w want : Nat} {s25 : OA} {s25n s25c : Nat} {s26 s27 : Int} {H : Heap} {R : EH} (h : L0n ops opsn opsc got gotn gotc w want s25 s25n s25c s26 s27 H R) : L0 ops opsn opsc got gotn gotc w want s25 s25n s25c s26 s27 H R :=
 goL_of_den (an := an) (fuel := 100000) (X := L0n ops opsn opsc got gotn gotc w want s25 s25n s25c s26 s27 H R) mixed fn (by kernel_rfl) (fun ρ0 => by kernel_rfl) h
def go (l : OA) (ln lc : Nat) (o_0 o_1 : Int) (o_2 o_3 : ByteArray) (o_4 : Bool) (o_5 : Int) (o_6 : ByteArray) (o_7 o_8 : Int) (o_9 : OA) (o_9n o_9c : Nat) (H : Heap) (R : EH) : Prop :=
 newD H (.cells ⟨[(.int .i64 o_0), (.int .i64 o_1), (.string o_2), (.string o_3), (.bool o_4), (.int .i64 o_5), (.string o_6), (.int .i64 o_7), (.int .i64 o_8), (.slice o_9 o_9n o_9c)]⟩ 30) fun r H1 =>
 ldInt H1 ⟨r, 0, none⟩ .i64 fun n =>
 ldInt H1 ⟨r, 1, none⟩ .i64 fun n1 =>
 ldStr H1 ⟨r, 2, none⟩ fun s =>
 ldStr H1 ⟨r, 3, none⟩ fun s1 =>
 ldBool H1 ⟨r, 4, none⟩ fun b =>
 ldInt H1 ⟨r, 5, none⟩ .i64 fun n2 =>
 ldStr H1 ⟨r, 6, none⟩ fun s2 =>
 ldInt H1 ⟨r, 7, none⟩ .i64 fun n3 =>
 ldInt H1 ⟨r, 8, none⟩ .i64 fun n4 =>
 ldSl H1 ⟨r, 9, none⟩ fun q qn qc =>
 callD Tryz.prog 14 [(.slice l ln lc), (.agg ⟨[(.int .i64 n), (.int .i64 n1), (.string s), (.string s1), (.bool b), (.int .i64 n2), (.string s2), (.int .i64 n3), (.int .i64 n4), (.slice q qn qc)]⟩)] H1 (panK R) fun v H2 =>
 tTup v fun l1 =>
 tCons l1 fun c l2 =>
 tSl c fun q1 q1n q1c =>
 tCons l2 fun c1 l3 =>
 tBool c1 fun b1 =>
 tNil l3 <|
 iteB (!b1) (
 callD Tryz.prog 9 [] H2 (panK R) fun v1 H3 =>
 tBool v1 fun b2 =>
 R (.returned (.bool b2)) H3) <|
 callD Tryz.prog 15 [(.slice q1 q1n q1c)] H2 (panK R) fun v2 H4 =>
 tSl v2 fun q2 q2n q2c =>
 newD H4 (.cells ⟨[(.slice none 0 0)]⟩ 51) fun r1 H5 =>
 newD H5 (.cells ⟨[(.bool false), (.int .i64 (0 : Int)), (.slice none 0 0), (.slice none 0 0)]⟩ 55) fun r2 H6 =>
 L0 q1 q1n q1c q2 q2n q2c r1 r2 q1 q1n q1c ((q1n : Nat) : Int) (0 : Int) H6 R
theorem calls {l : OA} {ln lc : Nat} {o_0 o_1 : Int} {o_2 o_3 : ByteArray} {o_4 : Bool} {o_5 : Int} {o_6 : ByteArray} {o_7 o_8 : Int} {o_9 : OA} {o_9n o_9c : Nat} {H : Heap} {R : EH} (h : go l ln lc o_0 o_1 o_2 o_3 o_4 o_5 o_6 o_7 o_8 o_9 o_9n o_9c H R) : CallsH Tryz.prog 8 ⟨[(.slice l ln lc), (.agg ⟨[(.int .i64 o_0), (.int .i64 o_1), (.string o_2), (.string o_3), (.bool o_4), (.int .i64 o_5), (.string o_6), (.int .i64 o_7), (.int .i64 o_8), (.slice o_9 o_9n o_9c)]⟩)]⟩ H R :=
 callsH_of_den (an := an) (fuel := 100000) (X := go l ln lc o_0 o_1 o_2 o_3 o_4 o_5 o_6 o_7 o_8 o_9 o_9n o_9c H R) (c := body) mixed fn (by kernel_rfl) (by kernel_rfl) (by kernel_rfl) ok (by kernel_rfl) h
end F8
/-! ### 12 "pub-stadtholder/laws.zzFits17" -/
namespace F12
def an : Ann := { kinds := [], taus := [], pairs := [], lab := [] }
noncomputable def body : Code := (Tryz.f12.body).getD .skip
theorem fn : Tryz.prog.funcs[12]? = some Tryz.f12 := by kernel_rfl
theorem ok : codeOk an 11 body = true := by kernel_rfl
def go (x_0 : Int) (x_1 x_2 : ByteArray) (x_3 : Bool) (x_4 : Int) (H : Heap) (R : EH) : Prop :=
 newD H (.cells ⟨[(.int .i64 x_0), (.string x_1), (.string x_2), (.bool x_3), (.int .i64 x_4)]⟩ 28) fun r H1 =>
 ldStr H1 ⟨r, 1, none⟩ fun s =>
 iteB (decide (((ByteArray.size s : Nat) : Int) > (2147483647 : Int))) (
 R (.returned (.bool false)) H1) <|
 ldStr H1 ⟨r, 2, none⟩ fun s1 =>
 iteB (decide (((ByteArray.size s1 : Nat) : Int) > (2147483647 : Int))) (
 R (.returned (.bool false)) H1) <|
 R (.returned (.bool true)) H1
theorem calls {x_0 : Int} {x_1 x_2 : ByteArray} {x_3 : Bool} {x_4 : Int} {H : Heap} {R : EH} (h : go x_0 x_1 x_2 x_3 x_4 H R) : CallsH Tryz.prog 12 ⟨[(.agg ⟨[(.int .i64 x_0), (.string x_1), (.string x_2), (.bool x_3), (.int .i64 x_4)]⟩)]⟩ H R :=
 callsH_of_den (an := an) (fuel := 100000) (X := go x_0 x_1 x_2 x_3 x_4 H R) (c := body) mixed fn (by kernel_rfl) (by kernel_rfl) (by kernel_rfl) ok (by kernel_rfl) h
end F12
/-! ### 14 "pub-stadtholder/laws.grAfter" -/
namespace F14
def an : Ann := { kinds := [], taus := [], pairs := [], lab := [(40000004, [3, 6, 9, 10, 11])] }
noncomputable def body : Code := (Tryz.f14.body).getD .skip
theorem fn : Tryz.prog.funcs[14]? = some Tryz.f14 := by kernel_rfl
theorem ok : codeOk an 28 body = true := by kernel_rfl
noncomputable def L0t : List Item := [.code (sub [1, 1, 0, 1, 0, 0] body), .inLoop (sub [1, 1, 0, 1, 0, 0] body), .inBlock 0, .code (sub [1, 1, 1] body)]
def L0 (o : Nat) (ops : OA) (opsn opsc : Nat) (s9 : OA) (s9n s9c : Nat) (s10 s11 : Int) (H : Heap) (R : EH) : Prop :=
 GoL Tryz.prog 14 28 L0t [3, 6, 9, 10, 11] [(.pointer (some ⟨o, 0, none⟩)), (.slice ops opsn opsc), (.slice s9 s9n s9c), (.int .i64 s10), (.int .i64 s11)] H R
def L0n (o : Nat) (ops : OA) (opsn opsc : Nat) (s9 : OA) (s9n s9c : Nat) (s10 s11 : Int) (H : Heap) (R : EH) : Prop :=
 iteB (decide (s11 < s10)) (
 idxD s9 s9n s11 fun a =>
 ldInt H (Addr.add a (Int.toNat s11 * 5)) .i64 fun n =>
 ldStr H (Addr.add (Addr.add a (Int.toNat s11 * 5)) 1) fun s =>
 ldStr H (Addr.add (Addr.add a (Int.toNat s11 * 5)) 2) fun s1 =>
 ldBool H (Addr.add (Addr.add a (Int.toNat s11 * 5)) 3) fun b =>
 ldInt H (Addr.add (Addr.add a (Int.toNat s11 * 5)) 4) .i64 fun n1 =>
 newD H (.cells ⟨[(.int .i64 (0 : Int)), (.string (ByteArray.mk #[])), (.string (ByteArray.mk #[])), (.bool false), (.int .i64 (0 : Int))]⟩ 28) fun r H1 =>
 st1 H1 ⟨r, 0, none⟩ (.int .i64 n) fun H2 =>
 st1 H2 ⟨r, 1, none⟩ (.string s) fun H3 =>
 st1 H3 ⟨r, 2, none⟩ (.string s1) fun H4 =>
 st1 H4 ⟨r, 3, none⟩ (.bool b) fun H5 =>
 st1 H5 ⟨r, 4, none⟩ (.int .i64 n1) fun H6 =>
 ldInt H6 ⟨r, 0, none⟩ .i64 fun n2 =>
 ldStr H6 ⟨r, 1, none⟩ fun s2 =>
 ldStr H6 ⟨r, 2, none⟩ fun s3 =>
 ldBool H6 ⟨r, 3, none⟩ fun b1 =>
 ldInt H6 ⟨r, 4, none⟩ .i64 fun n3 =>
 newD H6 (.cells ⟨[(.int .i64 (1 : Int)), (.int .i64 n2), (.string s2), (.string s3), (.bool b1), (.int .i64 n3), (.string (ByteArray.mk #[])), (.int .i64 (0 : Int)), (.int .i64 (0 : Int)), (.slice none 0 0)]⟩ 30) fun r1 H7 =>
 apD H7 10 120 [(.int .i64 (0 : Int)), (.int .i64 (0 : Int)), (.string (ByteArray.mk #[])), (.string (ByteArray.mk #[])), (.bool false), (.int .i64 (0 : Int)), (.string (ByteArray.mk #[])), (.int .i64 (0 : Int)), (.int .i64 (0 : Int)), (.slice none 0 0)] 30 ops opsn opsc (some ⟨r1, 0, none⟩) 1 fun q qn qc H8 =>
 L0 o q qn qc s9 s9n s9c s10 (IntKind.wrap .i64 (s11 + (1 : Int))) H8 R) <|
 ldInt H ⟨o, 0, none⟩ .i64 fun n4 =>
 ldInt H ⟨o, 1, none⟩ .i64 fun n5 =>
 ldStr H ⟨o, 2, none⟩ fun s4 =>
 ldStr H ⟨o, 3, none⟩ fun s5 =>
 ldBool H ⟨o, 4, none⟩ fun b2 =>
 ldInt H ⟨o, 5, none⟩ .i64 fun n6 =>
 ldStr H ⟨o, 6, none⟩ fun s6 =>
 ldInt H ⟨o, 7, none⟩ .i64 fun n7 =>
 ldInt H ⟨o, 8, none⟩ .i64 fun n8 =>
 ldSl H ⟨o, 9, none⟩ fun q1 q1n q1c =>
 newD H (.cells ⟨[(.int .i64 n4), (.int .i64 n5), (.string s4), (.string s5), (.bool b2), (.int .i64 n6), (.string s6), (.int .i64 n7), (.int .i64 n8), (.slice q1 q1n q1c)]⟩ 30) fun r2 H9 =>
 apD H9 10 120 [(.int .i64 (0 : Int)), (.int .i64 (0 : Int)), (.string (ByteArray.mk #[])), (.string (ByteArray.mk #[])), (.bool false), (.int .i64 (0 : Int)), (.string (ByteArray.mk #[])), (.int .i64 (0 : Int)), (.int .i64 (0 : Int)), (.slice none 0 0)] 30 ops opsn opsc (some ⟨r2, 0, none⟩) 1 fun q2 q2n q2c H10 =>
 callD Tryz.prog 22 [(.slice q2 q2n q2c)] H10 (panK R) fun v H11 =>
 tBool v fun b3 =>
 R (.returned (.tuple ⟨[(.slice q2 q2n q2c), (.bool b3)]⟩)) H11
theorem L0_step {o : Nat} {ops : OA} {opsn opsc : Nat} {s9 : OA} {s9n s9c : Nat} {s10 s11 : Int} {H : Heap} {R : EH} (h : L0n o ops opsn opsc s9 s9n s9c s10 s11 H R) : L0 o ops opsn opsc s9 s9n s9c s10 s11 H R :=
 goL_of_den (an := an) (fuel := 100000) (X := L0n o ops opsn opsc s9 s9n s9c s10 s11 H R) mixed fn (by kernel_rfl) (fun ρ0 => by kernel_rfl) h
def go (l : OA) (ln lc : Nat) (o_0 o_1 : Int) (o_2 o_3 : ByteArray) (o_4 : Bool) (o_5 : Int) (o_6 : ByteArray) (o_7 o_8 : Int) (o_9 : OA) (o_9n o_9c : Nat) (H : Heap) (R : EH) : Prop :=
 newD H (.cells ⟨[(.int .i64 o_0), (.int .i64 o_1), (.string o_2), (.string o_3), (.bool o_4), (.int .i64 o_5), (.string o_6), (.int .i64 o_7), (.int .i64 o_8), (.slice o_9 o_9n o_9c)]⟩ 30) fun r H1 =>
 L0 r none 0 0 l ln lc ((ln : Nat) : Int) (0 : Int) H1 R
theorem calls {l : OA} {ln lc : Nat} {o_0 o_1 : Int} {o_2 o_3 : ByteArray} {o_4 : Bool} {o_5 : Int} {o_6 : ByteArray} {o_7 o_8 : Int} {o_9 : OA} {o_9n o_9c : Nat} {H : Heap} {R : EH} (h : go l ln lc o_0 o_1 o_2 o_3 o_4 o_5 o_6 o_7 o_8 o_9 o_9n o_9c H R) : CallsH Tryz.prog 14 ⟨[(.slice l ln lc), (.agg ⟨[(.int .i64 o_0), (.int .i64 o_1), (.string o_2), (.string o_3), (.bool o_4), (.int .i64 o_5), (.string o_6), (.int .i64 o_7), (.int .i64 o_8), (.slice o_9 o_9n o_9c)]⟩)]⟩ H R :=
 callsH_of_den (an := an) (fuel := 100000) (X := go l ln lc o_0 o_1 o_2 o_3 o_4 o_5 o_6 o_7 o_8 o_9 o_9n o_9c H R) (c := body) mixed fn (by kernel_rfl) (by kernel_rfl) (by kernel_rfl) ok (by kernel_rfl) h
end F14
/-! ### 16 "(*pub-stadtholder/spec.Crowd).Do" -/
namespace F16
def an : Ann := { kinds := [(7001, .grow), (7011, .grow), (11001, .grow)], taus := [(7, [[0, 2, 3, 4, 6, 9, 13, 14, 15, 17, 5, 7, 10, 16, 18, 1, 11, 8, 12, 19, 20, 21, 22], [0, 2, 3, 4, 6, 9, 13, 14, 15, 17, 5, 7, 10, 16, 18, 1, 8, 11, 12, 19, 20, 21, 22], [0, 2, 3, 4, 6, 9, 13, 14, 15, 17, 5, 7, 10, 16, 18, 11, 1, 8, 12, 19, 20, 21, 22], [0, 2, 3, 4, 6, 9, 13, 14, 15, 17, 5, 7, 10, 1, 11, 8, 16, 18, 12, 19, 20, 21, 22], [0, 2, 3, 4, 6, 9, 13, 14, 15, 17, 5, 7, 10, 1, 8, 16, 18, 11, 12, 19, 20, 21, 22], [0, 2, 3, 4, 6, 9, 13, 14, 15, 17, 5, 7, 10, 11, 1, 8, 16, 18, 12, 19, 20, 21, 22], [0, 2, 3, 4, 6, 9, 13, 14, 15, 17, 5, 7, 10, 1, 11, 8, 12, 16, 18, 19, 20, 21, 22], [0, 2, 3, 4, 6, 9, 13, 14, 15, 17, 5, 7, 10, 1, 8, 11, 12, 16, 18, 19, 20, 21, 22], [0, 2, 3, 4, 6, 9, 13, 14, 15, 17, 5, 7, 10, 11, 1, 8, 12, 16, 18, 19, 20, 21, 22], [0, 2, 3, 4, 6, 9, 13, 14, 15, 17, 5, 7, 16, 18, 1, 8, 10, 11, 12, 19, 20, 21, 22], [0, 2, 3, 4, 6, 9, 13, 14, 15, 17, 5, 7, 1, 8, 10, 16, 18, 11, 12, 19, 20, 21, 22], [0, 2, 3, 4, 6, 9, 13, 14, 15, 17, 5, 7, 1, 8, 10, 11, 12, 16, 18, 19, 20, 21, 22]]), (11, [[0, 2, 3, 4, 6, 9, 10, 11, 13, 14, 5, 7, 12, 15, 1, 8, 16, 17, 18, 19], [0, 2, 3, 4, 6, 9, 10, 11, 13, 14, 5, 7, 1, 8, 12, 15, 16, 17, 18, 19]])], pairs := [(7, [(10, 8), (16, 8), (16, 12), (1, 11), (11, 8)]), (11, [(12, 8)])], lab := [(30000024, [0, 3, 4, 7, 23]), (50000030, [3, 4, 7, 136, 137, 138]), (50000037, [3, 4, 7, 136, 137, 138]), (30000016, [0, 3, 4, 7]), (60000017, [3, 4, 7, 89, 90, 91]), (60000021, [3, 4, 7, 89, 90, 91]), (30000008, [0, 3, 4, 5, 7])] }
noncomputable def body : Code := (Tryz.f16.body).getD .skip
theorem fn : Tryz.prog.funcs[16]? = some Tryz.f16 := by kernel_rfl
theorem ok : codeOk an 162 body = true := by kernel_rfl
noncomputable def L0t : List Item := [.code (sub [1, 1, 1, 0, 1, 0, 1, 1, 1, 1, 1, 1] body), .inBlock 0, .code (sub [1, 1, 1, 1] body)]
def L0 (s0 : OA) (s3 s4 s7 : Nat) (s23 : Int) (H : Heap) (R : EH) : Prop :=
 GoL Tryz.prog 16 162 L0t [0, 3, 4, 7, 23] [(.pointer s0), (.pointer (some ⟨s3, 0, none⟩)), (.pointer (some ⟨s4, 0, none⟩)), (.pointer (some ⟨s7, 0, none⟩)), (.int .i64 s23)] H R
noncomputable def L1t : List Item := [.code (sub [1, 1, 1, 0, 1, 0, 1, 1, 1, 1, 1, 1, 1, 1, 1, 1, 1, 0, 1, 0, 0] body), .inLoop (sub [1, 1, 1, 0, 1, 0, 1, 1, 1, 1, 1, 1, 1, 1, 1, 1, 1, 0, 1, 0, 0] body), .inBlock 3, .inBlock 0, .code (sub [1, 1, 1, 1] body)]
def L1 (s3 s4 s7 : Nat) (s136 : OA) (s136n s136c : Nat) (s137 s138 : Int) (H : Heap) (R : EH) : Prop :=
 GoL Tryz.prog 16 162 L1t [3, 4, 7, 136, 137, 138] [(.pointer (some ⟨s3, 0, none⟩)), (.pointer (some ⟨s4, 0, none⟩)), (.pointer (some ⟨s7, 0, none⟩)), (.slice s136 s136n s136c), (.int .i64 s137), (.int .i64 s138)] H R
noncomputable def L2t : List Item := [.code (sub [1, 1, 1, 0, 1, 0, 1, 1, 1, 1, 1, 1, 1, 1, 1, 1, 1, 0, 1, 0, 0, 1, 1, 1] body), .inLoop (sub [1, 1, 1, 0, 1, 0, 1, 1, 1, 1, 1, 1, 1, 1, 1, 1, 1, 0, 1, 0, 0] body), .inBlock 3, .inBlock 0, .code (sub [1, 1, 1, 1] body)]
def L2 (s3 s4 s7 : Nat) (s136 : OA) (s136n s136c : Nat) (s137 s138 : Int) (H : Heap) (R : EH) : Prop :=
 GoL Tryz.prog 16 162 L2t [3, 4, 7, 136, 137, 138] [(.pointer (some ⟨s3, 0, none⟩)), (.pointer (some ⟨s4, 0, none⟩)), (.pointer (some ⟨s7, 0, none⟩)), (.slice s136 s136n s136c), (.int .i64 s137), (.int .i64 s138)] H R
noncomputable def L3t : List Item := [.code (sub [1, 1, 1, 0, 1, 0, 1, 1, 1, 1, 1, 0] body), .inBlock 0, .code (sub [1, 1, 1, 1] body)]
def L3 (s0 : OA) (s3 s4 s7 : Nat) (H : Heap) (R : EH) : Prop :=
 GoL Tryz.prog 16 162 L3t [0, 3, 4, 7] [(.pointer s0), (.pointer (some ⟨s3, 0, none⟩)), (.pointer (some ⟨s4, 0, none⟩)), (.pointer (some ⟨s7, 0, none⟩))] H R
noncomputable def L4t : List Item := [.code (sub [1, 1, 1, 0, 1, 0, 1, 1, 1, 1, 1, 0, 0, 1, 0, 0] body), .inLoop (sub [1, 1, 1, 0, 1, 0, 1, 1, 1, 1, 1, 0, 0, 1, 0, 0] body), .inBlock 1, .code (sub [1, 1, 1, 0, 1, 0, 1, 1, 1, 1, 1, 0, 1] body), .inBlock 0, .code (sub [1, 1, 1, 1] body)]
def L4 (s3 s4 s7 : Nat) (s89 : OA) (s89n s89c : Nat) (s90 s91 : Int) (H : Heap) (R : EH) : Prop :=
 GoL Tryz.prog 16 162 L4t [3, 4, 7, 89, 90, 91] [(.pointer (some ⟨s3, 0, none⟩)), (.pointer (some ⟨s4, 0, none⟩)), (.pointer (some ⟨s7, 0, none⟩)), (.slice s89 s89n s89c), (.int .i64 s90), (.int .i64 s91)] H R
noncomputable def L5t : List Item := [.code (sub [1, 1, 1, 0, 1, 0, 1, 1, 1, 1, 1, 0, 0, 1, 0, 0, 1, 1, 1] body), .inLoop (sub [1, 1, 1, 0, 1, 0, 1, 1, 1, 1, 1, 0, 0, 1, 0, 0] body), .inBlock 1, .code (sub [1, 1, 1, 0, 1, 0, 1, 1, 1, 1, 1, 0, 1] body), .inBlock 0, .code (sub [1, 1, 1, 1] body)]
def L5 (s3 s4 s7 : Nat) (s89 : OA) (s89n s89c : Nat) (s90 s91 : Int) (H : Heap) (R : EH) : Prop :=
 GoL Tryz.prog 16 162 L5t [3, 4, 7, 89, 90, 91] [(.pointer (some ⟨s3, 0, none⟩)), (.pointer (some ⟨s4, 0, none⟩)), (.pointer (some ⟨s7, 0, none⟩)), (.slice s89 s89n s89c), (.int .i64 s90), (.int .i64 s91)] H R
noncomputable def L6t : List Item := [.code (sub [1, 1, 1, 0, 1, 0, 1, 0, 1] body), .inBlock 0, .code (sub [1, 1, 1, 1] body)]
def L6 (s0 : OA) (s3 s4 : Nat) (s5 : Int) (s7 : Nat) (H : Heap) (R : EH) : Prop :=
 GoL Tryz.prog 16 162 L6t [0, 3, 4, 5, 7] [(.pointer s0), (.pointer (some ⟨s3, 0, none⟩)), (.pointer (some ⟨s4, 0, none⟩)), (.int .i64 s5), (.pointer (some ⟨s7, 0, none⟩))] H R
def L0n (s0 : OA) (s3 s4 s7 : Nat) (s23 : Int) (H : Heap) (R : EH) : Prop :=
 iteB (s23 == (5 : Int)) (
 nilD s0 fun a =>
 ldSl H a fun q qn qc =>
 st1 H ⟨s7, 1, none⟩ (.int .i64 ((qn : Nat) : Int)) fun H1 =>
 ldBool H1 ⟨s7, 0, none⟩ fun b =>
 ldInt H1 ⟨s7, 1, none⟩ .i64 fun n =>
 ldSl H1 ⟨s7, 2, none⟩ fun q1 q1n q1c =>
 ldSl H1 ⟨s7, 3, none⟩ fun q2 q2n q2c =>
 st1 H1 ⟨s4, 0, none⟩ (.bool b) fun H2 =>
 st1 H2 ⟨s4, 1, none⟩ (.int .i64 n) fun H3 =>
 st1 H3 ⟨s4, 2, none⟩ (.slice q1 q1n q1c) fun H4 =>
 st1 H4 ⟨s4, 3, none⟩ (.slice q2 q2n q2c) fun H5 =>
 ldBool H5 ⟨s4, 0, none⟩ fun b1 =>
 ldInt H5 ⟨s4, 1, none⟩ .i64 fun n1 =>
 ldSl H5 ⟨s4, 2, none⟩ fun q3 q3n q3c =>
 ldSl H5 ⟨s4, 3, none⟩ fun q4 q4n q4c =>
 R (.returned (.agg ⟨[(.bool b1), (.int .i64 n1), (.slice q3 q3n q3c), (.slice q4 q4n q4c)]⟩)) H5) <|
 iteB (s23 == (6 : Int)) (
 ldInt H ⟨s3, 7, none⟩ .i64 fun n2 =>
 ldInt H ⟨s3, 8, none⟩ .i64 fun n3 =>
 callD Tryz.prog 27 [(.pointer s0), (.int .i64 n2), (.int .i64 n3)] H (panK R) fun v H6 =>
 tAgg v fun l =>
 tCons l fun c l1 =>
 tBool c fun b2 =>
 tCons l1 fun c1 l2 =>
 tInt c1 .i64 fun n4 =>
 tCons l2 fun c2 l3 =>
 tSl c2 fun q5 q5n q5c =>
 tCons l3 fun c3 l4 =>
 tSl c3 fun q6 q6n q6c =>
 tNil l4 <|
 st1 H6 ⟨s4, 0, none⟩ (.bool b2) fun H7 =>
 st1 H7 ⟨s4, 1, none⟩ (.int .i64 n4) fun H8 =>
 st1 H8 ⟨s4, 2, none⟩ (.slice q5 q5n q5c) fun H9 =>
 st1 H9 ⟨s4, 3, none⟩ (.slice q6 q6n q6c) fun H10 =>
 ldBool H10 ⟨s4, 0, none⟩ fun b3 =>
 ldInt H10 ⟨s4, 1, none⟩ .i64 fun n5 =>
 ldSl H10 ⟨s4, 2, none⟩ fun q7 q7n q7c =>
 ldSl H10 ⟨s4, 3, none⟩ fun q8 q8n q8c =>
 R (.returned (.agg ⟨[(.bool b3), (.int .i64 n5), (.slice q7 q7n q7c), (.slice q8 q8n q8c)]⟩)) H10) <|
 iteB (s23 == (7 : Int)) (
 nilD s0 fun a1 =>
 ldSl H a1 fun q9 q9n q9c =>
 L1 s3 s4 s7 q9 q9n q9c ((q9n : Nat) : Int) (0 : Int) H R) <|
 ldBool H ⟨s7, 0, none⟩ fun b4 =>
 ldInt H ⟨s7, 1, none⟩ .i64 fun n6 =>
 ldSl H ⟨s7, 2, none⟩ fun q10 q10n q10c =>
 ldSl H ⟨s7, 3, none⟩ fun q11 q11n q11c =>
 st1 H ⟨s4, 0, none⟩ (.bool b4) fun H11 =>
 st1 H11 ⟨s4, 1, none⟩ (.int .i64 n6) fun H12 =>
 st1 H12 ⟨s4, 2, none⟩ (.slice q10 q10n q10c) fun H13 =>
 st1 H13 ⟨s4, 3, none⟩ (.slice q11 q11n q11c) fun H14 =>
 ldBool H14 ⟨s4, 0, none⟩ fun b5 =>
 ldInt H14 ⟨s4, 1, none⟩ .i64 fun n7 =>
 ldSl H14 ⟨s4, 2, none⟩ fun q12 q12n q12c =>
 ldSl H14 ⟨s4, 3, none⟩ fun q13 q13n q13c =>
 R (.returned (.agg ⟨[(.bool b5), (.int .i64 n7), (.slice q12 q12n q12c), (.slice q13 q13n q13c)]⟩)) H14
theorem L0_step {s0 : OA} {s3 s4 s7 : Nat} {s23 : Int} {H : Heap} {R : EH} (h : L0n s0 s3 s4 s7 s23 H R) : L0 s0 s3 s4 s7 s23 H R :=
 goL_of_den (an := an) (fuel := 100000) (X := L0n s0 s3 s4 s7 s23 H R) mixed fn (by kernel_rfl) (fun ρ0 => by kernel_rfl) h
def L1n (s3 s4 s7 : Nat) (s136 : OA) (s136n s136c : Nat) (s137 s138 : Int) (H : Heap) (R : EH) : Prop :=
 iteB (decide (s138 < s137)) (
 idxD s136 s136n s138 fun a =>
 ldInt H (Addr.add a (Int.toNat s138 * 5)) .i64 fun n =>
 ldStr H (Addr.add (Addr.add a (Int.toNat s138 * 5)) 1) fun s =>
 ldStr H (Addr.add (Addr.add a (Int.toNat s138 * 5)) 2) fun s1 =>
 ldBool H (Addr.add (Addr.add a (Int.toNat s138 * 5)) 3) fun b =>
 ldInt H (Addr.add (Addr.add a (Int.toNat s138 * 5)) 4) .i64 fun n1 =>
 newD H (.cells ⟨[(.int .i64 (0 : Int)), (.string (ByteArray.mk #[])), (.string (ByteArray.mk #[])), (.bool false), (.int .i64 (0 : Int))]⟩ 28) fun r H1 =>
 st1 H1 ⟨r, 0, none⟩ (.int .i64 n) fun H2 =>
 st1 H2 ⟨r, 1, none⟩ (.string s) fun H3 =>
 st1 H3 ⟨r, 2, none⟩ (.string s1) fun H4 =>
 st1 H4 ⟨r, 3, none⟩ (.bool b) fun H5 =>
 st1 H5 ⟨r, 4, none⟩ (.int .i64 n1) fun H6 =>
 ldInt H6 ⟨r, 0, none⟩ .i64 fun n2 =>
 ldStr H6 ⟨r, 1, none⟩ fun s2 =>
 ldStr H6 ⟨r, 2, none⟩ fun s5 =>
 ldBool H6 ⟨r, 3, none⟩ fun b1 =>
 ldInt H6 ⟨r, 4, none⟩ .i64 fun n3 =>
 ldSl H6 ⟨s3, 9, none⟩ fun q qn qc =>
 callD Tryz.prog 28 [(.agg ⟨[(.int .i64 n2), (.string s2), (.string s5), (.bool b1), (.int .i64 n3)]⟩), (.slice q qn qc)] H6 (panK R) fun v H7 =>
 tSl v fun q1 q1n q1c =>
 iteB (decide (((q1n : Nat) : Int) > (0 : Int))) (
 callD Tryz.prog 29 [(.slice q1 q1n q1c)] H7 (panK R) fun v1 H8 =>
 tAgg v1 fun l =>
 tCons l fun c l1 =>
 tInt c .i64 fun n4 =>
 tCons l1 fun c1 l2 =>
 tSl c1 fun q2 q2n q2c =>
 tCons l2 fun c2 l3 =>
 tInt c2 .i64 fun n5 =>
 tCons l3 fun c3 l4 =>
 tInt c3 .i64 fun n6 =>
 tNil l4 <|
 newD H8 (.cells ⟨[(.int .i64 (0 : Int)), (.slice none 0 0), (.int .i64 (0 : Int)), (.int .i64 (0 : Int))]⟩ 39) fun r1 H9 =>
 st1 H9 ⟨r1, 0, none⟩ (.int .i64 n4) fun H10 =>
 st1 H10 ⟨r1, 1, none⟩ (.slice q2 q2n q2c) fun H11 =>
 st1 H11 ⟨r1, 2, none⟩ (.int .i64 n5) fun H12 =>
 st1 H12 ⟨r1, 3, none⟩ (.int .i64 n6) fun H13 =>
 ldInt H13 ⟨r, 0, none⟩ .i64 fun n7 =>
 st1 H13 ⟨r1, 0, none⟩ (.int .i64 n7) fun H14 =>
 ldSl H14 ⟨s7, 3, none⟩ fun q3 q3n q3c =>
 ldInt H14 ⟨r1, 0, none⟩ .i64 fun n8 =>
 ldSl H14 ⟨r1, 1, none⟩ fun q4 q4n q4c =>
 ldInt H14 ⟨r1, 2, none⟩ .i64 fun n9 =>
 ldInt H14 ⟨r1, 3, none⟩ .i64 fun n10 =>
 newD H14 (.cells ⟨[(.int .i64 n8), (.slice q4 q4n q4c), (.int .i64 n9), (.int .i64 n10)]⟩ 39) fun r2 H15 =>
 apD H15 4 48 [(.int .i64 (0 : Int)), (.slice none 0 0), (.int .i64 (0 : Int)), (.int .i64 (0 : Int))] 39 q3 q3n q3c (some ⟨r2, 0, none⟩) 1 fun q5 q5n q5c H16 =>
 st1 H16 ⟨s7, 3, none⟩ (.slice q5 q5n q5c) fun H17 =>
 L2 s3 s4 s7 s136 s136n s136c s137 s138 H17 R) <|
 L2 s3 s4 s7 s136 s136n s136c s137 s138 H7 R) <|
 ldBool H ⟨s7, 0, none⟩ fun b2 =>
 ldInt H ⟨s7, 1, none⟩ .i64 fun n11 =>
 ldSl H ⟨s7, 2, none⟩ fun q6 q6n q6c =>
 ldSl H ⟨s7, 3, none⟩ fun q7 q7n q7c =>
 st1 H ⟨s4, 0, none⟩ (.bool b2) fun H18 =>
 st1 H18 ⟨s4, 1, none⟩ (.int .i64 n11) fun H19 =>
 st1 H19 ⟨s4, 2, none⟩ (.slice q6 q6n q6c) fun H20 =>
 st1 H20 ⟨s4, 3, none⟩ (.slice q7 q7n q7c) fun H21 =>
 ldBool H21 ⟨s4, 0, none⟩ fun b3 =>
 ldInt H21 ⟨s4, 1, none⟩ .i64 fun n12 =>
 ldSl H21 ⟨s4, 2, none⟩ fun q8 q8n q8c =>
 ldSl H21 ⟨s4, 3, none⟩ fun q9 q9n q9c =>
 R (.returned (.agg ⟨[(.bool b3), (.int .i64 n12), (.slice q8 q8n q8c), (.slice q9 q9n q9c)]⟩)) H21
theorem L1_step {s3 s4 s7 : Nat} {s136 : OA} {s136n s136c : Nat} {s137 s138 : Int} {H : Heap} {R : EH} (h : L1n s3 s4 s7 s136 s136n s136c s137 s138 H R) : L1 s3 s4 s7 s136 s136n s136c s137 s138 H R :=
 goL_of_den (an := an) (fuel := 100000) (X := L1n s3 s4 s7 s136 s136n s136c s137 s138 H R) mixed fn (by kernel_rfl) (fun ρ0 => by kernel_rfl) h
def L2n (s3 s4 s7 : Nat) (s136 : OA) (s136n s136c : Nat) (s137 s138 : Int) (H : Heap) (R : EH) : Prop :=
 L1 s3 s4 s7 s136 s136n s136c s137 (IntKind.wrap .i64 (s138 + (1 : Int))) H R
theorem L2_step {s3 s4 s7 : Nat} {s136 : OA} {s136n s136c : Nat} {s137 s138 : Int} {H : Heap} {R : EH} (h : L2n s3 s4 s7 s136 s136n s136c s137 s138 H R) : L2 s3 s4 s7 s136 s136n s136c s137 s138 H R :=
 goL_of_den (an := an) (fuel := 100000) (X := L2n s3 s4 s7 s136 s136n s136c s137 s138 H R) mixed fn (by kernel_rfl) (fun ρ0 => by kernel_rfl) h
def L3n (s0 : OA) (s3 s4 s7 : Nat) (H : Heap) (R : EH) : Prop :=
 nilD s0 fun a =>
 ldSl H a fun q qn qc =>
 L4 s3 s4 s7 q qn qc ((qn : Nat) : Int) (0 : Int) H R
theorem L3_step {s0 : OA} {s3 s4 s7 : Nat} {H : Heap} {R : EH} (h : L3n s0 s3 s4 s7 H R) : L3 s0 s3 s4 s7 H R :=
 goL_of_den (an := an) (fuel := 100000) (X := L3n s0 s3 s4 s7 H R) mixed fn (by kernel_rfl) (fun ρ0 => by kernel_rfl) h
def L4n (s3 s4 s7 : Nat) (s89 : OA) (s89n s89c : Nat) (s90 s91 : Int) (H : Heap) (R : EH) : Prop :=
 iteB (decide (s91 < s90)) (
 idxD s89 s89n s91 fun a =>
 ldInt H (Addr.add a (Int.toNat s91 * 5)) .i64 fun n =>
 ldStr H (Addr.add (Addr.add a (Int.toNat s91 * 5)) 1) fun s =>
 ldStr H (Addr.add (Addr.add a (Int.toNat s91 * 5)) 2) fun s1 =>
 ldBool H (Addr.add (Addr.add a (Int.toNat s91 * 5)) 3) fun b =>
 ldInt H (Addr.add (Addr.add a (Int.toNat s91 * 5)) 4) .i64 fun n1 =>
 newD H (.cells ⟨[(.int .i64 (0 : Int)), (.string (ByteArray.mk #[])), (.string (ByteArray.mk #[])), (.bool false), (.int .i64 (0 : Int))]⟩ 28) fun r H1 =>
 st1 H1 ⟨r, 0, none⟩ (.int .i64 n) fun H2 =>
 st1 H2 ⟨r, 1, none⟩ (.string s) fun H3 =>
 st1 H3 ⟨r, 2, none⟩ (.string s1) fun H4 =>
 st1 H4 ⟨r, 3, none⟩ (.bool b) fun H5 =>
 st1 H5 ⟨r, 4, none⟩ (.int .i64 n1) fun H6 =>
 ldInt H6 ⟨r, 0, none⟩ .i64 fun n2 =>
 ldStr H6 ⟨r, 1, none⟩ fun s2 =>
 ldStr H6 ⟨r, 2, none⟩ fun s5 =>
 ldBool H6 ⟨r, 3, none⟩ fun b1 =>
 ldInt H6 ⟨r, 4, none⟩ .i64 fun n3 =>
 ldStr H6 ⟨s3, 6, none⟩ fun s6 =>
 callD Tryz.prog 26 [(.agg ⟨[(.int .i64 n2), (.string s2), (.string s5), (.bool b1), (.int .i64 n3)]⟩), (.string s6)] H6 (panK R) fun v H7 =>
 tBool v fun b2 =>
 iteB b2 (
 ldSl H7 ⟨s7, 2, none⟩ fun q qn qc =>
 ldInt H7 ⟨r, 0, none⟩ .i64 fun n4 =>
 newD H7 (.cells ⟨[(.int .i64 n4)]⟩ 2) fun r1 H8 =>
 apD H8 1 8 [(.int .i64 (0 : Int))] 2 q qn qc (some ⟨r1, 0, none⟩) 1 fun q1 q1n q1c H9 =>
 st1 H9 ⟨s7, 2, none⟩ (.slice q1 q1n q1c) fun H10 =>
 L5 s3 s4 s7 s89 s89n s89c s90 s91 H10 R) <|
 L5 s3 s4 s7 s89 s89n s89c s90 s91 H7 R) <|
 ldInt H ⟨s3, 0, none⟩ .i64 fun n5 =>
 iteB (n5 == (3 : Int)) (
 ldSl H ⟨s7, 2, none⟩ fun q2 q2n q2c =>
 st1 H ⟨s4, 0, none⟩ (.bool (decide (((q2n : Nat) : Int) > (0 : Int)))) fun H11 =>
 st1 H11 ⟨s4, 1, none⟩ (.int .i64 (0 : Int)) fun H12 =>
 st1 H12 ⟨s4, 2, none⟩ (.slice none 0 0) fun H13 =>
 st1 H13 ⟨s4, 3, none⟩ (.slice none 0 0) fun H14 =>
 ldBool H14 ⟨s4, 0, none⟩ fun b3 =>
 ldInt H14 ⟨s4, 1, none⟩ .i64 fun n6 =>
 ldSl H14 ⟨s4, 2, none⟩ fun q3 q3n q3c =>
 ldSl H14 ⟨s4, 3, none⟩ fun q4 q4n q4c =>
 R (.returned (.agg ⟨[(.bool b3), (.int .i64 n6), (.slice q3 q3n q3c), (.slice q4 q4n q4c)]⟩)) H14) <|
 ldBool H ⟨s7, 0, none⟩ fun b4 =>
 ldInt H ⟨s7, 1, none⟩ .i64 fun n7 =>
 ldSl H ⟨s7, 2, none⟩ fun q5 q5n q5c =>
 ldSl H ⟨s7, 3, none⟩ fun q6 q6n q6c =>
 st1 H ⟨s4, 0, none⟩ (.bool b4) fun H15 =>
 st1 H15 ⟨s4, 1, none⟩ (.int .i64 n7) fun H16 =>
 st1 H16 ⟨s4, 2, none⟩ (.slice q5 q5n q5c) fun H17 =>
 st1 H17 ⟨s4, 3, none⟩ (.slice q6 q6n q6c) fun H18 =>
 ldBool H18 ⟨s4, 0, none⟩ fun b5 =>
 ldInt H18 ⟨s4, 1, none⟩ .i64 fun n8 =>
 ldSl H18 ⟨s4, 2, none⟩ fun q7 q7n q7c =>
 ldSl H18 ⟨s4, 3, none⟩ fun q8 q8n q8c =>
 R (.returned (.agg ⟨[(.bool b5), (.int .i64 n8), (.slice q7 q7n q7c), (.slice q8 q8n q8c)]⟩)) H18
theorem L4_step {s3 s4 s7 : Nat} {s89 : OA} {s89n s89c : Nat} {s90 s91 : Int} {H : Heap} {R : EH} (h : L4n s3 s4 s7 s89 s89n s89c s90 s91 H R) : L4 s3 s4 s7 s89 s89n s89c s90 s91 H R :=
 goL_of_den (an := an) (fuel := 100000) (X := L4n s3 s4 s7 s89 s89n s89c s90 s91 H R) mixed fn (by kernel_rfl) (fun ρ0 => by kernel_rfl) h
def L5n (s3 s4 s7 : Nat) (s89 : OA) (s89n s89c : Nat) (s90 s91 : Int) (H : Heap) (R : EH) : Prop :=
 L4 s3 s4 s7 s89 s89n s89c s90 (IntKind.wrap .i64 (s91 + (1 : Int))) H R
theorem L5_step {s3 s4 s7 : Nat} {s89 : OA} {s89n s89c : Nat} {s90 s91 : Int} {H : Heap} {R : EH} (h : L5n s3 s4 s7 s89 s89n s89c s90 s91 H R) : L5 s3 s4 s7 s89 s89n s89c s90 s91 H R :=
 goL_of_den (an := an) (fuel := 100000) (X := L5n s3 s4 s7 s89 s89n s89c s90 s91 H R) mixed fn (by kernel_rfl) (fun ρ0 => by kernel_rfl) h
def L6n (s0 : OA) (s3 s4 : Nat) (s5 : Int) (s7 : Nat) (H : Heap) (R : EH) : Prop :=
 (
 nilD s0 fun a =>
 nilD s0 fun a1 =>
 ldSl H a fun q qn qc =>
 bndD s5 qc fun k =>
 ldInt H ⟨s3, 1, none⟩ .i64 fun n =>
 ldStr H ⟨s3, 2, none⟩ fun s =>
 ldStr H ⟨s3, 3, none⟩ fun s1 =>
 ldBool H ⟨s3, 4, none⟩ fun b =>
 ldInt H ⟨s3, 5, none⟩ .i64 fun n1 =>
 ldSl H a1 fun q1 q1n q1c =>
 bndD s5 q1n fun k1 =>
 newD H (.cells ⟨[]⟩ 28) fun r H1 =>
 newD H1 (.cells ⟨[(.int .i64 n), (.string s), (.string s1), (.bool b), (.int .i64 n1)]⟩ 28) fun r1 H2 =>
 apD H2 5 56 [(.int .i64 (0 : Int)), (.string (ByteArray.mk #[])), (.string (ByteArray.mk #[])), (.bool false), (.int .i64 (0 : Int))] 28 (some ⟨r, 0, none⟩) 0 0 (slP q 0 qc 5) k fun q2 q2n q2c H3 =>
 apD H3 5 56 [(.int .i64 (0 : Int)), (.string (ByteArray.mk #[])), (.string (ByteArray.mk #[])), (.bool false), (.int .i64 (0 : Int))] 28 q2 q2n q2c (some ⟨r1, 0, none⟩) 1 fun q3 q3n q3c H4 =>
 apD H4 5 56 [(.int .i64 (0 : Int)), (.string (ByteArray.mk #[])), (.string (ByteArray.mk #[])), (.bool false), (.int .i64 (0 : Int))] 28 q3 q3n q3c (slP q1 k1 q1c 5) (q1n - k1) fun q4 q4n q4c H5 =>
 nilD s0 fun a2 =>
 st1 H5 a2 (.slice q4 q4n q4c) fun H6 =>
 st1 H6 ⟨s7, 0, none⟩ (.bool true) fun H7 =>
 ldBool H7 ⟨s7, 0, none⟩ fun b1 =>
 ldInt H7 ⟨s7, 1, none⟩ .i64 fun n2 =>
 ldSl H7 ⟨s7, 2, none⟩ fun q5 q5n q5c =>
 ldSl H7 ⟨s7, 3, none⟩ fun q6 q6n q6c =>
 st1 H7 ⟨s4, 0, none⟩ (.bool b1) fun H8 =>
 st1 H8 ⟨s4, 1, none⟩ (.int .i64 n2) fun H9 =>
 st1 H9 ⟨s4, 2, none⟩ (.slice q5 q5n q5c) fun H10 =>
 st1 H10 ⟨s4, 3, none⟩ (.slice q6 q6n q6c) fun H11 =>
 ldBool H11 ⟨s4, 0, none⟩ fun b2 =>
 ldInt H11 ⟨s4, 1, none⟩ .i64 fun n3 =>
 ldSl H11 ⟨s4, 2, none⟩ fun q7 q7n q7c =>
 ldSl H11 ⟨s4, 3, none⟩ fun q8 q8n q8c =>
 R (.returned (.agg ⟨[(.bool b2), (.int .i64 n3), (.slice q7 q7n q7c), (.slice q8 q8n q8c)]⟩)) H11) ∧
 (
 nilD s0 fun a3 =>
 nilD s0 fun a4 =>
 ldSl H a3 fun q9 q9n q9c =>
 bndD s5 q9c fun k2 =>
 ldInt H ⟨s3, 1, none⟩ .i64 fun n4 =>
 ldStr H ⟨s3, 2, none⟩ fun s2 =>
 ldStr H ⟨s3, 3, none⟩ fun s6 =>
 ldBool H ⟨s3, 4, none⟩ fun b3 =>
 ldInt H ⟨s3, 5, none⟩ .i64 fun n5 =>
 ldSl H a4 fun q10 q10n q10c =>
 bndD s5 q10n fun k3 =>
 newD H (.cells ⟨[]⟩ 28) fun r2 H12 =>
 apD H12 5 56 [(.int .i64 (0 : Int)), (.string (ByteArray.mk #[])), (.string (ByteArray.mk #[])), (.bool false), (.int .i64 (0 : Int))] 28 (some ⟨r2, 0, none⟩) 0 0 (slP q9 0 q9c 5) k2 fun q11 q11n q11c H13 =>
 newD H13 (.cells ⟨[(.int .i64 n4), (.string s2), (.string s6), (.bool b3), (.int .i64 n5)]⟩ 28) fun r3 H14 =>
 apD H14 5 56 [(.int .i64 (0 : Int)), (.string (ByteArray.mk #[])), (.string (ByteArray.mk #[])), (.bool false), (.int .i64 (0 : Int))] 28 q11 q11n q11c (some ⟨r3, 0, none⟩) 1 fun q12 q12n q12c H15 =>
 apD H15 5 56 [(.int .i64 (0 : Int)), (.string (ByteArray.mk #[])), (.string (ByteArray.mk #[])), (.bool false), (.int .i64 (0 : Int))] 28 q12 q12n q12c (slP q10 k3 q10c 5) (q10n - k3) fun q13 q13n q13c H16 =>
 nilD s0 fun a5 =>
 st1 H16 a5 (.slice q13 q13n q13c) fun H17 =>
 st1 H17 ⟨s7, 0, none⟩ (.bool true) fun H18 =>
 ldBool H18 ⟨s7, 0, none⟩ fun b4 =>
 ldInt H18 ⟨s7, 1, none⟩ .i64 fun n6 =>
 ldSl H18 ⟨s7, 2, none⟩ fun q14 q14n q14c =>
 ldSl H18 ⟨s7, 3, none⟩ fun q15 q15n q15c =>
 st1 H18 ⟨s4, 0, none⟩ (.bool b4) fun H19 =>
 st1 H19 ⟨s4, 1, none⟩ (.int .i64 n6) fun H20 =>
 st1 H20 ⟨s4, 2, none⟩ (.slice q14 q14n q14c) fun H21 =>
 st1 H21 ⟨s4, 3, none⟩ (.slice q15 q15n q15c) fun H22 =>
 ldBool H22 ⟨s4, 0, none⟩ fun b5 =>
 ldInt H22 ⟨s4, 1, none⟩ .i64 fun n7 =>
 ldSl H22 ⟨s4, 2, none⟩ fun q16 q16n q16c =>
 ldSl H22 ⟨s4, 3, none⟩ fun q17 q17n q17c =>
 R (.returned (.agg ⟨[(.bool b5), (.int .i64 n7), (.slice q16 q16n q16c), (.slice q17 q17n q17c)]⟩)) H22) ∧
 (
 nilD s0 fun a6 =>
 nilD s0 fun a7 =>
 ldSl H a6 fun q18 q18n q18c =>
 bndD s5 q18c fun k4 =>
 ldInt H ⟨s3, 1, none⟩ .i64 fun n8 =>
 ldStr H ⟨s3, 2, none⟩ fun s8 =>
 ldStr H ⟨s3, 3, none⟩ fun s9 =>
 ldBool H ⟨s3, 4, none⟩ fun b6 =>
 ldInt H ⟨s3, 5, none⟩ .i64 fun n9 =>
 ldSl H a7 fun q19 q19n q19c =>
 bndD s5 q19n fun k5 =>
 newD H (.cells ⟨[(.int .i64 n8), (.string s8), (.string s9), (.bool b6), (.int .i64 n9)]⟩ 28) fun r4 H23 =>
 newD H23 (.cells ⟨[]⟩ 28) fun r5 H24 =>
 apD H24 5 56 [(.int .i64 (0 : Int)), (.string (ByteArray.mk #[])), (.string (ByteArray.mk #[])), (.bool false), (.int .i64 (0 : Int))] 28 (some ⟨r5, 0, none⟩) 0 0 (slP q18 0 q18c 5) k4 fun q20 q20n q20c H25 =>
 apD H25 5 56 [(.int .i64 (0 : Int)), (.string (ByteArray.mk #[])), (.string (ByteArray.mk #[])), (.bool false), (.int .i64 (0 : Int))] 28 q20 q20n q20c (some ⟨r4, 0, none⟩) 1 fun q21 q21n q21c H26 =>
 apD H26 5 56 [(.int .i64 (0 : Int)), (.string (ByteArray.mk #[])), (.string (ByteArray.mk #[])), (.bool false), (.int .i64 (0 : Int))] 28 q21 q21n q21c (slP q19 k5 q19c 5) (q19n - k5) fun q22 q22n q22c H27 =>
 nilD s0 fun a8 =>
 st1 H27 a8 (.slice q22 q22n q22c) fun H28 =>
 st1 H28 ⟨s7, 0, none⟩ (.bool true) fun H29 =>
 ldBool H29 ⟨s7, 0, none⟩ fun b7 =>
 ldInt H29 ⟨s7, 1, none⟩ .i64 fun n10 =>
 ldSl H29 ⟨s7, 2, none⟩ fun q23 q23n q23c =>
 ldSl H29 ⟨s7, 3, none⟩ fun q24 q24n q24c =>
 st1 H29 ⟨s4, 0, none⟩ (.bool b7) fun H30 =>
 st1 H30 ⟨s4, 1, none⟩ (.int .i64 n10) fun H31 =>
 st1 H31 ⟨s4, 2, none⟩ (.slice q23 q23n q23c) fun H32 =>
 st1 H32 ⟨s4, 3, none⟩ (.slice q24 q24n q24c) fun H33 =>
 ldBool H33 ⟨s4, 0, none⟩ fun b8 =>
 ldInt H33 ⟨s4, 1, none⟩ .i64 fun n11 =>
 ldSl H33 ⟨s4, 2, none⟩ fun q25 q25n q25c =>
 ldSl H33 ⟨s4, 3, none⟩ fun q26 q26n q26c =>
 R (.returned (.agg ⟨[(.bool b8), (.int .i64 n11), (.slice q25 q25n q25c), (.slice q26 q26n q26c)]⟩)) H33) ∧
 (
 nilD s0 fun a9 =>
 nilD s0 fun a10 =>
 ldSl H a9 fun q27 q27n q27c =>
 bndD s5 q27c fun k6 =>
 ldInt H ⟨s3, 1, none⟩ .i64 fun n12 =>
 ldStr H ⟨s3, 2, none⟩ fun s10 =>
 ldStr H ⟨s3, 3, none⟩ fun s11 =>
 ldBool H ⟨s3, 4, none⟩ fun b9 =>
 ldInt H ⟨s3, 5, none⟩ .i64 fun n13 =>
 newD H (.cells ⟨[]⟩ 28) fun r6 H34 =>
 newD H34 (.cells ⟨[(.int .i64 n12), (.string s10), (.string s11), (.bool b9), (.int .i64 n13)]⟩ 28) fun r7 H35 =>
 apD H35 5 56 [(.int .i64 (0 : Int)), (.string (ByteArray.mk #[])), (.string (ByteArray.mk #[])), (.bool false), (.int .i64 (0 : Int))] 28 (some ⟨r6, 0, none⟩) 0 0 (slP q27 0 q27c 5) k6 fun q28 q28n q28c H36 =>
 ldSl H36 a10 fun q29 q29n q29c =>
 bndD s5 q29n fun k7 =>
 apD H36 5 56 [(.int .i64 (0 : Int)), (.string (ByteArray.mk #[])), (.string (ByteArray.mk #[])), (.bool false), (.int .i64 (0 : Int))] 28 q28 q28n q28c (some ⟨r7, 0, none⟩) 1 fun q30 q30n q30c H37 =>
 apD H37 5 56 [(.int .i64 (0 : Int)), (.string (ByteArray.mk #[])), (.string (ByteArray.mk #[])), (.bool false), (.int .i64 (0 : Int))] 28 q30 q30n q30c (slP q29 k7 q29c 5) (q29n - k7) fun q31 q31n q31c H38 =>
 nilD s0 fun a11 =>
 st1 H38 a11 (.slice q31 q31n q31c) fun H39 =>
 st1 H39 ⟨s7, 0, none⟩ (.bool true) fun H40 =>
 ldBool H40 ⟨s7, 0, none⟩ fun b10 =>
 ldInt H40 ⟨s7, 1, none⟩ .i64 fun n14 =>
 ldSl H40 ⟨s7, 2, none⟩ fun q32 q32n q32c =>
 ldSl H40 ⟨s7, 3, none⟩ fun q33 q33n q33c =>
 st1 H40 ⟨s4, 0, none⟩ (.bool b10) fun H41 =>
 st1 H41 ⟨s4, 1, none⟩ (.int .i64 n14) fun H42 =>
 st1 H42 ⟨s4, 2, none⟩ (.slice q32 q32n q32c) fun H43 =>
 st1 H43 ⟨s4, 3, none⟩ (.slice q33 q33n q33c) fun H44 =>
 ldBool H44 ⟨s4, 0, none⟩ fun b11 =>
 ldInt H44 ⟨s4, 1, none⟩ .i64 fun n15 =>
 ldSl H44 ⟨s4, 2, none⟩ fun q34 q34n q34c =>
 ldSl H44 ⟨s4, 3, none⟩ fun q35 q35n q35c =>
 R (.returned (.agg ⟨[(.bool b11), (.int .i64 n15), (.slice q34 q34n q34c), (.slice q35 q35n q35c)]⟩)) H44) ∧
 (
 nilD s0 fun a12 =>
 nilD s0 fun a13 =>
 ldSl H a12 fun q36 q36n q36c =>
 bndD s5 q36c fun k8 =>
 ldInt H ⟨s3, 1, none⟩ .i64 fun n16 =>
 ldStr H ⟨s3, 2, none⟩ fun s12 =>
 ldStr H ⟨s3, 3, none⟩ fun s13 =>
 ldBool H ⟨s3, 4, none⟩ fun b12 =>
 ldInt H ⟨s3, 5, none⟩ .i64 fun n17 =>
 newD H (.cells ⟨[]⟩ 28) fun r8 H45 =>
 apD H45 5 56 [(.int .i64 (0 : Int)), (.string (ByteArray.mk #[])), (.string (ByteArray.mk #[])), (.bool false), (.int .i64 (0 : Int))] 28 (some ⟨r8, 0, none⟩) 0 0 (slP q36 0 q36c 5) k8 fun q37 q37n q37c H46 =>
 ldSl H46 a13 fun q38 q38n q38c =>
 bndD s5 q38n fun k9 =>
 newD H46 (.cells ⟨[(.int .i64 n16), (.string s12), (.string s13), (.bool b12), (.int .i64 n17)]⟩ 28) fun r9 H47 =>
 apD H47 5 56 [(.int .i64 (0 : Int)), (.string (ByteArray.mk #[])), (.string (ByteArray.mk #[])), (.bool false), (.int .i64 (0 : Int))] 28 q37 q37n q37c (some ⟨r9, 0, none⟩) 1 fun q39 q39n q39c H48 =>
 apD H48 5 56 [(.int .i64 (0 : Int)), (.string (ByteArray.mk #[])), (.string (ByteArray.mk #[])), (.bool false), (.int .i64 (0 : Int))] 28 q39 q39n q39c (slP q38 k9 q38c 5) (q38n - k9) fun q40 q40n q40c H49 =>
 nilD s0 fun a14 =>
 st1 H49 a14 (.slice q40 q40n q40c) fun H50 =>
 st1 H50 ⟨s7, 0, none⟩ (.bool true) fun H51 =>
 ldBool H51 ⟨s7, 0, none⟩ fun b13 =>
 ldInt H51 ⟨s7, 1, none⟩ .i64 fun n18 =>
 ldSl H51 ⟨s7, 2, none⟩ fun q41 q41n q41c =>
 ldSl H51 ⟨s7, 3, none⟩ fun q42 q42n q42c =>
 st1 H51 ⟨s4, 0, none⟩ (.bool b13) fun H52 =>
 st1 H52 ⟨s4, 1, none⟩ (.int .i64 n18) fun H53 =>
 st1 H53 ⟨s4, 2, none⟩ (.slice q41 q41n q41c) fun H54 =>
 st1 H54 ⟨s4, 3, none⟩ (.slice q42 q42n q42c) fun H55 =>
 ldBool H55 ⟨s4, 0, none⟩ fun b14 =>
 ldInt H55 ⟨s4, 1, none⟩ .i64 fun n19 =>
 ldSl H55 ⟨s4, 2, none⟩ fun q43 q43n q43c =>
 ldSl H55 ⟨s4, 3, none⟩ fun q44 q44n q44c =>
 R (.returned (.agg ⟨[(.bool b14), (.int .i64 n19), (.slice q43 q43n q43c), (.slice q44 q44n q44c)]⟩)) H55) ∧
 (
 nilD s0 fun a15 =>
 nilD s0 fun a16 =>
 ldSl H a15 fun q45 q45n q45c =>
 bndD s5 q45c fun k10 =>
 ldInt H ⟨s3, 1, none⟩ .i64 fun n20 =>
 ldStr H ⟨s3, 2, none⟩ fun s14 =>
 ldStr H ⟨s3, 3, none⟩ fun s15 =>
 ldBool H ⟨s3, 4, none⟩ fun b15 =>
 ldInt H ⟨s3, 5, none⟩ .i64 fun n21 =>
 newD H (.cells ⟨[(.int .i64 n20), (.string s14), (.string s15), (.bool b15), (.int .i64 n21)]⟩ 28) fun r10 H56 =>
 newD H56 (.cells ⟨[]⟩ 28) fun r11 H57 =>
 apD H57 5 56 [(.int .i64 (0 : Int)), (.string (ByteArray.mk #[])), (.string (ByteArray.mk #[])), (.bool false), (.int .i64 (0 : Int))] 28 (some ⟨r11, 0, none⟩) 0 0 (slP q45 0 q45c 5) k10 fun q46 q46n q46c H58 =>
 ldSl H58 a16 fun q47 q47n q47c =>
 bndD s5 q47n fun k11 =>
 apD H58 5 56 [(.int .i64 (0 : Int)), (.string (ByteArray.mk #[])), (.string (ByteArray.mk #[])), (.bool false), (.int .i64 (0 : Int))] 28 q46 q46n q46c (some ⟨r10, 0, none⟩) 1 fun q48 q48n q48c H59 =>
 apD H59 5 56 [(.int .i64 (0 : Int)), (.string (ByteArray.mk #[])), (.string (ByteArray.mk #[])), (.bool false), (.int .i64 (0 : Int))] 28 q48 q48n q48c (slP q47 k11 q47c 5) (q47n - k11) fun q49 q49n q49c H60 =>
 nilD s0 fun a17 =>
 st1 H60 a17 (.slice q49 q49n q49c) fun H61 =>
 st1 H61 ⟨s7, 0, none⟩ (.bool true) fun H62 =>
 ldBool H62 ⟨s7, 0, none⟩ fun b16 =>
 ldInt H62 ⟨s7, 1, none⟩ .i64 fun n22 =>
 ldSl H62 ⟨s7, 2, none⟩ fun q50 q50n q50c =>
 ldSl H62 ⟨s7, 3, none⟩ fun q51 q51n q51c =>
 st1 H62 ⟨s4, 0, none⟩ (.bool b16) fun H63 =>
 st1 H63 ⟨s4, 1, none⟩ (.int .i64 n22) fun H64 =>
 st1 H64 ⟨s4, 2, none⟩ (.slice q50 q50n q50c) fun H65 =>
 st1 H65 ⟨s4, 3, none⟩ (.slice q51 q51n q51c) fun H66 =>
 ldBool H66 ⟨s4, 0, none⟩ fun b17 =>
 ldInt H66 ⟨s4, 1, none⟩ .i64 fun n23 =>
 ldSl H66 ⟨s4, 2, none⟩ fun q52 q52n q52c =>
 ldSl H66 ⟨s4, 3, none⟩ fun q53 q53n q53c =>
 R (.returned (.agg ⟨[(.bool b17), (.int .i64 n23), (.slice q52 q52n q52c), (.slice q53 q53n q53c)]⟩)) H66) ∧
 (
 nilD s0 fun a18 =>
 nilD s0 fun a19 =>
 ldSl H a18 fun q54 q54n q54c =>
 bndD s5 q54c fun k12 =>
 ldInt H ⟨s3, 1, none⟩ .i64 fun n24 =>
 ldStr H ⟨s3, 2, none⟩ fun s16 =>
 ldStr H ⟨s3, 3, none⟩ fun s17 =>
 ldBool H ⟨s3, 4, none⟩ fun b18 =>
 ldInt H ⟨s3, 5, none⟩ .i64 fun n25 =>
 newD H (.cells ⟨[]⟩ 28) fun r12 H67 =>
 newD H67 (.cells ⟨[(.int .i64 n24), (.string s16), (.string s17), (.bool b18), (.int .i64 n25)]⟩ 28) fun r13 H68 =>
 apD H68 5 56 [(.int .i64 (0 : Int)), (.string (ByteArray.mk #[])), (.string (ByteArray.mk #[])), (.bool false), (.int .i64 (0 : Int))] 28 (some ⟨r12, 0, none⟩) 0 0 (slP q54 0 q54c 5) k12 fun q55 q55n q55c H69 =>
 apD H69 5 56 [(.int .i64 (0 : Int)), (.string (ByteArray.mk #[])), (.string (ByteArray.mk #[])), (.bool false), (.int .i64 (0 : Int))] 28 q55 q55n q55c (some ⟨r13, 0, none⟩) 1 fun q56 q56n q56c H70 =>
 ldSl H70 a19 fun q57 q57n q57c =>
 bndD s5 q57n fun k13 =>
 apD H70 5 56 [(.int .i64 (0 : Int)), (.string (ByteArray.mk #[])), (.string (ByteArray.mk #[])), (.bool false), (.int .i64 (0 : Int))] 28 q56 q56n q56c (slP q57 k13 q57c 5) (q57n - k13) fun q58 q58n q58c H71 =>
 nilD s0 fun a20 =>
 st1 H71 a20 (.slice q58 q58n q58c) fun H72 =>
 st1 H72 ⟨s7, 0, none⟩ (.bool true) fun H73 =>
 ldBool H73 ⟨s7, 0, none⟩ fun b19 =>
 ldInt H73 ⟨s7, 1, none⟩ .i64 fun n26 =>
 ldSl H73 ⟨s7, 2, none⟩ fun q59 q59n q59c =>
 ldSl H73 ⟨s7, 3, none⟩ fun q60 q60n q60c =>
 st1 H73 ⟨s4, 0, none⟩ (.bool b19) fun H74 =>
 st1 H74 ⟨s4, 1, none⟩ (.int .i64 n26) fun H75 =>
 st1 H75 ⟨s4, 2, none⟩ (.slice q59 q59n q59c) fun H76 =>
 st1 H76 ⟨s4, 3, none⟩ (.slice q60 q60n q60c) fun H77 =>
 ldBool H77 ⟨s4, 0, none⟩ fun b20 =>
 ldInt H77 ⟨s4, 1, none⟩ .i64 fun n27 =>
 ldSl H77 ⟨s4, 2, none⟩ fun q61 q61n q61c =>
 ldSl H77 ⟨s4, 3, none⟩ fun q62 q62n q62c =>
 R (.returned (.agg ⟨[(.bool b20), (.int .i64 n27), (.slice q61 q61n q61c), (.slice q62 q62n q62c)]⟩)) H77) ∧
 (
 nilD s0 fun a21 =>
 nilD s0 fun a22 =>
 ldSl H a21 fun q63 q63n q63c =>
 bndD s5 q63c fun k14 =>
 ldInt H ⟨s3, 1, none⟩ .i64 fun n28 =>
 ldStr H ⟨s3, 2, none⟩ fun s18 =>
 ldStr H ⟨s3, 3, none⟩ fun s19 =>
 ldBool H ⟨s3, 4, none⟩ fun b21 =>
 ldInt H ⟨s3, 5, none⟩ .i64 fun n29 =>
 newD H (.cells ⟨[]⟩ 28) fun r14 H78 =>
 apD H78 5 56 [(.int .i64 (0 : Int)), (.string (ByteArray.mk #[])), (.string (ByteArray.mk #[])), (.bool false), (.int .i64 (0 : Int))] 28 (some ⟨r14, 0, none⟩) 0 0 (slP q63 0 q63c 5) k14 fun q64 q64n q64c H79 =>
 newD H79 (.cells ⟨[(.int .i64 n28), (.string s18), (.string s19), (.bool b21), (.int .i64 n29)]⟩ 28) fun r15 H80 =>
 apD H80 5 56 [(.int .i64 (0 : Int)), (.string (ByteArray.mk #[])), (.string (ByteArray.mk #[])), (.bool false), (.int .i64 (0 : Int))] 28 q64 q64n q64c (some ⟨r15, 0, none⟩) 1 fun q65 q65n q65c H81 =>
 ldSl H81 a22 fun q66 q66n q66c =>
 bndD s5 q66n fun k15 =>
 apD H81 5 56 [(.int .i64 (0 : Int)), (.string (ByteArray.mk #[])), (.string (ByteArray.mk #[])), (.bool false), (.int .i64 (0 : Int))] 28 q65 q65n q65c (slP q66 k15 q66c 5) (q66n - k15) fun q67 q67n q67c H82 =>
 nilD s0 fun a23 =>
 st1 H82 a23 (.slice q67 q67n q67c) fun H83 =>
 st1 H83 ⟨s7, 0, none⟩ (.bool true) fun H84 =>
 ldBool H84 ⟨s7, 0, none⟩ fun b22 =>
 ldInt H84 ⟨s7, 1, none⟩ .i64 fun n30 =>
 ldSl H84 ⟨s7, 2, none⟩ fun q68 q68n q68c =>
 ldSl H84 ⟨s7, 3, none⟩ fun q69 q69n q69c =>
 st1 H84 ⟨s4, 0, none⟩ (.bool b22) fun H85 =>
 st1 H85 ⟨s4, 1, none⟩ (.int .i64 n30) fun H86 =>
 st1 H86 ⟨s4, 2, none⟩ (.slice q68 q68n q68c) fun H87 =>
 st1 H87 ⟨s4, 3, none⟩ (.slice q69 q69n q69c) fun H88 =>
 ldBool H88 ⟨s4, 0, none⟩ fun b23 =>
 ldInt H88 ⟨s4, 1, none⟩ .i64 fun n31 =>
 ldSl H88 ⟨s4, 2, none⟩ fun q70 q70n q70c =>
 ldSl H88 ⟨s4, 3, none⟩ fun q71 q71n q71c =>
 R (.returned (.agg ⟨[(.bool b23), (.int .i64 n31), (.slice q70 q70n q70c), (.slice q71 q71n q71c)]⟩)) H88) ∧
 (
 nilD s0 fun a24 =>
 nilD s0 fun a25 =>
 ldSl H a24 fun q72 q72n q72c =>
 bndD s5 q72c fun k16 =>
 ldInt H ⟨s3, 1, none⟩ .i64 fun n32 =>
 ldStr H ⟨s3, 2, none⟩ fun s20 =>
 ldStr H ⟨s3, 3, none⟩ fun s21 =>
 ldBool H ⟨s3, 4, none⟩ fun b24 =>
 ldInt H ⟨s3, 5, none⟩ .i64 fun n33 =>
 newD H (.cells ⟨[(.int .i64 n32), (.string s20), (.string s21), (.bool b24), (.int .i64 n33)]⟩ 28) fun r16 H89 =>
 newD H89 (.cells ⟨[]⟩ 28) fun r17 H90 =>
 apD H90 5 56 [(.int .i64 (0 : Int)), (.string (ByteArray.mk #[])), (.string (ByteArray.mk #[])), (.bool false), (.int .i64 (0 : Int))] 28 (some ⟨r17, 0, none⟩) 0 0 (slP q72 0 q72c 5) k16 fun q73 q73n q73c H91 =>
 apD H91 5 56 [(.int .i64 (0 : Int)), (.string (ByteArray.mk #[])), (.string (ByteArray.mk #[])), (.bool false), (.int .i64 (0 : Int))] 28 q73 q73n q73c (some ⟨r16, 0, none⟩) 1 fun q74 q74n q74c H92 =>
 ldSl H92 a25 fun q75 q75n q75c =>
 bndD s5 q75n fun k17 =>
 apD H92 5 56 [(.int .i64 (0 : Int)), (.string (ByteArray.mk #[])), (.string (ByteArray.mk #[])), (.bool false), (.int .i64 (0 : Int))] 28 q74 q74n q74c (slP q75 k17 q75c 5) (q75n - k17) fun q76 q76n q76c H93 =>
 nilD s0 fun a26 =>
 st1 H93 a26 (.slice q76 q76n q76c) fun H94 =>
 st1 H94 ⟨s7, 0, none⟩ (.bool true) fun H95 =>
 ldBool H95 ⟨s7, 0, none⟩ fun b25 =>
 ldInt H95 ⟨s7, 1, none⟩ .i64 fun n34 =>
 ldSl H95 ⟨s7, 2, none⟩ fun q77 q77n q77c =>
 ldSl H95 ⟨s7, 3, none⟩ fun q78 q78n q78c =>
 st1 H95 ⟨s4, 0, none⟩ (.bool b25) fun H96 =>
 st1 H96 ⟨s4, 1, none⟩ (.int .i64 n34) fun H97 =>
 st1 H97 ⟨s4, 2, none⟩ (.slice q77 q77n q77c) fun H98 =>
 st1 H98 ⟨s4, 3, none⟩ (.slice q78 q78n q78c) fun H99 =>
 ldBool H99 ⟨s4, 0, none⟩ fun b26 =>
 ldInt H99 ⟨s4, 1, none⟩ .i64 fun n35 =>
 ldSl H99 ⟨s4, 2, none⟩ fun q79 q79n q79c =>
 ldSl H99 ⟨s4, 3, none⟩ fun q80 q80n q80c =>
 R (.returned (.agg ⟨[(.bool b26), (.int .i64 n35), (.slice q79 q79n q79c), (.slice q80 q80n q80c)]⟩)) H99) ∧
 (
 nilD s0 fun a27 =>
 nilD s0 fun a28 =>
 ldSl H a27 fun q81 q81n q81c =>
 bndD s5 q81c fun k18 =>
 ldSl H a28 fun q82 q82n q82c =>
 bndD s5 q82n fun k19 =>
 newD H (.cells ⟨[]⟩ 28) fun r18 H100 =>
 apD H100 5 56 [(.int .i64 (0 : Int)), (.string (ByteArray.mk #[])), (.string (ByteArray.mk #[])), (.bool false), (.int .i64 (0 : Int))] 28 (some ⟨r18, 0, none⟩) 0 0 (slP q81 0 q81c 5) k18 fun q83 q83n q83c H101 =>
 ldInt H101 ⟨s3, 1, none⟩ .i64 fun n36 =>
 ldStr H101 ⟨s3, 2, none⟩ fun s22 =>
 ldStr H101 ⟨s3, 3, none⟩ fun s23 =>
 ldBool H101 ⟨s3, 4, none⟩ fun b27 =>
 ldInt H101 ⟨s3, 5, none⟩ .i64 fun n37 =>
 newD H101 (.cells ⟨[(.int .i64 n36), (.string s22), (.string s23), (.bool b27), (.int .i64 n37)]⟩ 28) fun r19 H102 =>
 apD H102 5 56 [(.int .i64 (0 : Int)), (.string (ByteArray.mk #[])), (.string (ByteArray.mk #[])), (.bool false), (.int .i64 (0 : Int))] 28 q83 q83n q83c (some ⟨r19, 0, none⟩) 1 fun q84 q84n q84c H103 =>
 apD H103 5 56 [(.int .i64 (0 : Int)), (.string (ByteArray.mk #[])), (.string (ByteArray.mk #[])), (.bool false), (.int .i64 (0 : Int))] 28 q84 q84n q84c (slP q82 k19 q82c 5) (q82n - k19) fun q85 q85n q85c H104 =>
 nilD s0 fun a29 =>
 st1 H104 a29 (.slice q85 q85n q85c) fun H105 =>
 st1 H105 ⟨s7, 0, none⟩ (.bool true) fun H106 =>
 ldBool H106 ⟨s7, 0, none⟩ fun b28 =>
 ldInt H106 ⟨s7, 1, none⟩ .i64 fun n38 =>
 ldSl H106 ⟨s7, 2, none⟩ fun q86 q86n q86c =>
 ldSl H106 ⟨s7, 3, none⟩ fun q87 q87n q87c =>
 st1 H106 ⟨s4, 0, none⟩ (.bool b28) fun H107 =>
 st1 H107 ⟨s4, 1, none⟩ (.int .i64 n38) fun H108 =>
 st1 H108 ⟨s4, 2, none⟩ (.slice q86 q86n q86c) fun H109 =>
 st1 H109 ⟨s4, 3, none⟩ (.slice q87 q87n q87c) fun H110 =>
 ldBool H110 ⟨s4, 0, none⟩ fun b29 =>
 ldInt H110 ⟨s4, 1, none⟩ .i64 fun n39 =>
 ldSl H110 ⟨s4, 2, none⟩ fun q88 q88n q88c =>
 ldSl H110 ⟨s4, 3, none⟩ fun q89 q89n q89c =>
 R (.returned (.agg ⟨[(.bool b29), (.int .i64 n39), (.slice q88 q88n q88c), (.slice q89 q89n q89c)]⟩)) H110) ∧
 (
 nilD s0 fun a30 =>
 nilD s0 fun a31 =>
 ldSl H a30 fun q90 q90n q90c =>
 bndD s5 q90c fun k20 =>
 newD H (.cells ⟨[]⟩ 28) fun r20 H111 =>
 apD H111 5 56 [(.int .i64 (0 : Int)), (.string (ByteArray.mk #[])), (.string (ByteArray.mk #[])), (.bool false), (.int .i64 (0 : Int))] 28 (some ⟨r20, 0, none⟩) 0 0 (slP q90 0 q90c 5) k20 fun q91 q91n q91c H112 =>
 ldInt H112 ⟨s3, 1, none⟩ .i64 fun n40 =>
 ldStr H112 ⟨s3, 2, none⟩ fun s24 =>
 ldStr H112 ⟨s3, 3, none⟩ fun s25 =>
 ldBool H112 ⟨s3, 4, none⟩ fun b30 =>
 ldInt H112 ⟨s3, 5, none⟩ .i64 fun n41 =>
 ldSl H112 a31 fun q92 q92n q92c =>
 bndD s5 q92n fun k21 =>
 newD H112 (.cells ⟨[(.int .i64 n40), (.string s24), (.string s25), (.bool b30), (.int .i64 n41)]⟩ 28) fun r21 H113 =>
 apD H113 5 56 [(.int .i64 (0 : Int)), (.string (ByteArray.mk #[])), (.string (ByteArray.mk #[])), (.bool false), (.int .i64 (0 : Int))] 28 q91 q91n q91c (some ⟨r21, 0, none⟩) 1 fun q93 q93n q93c H114 =>
 apD H114 5 56 [(.int .i64 (0 : Int)), (.string (ByteArray.mk #[])), (.string (ByteArray.mk #[])), (.bool false), (.int .i64 (0 : Int))] 28 q93 q93n q93c (slP q92 k21 q92c 5) (q92n - k21) fun q94 q94n q94c H115 =>
 nilD s0 fun a32 =>
 st1 H115 a32 (.slice q94 q94n q94c) fun H116 =>
 st1 H116 ⟨s7, 0, none⟩ (.bool true) fun H117 =>
 ldBool H117 ⟨s7, 0, none⟩ fun b31 =>
 ldInt H117 ⟨s7, 1, none⟩ .i64 fun n42 =>
 ldSl H117 ⟨s7, 2, none⟩ fun q95 q95n q95c =>
 ldSl H117 ⟨s7, 3, none⟩ fun q96 q96n q96c =>
 st1 H117 ⟨s4, 0, none⟩ (.bool b31) fun H118 =>
 st1 H118 ⟨s4, 1, none⟩ (.int .i64 n42) fun H119 =>
 st1 H119 ⟨s4, 2, none⟩ (.slice q95 q95n q95c) fun H120 =>
 st1 H120 ⟨s4, 3, none⟩ (.slice q96 q96n q96c) fun H121 =>
 ldBool H121 ⟨s4, 0, none⟩ fun b32 =>
 ldInt H121 ⟨s4, 1, none⟩ .i64 fun n43 =>
 ldSl H121 ⟨s4, 2, none⟩ fun q97 q97n q97c =>
 ldSl H121 ⟨s4, 3, none⟩ fun q98 q98n q98c =>
 R (.returned (.agg ⟨[(.bool b32), (.int .i64 n43), (.slice q97 q97n q97c), (.slice q98 q98n q98c)]⟩)) H121) ∧
 (
 nilD s0 fun a33 =>
 nilD s0 fun a34 =>
 ldSl H a33 fun q99 q99n q99c =>
 bndD s5 q99c fun k22 =>
 newD H (.cells ⟨[]⟩ 28) fun r22 H122 =>
 apD H122 5 56 [(.int .i64 (0 : Int)), (.string (ByteArray.mk #[])), (.string (ByteArray.mk #[])), (.bool false), (.int .i64 (0 : Int))] 28 (some ⟨r22, 0, none⟩) 0 0 (slP q99 0 q99c 5) k22 fun q100 q100n q100c H123 =>
 ldInt H123 ⟨s3, 1, none⟩ .i64 fun n44 =>
 ldStr H123 ⟨s3, 2, none⟩ fun s26 =>
 ldStr H123 ⟨s3, 3, none⟩ fun s27 =>
 ldBool H123 ⟨s3, 4, none⟩ fun b33 =>
 ldInt H123 ⟨s3, 5, none⟩ .i64 fun n45 =>
 newD H123 (.cells ⟨[(.int .i64 n44), (.string s26), (.string s27), (.bool b33), (.int .i64 n45)]⟩ 28) fun r23 H124 =>
 apD H124 5 56 [(.int .i64 (0 : Int)), (.string (ByteArray.mk #[])), (.string (ByteArray.mk #[])), (.bool false), (.int .i64 (0 : Int))] 28 q100 q100n q100c (some ⟨r23, 0, none⟩) 1 fun q101 q101n q101c H125 =>
 ldSl H125 a34 fun q102 q102n q102c =>
 bndD s5 q102n fun k23 =>
 apD H125 5 56 [(.int .i64 (0 : Int)), (.string (ByteArray.mk #[])), (.string (ByteArray.mk #[])), (.bool false), (.int .i64 (0 : Int))] 28 q101 q101n q101c (slP q102 k23 q102c 5) (q102n - k23) fun q103 q103n q103c H126 =>
 nilD s0 fun a35 =>
 st1 H126 a35 (.slice q103 q103n q103c) fun H127 =>
 st1 H127 ⟨s7, 0, none⟩ (.bool true) fun H128 =>
 ldBool H128 ⟨s7, 0, none⟩ fun b34 =>
 ldInt H128 ⟨s7, 1, none⟩ .i64 fun n46 =>
 ldSl H128 ⟨s7, 2, none⟩ fun q104 q104n q104c =>
 ldSl H128 ⟨s7, 3, none⟩ fun q105 q105n q105c =>
 st1 H128 ⟨s4, 0, none⟩ (.bool b34) fun H129 =>
 st1 H129 ⟨s4, 1, none⟩ (.int .i64 n46) fun H130 =>
 st1 H130 ⟨s4, 2, none⟩ (.slice q104 q104n q104c) fun H131 =>
 st1 H131 ⟨s4, 3, none⟩ (.slice q105 q105n q105c) fun H132 =>
 ldBool H132 ⟨s4, 0, none⟩ fun b35 =>
 ldInt H132 ⟨s4, 1, none⟩ .i64 fun n47 =>
 ldSl H132 ⟨s4, 2, none⟩ fun q106 q106n q106c =>
 ldSl H132 ⟨s4, 3, none⟩ fun q107 q107n q107c =>
 R (.returned (.agg ⟨[(.bool b35), (.int .i64 n47), (.slice q106 q106n q106c), (.slice q107 q107n q107c)]⟩)) H132)
theorem L6_step {s0 : OA} {s3 s4 : Nat} {s5 : Int} {s7 : Nat} {H : Heap} {R : EH} (h : L6n s0 s3 s4 s5 s7 H R) : L6 s0 s3 s4 s5 s7 H R :=
 goL_of_den (an := an) (fuel := 100000) (X := L6n s0 s3 s4 s5 s7 H R) mixed fn (by kernel_rfl) (fun ρ0 => by kernel_rfl) h
def go (s0 : OA) (s1_0 s1_1 : Int) (s1_2 s1_3 : ByteArray) (s1_4 : Bool) (s1_5 : Int) (s1_6 : ByteArray) (s1_7 s1_8 : Int) (s1_9 : OA) (s1_9n s1_9c : Nat) (H : Heap) (R : EH) : Prop :=
 newD H (.cells ⟨[(.int .i64 s1_0), (.int .i64 s1_1), (.string s1_2), (.string s1_3), (.bool s1_4), (.int .i64 s1_5), (.string s1_6), (.int .i64 s1_7), (.int .i64 s1_8), (.slice s1_9 s1_9n s1_9c)]⟩ 30) fun r H1 =>
 newD H1 (.cells ⟨[(.bool false), (.int .i64 (0 : Int)), (.slice none 0 0), (.slice none 0 0)]⟩ 55) fun r1 H2 =>
 ldInt H2 ⟨r, 1, none⟩ .i64 fun n =>
 callD Tryz.prog 25 [(.pointer s0), (.int .i64 n)] H2 (panK R) fun v H3 =>
 tTup v fun l =>
 tCons l fun c l1 =>
 tInt c .i64 fun n1 =>
 tCons l1 fun c1 l2 =>
 tBool c1 fun b =>
 tNil l2 <|
 newD H3 (.cells ⟨[(.bool false), (.int .i64 (0 : Int)), (.slice none 0 0), (.slice none 0 0)]⟩ 55) fun r2 H4 =>
 ldInt H4 ⟨r, 0, none⟩ .i64 fun n2 =>
 iteB (n2 == (1 : Int)) (
 iteB b (
 ldBool H4 ⟨r2, 0, none⟩ fun b1 =>
 ldInt H4 ⟨r2, 1, none⟩ .i64 fun n3 =>
 ldSl H4 ⟨r2, 2, none⟩ fun q qn qc =>
 ldSl H4 ⟨r2, 3, none⟩ fun q1 q1n q1c =>
 st1 H4 ⟨r1, 0, none⟩ (.bool b1) fun H5 =>
 st1 H5 ⟨r1, 1, none⟩ (.int .i64 n3) fun H6 =>
 st1 H6 ⟨r1, 2, none⟩ (.slice q qn qc) fun H7 =>
 st1 H7 ⟨r1, 3, none⟩ (.slice q1 q1n q1c) fun H8 =>
 ldBool H8 ⟨r1, 0, none⟩ fun b2 =>
 ldInt H8 ⟨r1, 1, none⟩ .i64 fun n4 =>
 ldSl H8 ⟨r1, 2, none⟩ fun q2 q2n q2c =>
 ldSl H8 ⟨r1, 3, none⟩ fun q3 q3n q3c =>
 R (.returned (.agg ⟨[(.bool b2), (.int .i64 n4), (.slice q2 q2n q2c), (.slice q3 q3n q3c)]⟩)) H8) <|
 nilD s0 fun a =>
 ldSl H4 a fun q4 q4n q4c =>
 iteB (decide (((q4n : Nat) : Int) ≥ (500 : Int))) (
 ldBool H4 ⟨r2, 0, none⟩ fun b3 =>
 ldInt H4 ⟨r2, 1, none⟩ .i64 fun n5 =>
 ldSl H4 ⟨r2, 2, none⟩ fun q5 q5n q5c =>
 ldSl H4 ⟨r2, 3, none⟩ fun q6 q6n q6c =>
 st1 H4 ⟨r1, 0, none⟩ (.bool b3) fun H9 =>
 st1 H9 ⟨r1, 1, none⟩ (.int .i64 n5) fun H10 =>
 st1 H10 ⟨r1, 2, none⟩ (.slice q5 q5n q5c) fun H11 =>
 st1 H11 ⟨r1, 3, none⟩ (.slice q6 q6n q6c) fun H12 =>
 ldBool H12 ⟨r1, 0, none⟩ fun b4 =>
 ldInt H12 ⟨r1, 1, none⟩ .i64 fun n6 =>
 ldSl H12 ⟨r1, 2, none⟩ fun q7 q7n q7c =>
 ldSl H12 ⟨r1, 3, none⟩ fun q8 q8n q8c =>
 R (.returned (.agg ⟨[(.bool b4), (.int .i64 n6), (.slice q7 q7n q7c), (.slice q8 q8n q8c)]⟩)) H12) <|
 L6 s0 r r1 n1 r2 H4 R) <|
 iteB (n2 == (2 : Int)) (
 iteB b (
 (
 nilD s0 fun a1 =>
 nilD s0 fun a2 =>
 ldSl H4 a1 fun q9 q9n q9c =>
 bndD n1 q9c fun k =>
 ldSl H4 a2 fun q10 q10n q10c =>
 bndD (IntKind.wrap .i64 (n1 + (1 : Int))) q10n fun k1 =>
 newD H4 (.cells ⟨[]⟩ 28) fun r3 H13 =>
 apD H13 5 56 [(.int .i64 (0 : Int)), (.string (ByteArray.mk #[])), (.string (ByteArray.mk #[])), (.bool false), (.int .i64 (0 : Int))] 28 (some ⟨r3, 0, none⟩) 0 0 (slP q9 0 q9c 5) k fun q11 q11n q11c H14 =>
 apD H14 5 56 [(.int .i64 (0 : Int)), (.string (ByteArray.mk #[])), (.string (ByteArray.mk #[])), (.bool false), (.int .i64 (0 : Int))] 28 q11 q11n q11c (slP q10 k1 q10c 5) (q10n - k1) fun q12 q12n q12c H15 =>
 nilD s0 fun a3 =>
 st1 H15 a3 (.slice q12 q12n q12c) fun H16 =>
 st1 H16 ⟨r2, 0, none⟩ (.bool b) fun H17 =>
 ldBool H17 ⟨r2, 0, none⟩ fun b5 =>
 ldInt H17 ⟨r2, 1, none⟩ .i64 fun n7 =>
 ldSl H17 ⟨r2, 2, none⟩ fun q13 q13n q13c =>
 ldSl H17 ⟨r2, 3, none⟩ fun q14 q14n q14c =>
 st1 H17 ⟨r1, 0, none⟩ (.bool b5) fun H18 =>
 st1 H18 ⟨r1, 1, none⟩ (.int .i64 n7) fun H19 =>
 st1 H19 ⟨r1, 2, none⟩ (.slice q13 q13n q13c) fun H20 =>
 st1 H20 ⟨r1, 3, none⟩ (.slice q14 q14n q14c) fun H21 =>
 ldBool H21 ⟨r1, 0, none⟩ fun b6 =>
 ldInt H21 ⟨r1, 1, none⟩ .i64 fun n8 =>
 ldSl H21 ⟨r1, 2, none⟩ fun q15 q15n q15c =>
 ldSl H21 ⟨r1, 3, none⟩ fun q16 q16n q16c =>
 R (.returned (.agg ⟨[(.bool b6), (.int .i64 n8), (.slice q15 q15n q15c), (.slice q16 q16n q16c)]⟩)) H21) ∧
 (
 nilD s0 fun a4 =>
 nilD s0 fun a5 =>
 ldSl H4 a4 fun q17 q17n q17c =>
 bndD n1 q17c fun k2 =>
 newD H4 (.cells ⟨[]⟩ 28) fun r4 H22 =>
 apD H22 5 56 [(.int .i64 (0 : Int)), (.string (ByteArray.mk #[])), (.string (ByteArray.mk #[])), (.bool false), (.int .i64 (0 : Int))] 28 (some ⟨r4, 0, none⟩) 0 0 (slP q17 0 q17c 5) k2 fun q18 q18n q18c H23 =>
 ldSl H23 a5 fun q19 q19n q19c =>
 bndD (IntKind.wrap .i64 (n1 + (1 : Int))) q19n fun k3 =>
 apD H23 5 56 [(.int .i64 (0 : Int)), (.string (ByteArray.mk #[])), (.string (ByteArray.mk #[])), (.bool false), (.int .i64 (0 : Int))] 28 q18 q18n q18c (slP q19 k3 q19c 5) (q19n - k3) fun q20 q20n q20c H24 =>
 nilD s0 fun a6 =>
 st1 H24 a6 (.slice q20 q20n q20c) fun H25 =>
 st1 H25 ⟨r2, 0, none⟩ (.bool b) fun H26 =>
 ldBool H26 ⟨r2, 0, none⟩ fun b7 =>
 ldInt H26 ⟨r2, 1, none⟩ .i64 fun n9 =>
 ldSl H26 ⟨r2, 2, none⟩ fun q21 q21n q21c =>
 ldSl H26 ⟨r2, 3, none⟩ fun q22 q22n q22c =>
 st1 H26 ⟨r1, 0, none⟩ (.bool b7) fun H27 =>
 st1 H27 ⟨r1, 1, none⟩ (.int .i64 n9) fun H28 =>
 st1 H28 ⟨r1, 2, none⟩ (.slice q21 q21n q21c) fun H29 =>
 st1 H29 ⟨r1, 3, none⟩ (.slice q22 q22n q22c) fun H30 =>
 ldBool H30 ⟨r1, 0, none⟩ fun b8 =>
 ldInt H30 ⟨r1, 1, none⟩ .i64 fun n10 =>
 ldSl H30 ⟨r1, 2, none⟩ fun q23 q23n q23c =>
 ldSl H30 ⟨r1, 3, none⟩ fun q24 q24n q24c =>
 R (.returned (.agg ⟨[(.bool b8), (.int .i64 n10), (.slice q23 q23n q23c), (.slice q24 q24n q24c)]⟩)) H30)) <|
 st1 H4 ⟨r2, 0, none⟩ (.bool b) fun H31 =>
 ldBool H31 ⟨r2, 0, none⟩ fun b9 =>
 ldInt H31 ⟨r2, 1, none⟩ .i64 fun n11 =>
 ldSl H31 ⟨r2, 2, none⟩ fun q25 q25n q25c =>
 ldSl H31 ⟨r2, 3, none⟩ fun q26 q26n q26c =>
 st1 H31 ⟨r1, 0, none⟩ (.bool b9) fun H32 =>
 st1 H32 ⟨r1, 1, none⟩ (.int .i64 n11) fun H33 =>
 st1 H33 ⟨r1, 2, none⟩ (.slice q25 q25n q25c) fun H34 =>
 st1 H34 ⟨r1, 3, none⟩ (.slice q26 q26n q26c) fun H35 =>
 ldBool H35 ⟨r1, 0, none⟩ fun b10 =>
 ldInt H35 ⟨r1, 1, none⟩ .i64 fun n12 =>
 ldSl H35 ⟨r1, 2, none⟩ fun q27 q27n q27c =>
 ldSl H35 ⟨r1, 3, none⟩ fun q28 q28n q28c =>
 R (.returned (.agg ⟨[(.bool b10), (.int .i64 n12), (.slice q27 q27n q27c), (.slice q28 q28n q28c)]⟩)) H35) <|
 iteB (n2 == (3 : Int)) (
 iteB (n2 == (3 : Int)) (
 L3 s0 r r1 r2 H4 R) <|
 L0 s0 r r1 r2 n2 H4 R) <|
 iteB (n2 == (4 : Int)) (
 L3 s0 r r1 r2 H4 R) <|
 L0 s0 r r1 r2 n2 H4 R
theorem calls {s0 : OA} {s1_0 s1_1 : Int} {s1_2 s1_3 : ByteArray} {s1_4 : Bool} {s1_5 : Int} {s1_6 : ByteArray} {s1_7 s1_8 : Int} {s1_9 : OA} {s1_9n s1_9c : Nat} {H : Heap} {R : EH} (h : go s0 s1_0 s1_1 s1_2 s1_3 s1_4 s1_5 s1_6 s1_7 s1_8 s1_9 s1_9n s1_9c H R) : CallsH Tryz.prog 16 ⟨[(.pointer s0), (.agg ⟨[(.int .i64 s1_0), (.int .i64 s1_1), (.string s1_2), (.string s1_3), (.bool s1_4), (.int .i64 s1_5), (.string s1_6), (.int .i64 s1_7), (.int .i64 s1_8), (.slice s1_9 s1_9n s1_9c)]⟩)]⟩ H R :=
 callsH_of_den (an := an) (fuel := 100000) (X := go s0 s1_0 s1_1 s1_2 s1_3 s1_4 s1_5 s1_6 s1_7 s1_8 s1_9 s1_9n s1_9c H R) (c := body) mixed fn (by kernel_rfl) (by kernel_rfl) (by kernel_rfl) ok (by kernel_rfl) h
end F16
/-! ### 17 "pub-stadtholder/laws.grSame" -/
namespace F17
def an : Ann := { kinds := [], taus := [(6, [[0, 2, 5, 7, 1, 3, 4, 6, 8, 9, 10, 11]])], pairs := [], lab := [(10000004, [2, 3]), (40000005, [2, 3, 37, 38])] }
noncomputable def body : Code := (Tryz.f17.body).getD .skip
theorem fn : Tryz.prog.funcs[17]? = some Tryz.f17 := by kernel_rfl
theorem ok : codeOk an 54 body = true := by kernel_rfl
noncomputable def L0t : List Item := [.code (sub [1, 1] body)]
def L0 (a b : Nat) (H : Heap) (R : EH) : Prop :=
 GoL Tryz.prog 17 54 L0t [2, 3] [(.pointer (some ⟨a, 0, none⟩)), (.pointer (some ⟨b, 0, none⟩))] H R
noncomputable def L1t : List Item := [.code (sub [1, 1, 0, 1, 0, 0] body), .inLoop (sub [1, 1, 0, 1, 0, 0] body), .inBlock 0, .code (sub [1, 1, 1] body)]
def L1 (a b : Nat) (s37 s38 : Int) (H : Heap) (R : EH) : Prop :=
 GoL Tryz.prog 17 54 L1t [2, 3, 37, 38] [(.pointer (some ⟨a, 0, none⟩)), (.pointer (some ⟨b, 0, none⟩)), (.int .i64 s37), (.int .i64 s38)] H R
def L0n (a b : Nat) (H : Heap) (R : EH) : Prop :=
 ldSl H ⟨a, 3, none⟩ fun q qn qc =>
 L1 a b ((qn : Nat) : Int) (0 : Int) H R
theorem L0_step {a b : Nat} {H : Heap} {R : EH} (h : L0n a b H R) : L0 a b H R :=
 goL_of_den (an := an) (fuel := 100000) (X := L0n a b H R) mixed fn (by kernel_rfl) (fun ρ0 => by kernel_rfl) h
def L1n (a b : Nat) (s37 s38 : Int) (H : Heap) (R : EH) : Prop :=
 iteB (decide (s38 < s37)) (
 ldSl H ⟨a, 3, none⟩ fun q qn qc =>
 idxD q qn s38 fun a1 =>
 ldInt H (Addr.add a1 (Int.toNat s38 * 4)) .i64 fun n =>
 ldSl H (Addr.add (Addr.add a1 (Int.toNat s38 * 4)) 1) fun q1 q1n q1c =>
 ldInt H (Addr.add (Addr.add a1 (Int.toNat s38 * 4)) 2) .i64 fun n1 =>
 ldInt H (Addr.add (Addr.add a1 (Int.toNat s38 * 4)) 3) .i64 fun n2 =>
 ldSl H ⟨b, 3, none⟩ fun q2 q2n q2c =>
 idxD q2 q2n s38 fun a2 =>
 ldInt H (Addr.add a2 (Int.toNat s38 * 4)) .i64 fun n3 =>
 ldSl H (Addr.add (Addr.add a2 (Int.toNat s38 * 4)) 1) fun q3 q3n q3c =>
 ldInt H (Addr.add (Addr.add a2 (Int.toNat s38 * 4)) 2) .i64 fun n4 =>
 ldInt H (Addr.add (Addr.add a2 (Int.toNat s38 * 4)) 3) .i64 fun n5 =>
 callD Tryz.prog 31 [(.agg ⟨[(.int .i64 n), (.slice q1 q1n q1c), (.int .i64 n1), (.int .i64 n2)]⟩), (.agg ⟨[(.int .i64 n3), (.slice q3 q3n q3c), (.int .i64 n4), (.int .i64 n5)]⟩)] H (panK R) fun v H1 =>
 tBool v fun b1 =>
 iteB (!b1) (
 R (.returned (.bool false)) H1) <|
 L1 a b s37 (IntKind.wrap .i64 (s38 + (1 : Int))) H1 R) <|
 R (.returned (.bool true)) H
theorem L1_step {a b : Nat} {s37 s38 : Int} {H : Heap} {R : EH} (h : L1n a b s37 s38 H R) : L1 a b s37 s38 H R :=
 goL_of_den (an := an) (fuel := 100000) (X := L1n a b s37 s38 H R) mixed fn (by kernel_rfl) (fun ρ0 => by kernel_rfl) h
def go (a_0 : Bool) (a_1 : Int) (a_2 : OA) (a_2n a_2c : Nat) (a_3 : OA) (a_3n a_3c : Nat) (b_0 : Bool) (b_1 : Int) (b_2 : OA) (b_2n b_2c : Nat) (b_3 : OA) (b_3n b_3c : Nat) (H : Heap) (R : EH) : Prop :=
 newD H (.cells ⟨[(.bool a_0), (.int .i64 a_1), (.slice a_2 a_2n a_2c), (.slice a_3 a_3n a_3c)]⟩ 55) fun r H1 =>
 newD H1 (.cells ⟨[(.bool b_0), (.int .i64 b_1), (.slice b_2 b_2n b_2c), (.slice b_3 b_3n b_3c)]⟩ 55) fun r1 H2 =>
 ldBool H2 ⟨r, 0, none⟩ fun b =>
 ldBool H2 ⟨r1, 0, none⟩ fun b1 =>
 iteB (!(b == b1)) (
 R (.returned (.bool false)) H2) <|
 ldInt H2 ⟨r, 1, none⟩ .i64 fun n =>
 ldInt H2 ⟨r1, 1, none⟩ .i64 fun n1 =>
 iteB (n != n1) (
 R (.returned (.bool false)) H2) <|
 ldSl H2 ⟨r, 2, none⟩ fun q qn qc =>
 ldSl H2 ⟨r1, 2, none⟩ fun q1 q1n q1c =>
 callD Tryz.prog 30 [(.slice q qn qc), (.slice q1 q1n q1c)] H2 (panK R) fun v H3 =>
 tBool v fun b2 =>
 iteB (!b2) (
 R (.returned (.bool false)) H3) <|
 ldSl H3 ⟨r, 3, none⟩ fun q2 q2n q2c =>
 ldSl H3 ⟨r1, 3, none⟩ fun q3 q3n q3c =>
 iteB (((q2n : Nat) : Int) != ((q3n : Nat) : Int)) (
 R (.returned (.bool false)) H3) <|
 L0 r r1 H3 R
theorem calls {a_0 : Bool} {a_1 : Int} {a_2 : OA} {a_2n a_2c : Nat} {a_3 : OA} {a_3n a_3c : Nat} {b_0 : Bool} {b_1 : Int} {b_2 : OA} {b_2n b_2c : Nat} {b_3 : OA} {b_3n b_3c : Nat} {H : Heap} {R : EH} (h : go a_0 a_1 a_2 a_2n a_2c a_3 a_3n a_3c b_0 b_1 b_2 b_2n b_2c b_3 b_3n b_3c H R) : CallsH Tryz.prog 17 ⟨[(.agg ⟨[(.bool a_0), (.int .i64 a_1), (.slice a_2 a_2n a_2c), (.slice a_3 a_3n a_3c)]⟩), (.agg ⟨[(.bool b_0), (.int .i64 b_1), (.slice b_2 b_2n b_2c), (.slice b_3 b_3n b_3c)]⟩)]⟩ H R :=
 callsH_of_den (an := an) (fuel := 100000) (X := go a_0 a_1 a_2 a_2n a_2c a_3 a_3n a_3c b_0 b_1 b_2 b_2n b_2c b_3 b_3n b_3c H R) (c := body) mixed fn (by kernel_rfl) (by kernel_rfl) (by kernel_rfl) ok (by kernel_rfl) h
end F17
/-! ### 22 "pub-stadtholder/laws.grGood" -/
namespace F22
def an : Ann := { kinds := [], taus := [], pairs := [], lab := [(40000005, [10, 11, 12]), (60000009, [4, 10, 11, 12]), (60000011, [4, 10, 11, 12]), (80000012, [10, 11, 12, 55, 56, 57])] }
noncomputable def body : Code := (Tryz.f22.body).getD .skip
theorem fn : Tryz.prog.funcs[22]? = some Tryz.f22 := by kernel_rfl
theorem ok : codeOk an 67 body = true := by kernel_rfl
noncomputable def L0t : List Item := [.code (sub [1, 1, 0, 1, 0, 0] body), .inLoop (sub [1, 1, 0, 1, 0, 0] body), .inBlock 0, .code (sub [1, 1, 1] body)]
def L0 (s10 : OA) (s10n s10c : Nat) (s11 s12 : Int) (H : Heap) (R : EH) : Prop :=
 GoL Tryz.prog 22 67 L0t [10, 11, 12] [(.slice s10 s10n s10c), (.int .i64 s11), (.int .i64 s12)] H R
noncomputable def L1t : List Item := [.code (sub [1, 1, 0, 1, 0, 0, 1, 1, 0, 0, 1, 1] body), .inBlock 1, .code (sub [1, 1, 0, 1, 0, 0, 1, 1, 1] body), .inLoop (sub [1, 1, 0, 1, 0, 0] body), .inBlock 0, .code (sub [1, 1, 1] body)]
def L1 (s4 : Nat) (s10 : OA) (s10n s10c : Nat) (s11 s12 : Int) (H : Heap) (R : EH) : Prop :=
 GoL Tryz.prog 22 67 L1t [4, 10, 11, 12] [(.pointer (some ⟨s4, 0, none⟩)), (.slice s10 s10n s10c), (.int .i64 s11), (.int .i64 s12)] H R
noncomputable def L2t : List Item := [.code (sub [1, 1, 0, 1, 0, 0, 1, 1, 0, 0, 1, 1, 1] body), .inBlock 1, .code (sub [1, 1, 0, 1, 0, 0, 1, 1, 1] body), .inLoop (sub [1, 1, 0, 1, 0, 0] body), .inBlock 0, .code (sub [1, 1, 1] body)]
def L2 (s4 : Nat) (s10 : OA) (s10n s10c : Nat) (s11 s12 : Int) (H : Heap) (R : EH) : Prop :=
 GoL Tryz.prog 22 67 L2t [4, 10, 11, 12] [(.pointer (some ⟨s4, 0, none⟩)), (.slice s10 s10n s10c), (.int .i64 s11), (.int .i64 s12)] H R
noncomputable def L3t : List Item := [.code (sub [1, 1, 0, 1, 0, 0, 1, 1, 0, 0, 1, 1, 1, 1, 0, 0] body), .inLoop (sub [1, 1, 0, 1, 0, 0, 1, 1, 0, 0, 1, 1, 1, 1, 0, 0] body), .inBlock 2, .inBlock 1, .code (sub [1, 1, 0, 1, 0, 0, 1, 1, 1] body), .inLoop (sub [1, 1, 0, 1, 0, 0] body), .inBlock 0, .code (sub [1, 1, 1] body)]
def L3 (s10 : OA) (s10n s10c : Nat) (s11 s12 : Int) (s55 : OA) (s55n s55c : Nat) (s56 s57 : Int) (H : Heap) (R : EH) : Prop :=
 GoL Tryz.prog 22 67 L3t [10, 11, 12, 55, 56, 57] [(.slice s10 s10n s10c), (.int .i64 s11), (.int .i64 s12), (.slice s55 s55n s55c), (.int .i64 s56), (.int .i64 s57)] H R
def L0n (s10 : OA) (s10n s10c : Nat) (s11 s12 : Int) (H : Heap) (R : EH) : Prop :=
 iteB (decide (s12 < s11)) (
 idxD s10 s10n s12 fun a =>
 ldInt H (Addr.add a (Int.toNat s12 * 10)) .i64 fun n =>
 ldInt H (Addr.add (Addr.add a (Int.toNat s12 * 10)) 1) .i64 fun n1 =>
 ldStr H (Addr.add (Addr.add a (Int.toNat s12 * 10)) 2) fun s =>
 ldStr H (Addr.add (Addr.add a (Int.toNat s12 * 10)) 3) fun s1 =>
 ldBool H (Addr.add (Addr.add a (Int.toNat s12 * 10)) 4) fun b =>
 ldInt H (Addr.add (Addr.add a (Int.toNat s12 * 10)) 5) .i64 fun n2 =>
 ldStr H (Addr.add (Addr.add a (Int.toNat s12 * 10)) 6) fun s2 =>
 ldInt H (Addr.add (Addr.add a (Int.toNat s12 * 10)) 7) .i64 fun n3 =>
 ldInt H (Addr.add (Addr.add a (Int.toNat s12 * 10)) 8) .i64 fun n4 =>
 ldSl H (Addr.add (Addr.add a (Int.toNat s12 * 10)) 9) fun q qn qc =>
 newD H (.cells ⟨[(.int .i64 (0 : Int)), (.int .i64 (0 : Int)), (.string (ByteArray.mk #[])), (.string (ByteArray.mk #[])), (.bool false), (.int .i64 (0 : Int)), (.string (ByteArray.mk #[])), (.int .i64 (0 : Int)), (.int .i64 (0 : Int)), (.slice none 0 0)]⟩ 30) fun r H1 =>
 st1 H1 ⟨r, 0, none⟩ (.int .i64 n) fun H2 =>
 st1 H2 ⟨r, 1, none⟩ (.int .i64 n1) fun H3 =>
 st1 H3 ⟨r, 2, none⟩ (.string s) fun H4 =>
 st1 H4 ⟨r, 3, none⟩ (.string s1) fun H5 =>
 st1 H5 ⟨r, 4, none⟩ (.bool b) fun H6 =>
 st1 H6 ⟨r, 5, none⟩ (.int .i64 n2) fun H7 =>
 st1 H7 ⟨r, 6, none⟩ (.string s2) fun H8 =>
 st1 H8 ⟨r, 7, none⟩ (.int .i64 n3) fun H9 =>
 st1 H9 ⟨r, 8, none⟩ (.int .i64 n4) fun H10 =>
 st1 H10 ⟨r, 9, none⟩ (.slice q qn qc) fun H11 =>
 ldInt H11 ⟨r, 0, none⟩ .i64 fun n5 =>
 iteB (decide (n5 < (1 : Int))) (
 R (.returned (.bool false)) H11) <|
 ldInt H11 ⟨r, 0, none⟩ .i64 fun n6 =>
 iteB (decide (n6 > (7 : Int))) (
 R (.returned (.bool false)) H11) <|
 ldSl H11 ⟨r, 9, none⟩ fun q1 q1n q1c =>
 iteB (decide (((q1n : Nat) : Int) > (200 : Int))) (
 R (.returned (.bool false)) H11) <|
 ldInt H11 ⟨r, 0, none⟩ .i64 fun n7 =>
 iteB (n7 == (1 : Int)) (
 ldInt H11 ⟨r, 1, none⟩ .i64 fun n8 =>
 ldStr H11 ⟨r, 2, none⟩ fun s3 =>
 ldStr H11 ⟨r, 3, none⟩ fun s4 =>
 ldBool H11 ⟨r, 4, none⟩ fun b1 =>
 ldInt H11 ⟨r, 5, none⟩ .i64 fun n9 =>
 callD Tryz.prog 34 [(.agg ⟨[(.int .i64 n8), (.string s3), (.string s4), (.bool b1), (.int .i64 n9)]⟩)] H11 (panK R) fun v H12 =>
 tBool v fun b2 =>
 iteB (!b2) (
 R (.returned (.bool false)) H12) <|
 L1 r s10 s10n s10c s11 s12 H12 R) <|
 L1 r s10 s10n s10c s11 s12 H11 R) <|
 R (.returned (.bool true)) H
theorem L0_step {s10 : OA} {s10n s10c : Nat} {s11 s12 : Int} {H : Heap} {R : EH} (h : L0n s10 s10n s10c s11 s12 H R) : L0 s10 s10n s10c s11 s12 H R :=
 goL_of_den (an := an) (fuel := 100000) (X := L0n s10 s10n s10c s11 s12 H R) mixed fn (by kernel_rfl) (fun ρ0 => by kernel_rfl) h
def L1n (s4 : Nat) (s10 : OA) (s10n s10c : Nat) (s11 s12 : Int) (H : Heap) (R : EH) : Prop :=
 ldInt H ⟨s4, 0, none⟩ .i64 fun n =>
 iteB (n == (3 : Int)) (
 ldStr H ⟨s4, 6, none⟩ fun s =>
 iteB (eqS s (ByteArray.mk #[])) (
 R (.returned (.bool false)) H) <|
 L2 s4 s10 s10n s10c s11 s12 H R) <|
 ldInt H ⟨s4, 0, none⟩ .i64 fun n1 =>
 iteB (n1 == (4 : Int)) (
 ldStr H ⟨s4, 6, none⟩ fun s1 =>
 iteB (eqS s1 (ByteArray.mk #[])) (
 R (.returned (.bool false)) H) <|
 L2 s4 s10 s10n s10c s11 s12 H R) <|
 L2 s4 s10 s10n s10c s11 s12 H R
theorem L1_step {s4 : Nat} {s10 : OA} {s10n s10c : Nat} {s11 s12 : Int} {H : Heap} {R : EH} (h : L1n s4 s10 s10n s10c s11 s12 H R) : L1 s4 s10 s10n s10c s11 s12 H R :=
 goL_of_den (an := an) (fuel := 100000) (X := L1n s4 s10 s10n s10c s11 s12 H R) mixed fn (by kernel_rfl) (fun ρ0 => by kernel_rfl) h
def L2n (s4 : Nat) (s10 : OA) (s10n s10c : Nat) (s11 s12 : Int) (H : Heap) (R : EH) : Prop :=
 ldSl H ⟨s4, 9, none⟩ fun q qn qc =>
 L3 s10 s10n s10c s11 s12 q qn qc ((qn : Nat) : Int) (0 : Int) H R
theorem L2_step {s4 : Nat} {s10 : OA} {s10n s10c : Nat} {s11 s12 : Int} {H : Heap} {R : EH} (h : L2n s4 s10 s10n s10c s11 s12 H R) : L2 s4 s10 s10n s10c s11 s12 H R :=
 goL_of_den (an := an) (fuel := 100000) (X := L2n s4 s10 s10n s10c s11 s12 H R) mixed fn (by kernel_rfl) (fun ρ0 => by kernel_rfl) h
def L3n (s10 : OA) (s10n s10c : Nat) (s11 s12 : Int) (s55 : OA) (s55n s55c : Nat) (s56 s57 : Int) (H : Heap) (R : EH) : Prop :=
 iteB (decide (s57 < s56)) (
 idxD s55 s55n s57 fun a =>
 ldBool H (Addr.add a (Int.toNat s57 * 7)) fun b =>
 ldStr H (Addr.add (Addr.add a (Int.toNat s57 * 7)) 1) fun s =>
 ldStr H (Addr.add (Addr.add a (Int.toNat s57 * 7)) 2) fun s1 =>
 ldInt H (Addr.add (Addr.add a (Int.toNat s57 * 7)) 3) .i64 fun n =>
 ldInt H (Addr.add (Addr.add a (Int.toNat s57 * 7)) 4) .i64 fun n1 =>
 ldInt H (Addr.add (Addr.add a (Int.toNat s57 * 7)) 5) .i64 fun n2 =>
 ldInt H (Addr.add (Addr.add a (Int.toNat s57 * 7)) 6) .i64 fun n3 =>
 newD H (.cells ⟨[(.bool false), (.string (ByteArray.mk #[])), (.string (ByteArray.mk #[])), (.int .i64 (0 : Int)), (.int .i64 (0 : Int)), (.int .i64 (0 : Int)), (.int .i64 (0 : Int))]⟩ 36) fun r H1 =>
 st1 H1 ⟨r, 0, none⟩ (.bool b) fun H2 =>
 st1 H2 ⟨r, 1, none⟩ (.string s) fun H3 =>
 st1 H3 ⟨r, 2, none⟩ (.string s1) fun H4 =>
 st1 H4 ⟨r, 3, none⟩ (.int .i64 n) fun H5 =>
 st1 H5 ⟨r, 4, none⟩ (.int .i64 n1) fun H6 =>
 st1 H6 ⟨r, 5, none⟩ (.int .i64 n2) fun H7 =>
 st1 H7 ⟨r, 6, none⟩ (.int .i64 n3) fun H8 =>
 ldStr H8 ⟨r, 1, none⟩ fun s2 =>
 iteB (eqS s2 (ByteArray.mk #[])) (
 R (.returned (.bool false)) H8) <|
 L3 s10 s10n s10c s11 s12 s55 s55n s55c s56 (IntKind.wrap .i64 (s57 + (1 : Int))) H8 R) <|
 L0 s10 s10n s10c s11 (IntKind.wrap .i64 (s12 + (1 : Int))) H R
theorem L3_step {s10 : OA} {s10n s10c : Nat} {s11 s12 : Int} {s55 : OA} {s55n s55c : Nat} {s56 s57 : Int} {H : Heap} {R : EH} (h : L3n s10 s10n s10c s11 s12 s55 s55n s55c s56 s57 H R) : L3 s10 s10n s10c s11 s12 s55 s55n s55c s56 s57 H R :=
 goL_of_den (an := an) (fuel := 100000) (X := L3n s10 s10n s10c s11 s12 s55 s55n s55c s56 s57 H R) mixed fn (by kernel_rfl) (fun ρ0 => by kernel_rfl) h
def go (s0 : OA) (s0n s0c : Nat) (H : Heap) (R : EH) : Prop :=
 iteB (decide (((s0n : Nat) : Int) > (200 : Int))) (
 R (.returned (.bool false)) H) <|
 L0 s0 s0n s0c ((s0n : Nat) : Int) (0 : Int) H R
theorem calls {s0 : OA} {s0n s0c : Nat} {H : Heap} {R : EH} (h : go s0 s0n s0c H R) : CallsH Tryz.prog 22 ⟨[(.slice s0 s0n s0c)]⟩ H R :=
 callsH_of_den (an := an) (fuel := 100000) (X := go s0 s0n s0c H R) (c := body) mixed fn (by kernel_rfl) (by kernel_rfl) (by kernel_rfl) ok (by kernel_rfl) h
end F22
/-! ### 25 "(*pub-stadtholder/spec.Crowd).find" -/
namespace F25
def an : Ann := { kinds := [], taus := [(4, [[0, 1, 2, 3, 4, 5, 6, 7, 8, 9, 10, 11, 13, 17, 20, 12, 14, 15, 16, 18, 19, 21]])], pairs := [], lab := [(40000003, [0, 1, 6]), (10000005, [0, 1, 6]), (40000004, [0, 1, 6])] }
noncomputable def body : Code := (Tryz.f25.body).getD .skip
theorem fn : Tryz.prog.funcs[25]? = some Tryz.f25 := by kernel_rfl
theorem ok : codeOk an 48 body = true := by kernel_rfl
noncomputable def L0t : List Item := [.code (sub [1, 1, 0, 0, 0] body), .inLoop (sub [1, 1, 0, 0, 0] body), .inBlock 0, .code (sub [1, 1, 1] body)]
def L0 (w : OA) (id i : Int) (H : Heap) (R : EH) : Prop :=
 GoL Tryz.prog 25 48 L0t [0, 1, 6] [(.pointer w), (.int .i64 id), (.int .i64 i)] H R
noncomputable def L1t : List Item := [.code (sub [1, 1, 1] body)]
def L1 (w : OA) (id i : Int) (H : Heap) (R : EH) : Prop :=
 GoL Tryz.prog 25 48 L1t [0, 1, 6] [(.pointer w), (.int .i64 id), (.int .i64 i)] H R
noncomputable def L2t : List Item := [.code (sub [1, 1, 0, 0, 0, 1] body), .inLoop (sub [1, 1, 0, 0, 0] body), .inBlock 0, .code (sub [1, 1, 1] body)]
def L2 (w : OA) (id i : Int) (H : Heap) (R : EH) : Prop :=
 GoL Tryz.prog 25 48 L2t [0, 1, 6] [(.pointer w), (.int .i64 id), (.int .i64 i)] H R
def L0n (w : OA) (id i : Int) (H : Heap) (R : EH) : Prop :=
 nilD w fun a =>
 ldSl H a fun q qn qc =>
 iteB (decide (i < ((qn : Nat) : Int))) (
 nilD w fun a1 =>
 ldSl H a1 fun q1 q1n q1c =>
 idxD q1 q1n i fun a2 =>
 ldInt H (Addr.add a2 (Int.toNat i * 5)) .i64 fun n =>
 iteB (decide (n < id)) (
 L2 w id i H R) <|
 L1 w id i H R) <|
 L1 w id i H R
theorem L0_step {w : OA} {id i : Int} {H : Heap} {R : EH} (h : L0n w id i H R) : L0 w id i H R :=
 goL_of_den (an := an) (fuel := 100000) (X := L0n w id i H R) mixed fn (by kernel_rfl) (fun ρ0 => by kernel_rfl) h
def L1n (w : OA) (id i : Int) (H : Heap) (R : EH) : Prop :=
 nilD w fun a =>
 ldSl H a fun q qn qc =>
 iteB (decide (i < ((qn : Nat) : Int))) (
 nilD w fun a1 =>
 ldSl H a1 fun q1 q1n q1c =>
 idxD q1 q1n i fun a2 =>
 ldInt H (Addr.add a2 (Int.toNat i * 5)) .i64 fun n =>
 R (.returned (.tuple ⟨[(.int .i64 i), (.bool (n == id))]⟩)) H) <|
 R (.returned (.tuple ⟨[(.int .i64 i), (.bool false)]⟩)) H
theorem L1_step {w : OA} {id i : Int} {H : Heap} {R : EH} (h : L1n w id i H R) : L1 w id i H R :=
 goL_of_den (an := an) (fuel := 100000) (X := L1n w id i H R) mixed fn (by kernel_rfl) (fun ρ0 => by kernel_rfl) h
def L2n (w : OA) (id i : Int) (H : Heap) (R : EH) : Prop :=
 L0 w id (IntKind.wrap .i64 (i + (1 : Int))) H R
theorem L2_step {w : OA} {id i : Int} {H : Heap} {R : EH} (h : L2n w id i H R) : L2 w id i H R :=
 goL_of_den (an := an) (fuel := 100000) (X := L2n w id i H R) mixed fn (by kernel_rfl) (fun ρ0 => by kernel_rfl) h
def go (w : OA) (id : Int) (H : Heap) (R : EH) : Prop :=
 L0 w id (0 : Int) H R
theorem calls {w : OA} {id : Int} {H : Heap} {R : EH} (h : go w id H R) : CallsH Tryz.prog 25 ⟨[(.pointer w), (.int .i64 id)]⟩ H R :=
 callsH_of_den (an := an) (fuel := 100000) (X := go w id H R) (c := body) mixed fn (by kernel_rfl) (by kernel_rfl) (by kernel_rfl) ok (by kernel_rfl) h
end F25
/-! ### 26 "pub-stadtholder/spec.Sees" -/
namespace F26
def an : Ann := { kinds := [], taus := [], pairs := [], lab := [] }
noncomputable def body : Code := (Tryz.f26.body).getD .skip
theorem fn : Tryz.prog.funcs[26]? = some Tryz.f26 := by kernel_rfl
theorem ok : codeOk an 13 body = true := by kernel_rfl
def go (w_0 : Int) (w_1 w_2 : ByteArray) (w_3 : Bool) (w_4 : Int) (key : ByteArray) (H : Heap) (R : EH) : Prop :=
 newD H (.cells ⟨[(.int .i64 w_0), (.string w_1), (.string w_2), (.bool w_3), (.int .i64 w_4)]⟩ 28) fun r H1 =>
 ldStr H1 ⟨r, 1, none⟩ fun s =>
 ldStr H1 ⟨r, 2, none⟩ fun s1 =>
 ldBool H1 ⟨r, 3, none⟩ fun b =>
 callD Tryz.prog 49 [(.string key), (.string s), (.string s1), (.bool b)] H1 (panK R) fun v H2 =>
 tBool v fun b1 =>
 R (.returned (.bool b1)) H2
theorem calls {w_0 : Int} {w_1 w_2 : ByteArray} {w_3 : Bool} {w_4 : Int} {key : ByteArray} {H : Heap} {R : EH} (h : go w_0 w_1 w_2 w_3 w_4 key H R) : CallsH Tryz.prog 26 ⟨[(.agg ⟨[(.int .i64 w_0), (.string w_1), (.string w_2), (.bool w_3), (.int .i64 w_4)]⟩), (.string key)]⟩ H R :=
 callsH_of_den (an := an) (fuel := 100000) (X := go w_0 w_1 w_2 w_3 w_4 key H R) (c := body) mixed fn (by kernel_rfl) (by kernel_rfl) (by kernel_rfl) ok (by kernel_rfl) h
end F26
/-! ### 30 "pub-stadtholder/laws.ixSameNumbers" -/
namespace F30
def an : Ann := { kinds := [], taus := [(6, [[0, 1, 2, 4, 5, 6, 3, 7, 8]])], pairs := [], lab := [(40000005, [0, 1, 12, 13])] }
noncomputable def body : Code := (Tryz.f30.body).getD .skip
theorem fn : Tryz.prog.funcs[30]? = some Tryz.f30 := by kernel_rfl
theorem ok : codeOk an 26 body = true := by kernel_rfl
noncomputable def L0t : List Item := [.code (sub [1, 1, 0, 1, 0, 0] body), .inLoop (sub [1, 1, 0, 1, 0, 0] body), .inBlock 0, .code (sub [1, 1, 1] body)]
def L0 (a : OA) (an1 ac : Nat) (b : OA) (bn bc : Nat) (s12 s13 : Int) (H : Heap) (R : EH) : Prop :=
 GoL Tryz.prog 30 26 L0t [0, 1, 12, 13] [(.slice a an1 ac), (.slice b bn bc), (.int .i64 s12), (.int .i64 s13)] H R
def L0n (a : OA) (an1 ac : Nat) (b : OA) (bn bc : Nat) (s12 s13 : Int) (H : Heap) (R : EH) : Prop :=
 iteB (decide (s13 < s12)) (
 idxD a an1 s13 fun a1 =>
 idxD b bn s13 fun a2 =>
 ldInt H (Addr.add a1 (Int.toNat s13 * 1)) .i64 fun n =>
 ldInt H (Addr.add a2 (Int.toNat s13 * 1)) .i64 fun n1 =>
 iteB (n != n1) (
 R (.returned (.bool false)) H) <|
 L0 a an1 ac b bn bc s12 (IntKind.wrap .i64 (s13 + (1 : Int))) H R) <|
 R (.returned (.bool true)) H
theorem L0_step {a : OA} {an1 ac : Nat} {b : OA} {bn bc : Nat} {s12 s13 : Int} {H : Heap} {R : EH} (h : L0n a an1 ac b bn bc s12 s13 H R) : L0 a an1 ac b bn bc s12 s13 H R :=
 goL_of_den (an := an) (fuel := 100000) (X := L0n a an1 ac b bn bc s12 s13 H R) mixed fn (by kernel_rfl) (fun ρ0 => by kernel_rfl) h
def go (a : OA) (an1 ac : Nat) (b : OA) (bn bc : Nat) (H : Heap) (R : EH) : Prop :=
 iteB (((an1 : Nat) : Int) != ((bn : Nat) : Int)) (
 R (.returned (.bool false)) H) <|
 L0 a an1 ac b bn bc ((an1 : Nat) : Int) (0 : Int) H R
theorem calls {a : OA} {an1 ac : Nat} {b : OA} {bn bc : Nat} {H : Heap} {R : EH} (h : go a an1 ac b bn bc H R) : CallsH Tryz.prog 30 ⟨[(.slice a an1 ac), (.slice b bn bc)]⟩ H R :=
 callsH_of_den (an := an) (fuel := 100000) (X := go a an1 ac b bn bc H R) (c := body) mixed fn (by kernel_rfl) (by kernel_rfl) (by kernel_rfl) ok (by kernel_rfl) h
end F30
/-! ### 34 "pub-stadtholder/laws.grProper" -/
namespace F34
def an : Ann := { kinds := [], taus := [], pairs := [], lab := [] }
noncomputable def body : Code := (Tryz.f34.body).getD .skip
theorem fn : Tryz.prog.funcs[34]? = some Tryz.f34 := by kernel_rfl
theorem ok : codeOk an 23 body = true := by kernel_rfl
def go (w_0 : Int) (w_1 w_2 : ByteArray) (w_3 : Bool) (w_4 : Int) (H : Heap) (R : EH) : Prop :=
 newD H (.cells ⟨[(.int .i64 w_0), (.string w_1), (.string w_2), (.bool w_3), (.int .i64 w_4)]⟩ 28) fun r H1 =>
 ldBool H1 ⟨r, 3, none⟩ fun b =>
 iteB (!b) (
 R (.returned (.bool true)) H1) <|
 ldStr H1 ⟨r, 1, none⟩ fun s =>
 iteB (!eqS s (ByteArray.mk #[])) (
 ldStr H1 ⟨r, 2, none⟩ fun s1 =>
 iteB (eqS s1 (ByteArray.mk #[])) (
 R (.returned (.bool true)) H1) <|
 ldStr H1 ⟨r, 1, none⟩ fun s2 =>
 ldStr H1 ⟨r, 2, none⟩ fun s3 =>
 R (.returned (.bool (ltS s2 s3))) H1) <|
 R (.returned (.bool false)) H1
theorem calls {w_0 : Int} {w_1 w_2 : ByteArray} {w_3 : Bool} {w_4 : Int} {H : Heap} {R : EH} (h : go w_0 w_1 w_2 w_3 w_4 H R) : CallsH Tryz.prog 34 ⟨[(.agg ⟨[(.int .i64 w_0), (.string w_1), (.string w_2), (.bool w_3), (.int .i64 w_4)]⟩)]⟩ H R :=
 callsH_of_den (an := an) (fuel := 100000) (X := go w_0 w_1 w_2 w_3 w_4 H R) (c := body) mixed fn (by kernel_rfl) (by kernel_rfl) (by kernel_rfl) ok (by kernel_rfl) h
end F34
/-! ### 49 "pub-stadtholder/spec.Within" -/
namespace F49
def an : Ann := { kinds := [], taus := [], pairs := [], lab := [] }
noncomputable def body : Code := (Tryz.f49.body).getD .skip
theorem fn : Tryz.prog.funcs[49]? = some Tryz.f49 := by kernel_rfl
theorem ok : codeOk an 29 body = true := by kernel_rfl
def go (key first xend : ByteArray) (hasEnd : Bool) (H : Heap) (R : EH) : Prop :=
 iteB (!hasEnd) (
 R (.returned (.bool (eqS key first))) H) <|
 iteB (eqS xend (ByteArray.mk #[])) (
 R (.returned (.bool (!ltS key first))) H) <|
 iteB (!ltS key first) (
 R (.returned (.bool (ltS key xend))) H) <|
 R (.returned (.bool false)) H
theorem calls {key first xend : ByteArray} {hasEnd : Bool} {H : Heap} {R : EH} (h : go key first xend hasEnd H R) : CallsH Tryz.prog 49 ⟨[(.string key), (.string first), (.string xend), (.bool hasEnd)]⟩ H R :=
 callsH_of_den (an := an) (fuel := 100000) (X := go key first xend hasEnd H R) (c := body) mixed fn (by kernel_rfl) (by kernel_rfl) (by kernel_rfl) ok (by kernel_rfl) h
end F49
/-! ### 68 "(pub-stadtholder/pub/etcdserver/storage/mvcc.watcherSet).union" -/
namespace F68
def an : Ann := { kinds := [(1, .heavy 0), (1000, .heavy 94), (2000, .heavy 94)], taus := [], pairs := [], lab := [(30000002, [0, 6])] }
noncomputable def body : Code := (Tryz.f68.body).getD .skip
theorem fn : Tryz.prog.funcs[68]? = some Tryz.f68 := by kernel_rfl
theorem ok : codeOk an 14 body = true := by kernel_rfl
noncomputable def L0t : List Item := [.code (sub [1, 0, 0] body), .inLoop (sub [1, 0, 0] body), .inBlock 0]
def L0 (w : Option Nat) (s6 : OA) (H : Heap) (R : EH) : Prop :=
 GoL Tryz.prog 68 14 L0t [0, 6] [(.map w), (.pointer s6)] H R
def L0n (w : Option Nat) (s6 : OA) (H : Heap) (R : EH) : Prop :=
 valD Tryz.prog (Instr.next (.pointer s6) false 0) H (panK R) fun v H1 =>
 tTup v fun l =>
 tCons l fun c l1 =>
 tBool c fun b =>
 iteB b (
 tCons l1 fun c1 l2 =>
 tPtr c1 fun p =>
 tCons l2 fun c2 l3 =>
 tAgg c2 fun l4 =>
 tNil l4 <|
 tNil l3 <|
 valD Tryz.prog (Instr.entry (.pointer s6)) H1 (panK R) fun v1 H2 =>
 tTup v1 fun l5 =>
 tCons l5 fun c3 l6 =>
 tPtr c3 fun p1 =>
 tCons l6 fun c4 l7 =>
 tAgg c4 fun l8 =>
 tNil l8 <|
 tNil l7 <|
 callD Tryz.prog 62 [(.map w), (.pointer p1)] H2 (panK R) fun v2 H3 =>
 tTup v2 fun l9 =>
 tNil l9 <|
 L0 w s6 H3 R) <|
 tNil l1 <|
 R (.returned (.tuple ⟨[]⟩)) H1
theorem L0_step {w : Option Nat} {s6 : OA} {H : Heap} {R : EH} (h : L0n w s6 H R) : L0 w s6 H R :=
 goL_of_den (an := an) (fuel := 100000) (X := L0n w s6 H R) mixed fn (by kernel_rfl) (fun ρ0 => by kernel_rfl) h
def go (w : Option Nat) (ws : Option Nat) (H : Heap) (R : EH) : Prop :=
 valD Tryz.prog (Instr.range 94 (.map ws)) H (panK R) fun v H1 =>
 tPtr v fun p =>
 L0 w p H1 R
theorem calls {w : Option Nat} {ws : Option Nat} {H : Heap} {R : EH} (h : go w ws H R) : CallsH Tryz.prog 68 ⟨[(.map w), (.map ws)]⟩ H R :=
 callsH_of_den (an := an) (fuel := 100000) (X := go w ws H R) (c := body) mixed fn (by kernel_rfl) (by kernel_rfl) (by kernel_rfl) ok (by kernel_rfl) h
end F68
end Go.Proofs.YtobolifgehagfaaGreat
