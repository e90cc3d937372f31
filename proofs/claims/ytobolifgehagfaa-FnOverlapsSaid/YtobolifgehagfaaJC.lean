/- What functions of this seat do, each proved by a walk; no condition. -/
import Derived.Test.YtobolifgehagfaaJB
import Derived.KernelRfl
set_option linter.unusedVariables false
namespace Go.Proofs.Ytobolifgehagfaa
open Go Go.Den Go.Proofs
/-! ### 29 "pub-stadtholder/spec.SameSpan" -/
namespace F29
def an : Ann := { kinds := [], taus := [], pairs := [], lab := [] }
noncomputable def body : Code := (Try.f29.body).getD .skip
theorem fn : Try.prog.funcs[29]? = some Try.f29 := by kernel_rfl
theorem ok : codeOk an 19 body = true := by kernel_rfl
def go (order : Int) (s_0 s_1 : ByteArray) (s_2 : Bool) (s_3 s_4 : Int) (t_0 t_1 : ByteArray) (t_2 : Bool) (t_3 t_4 : Int) (H : Heap) (R : EH) : Prop :=
 newD H (.cells ⟨[(.string s_0), (.string s_1), (.bool s_2), (.int .i64 s_3), (.int .i64 s_4)]⟩ 35) fun r H1 =>
 newD H1 (.cells ⟨[(.string t_0), (.string t_1), (.bool t_2), (.int .i64 t_3), (.int .i64 t_4)]⟩ 35) fun r1 H2 =>
 ldStr H2 ⟨r, 0, none⟩ fun s =>
 ldStr H2 ⟨r, 1, none⟩ fun s1 =>
 ldBool H2 ⟨r, 2, none⟩ fun b =>
 ldInt H2 ⟨r, 3, none⟩ .i64 fun n =>
 ldInt H2 ⟨r, 4, none⟩ .i64 fun n1 =>
 ldStr H2 ⟨r1, 0, none⟩ fun s2 =>
 ldStr H2 ⟨r1, 1, none⟩ fun s3 =>
 ldBool H2 ⟨r1, 2, none⟩ fun b1 =>
 ldInt H2 ⟨r1, 3, none⟩ .i64 fun n2 =>
 ldInt H2 ⟨r1, 4, none⟩ .i64 fun n3 =>
 callD Try.prog 57 [(.int .i64 order), (.agg ⟨[(.string s), (.string s1), (.bool b), (.int .i64 n), (.int .i64 n1)]⟩), (.agg ⟨[(.string s2), (.string s3), (.bool b1), (.int .i64 n2), (.int .i64 n3)]⟩)] H2 (panK R) fun v H3 =>
 tBool v fun b2 =>
 iteB (!b2) (
 ldStr H3 ⟨r1, 0, none⟩ fun s4 =>
 ldStr H3 ⟨r1, 1, none⟩ fun s5 =>
 ldBool H3 ⟨r1, 2, none⟩ fun b3 =>
 ldInt H3 ⟨r1, 3, none⟩ .i64 fun n4 =>
 ldInt H3 ⟨r1, 4, none⟩ .i64 fun n5 =>
 ldStr H3 ⟨r, 0, none⟩ fun s6 =>
 ldStr H3 ⟨r, 1, none⟩ fun s7 =>
 ldBool H3 ⟨r, 2, none⟩ fun b4 =>
 ldInt H3 ⟨r, 3, none⟩ .i64 fun n6 =>
 ldInt H3 ⟨r, 4, none⟩ .i64 fun n7 =>
 callD Try.prog 57 [(.int .i64 order), (.agg ⟨[(.string s4), (.string s5), (.bool b3), (.int .i64 n4), (.int .i64 n5)]⟩), (.agg ⟨[(.string s6), (.string s7), (.bool b4), (.int .i64 n6), (.int .i64 n7)]⟩)] H3 (panK R) fun v1 H4 =>
 tBool v1 fun b5 =>
 R (.returned (.bool (!b5))) H4) <|
 R (.returned (.bool false)) H3
theorem calls {order : Int} {s_0 s_1 : ByteArray} {s_2 : Bool} {s_3 s_4 : Int} {t_0 t_1 : ByteArray} {t_2 : Bool} {t_3 t_4 : Int} {H : Heap} {R : EH} (h : go order s_0 s_1 s_2 s_3 s_4 t_0 t_1 t_2 t_3 t_4 H R) : CallsH Try.prog 29 ⟨[(.int .i64 order), (.agg ⟨[(.string s_0), (.string s_1), (.bool s_2), (.int .i64 s_3), (.int .i64 s_4)]⟩), (.agg ⟨[(.string t_0), (.string t_1), (.bool t_2), (.int .i64 t_3), (.int .i64 t_4)]⟩)]⟩ H R :=
 callsH_of_den (an := an) (fuel := 100000) (X := go order s_0 s_1 s_2 s_3 s_4 t_0 t_1 t_2 t_3 t_4 H R) (c := body) mixed fn (by kernel_rfl) (by kernel_rfl) (by kernel_rfl) ok (by kernel_rfl) h
end F29
/-! ### 38 "(*pub-stadtholder/spec.Pieces).Put" -/
namespace F38
def an : Ann := { kinds := [(5006, .grow)], taus := [(2, [[0, 1, 2, 3, 4, 5, 6, 7, 8, 9, 10, 13, 14, 15, 17, 11, 12, 16, 18, 19, 20, 21, 22, 23]]), (5, [[0, 1, 4, 8, 9, 10, 12, 2, 11, 13, 3, 5, 6, 7, 14, 15, 16, 17], [0, 1, 4, 8, 9, 10, 12, 2, 3, 5, 11, 13, 6, 7, 14, 15, 16, 17], [0, 1, 4, 8, 9, 10, 12, 2, 3, 5, 6, 7, 11, 13, 14, 15, 16, 17]])], pairs := [(5, [(11, 3), (11, 7)])], lab := [(40000003, [0, 2, 4, 6]), (10000005, [0, 2, 4, 6]), (40000004, [0, 2, 4, 6])] }
noncomputable def body : Code := (Try.f38.body).getD .skip
theorem fn : Try.prog.funcs[38]? = some Try.f38 := by kernel_rfl
theorem ok : codeOk an 59 body = true := by kernel_rfl
noncomputable def L0t : List Item := [.code (sub [1, 1, 0, 0, 0] body), .inLoop (sub [1, 1, 0, 0, 0] body), .inBlock 0, .code (sub [1, 1, 1] body)]
def L0 (p : OA) (val : Int) (s : Nat) (i : Int) (H : Heap) (R : EH) : Prop :=
 GoL Try.prog 38 59 L0t [0, 2, 4, 6] [(.pointer p), (.int .i64 val), (.pointer (some ⟨s, 0, none⟩)), (.int .i64 i)] H R
noncomputable def L1t : List Item := [.code (sub [1, 1, 1] body)]
def L1 (p : OA) (val : Int) (s : Nat) (i : Int) (H : Heap) (R : EH) : Prop :=
 GoL Try.prog 38 59 L1t [0, 2, 4, 6] [(.pointer p), (.int .i64 val), (.pointer (some ⟨s, 0, none⟩)), (.int .i64 i)] H R
noncomputable def L2t : List Item := [.code (sub [1, 1, 0, 0, 0, 1] body), .inLoop (sub [1, 1, 0, 0, 0] body), .inBlock 0, .code (sub [1, 1, 1] body)]
def L2 (p : OA) (val : Int) (s : Nat) (i : Int) (H : Heap) (R : EH) : Prop :=
 GoL Try.prog 38 59 L2t [0, 2, 4, 6] [(.pointer p), (.int .i64 val), (.pointer (some ⟨s, 0, none⟩)), (.int .i64 i)] H R
def L0n (p : OA) (val : Int) (s : Nat) (i : Int) (H : Heap) (R : EH) : Prop :=
 nilD p fun a =>
 ldSl H (Addr.add a 1) fun q qn qc =>
 iteB (decide (i < ((qn : Nat) : Int))) (
 nilD p fun a1 =>
 nilD p fun a2 =>
 ldInt H a1 .i64 fun n =>
 ldStr H ⟨s, 0, none⟩ fun s1 =>
 ldStr H ⟨s, 1, none⟩ fun s2 =>
 ldBool H ⟨s, 2, none⟩ fun b =>
 ldInt H ⟨s, 3, none⟩ .i64 fun n1 =>
 ldInt H ⟨s, 4, none⟩ .i64 fun n2 =>
 ldSl H (Addr.add a2 1) fun q1 q1n q1c =>
 idxD q1 q1n i fun a3 =>
 ldStr H (Addr.add a3 (Int.toNat i * 6)) fun s3 =>
 ldStr H (Addr.add (Addr.add a3 (Int.toNat i * 6)) 1) fun s4 =>
 ldBool H (Addr.add (Addr.add a3 (Int.toNat i * 6)) 2) fun b1 =>
 ldInt H (Addr.add (Addr.add a3 (Int.toNat i * 6)) 3) .i64 fun n3 =>
 ldInt H (Addr.add (Addr.add a3 (Int.toNat i * 6)) 4) .i64 fun n4 =>
 callD Try.prog 57 [(.int .i64 n), (.agg ⟨[(.string s1), (.string s2), (.bool b), (.int .i64 n1), (.int .i64 n2)]⟩), (.agg ⟨[(.string s3), (.string s4), (.bool b1), (.int .i64 n3), (.int .i64 n4)]⟩)] H (panK R) fun v H1 =>
 tBool v fun b2 =>
 iteB (!b2) (
 L2 p val s i H1 R) <|
 L1 p val s i H1 R) <|
 L1 p val s i H R
theorem L0_step {p : OA} {val : Int} {s : Nat} {i : Int} {H : Heap} {R : EH} (h : L0n p val s i H R) : L0 p val s i H R :=
 goL_of_den (an := an) (fuel := 100000) (X := L0n p val s i H R) mixed fn (by kernel_rfl) (fun ρ0 => by kernel_rfl) h
def L1n (p : OA) (val : Int) (s : Nat) (i : Int) (H : Heap) (R : EH) : Prop :=
 newD H (.cells ⟨[]⟩ 71) fun r H1 =>
 nilD p fun a =>
 ldSl H1 (Addr.add a 1) fun q qn qc =>
 bndD i qc fun k =>
 apD H1 6 64 [(.string (ByteArray.mk #[])), (.string (ByteArray.mk #[])), (.bool false), (.int .i64 (0 : Int)), (.int .i64 (0 : Int)), (.int .i64 (0 : Int))] 71 (some ⟨r, 0, none⟩) 0 0 (slP q 0 qc 6) k fun q1 q1n q1c H2 =>
 (
 nilD p fun a1 =>
 ldStr H2 ⟨s, 0, none⟩ fun s1 =>
 ldStr H2 ⟨s, 1, none⟩ fun s2 =>
 ldBool H2 ⟨s, 2, none⟩ fun b =>
 ldInt H2 ⟨s, 3, none⟩ .i64 fun n =>
 ldInt H2 ⟨s, 4, none⟩ .i64 fun n1 =>
 ldSl H2 (Addr.add a1 1) fun q2 q2n q2c =>
 bndD i q2n fun k1 =>
 callD Try.prog 67 [(.agg ⟨[(.string s1), (.string s2), (.bool b), (.int .i64 n), (.int .i64 n1)]⟩)] H2 (panK R) fun v H3 =>
 tAgg v fun l =>
 tCons l fun c l1 =>
 tStr c fun s3 =>
 tCons l1 fun c1 l2 =>
 tStr c1 fun s4 =>
 tCons l2 fun c2 l3 =>
 tBool c2 fun b1 =>
 tCons l3 fun c3 l4 =>
 tInt c3 .i64 fun n2 =>
 tCons l4 fun c4 l5 =>
 tInt c4 .i64 fun n3 =>
 tNil l5 <|
 newD H3 (.cells ⟨[(.string s3), (.string s4), (.bool b1), (.int .i64 n2), (.int .i64 n3), (.int .i64 val)]⟩ 71) fun r1 H4 =>
 apD H4 6 64 [(.string (ByteArray.mk #[])), (.string (ByteArray.mk #[])), (.bool false), (.int .i64 (0 : Int)), (.int .i64 (0 : Int)), (.int .i64 (0 : Int))] 71 q1 q1n q1c (some ⟨r1, 0, none⟩) 1 fun q3 q3n q3c H5 =>
 apD H5 6 64 [(.string (ByteArray.mk #[])), (.string (ByteArray.mk #[])), (.bool false), (.int .i64 (0 : Int)), (.int .i64 (0 : Int)), (.int .i64 (0 : Int))] 71 q3 q3n q3c (slP q2 k1 q2c 6) (q2n - k1) fun q4 q4n q4c H6 =>
 nilD p fun a2 =>
 st1 H6 (Addr.add a2 1) (.slice q4 q4n q4c) fun H7 =>
 R (.returned (.tuple ⟨[]⟩)) H7) ∧
 (
 nilD p fun a3 =>
 ldStr H2 ⟨s, 0, none⟩ fun s5 =>
 ldStr H2 ⟨s, 1, none⟩ fun s6 =>
 ldBool H2 ⟨s, 2, none⟩ fun b2 =>
 ldInt H2 ⟨s, 3, none⟩ .i64 fun n4 =>
 ldInt H2 ⟨s, 4, none⟩ .i64 fun n5 =>
 callD Try.prog 67 [(.agg ⟨[(.string s5), (.string s6), (.bool b2), (.int .i64 n4), (.int .i64 n5)]⟩)] H2 (panK R) fun v1 H8 =>
 tAgg v1 fun l6 =>
 tCons l6 fun c5 l7 =>
 tStr c5 fun s7 =>
 tCons l7 fun c6 l8 =>
 tStr c6 fun s8 =>
 tCons l8 fun c7 l9 =>
 tBool c7 fun b3 =>
 tCons l9 fun c8 l10 =>
 tInt c8 .i64 fun n6 =>
 tCons l10 fun c9 l11 =>
 tInt c9 .i64 fun n7 =>
 tNil l11 <|
 ldSl H8 (Addr.add a3 1) fun q5 q5n q5c =>
 bndD i q5n fun k2 =>
 newD H8 (.cells ⟨[(.string s7), (.string s8), (.bool b3), (.int .i64 n6), (.int .i64 n7), (.int .i64 val)]⟩ 71) fun r2 H9 =>
 apD H9 6 64 [(.string (ByteArray.mk #[])), (.string (ByteArray.mk #[])), (.bool false), (.int .i64 (0 : Int)), (.int .i64 (0 : Int)), (.int .i64 (0 : Int))] 71 q1 q1n q1c (some ⟨r2, 0, none⟩) 1 fun q6 q6n q6c H10 =>
 apD H10 6 64 [(.string (ByteArray.mk #[])), (.string (ByteArray.mk #[])), (.bool false), (.int .i64 (0 : Int)), (.int .i64 (0 : Int)), (.int .i64 (0 : Int))] 71 q6 q6n q6c (slP q5 k2 q5c 6) (q5n - k2) fun q7 q7n q7c H11 =>
 nilD p fun a4 =>
 st1 H11 (Addr.add a4 1) (.slice q7 q7n q7c) fun H12 =>
 R (.returned (.tuple ⟨[]⟩)) H12) ∧
 (
 nilD p fun a5 =>
 ldStr H2 ⟨s, 0, none⟩ fun s9 =>
 ldStr H2 ⟨s, 1, none⟩ fun s10 =>
 ldBool H2 ⟨s, 2, none⟩ fun b4 =>
 ldInt H2 ⟨s, 3, none⟩ .i64 fun n8 =>
 ldInt H2 ⟨s, 4, none⟩ .i64 fun n9 =>
 callD Try.prog 67 [(.agg ⟨[(.string s9), (.string s10), (.bool b4), (.int .i64 n8), (.int .i64 n9)]⟩)] H2 (panK R) fun v2 H13 =>
 tAgg v2 fun l12 =>
 tCons l12 fun c10 l13 =>
 tStr c10 fun s11 =>
 tCons l13 fun c11 l14 =>
 tStr c11 fun s12 =>
 tCons l14 fun c12 l15 =>
 tBool c12 fun b5 =>
 tCons l15 fun c13 l16 =>
 tInt c13 .i64 fun n10 =>
 tCons l16 fun c14 l17 =>
 tInt c14 .i64 fun n11 =>
 tNil l17 <|
 newD H13 (.cells ⟨[(.string s11), (.string s12), (.bool b5), (.int .i64 n10), (.int .i64 n11), (.int .i64 val)]⟩ 71) fun r3 H14 =>
 apD H14 6 64 [(.string (ByteArray.mk #[])), (.string (ByteArray.mk #[])), (.bool false), (.int .i64 (0 : Int)), (.int .i64 (0 : Int)), (.int .i64 (0 : Int))] 71 q1 q1n q1c (some ⟨r3, 0, none⟩) 1 fun q8 q8n q8c H15 =>
 ldSl H15 (Addr.add a5 1) fun q9 q9n q9c =>
 bndD i q9n fun k3 =>
 apD H15 6 64 [(.string (ByteArray.mk #[])), (.string (ByteArray.mk #[])), (.bool false), (.int .i64 (0 : Int)), (.int .i64 (0 : Int)), (.int .i64 (0 : Int))] 71 q8 q8n q8c (slP q9 k3 q9c 6) (q9n - k3) fun q10 q10n q10c H16 =>
 nilD p fun a6 =>
 st1 H16 (Addr.add a6 1) (.slice q10 q10n q10c) fun H17 =>
 R (.returned (.tuple ⟨[]⟩)) H17)
theorem L1_step {p : OA} {val : Int} {s : Nat} {i : Int} {H : Heap} {R : EH} (h : L1n p val s i H R) : L1 p val s i H R :=
 goL_of_den (an := an) (fuel := 100000) (X := L1n p val s i H R) mixed fn (by kernel_rfl) (fun ρ0 => by kernel_rfl) h
def L2n (p : OA) (val : Int) (s : Nat) (i : Int) (H : Heap) (R : EH) : Prop :=
 L0 p val s (IntKind.wrap .i64 (i + (1 : Int))) H R
theorem L2_step {p : OA} {val : Int} {s : Nat} {i : Int} {H : Heap} {R : EH} (h : L2n p val s i H R) : L2 p val s i H R :=
 goL_of_den (an := an) (fuel := 100000) (X := L2n p val s i H R) mixed fn (by kernel_rfl) (fun ρ0 => by kernel_rfl) h
def go (p : OA) (s_0 s_1 : ByteArray) (s_2 : Bool) (s_3 s_4 val : Int) (H : Heap) (R : EH) : Prop :=
 newD H (.cells ⟨[(.string s_0), (.string s_1), (.bool s_2), (.int .i64 s_3), (.int .i64 s_4)]⟩ 35) fun r H1 =>
 L0 p val r (0 : Int) H1 R
theorem calls {p : OA} {s_0 s_1 : ByteArray} {s_2 : Bool} {s_3 s_4 val : Int} {H : Heap} {R : EH} (h : go p s_0 s_1 s_2 s_3 s_4 val H R) : CallsH Try.prog 38 ⟨[(.pointer p), (.agg ⟨[(.string s_0), (.string s_1), (.bool s_2), (.int .i64 s_3), (.int .i64 s_4)]⟩), (.int .i64 val)]⟩ H R :=
 callsH_of_den (an := an) (fuel := 100000) (X := go p s_0 s_1 s_2 s_3 s_4 val H R) (c := body) mixed fn (by kernel_rfl) (by kernel_rfl) (by kernel_rfl) ok (by kernel_rfl) h
end F38
/-! ### 43 "pub-stadtholder/spec.Meet" -/
namespace F43
def an : Ann := { kinds := [(1001, .grow), (1004, .grow), (1005, .grow)], taus := [(1, [[0, 2, 1, 4, 5, 3, 6, 7], [0, 2, 1, 4, 3, 5, 6, 7], [0, 2, 1, 3, 4, 5, 6, 7], [0, 2, 1, 5, 4, 3, 6, 7], [0, 2, 1, 5, 3, 4, 6, 7], [0, 2, 1, 3, 5, 4, 6, 7], [0, 2, 5, 1, 4, 3, 6, 7], [0, 2, 5, 1, 3, 4, 6, 7], [0, 2, 4, 1, 5, 3, 6, 7], [0, 2, 4, 1, 3, 5, 6, 7], [0, 2, 4, 5, 1, 3, 6, 7], [0, 2, 5, 4, 1, 3, 6, 7]])], pairs := [(1, [(1, 4), (1, 5), (4, 5), (4, 3), (5, 3)])], lab := [(10000003, [0, 7, 8])] }
noncomputable def body : Code := (Try.f43.body).getD .skip
theorem fn : Try.prog.funcs[43]? = some Try.f43 := by kernel_rfl
theorem ok : codeOk an 41 body = true := by kernel_rfl
noncomputable def L0t : List Item := [.code (sub [1, 1] body)]
def L0 (order : Int) (a b : Nat) (H : Heap) (R : EH) : Prop :=
 GoL Try.prog 43 41 L0t [0, 7, 8] [(.int .i64 order), (.pointer (some ⟨a, 0, none⟩)), (.pointer (some ⟨b, 0, none⟩))] H R
def L0n (order : Int) (a b : Nat) (H : Heap) (R : EH) : Prop :=
 ldStr H ⟨a, 0, none⟩ fun s =>
 ldStr H ⟨b, 1, none⟩ fun s1 =>
 ldInt H ⟨a, 3, none⟩ .i64 fun n =>
 ldInt H ⟨b, 4, none⟩ .i64 fun n1 =>
 callD Try.prog 71 [(.int .i64 order), (.string s), (.string s1), (.int .i64 n), (.int .i64 n1)] H (panK R) fun v H1 =>
 tInt v .i64 fun n2 =>
 iteB (decide (n2 < (0 : Int))) (
 ldStr H1 ⟨b, 0, none⟩ fun s2 =>
 ldStr H1 ⟨a, 1, none⟩ fun s3 =>
 ldInt H1 ⟨b, 3, none⟩ .i64 fun n3 =>
 ldInt H1 ⟨a, 4, none⟩ .i64 fun n4 =>
 callD Try.prog 71 [(.int .i64 order), (.string s2), (.string s3), (.int .i64 n3), (.int .i64 n4)] H1 (panK R) fun v1 H2 =>
 tInt v1 .i64 fun n5 =>
 R (.returned (.bool (decide (n5 < (0 : Int))))) H2) <|
 R (.returned (.bool false)) H1
theorem L0_step {order : Int} {a b : Nat} {H : Heap} {R : EH} (h : L0n order a b H R) : L0 order a b H R :=
 goL_of_den (an := an) (fuel := 100000) (X := L0n order a b H R) mixed fn (by kernel_rfl) (fun ρ0 => by kernel_rfl) h
def go (order : Int) (s_0 s_1 : ByteArray) (s_2 : Bool) (s_3 s_4 : Int) (t_0 t_1 : ByteArray) (t_2 : Bool) (t_3 t_4 : Int) (H : Heap) (R : EH) : Prop :=
 newD H (.cells ⟨[(.string s_0), (.string s_1), (.bool s_2), (.int .i64 s_3), (.int .i64 s_4)]⟩ 35) fun r H1 =>
 newD H1 (.cells ⟨[(.string t_0), (.string t_1), (.bool t_2), (.int .i64 t_3), (.int .i64 t_4)]⟩ 35) fun r1 H2 =>
 (
 ldStr H2 ⟨r, 0, none⟩ fun s =>
 ldStr H2 ⟨r, 1, none⟩ fun s1 =>
 ldBool H2 ⟨r, 2, none⟩ fun b =>
 ldInt H2 ⟨r, 3, none⟩ .i64 fun n =>
 ldInt H2 ⟨r, 4, none⟩ .i64 fun n1 =>
 ldStr H2 ⟨r1, 0, none⟩ fun s2 =>
 ldStr H2 ⟨r1, 1, none⟩ fun s3 =>
 ldBool H2 ⟨r1, 2, none⟩ fun b1 =>
 ldInt H2 ⟨r1, 3, none⟩ .i64 fun n2 =>
 ldInt H2 ⟨r1, 4, none⟩ .i64 fun n3 =>
 callD Try.prog 67 [(.agg ⟨[(.string s), (.string s1), (.bool b), (.int .i64 n), (.int .i64 n1)]⟩)] H2 nope fun v H3 =>
 tAgg v fun l =>
 tCons l fun c l1 =>
 tStr c fun s4 =>
 tCons l1 fun c1 l2 =>
 tStr c1 fun s5 =>
 tCons l2 fun c2 l3 =>
 tBool c2 fun b2 =>
 tCons l3 fun c3 l4 =>
 tInt c3 .i64 fun n4 =>
 tCons l4 fun c4 l5 =>
 tInt c4 .i64 fun n5 =>
 tNil l5 <|
 andD (ExtH H2 H3) <|
 newD H3 (.cells ⟨[(.string (ByteArray.mk #[])), (.string (ByteArray.mk #[])), (.bool false), (.int .i64 (0 : Int)), (.int .i64 (0 : Int))]⟩ 35) fun r2 H4 =>
 newD H4 (.cells ⟨[(.string (ByteArray.mk #[])), (.string (ByteArray.mk #[])), (.bool false), (.int .i64 (0 : Int)), (.int .i64 (0 : Int))]⟩ 35) fun r3 H5 =>
 callD Try.prog 67 [(.agg ⟨[(.string s2), (.string s3), (.bool b1), (.int .i64 n2), (.int .i64 n3)]⟩)] H5 (panK R) fun v1 H6 =>
 tAgg v1 fun l6 =>
 tCons l6 fun c5 l7 =>
 tStr c5 fun s6 =>
 tCons l7 fun c6 l8 =>
 tStr c6 fun s7 =>
 tCons l8 fun c7 l9 =>
 tBool c7 fun b3 =>
 tCons l9 fun c8 l10 =>
 tInt c8 .i64 fun n6 =>
 tCons l10 fun c9 l11 =>
 tInt c9 .i64 fun n7 =>
 tNil l11 <|
 st1 H6 ⟨r2, 0, none⟩ (.string s4) fun H7 =>
 st1 H7 ⟨r2, 1, none⟩ (.string s5) fun H8 =>
 st1 H8 ⟨r2, 2, none⟩ (.bool b2) fun H9 =>
 st1 H9 ⟨r2, 3, none⟩ (.int .i64 n4) fun H10 =>
 st1 H10 ⟨r2, 4, none⟩ (.int .i64 n5) fun H11 =>
 st1 H11 ⟨r3, 0, none⟩ (.string s6) fun H12 =>
 st1 H12 ⟨r3, 1, none⟩ (.string s7) fun H13 =>
 st1 H13 ⟨r3, 2, none⟩ (.bool b3) fun H14 =>
 st1 H14 ⟨r3, 3, none⟩ (.int .i64 n6) fun H15 =>
 st1 H15 ⟨r3, 4, none⟩ (.int .i64 n7) fun H16 =>
 L0 order r2 r3 H16 R) ∧
 (
 ldStr H2 ⟨r, 0, none⟩ fun s8 =>
 ldStr H2 ⟨r, 1, none⟩ fun s9 =>
 ldBool H2 ⟨r, 2, none⟩ fun b4 =>
 ldInt H2 ⟨r, 3, none⟩ .i64 fun n8 =>
 ldInt H2 ⟨r, 4, none⟩ .i64 fun n9 =>
 ldStr H2 ⟨r1, 0, none⟩ fun s10 =>
 ldStr H2 ⟨r1, 1, none⟩ fun s11 =>
 ldBool H2 ⟨r1, 2, none⟩ fun b5 =>
 ldInt H2 ⟨r1, 3, none⟩ .i64 fun n10 =>
 ldInt H2 ⟨r1, 4, none⟩ .i64 fun n11 =>
 callD Try.prog 67 [(.agg ⟨[(.string s8), (.string s9), (.bool b4), (.int .i64 n8), (.int .i64 n9)]⟩)] H2 nope fun v2 H17 =>
 tAgg v2 fun l12 =>
 tCons l12 fun c10 l13 =>
 tStr c10 fun s12 =>
 tCons l13 fun c11 l14 =>
 tStr c11 fun s13 =>
 tCons l14 fun c12 l15 =>
 tBool c12 fun b6 =>
 tCons l15 fun c13 l16 =>
 tInt c13 .i64 fun n12 =>
 tCons l16 fun c14 l17 =>
 tInt c14 .i64 fun n13 =>
 tNil l17 <|
 andD (ExtH H2 H17) <|
 newD H17 (.cells ⟨[(.string (ByteArray.mk #[])), (.string (ByteArray.mk #[])), (.bool false), (.int .i64 (0 : Int)), (.int .i64 (0 : Int))]⟩ 35) fun r4 H18 =>
 callD Try.prog 67 [(.agg ⟨[(.string s10), (.string s11), (.bool b5), (.int .i64 n10), (.int .i64 n11)]⟩)] H18 (panK R) fun v3 H19 =>
 tAgg v3 fun l18 =>
 tCons l18 fun c15 l19 =>
 tStr c15 fun s14 =>
 tCons l19 fun c16 l20 =>
 tStr c16 fun s15 =>
 tCons l20 fun c17 l21 =>
 tBool c17 fun b7 =>
 tCons l21 fun c18 l22 =>
 tInt c18 .i64 fun n14 =>
 tCons l22 fun c19 l23 =>
 tInt c19 .i64 fun n15 =>
 tNil l23 <|
 newD H19 (.cells ⟨[(.string (ByteArray.mk #[])), (.string (ByteArray.mk #[])), (.bool false), (.int .i64 (0 : Int)), (.int .i64 (0 : Int))]⟩ 35) fun r5 H20 =>
 st1 H20 ⟨r4, 0, none⟩ (.string s12) fun H21 =>
 st1 H21 ⟨r4, 1, none⟩ (.string s13) fun H22 =>
 st1 H22 ⟨r4, 2, none⟩ (.bool b6) fun H23 =>
 st1 H23 ⟨r4, 3, none⟩ (.int .i64 n12) fun H24 =>
 st1 H24 ⟨r4, 4, none⟩ (.int .i64 n13) fun H25 =>
 st1 H25 ⟨r5, 0, none⟩ (.string s14) fun H26 =>
 st1 H26 ⟨r5, 1, none⟩ (.string s15) fun H27 =>
 st1 H27 ⟨r5, 2, none⟩ (.bool b7) fun H28 =>
 st1 H28 ⟨r5, 3, none⟩ (.int .i64 n14) fun H29 =>
 st1 H29 ⟨r5, 4, none⟩ (.int .i64 n15) fun H30 =>
 L0 order r4 r5 H30 R) ∧
 (
 ldStr H2 ⟨r, 0, none⟩ fun s16 =>
 ldStr H2 ⟨r, 1, none⟩ fun s17 =>
 ldBool H2 ⟨r, 2, none⟩ fun b8 =>
 ldInt H2 ⟨r, 3, none⟩ .i64 fun n16 =>
 ldInt H2 ⟨r, 4, none⟩ .i64 fun n17 =>
 ldStr H2 ⟨r1, 0, none⟩ fun s18 =>
 ldStr H2 ⟨r1, 1, none⟩ fun s19 =>
 ldBool H2 ⟨r1, 2, none⟩ fun b9 =>
 ldInt H2 ⟨r1, 3, none⟩ .i64 fun n18 =>
 ldInt H2 ⟨r1, 4, none⟩ .i64 fun n19 =>
 callD Try.prog 67 [(.agg ⟨[(.string s16), (.string s17), (.bool b8), (.int .i64 n16), (.int .i64 n17)]⟩)] H2 nope fun v4 H31 =>
 tAgg v4 fun l24 =>
 tCons l24 fun c20 l25 =>
 tStr c20 fun s20 =>
 tCons l25 fun c21 l26 =>
 tStr c21 fun s21 =>
 tCons l26 fun c22 l27 =>
 tBool c22 fun b10 =>
 tCons l27 fun c23 l28 =>
 tInt c23 .i64 fun n20 =>
 tCons l28 fun c24 l29 =>
 tInt c24 .i64 fun n21 =>
 tNil l29 <|
 andD (ExtH H2 H31) <|
 callD Try.prog 67 [(.agg ⟨[(.string s18), (.string s19), (.bool b9), (.int .i64 n18), (.int .i64 n19)]⟩)] H31 (panK R) fun v5 H32 =>
 tAgg v5 fun l30 =>
 tCons l30 fun c25 l31 =>
 tStr c25 fun s22 =>
 tCons l31 fun c26 l32 =>
 tStr c26 fun s23 =>
 tCons l32 fun c27 l33 =>
 tBool c27 fun b11 =>
 tCons l33 fun c28 l34 =>
 tInt c28 .i64 fun n22 =>
 tCons l34 fun c29 l35 =>
 tInt c29 .i64 fun n23 =>
 tNil l35 <|
 newD H32 (.cells ⟨[(.string (ByteArray.mk #[])), (.string (ByteArray.mk #[])), (.bool false), (.int .i64 (0 : Int)), (.int .i64 (0 : Int))]⟩ 35) fun r6 H33 =>
 newD H33 (.cells ⟨[(.string (ByteArray.mk #[])), (.string (ByteArray.mk #[])), (.bool false), (.int .i64 (0 : Int)), (.int .i64 (0 : Int))]⟩ 35) fun r7 H34 =>
 st1 H34 ⟨r6, 0, none⟩ (.string s20) fun H35 =>
 st1 H35 ⟨r6, 1, none⟩ (.string s21) fun H36 =>
 st1 H36 ⟨r6, 2, none⟩ (.bool b10) fun H37 =>
 st1 H37 ⟨r6, 3, none⟩ (.int .i64 n20) fun H38 =>
 st1 H38 ⟨r6, 4, none⟩ (.int .i64 n21) fun H39 =>
 st1 H39 ⟨r7, 0, none⟩ (.string s22) fun H40 =>
 st1 H40 ⟨r7, 1, none⟩ (.string s23) fun H41 =>
 st1 H41 ⟨r7, 2, none⟩ (.bool b11) fun H42 =>
 st1 H42 ⟨r7, 3, none⟩ (.int .i64 n22) fun H43 =>
 st1 H43 ⟨r7, 4, none⟩ (.int .i64 n23) fun H44 =>
 L0 order r6 r7 H44 R) ∧
 (
 ldStr H2 ⟨r, 0, none⟩ fun s24 =>
 ldStr H2 ⟨r, 1, none⟩ fun s25 =>
 ldBool H2 ⟨r, 2, none⟩ fun b12 =>
 ldInt H2 ⟨r, 3, none⟩ .i64 fun n24 =>
 ldInt H2 ⟨r, 4, none⟩ .i64 fun n25 =>
 ldStr H2 ⟨r1, 0, none⟩ fun s26 =>
 ldStr H2 ⟨r1, 1, none⟩ fun s27 =>
 ldBool H2 ⟨r1, 2, none⟩ fun b13 =>
 ldInt H2 ⟨r1, 3, none⟩ .i64 fun n26 =>
 ldInt H2 ⟨r1, 4, none⟩ .i64 fun n27 =>
 callD Try.prog 67 [(.agg ⟨[(.string s24), (.string s25), (.bool b12), (.int .i64 n24), (.int .i64 n25)]⟩)] H2 nope fun v6 H45 =>
 tAgg v6 fun l36 =>
 tCons l36 fun c30 l37 =>
 tStr c30 fun s28 =>
 tCons l37 fun c31 l38 =>
 tStr c31 fun s29 =>
 tCons l38 fun c32 l39 =>
 tBool c32 fun b14 =>
 tCons l39 fun c33 l40 =>
 tInt c33 .i64 fun n28 =>
 tCons l40 fun c34 l41 =>
 tInt c34 .i64 fun n29 =>
 tNil l41 <|
 andD (ExtH H2 H45) <|
 newD H45 (.cells ⟨[(.string (ByteArray.mk #[])), (.string (ByteArray.mk #[])), (.bool false), (.int .i64 (0 : Int)), (.int .i64 (0 : Int))]⟩ 35) fun r8 H46 =>
 newD H46 (.cells ⟨[(.string (ByteArray.mk #[])), (.string (ByteArray.mk #[])), (.bool false), (.int .i64 (0 : Int)), (.int .i64 (0 : Int))]⟩ 35) fun r9 H47 =>
 callD Try.prog 67 [(.agg ⟨[(.string s26), (.string s27), (.bool b13), (.int .i64 n26), (.int .i64 n27)]⟩)] H47 (panK R) fun v7 H48 =>
 tAgg v7 fun l42 =>
 tCons l42 fun c35 l43 =>
 tStr c35 fun s30 =>
 tCons l43 fun c36 l44 =>
 tStr c36 fun s31 =>
 tCons l44 fun c37 l45 =>
 tBool c37 fun b15 =>
 tCons l45 fun c38 l46 =>
 tInt c38 .i64 fun n30 =>
 tCons l46 fun c39 l47 =>
 tInt c39 .i64 fun n31 =>
 tNil l47 <|
 st1 H48 ⟨r9, 0, none⟩ (.string s28) fun H49 =>
 st1 H49 ⟨r9, 1, none⟩ (.string s29) fun H50 =>
 st1 H50 ⟨r9, 2, none⟩ (.bool b14) fun H51 =>
 st1 H51 ⟨r9, 3, none⟩ (.int .i64 n28) fun H52 =>
 st1 H52 ⟨r9, 4, none⟩ (.int .i64 n29) fun H53 =>
 st1 H53 ⟨r8, 0, none⟩ (.string s30) fun H54 =>
 st1 H54 ⟨r8, 1, none⟩ (.string s31) fun H55 =>
 st1 H55 ⟨r8, 2, none⟩ (.bool b15) fun H56 =>
 st1 H56 ⟨r8, 3, none⟩ (.int .i64 n30) fun H57 =>
 st1 H57 ⟨r8, 4, none⟩ (.int .i64 n31) fun H58 =>
 L0 order r9 r8 H58 R) ∧
 (
 ldStr H2 ⟨r, 0, none⟩ fun s32 =>
 ldStr H2 ⟨r, 1, none⟩ fun s33 =>
 ldBool H2 ⟨r, 2, none⟩ fun b16 =>
 ldInt H2 ⟨r, 3, none⟩ .i64 fun n32 =>
 ldInt H2 ⟨r, 4, none⟩ .i64 fun n33 =>
 ldStr H2 ⟨r1, 0, none⟩ fun s34 =>
 ldStr H2 ⟨r1, 1, none⟩ fun s35 =>
 ldBool H2 ⟨r1, 2, none⟩ fun b17 =>
 ldInt H2 ⟨r1, 3, none⟩ .i64 fun n34 =>
 ldInt H2 ⟨r1, 4, none⟩ .i64 fun n35 =>
 callD Try.prog 67 [(.agg ⟨[(.string s32), (.string s33), (.bool b16), (.int .i64 n32), (.int .i64 n33)]⟩)] H2 nope fun v8 H59 =>
 tAgg v8 fun l48 =>
 tCons l48 fun c40 l49 =>
 tStr c40 fun s36 =>
 tCons l49 fun c41 l50 =>
 tStr c41 fun s37 =>
 tCons l50 fun c42 l51 =>
 tBool c42 fun b18 =>
 tCons l51 fun c43 l52 =>
 tInt c43 .i64 fun n36 =>
 tCons l52 fun c44 l53 =>
 tInt c44 .i64 fun n37 =>
 tNil l53 <|
 andD (ExtH H2 H59) <|
 newD H59 (.cells ⟨[(.string (ByteArray.mk #[])), (.string (ByteArray.mk #[])), (.bool false), (.int .i64 (0 : Int)), (.int .i64 (0 : Int))]⟩ 35) fun r10 H60 =>
 callD Try.prog 67 [(.agg ⟨[(.string s34), (.string s35), (.bool b17), (.int .i64 n34), (.int .i64 n35)]⟩)] H60 (panK R) fun v9 H61 =>
 tAgg v9 fun l54 =>
 tCons l54 fun c45 l55 =>
 tStr c45 fun s38 =>
 tCons l55 fun c46 l56 =>
 tStr c46 fun s39 =>
 tCons l56 fun c47 l57 =>
 tBool c47 fun b19 =>
 tCons l57 fun c48 l58 =>
 tInt c48 .i64 fun n38 =>
 tCons l58 fun c49 l59 =>
 tInt c49 .i64 fun n39 =>
 tNil l59 <|
 newD H61 (.cells ⟨[(.string (ByteArray.mk #[])), (.string (ByteArray.mk #[])), (.bool false), (.int .i64 (0 : Int)), (.int .i64 (0 : Int))]⟩ 35) fun r11 H62 =>
 st1 H62 ⟨r11, 0, none⟩ (.string s36) fun H63 =>
 st1 H63 ⟨r11, 1, none⟩ (.string s37) fun H64 =>
 st1 H64 ⟨r11, 2, none⟩ (.bool b18) fun H65 =>
 st1 H65 ⟨r11, 3, none⟩ (.int .i64 n36) fun H66 =>
 st1 H66 ⟨r11, 4, none⟩ (.int .i64 n37) fun H67 =>
 st1 H67 ⟨r10, 0, none⟩ (.string s38) fun H68 =>
 st1 H68 ⟨r10, 1, none⟩ (.string s39) fun H69 =>
 st1 H69 ⟨r10, 2, none⟩ (.bool b19) fun H70 =>
 st1 H70 ⟨r10, 3, none⟩ (.int .i64 n38) fun H71 =>
 st1 H71 ⟨r10, 4, none⟩ (.int .i64 n39) fun H72 =>
 L0 order r11 r10 H72 R) ∧
 (
 ldStr H2 ⟨r, 0, none⟩ fun s40 =>
 ldStr H2 ⟨r, 1, none⟩ fun s41 =>
 ldBool H2 ⟨r, 2, none⟩ fun b20 =>
 ldInt H2 ⟨r, 3, none⟩ .i64 fun n40 =>
 ldInt H2 ⟨r, 4, none⟩ .i64 fun n41 =>
 ldStr H2 ⟨r1, 0, none⟩ fun s42 =>
 ldStr H2 ⟨r1, 1, none⟩ fun s43 =>
 ldBool H2 ⟨r1, 2, none⟩ fun b21 =>
 ldInt H2 ⟨r1, 3, none⟩ .i64 fun n42 =>
 ldInt H2 ⟨r1, 4, none⟩ .i64 fun n43 =>
 callD Try.prog 67 [(.agg ⟨[(.string s40), (.string s41), (.bool b20), (.int .i64 n40), (.int .i64 n41)]⟩)] H2 nope fun v10 H73 =>
 tAgg v10 fun l60 =>
 tCons l60 fun c50 l61 =>
 tStr c50 fun s44 =>
 tCons l61 fun c51 l62 =>
 tStr c51 fun s45 =>
 tCons l62 fun c52 l63 =>
 tBool c52 fun b22 =>
 tCons l63 fun c53 l64 =>
 tInt c53 .i64 fun n44 =>
 tCons l64 fun c54 l65 =>
 tInt c54 .i64 fun n45 =>
 tNil l65 <|
 andD (ExtH H2 H73) <|
 callD Try.prog 67 [(.agg ⟨[(.string s42), (.string s43), (.bool b21), (.int .i64 n42), (.int .i64 n43)]⟩)] H73 (panK R) fun v11 H74 =>
 tAgg v11 fun l66 =>
 tCons l66 fun c55 l67 =>
 tStr c55 fun s46 =>
 tCons l67 fun c56 l68 =>
 tStr c56 fun s47 =>
 tCons l68 fun c57 l69 =>
 tBool c57 fun b23 =>
 tCons l69 fun c58 l70 =>
 tInt c58 .i64 fun n46 =>
 tCons l70 fun c59 l71 =>
 tInt c59 .i64 fun n47 =>
 tNil l71 <|
 newD H74 (.cells ⟨[(.string (ByteArray.mk #[])), (.string (ByteArray.mk #[])), (.bool false), (.int .i64 (0 : Int)), (.int .i64 (0 : Int))]⟩ 35) fun r12 H75 =>
 newD H75 (.cells ⟨[(.string (ByteArray.mk #[])), (.string (ByteArray.mk #[])), (.bool false), (.int .i64 (0 : Int)), (.int .i64 (0 : Int))]⟩ 35) fun r13 H76 =>
 st1 H76 ⟨r13, 0, none⟩ (.string s44) fun H77 =>
 st1 H77 ⟨r13, 1, none⟩ (.string s45) fun H78 =>
 st1 H78 ⟨r13, 2, none⟩ (.bool b22) fun H79 =>
 st1 H79 ⟨r13, 3, none⟩ (.int .i64 n44) fun H80 =>
 st1 H80 ⟨r13, 4, none⟩ (.int .i64 n45) fun H81 =>
 st1 H81 ⟨r12, 0, none⟩ (.string s46) fun H82 =>
 st1 H82 ⟨r12, 1, none⟩ (.string s47) fun H83 =>
 st1 H83 ⟨r12, 2, none⟩ (.bool b23) fun H84 =>
 st1 H84 ⟨r12, 3, none⟩ (.int .i64 n46) fun H85 =>
 st1 H85 ⟨r12, 4, none⟩ (.int .i64 n47) fun H86 =>
 L0 order r13 r12 H86 R) ∧
 (
 ldStr H2 ⟨r, 0, none⟩ fun s48 =>
 ldStr H2 ⟨r, 1, none⟩ fun s49 =>
 ldBool H2 ⟨r, 2, none⟩ fun b24 =>
 ldInt H2 ⟨r, 3, none⟩ .i64 fun n48 =>
 ldInt H2 ⟨r, 4, none⟩ .i64 fun n49 =>
 ldStr H2 ⟨r1, 0, none⟩ fun s50 =>
 ldStr H2 ⟨r1, 1, none⟩ fun s51 =>
 ldBool H2 ⟨r1, 2, none⟩ fun b25 =>
 ldInt H2 ⟨r1, 3, none⟩ .i64 fun n50 =>
 ldInt H2 ⟨r1, 4, none⟩ .i64 fun n51 =>
 newD H2 (.cells ⟨[(.string (ByteArray.mk #[])), (.string (ByteArray.mk #[])), (.bool false), (.int .i64 (0 : Int)), (.int .i64 (0 : Int))]⟩ 35) fun r14 H87 =>
 callD Try.prog 67 [(.agg ⟨[(.string s48), (.string s49), (.bool b24), (.int .i64 n48), (.int .i64 n49)]⟩)] H87 nope fun v12 H88 =>
 tAgg v12 fun l72 =>
 tCons l72 fun c60 l73 =>
 tStr c60 fun s52 =>
 tCons l73 fun c61 l74 =>
 tStr c61 fun s53 =>
 tCons l74 fun c62 l75 =>
 tBool c62 fun b26 =>
 tCons l75 fun c63 l76 =>
 tInt c63 .i64 fun n52 =>
 tCons l76 fun c64 l77 =>
 tInt c64 .i64 fun n53 =>
 tNil l77 <|
 andD (ExtH H87 H88) <|
 newD H88 (.cells ⟨[(.string (ByteArray.mk #[])), (.string (ByteArray.mk #[])), (.bool false), (.int .i64 (0 : Int)), (.int .i64 (0 : Int))]⟩ 35) fun r15 H89 =>
 callD Try.prog 67 [(.agg ⟨[(.string s50), (.string s51), (.bool b25), (.int .i64 n50), (.int .i64 n51)]⟩)] H89 (panK R) fun v13 H90 =>
 tAgg v13 fun l78 =>
 tCons l78 fun c65 l79 =>
 tStr c65 fun s54 =>
 tCons l79 fun c66 l80 =>
 tStr c66 fun s55 =>
 tCons l80 fun c67 l81 =>
 tBool c67 fun b27 =>
 tCons l81 fun c68 l82 =>
 tInt c68 .i64 fun n54 =>
 tCons l82 fun c69 l83 =>
 tInt c69 .i64 fun n55 =>
 tNil l83 <|
 st1 H90 ⟨r15, 0, none⟩ (.string s52) fun H91 =>
 st1 H91 ⟨r15, 1, none⟩ (.string s53) fun H92 =>
 st1 H92 ⟨r15, 2, none⟩ (.bool b26) fun H93 =>
 st1 H93 ⟨r15, 3, none⟩ (.int .i64 n52) fun H94 =>
 st1 H94 ⟨r15, 4, none⟩ (.int .i64 n53) fun H95 =>
 st1 H95 ⟨r14, 0, none⟩ (.string s54) fun H96 =>
 st1 H96 ⟨r14, 1, none⟩ (.string s55) fun H97 =>
 st1 H97 ⟨r14, 2, none⟩ (.bool b27) fun H98 =>
 st1 H98 ⟨r14, 3, none⟩ (.int .i64 n54) fun H99 =>
 st1 H99 ⟨r14, 4, none⟩ (.int .i64 n55) fun H100 =>
 L0 order r15 r14 H100 R) ∧
 (
 ldStr H2 ⟨r, 0, none⟩ fun s56 =>
 ldStr H2 ⟨r, 1, none⟩ fun s57 =>
 ldBool H2 ⟨r, 2, none⟩ fun b28 =>
 ldInt H2 ⟨r, 3, none⟩ .i64 fun n56 =>
 ldInt H2 ⟨r, 4, none⟩ .i64 fun n57 =>
 ldStr H2 ⟨r1, 0, none⟩ fun s58 =>
 ldStr H2 ⟨r1, 1, none⟩ fun s59 =>
 ldBool H2 ⟨r1, 2, none⟩ fun b29 =>
 ldInt H2 ⟨r1, 3, none⟩ .i64 fun n58 =>
 ldInt H2 ⟨r1, 4, none⟩ .i64 fun n59 =>
 newD H2 (.cells ⟨[(.string (ByteArray.mk #[])), (.string (ByteArray.mk #[])), (.bool false), (.int .i64 (0 : Int)), (.int .i64 (0 : Int))]⟩ 35) fun r16 H101 =>
 callD Try.prog 67 [(.agg ⟨[(.string s56), (.string s57), (.bool b28), (.int .i64 n56), (.int .i64 n57)]⟩)] H101 nope fun v14 H102 =>
 tAgg v14 fun l84 =>
 tCons l84 fun c70 l85 =>
 tStr c70 fun s60 =>
 tCons l85 fun c71 l86 =>
 tStr c71 fun s61 =>
 tCons l86 fun c72 l87 =>
 tBool c72 fun b30 =>
 tCons l87 fun c73 l88 =>
 tInt c73 .i64 fun n60 =>
 tCons l88 fun c74 l89 =>
 tInt c74 .i64 fun n61 =>
 tNil l89 <|
 andD (ExtH H101 H102) <|
 callD Try.prog 67 [(.agg ⟨[(.string s58), (.string s59), (.bool b29), (.int .i64 n58), (.int .i64 n59)]⟩)] H102 (panK R) fun v15 H103 =>
 tAgg v15 fun l90 =>
 tCons l90 fun c75 l91 =>
 tStr c75 fun s62 =>
 tCons l91 fun c76 l92 =>
 tStr c76 fun s63 =>
 tCons l92 fun c77 l93 =>
 tBool c77 fun b31 =>
 tCons l93 fun c78 l94 =>
 tInt c78 .i64 fun n62 =>
 tCons l94 fun c79 l95 =>
 tInt c79 .i64 fun n63 =>
 tNil l95 <|
 newD H103 (.cells ⟨[(.string (ByteArray.mk #[])), (.string (ByteArray.mk #[])), (.bool false), (.int .i64 (0 : Int)), (.int .i64 (0 : Int))]⟩ 35) fun r17 H104 =>
 st1 H104 ⟨r17, 0, none⟩ (.string s60) fun H105 =>
 st1 H105 ⟨r17, 1, none⟩ (.string s61) fun H106 =>
 st1 H106 ⟨r17, 2, none⟩ (.bool b30) fun H107 =>
 st1 H107 ⟨r17, 3, none⟩ (.int .i64 n60) fun H108 =>
 st1 H108 ⟨r17, 4, none⟩ (.int .i64 n61) fun H109 =>
 st1 H109 ⟨r16, 0, none⟩ (.string s62) fun H110 =>
 st1 H110 ⟨r16, 1, none⟩ (.string s63) fun H111 =>
 st1 H111 ⟨r16, 2, none⟩ (.bool b31) fun H112 =>
 st1 H112 ⟨r16, 3, none⟩ (.int .i64 n62) fun H113 =>
 st1 H113 ⟨r16, 4, none⟩ (.int .i64 n63) fun H114 =>
 L0 order r17 r16 H114 R) ∧
 (
 ldStr H2 ⟨r, 0, none⟩ fun s64 =>
 ldStr H2 ⟨r, 1, none⟩ fun s65 =>
 ldBool H2 ⟨r, 2, none⟩ fun b32 =>
 ldInt H2 ⟨r, 3, none⟩ .i64 fun n64 =>
 ldInt H2 ⟨r, 4, none⟩ .i64 fun n65 =>
 ldStr H2 ⟨r1, 0, none⟩ fun s66 =>
 ldStr H2 ⟨r1, 1, none⟩ fun s67 =>
 ldBool H2 ⟨r1, 2, none⟩ fun b33 =>
 ldInt H2 ⟨r1, 3, none⟩ .i64 fun n66 =>
 ldInt H2 ⟨r1, 4, none⟩ .i64 fun n67 =>
 newD H2 (.cells ⟨[(.string (ByteArray.mk #[])), (.string (ByteArray.mk #[])), (.bool false), (.int .i64 (0 : Int)), (.int .i64 (0 : Int))]⟩ 35) fun r18 H115 =>
 callD Try.prog 67 [(.agg ⟨[(.string s64), (.string s65), (.bool b32), (.int .i64 n64), (.int .i64 n65)]⟩)] H115 nope fun v16 H116 =>
 tAgg v16 fun l96 =>
 tCons l96 fun c80 l97 =>
 tStr c80 fun s68 =>
 tCons l97 fun c81 l98 =>
 tStr c81 fun s69 =>
 tCons l98 fun c82 l99 =>
 tBool c82 fun b34 =>
 tCons l99 fun c83 l100 =>
 tInt c83 .i64 fun n68 =>
 tCons l100 fun c84 l101 =>
 tInt c84 .i64 fun n69 =>
 tNil l101 <|
 andD (ExtH H115 H116) <|
 newD H116 (.cells ⟨[(.string (ByteArray.mk #[])), (.string (ByteArray.mk #[])), (.bool false), (.int .i64 (0 : Int)), (.int .i64 (0 : Int))]⟩ 35) fun r19 H117 =>
 callD Try.prog 67 [(.agg ⟨[(.string s66), (.string s67), (.bool b33), (.int .i64 n66), (.int .i64 n67)]⟩)] H117 (panK R) fun v17 H118 =>
 tAgg v17 fun l102 =>
 tCons l102 fun c85 l103 =>
 tStr c85 fun s70 =>
 tCons l103 fun c86 l104 =>
 tStr c86 fun s71 =>
 tCons l104 fun c87 l105 =>
 tBool c87 fun b35 =>
 tCons l105 fun c88 l106 =>
 tInt c88 .i64 fun n70 =>
 tCons l106 fun c89 l107 =>
 tInt c89 .i64 fun n71 =>
 tNil l107 <|
 st1 H118 ⟨r18, 0, none⟩ (.string s68) fun H119 =>
 st1 H119 ⟨r18, 1, none⟩ (.string s69) fun H120 =>
 st1 H120 ⟨r18, 2, none⟩ (.bool b34) fun H121 =>
 st1 H121 ⟨r18, 3, none⟩ (.int .i64 n68) fun H122 =>
 st1 H122 ⟨r18, 4, none⟩ (.int .i64 n69) fun H123 =>
 st1 H123 ⟨r19, 0, none⟩ (.string s70) fun H124 =>
 st1 H124 ⟨r19, 1, none⟩ (.string s71) fun H125 =>
 st1 H125 ⟨r19, 2, none⟩ (.bool b35) fun H126 =>
 st1 H126 ⟨r19, 3, none⟩ (.int .i64 n70) fun H127 =>
 st1 H127 ⟨r19, 4, none⟩ (.int .i64 n71) fun H128 =>
 L0 order r18 r19 H128 R) ∧
 (
 ldStr H2 ⟨r, 0, none⟩ fun s72 =>
 ldStr H2 ⟨r, 1, none⟩ fun s73 =>
 ldBool H2 ⟨r, 2, none⟩ fun b36 =>
 ldInt H2 ⟨r, 3, none⟩ .i64 fun n72 =>
 ldInt H2 ⟨r, 4, none⟩ .i64 fun n73 =>
 ldStr H2 ⟨r1, 0, none⟩ fun s74 =>
 ldStr H2 ⟨r1, 1, none⟩ fun s75 =>
 ldBool H2 ⟨r1, 2, none⟩ fun b37 =>
 ldInt H2 ⟨r1, 3, none⟩ .i64 fun n74 =>
 ldInt H2 ⟨r1, 4, none⟩ .i64 fun n75 =>
 newD H2 (.cells ⟨[(.string (ByteArray.mk #[])), (.string (ByteArray.mk #[])), (.bool false), (.int .i64 (0 : Int)), (.int .i64 (0 : Int))]⟩ 35) fun r20 H129 =>
 callD Try.prog 67 [(.agg ⟨[(.string s72), (.string s73), (.bool b36), (.int .i64 n72), (.int .i64 n73)]⟩)] H129 nope fun v18 H130 =>
 tAgg v18 fun l108 =>
 tCons l108 fun c90 l109 =>
 tStr c90 fun s76 =>
 tCons l109 fun c91 l110 =>
 tStr c91 fun s77 =>
 tCons l110 fun c92 l111 =>
 tBool c92 fun b38 =>
 tCons l111 fun c93 l112 =>
 tInt c93 .i64 fun n76 =>
 tCons l112 fun c94 l113 =>
 tInt c94 .i64 fun n77 =>
 tNil l113 <|
 andD (ExtH H129 H130) <|
 callD Try.prog 67 [(.agg ⟨[(.string s74), (.string s75), (.bool b37), (.int .i64 n74), (.int .i64 n75)]⟩)] H130 (panK R) fun v19 H131 =>
 tAgg v19 fun l114 =>
 tCons l114 fun c95 l115 =>
 tStr c95 fun s78 =>
 tCons l115 fun c96 l116 =>
 tStr c96 fun s79 =>
 tCons l116 fun c97 l117 =>
 tBool c97 fun b39 =>
 tCons l117 fun c98 l118 =>
 tInt c98 .i64 fun n78 =>
 tCons l118 fun c99 l119 =>
 tInt c99 .i64 fun n79 =>
 tNil l119 <|
 newD H131 (.cells ⟨[(.string (ByteArray.mk #[])), (.string (ByteArray.mk #[])), (.bool false), (.int .i64 (0 : Int)), (.int .i64 (0 : Int))]⟩ 35) fun r21 H132 =>
 st1 H132 ⟨r20, 0, none⟩ (.string s76) fun H133 =>
 st1 H133 ⟨r20, 1, none⟩ (.string s77) fun H134 =>
 st1 H134 ⟨r20, 2, none⟩ (.bool b38) fun H135 =>
 st1 H135 ⟨r20, 3, none⟩ (.int .i64 n76) fun H136 =>
 st1 H136 ⟨r20, 4, none⟩ (.int .i64 n77) fun H137 =>
 st1 H137 ⟨r21, 0, none⟩ (.string s78) fun H138 =>
 st1 H138 ⟨r21, 1, none⟩ (.string s79) fun H139 =>
 st1 H139 ⟨r21, 2, none⟩ (.bool b39) fun H140 =>
 st1 H140 ⟨r21, 3, none⟩ (.int .i64 n78) fun H141 =>
 st1 H141 ⟨r21, 4, none⟩ (.int .i64 n79) fun H142 =>
 L0 order r20 r21 H142 R) ∧
 (
 ldStr H2 ⟨r, 0, none⟩ fun s80 =>
 ldStr H2 ⟨r, 1, none⟩ fun s81 =>
 ldBool H2 ⟨r, 2, none⟩ fun b40 =>
 ldInt H2 ⟨r, 3, none⟩ .i64 fun n80 =>
 ldInt H2 ⟨r, 4, none⟩ .i64 fun n81 =>
 ldStr H2 ⟨r1, 0, none⟩ fun s82 =>
 ldStr H2 ⟨r1, 1, none⟩ fun s83 =>
 ldBool H2 ⟨r1, 2, none⟩ fun b41 =>
 ldInt H2 ⟨r1, 3, none⟩ .i64 fun n82 =>
 ldInt H2 ⟨r1, 4, none⟩ .i64 fun n83 =>
 newD H2 (.cells ⟨[(.string (ByteArray.mk #[])), (.string (ByteArray.mk #[])), (.bool false), (.int .i64 (0 : Int)), (.int .i64 (0 : Int))]⟩ 35) fun r22 H143 =>
 newD H143 (.cells ⟨[(.string (ByteArray.mk #[])), (.string (ByteArray.mk #[])), (.bool false), (.int .i64 (0 : Int)), (.int .i64 (0 : Int))]⟩ 35) fun r23 H144 =>
 callD Try.prog 67 [(.agg ⟨[(.string s80), (.string s81), (.bool b40), (.int .i64 n80), (.int .i64 n81)]⟩)] H144 nope fun v20 H145 =>
 tAgg v20 fun l120 =>
 tCons l120 fun c100 l121 =>
 tStr c100 fun s84 =>
 tCons l121 fun c101 l122 =>
 tStr c101 fun s85 =>
 tCons l122 fun c102 l123 =>
 tBool c102 fun b42 =>
 tCons l123 fun c103 l124 =>
 tInt c103 .i64 fun n84 =>
 tCons l124 fun c104 l125 =>
 tInt c104 .i64 fun n85 =>
 tNil l125 <|
 andD (ExtH H144 H145) <|
 callD Try.prog 67 [(.agg ⟨[(.string s82), (.string s83), (.bool b41), (.int .i64 n82), (.int .i64 n83)]⟩)] H145 (panK R) fun v21 H146 =>
 tAgg v21 fun l126 =>
 tCons l126 fun c105 l127 =>
 tStr c105 fun s86 =>
 tCons l127 fun c106 l128 =>
 tStr c106 fun s87 =>
 tCons l128 fun c107 l129 =>
 tBool c107 fun b43 =>
 tCons l129 fun c108 l130 =>
 tInt c108 .i64 fun n86 =>
 tCons l130 fun c109 l131 =>
 tInt c109 .i64 fun n87 =>
 tNil l131 <|
 st1 H146 ⟨r22, 0, none⟩ (.string s84) fun H147 =>
 st1 H147 ⟨r22, 1, none⟩ (.string s85) fun H148 =>
 st1 H148 ⟨r22, 2, none⟩ (.bool b42) fun H149 =>
 st1 H149 ⟨r22, 3, none⟩ (.int .i64 n84) fun H150 =>
 st1 H150 ⟨r22, 4, none⟩ (.int .i64 n85) fun H151 =>
 st1 H151 ⟨r23, 0, none⟩ (.string s86) fun H152 =>
 st1 H152 ⟨r23, 1, none⟩ (.string s87) fun H153 =>
 st1 H153 ⟨r23, 2, none⟩ (.bool b43) fun H154 =>
 st1 H154 ⟨r23, 3, none⟩ (.int .i64 n86) fun H155 =>
 st1 H155 ⟨r23, 4, none⟩ (.int .i64 n87) fun H156 =>
 L0 order r22 r23 H156 R) ∧
 (
 ldStr H2 ⟨r, 0, none⟩ fun s88 =>
 ldStr H2 ⟨r, 1, none⟩ fun s89 =>
 ldBool H2 ⟨r, 2, none⟩ fun b44 =>
 ldInt H2 ⟨r, 3, none⟩ .i64 fun n88 =>
 ldInt H2 ⟨r, 4, none⟩ .i64 fun n89 =>
 ldStr H2 ⟨r1, 0, none⟩ fun s90 =>
 ldStr H2 ⟨r1, 1, none⟩ fun s91 =>
 ldBool H2 ⟨r1, 2, none⟩ fun b45 =>
 ldInt H2 ⟨r1, 3, none⟩ .i64 fun n90 =>
 ldInt H2 ⟨r1, 4, none⟩ .i64 fun n91 =>
 newD H2 (.cells ⟨[(.string (ByteArray.mk #[])), (.string (ByteArray.mk #[])), (.bool false), (.int .i64 (0 : Int)), (.int .i64 (0 : Int))]⟩ 35) fun r24 H157 =>
 newD H157 (.cells ⟨[(.string (ByteArray.mk #[])), (.string (ByteArray.mk #[])), (.bool false), (.int .i64 (0 : Int)), (.int .i64 (0 : Int))]⟩ 35) fun r25 H158 =>
 callD Try.prog 67 [(.agg ⟨[(.string s88), (.string s89), (.bool b44), (.int .i64 n88), (.int .i64 n89)]⟩)] H158 nope fun v22 H159 =>
 tAgg v22 fun l132 =>
 tCons l132 fun c110 l133 =>
 tStr c110 fun s92 =>
 tCons l133 fun c111 l134 =>
 tStr c111 fun s93 =>
 tCons l134 fun c112 l135 =>
 tBool c112 fun b46 =>
 tCons l135 fun c113 l136 =>
 tInt c113 .i64 fun n92 =>
 tCons l136 fun c114 l137 =>
 tInt c114 .i64 fun n93 =>
 tNil l137 <|
 andD (ExtH H158 H159) <|
 callD Try.prog 67 [(.agg ⟨[(.string s90), (.string s91), (.bool b45), (.int .i64 n90), (.int .i64 n91)]⟩)] H159 (panK R) fun v23 H160 =>
 tAgg v23 fun l138 =>
 tCons l138 fun c115 l139 =>
 tStr c115 fun s94 =>
 tCons l139 fun c116 l140 =>
 tStr c116 fun s95 =>
 tCons l140 fun c117 l141 =>
 tBool c117 fun b47 =>
 tCons l141 fun c118 l142 =>
 tInt c118 .i64 fun n94 =>
 tCons l142 fun c119 l143 =>
 tInt c119 .i64 fun n95 =>
 tNil l143 <|
 st1 H160 ⟨r25, 0, none⟩ (.string s92) fun H161 =>
 st1 H161 ⟨r25, 1, none⟩ (.string s93) fun H162 =>
 st1 H162 ⟨r25, 2, none⟩ (.bool b46) fun H163 =>
 st1 H163 ⟨r25, 3, none⟩ (.int .i64 n92) fun H164 =>
 st1 H164 ⟨r25, 4, none⟩ (.int .i64 n93) fun H165 =>
 st1 H165 ⟨r24, 0, none⟩ (.string s94) fun H166 =>
 st1 H166 ⟨r24, 1, none⟩ (.string s95) fun H167 =>
 st1 H167 ⟨r24, 2, none⟩ (.bool b47) fun H168 =>
 st1 H168 ⟨r24, 3, none⟩ (.int .i64 n94) fun H169 =>
 st1 H169 ⟨r24, 4, none⟩ (.int .i64 n95) fun H170 =>
 L0 order r25 r24 H170 R)
theorem calls {order : Int} {s_0 s_1 : ByteArray} {s_2 : Bool} {s_3 s_4 : Int} {t_0 t_1 : ByteArray} {t_2 : Bool} {t_3 t_4 : Int} {H : Heap} {R : EH} (h : go order s_0 s_1 s_2 s_3 s_4 t_0 t_1 t_2 t_3 t_4 H R) : CallsH Try.prog 43 ⟨[(.int .i64 order), (.agg ⟨[(.string s_0), (.string s_1), (.bool s_2), (.int .i64 s_3), (.int .i64 s_4)]⟩), (.agg ⟨[(.string t_0), (.string t_1), (.bool t_2), (.int .i64 t_3), (.int .i64 t_4)]⟩)]⟩ H R :=
 callsH_of_den (an := an) (fuel := 100000) (X := go order s_0 s_1 s_2 s_3 s_4 t_0 t_1 t_2 t_3 t_4 H R) (c := body) mixed fn (by kernel_rfl) (by kernel_rfl) (by kernel_rfl) ok (by kernel_rfl) h
end F43
/-! ### 57 "pub-stadtholder/spec.Ahead" -/
namespace F57
def an : Ann := { kinds := [(1001, .grow), (1004, .grow), (1005, .grow)], taus := [(1, [[0, 2, 1, 4, 5, 3, 6, 7], [0, 2, 1, 4, 3, 5, 6, 7], [0, 2, 1, 3, 4, 5, 6, 7], [0, 2, 1, 5, 4, 3, 6, 7], [0, 2, 1, 5, 3, 4, 6, 7], [0, 2, 1, 3, 5, 4, 6, 7], [0, 2, 5, 1, 4, 3, 6, 7], [0, 2, 5, 1, 3, 4, 6, 7], [0, 2, 4, 1, 5, 3, 6, 7], [0, 2, 4, 1, 3, 5, 6, 7], [0, 2, 4, 5, 1, 3, 6, 7], [0, 2, 5, 4, 1, 3, 6, 7]])], pairs := [(1, [(1, 4), (1, 5), (4, 5), (4, 3), (5, 3)])], lab := [(10000003, [0, 7, 8])] }
noncomputable def body : Code := (Try.f57.body).getD .skip
theorem fn : Try.prog.funcs[57]? = some Try.f57 := by kernel_rfl
theorem ok : codeOk an 47 body = true := by kernel_rfl
noncomputable def L0t : List Item := [.code (sub [1, 1] body)]
def L0 (order : Int) (a b : Nat) (H : Heap) (R : EH) : Prop :=
 GoL Try.prog 57 47 L0t [0, 7, 8] [(.int .i64 order), (.pointer (some ⟨a, 0, none⟩)), (.pointer (some ⟨b, 0, none⟩))] H R
def L0n (order : Int) (a b : Nat) (H : Heap) (R : EH) : Prop :=
 ldStr H ⟨a, 0, none⟩ fun s =>
 ldStr H ⟨b, 0, none⟩ fun s1 =>
 ldInt H ⟨a, 3, none⟩ .i64 fun n =>
 ldInt H ⟨b, 3, none⟩ .i64 fun n1 =>
 callD Try.prog 71 [(.int .i64 order), (.string s), (.string s1), (.int .i64 n), (.int .i64 n1)] H (panK R) fun v H1 =>
 tInt v .i64 fun n2 =>
 iteB (decide (n2 < (0 : Int))) (
 R (.returned (.bool true)) H1) <|
 iteB (n2 == (0 : Int)) (
 ldStr H1 ⟨a, 1, none⟩ fun s2 =>
 ldStr H1 ⟨b, 1, none⟩ fun s3 =>
 ldInt H1 ⟨a, 4, none⟩ .i64 fun n3 =>
 ldInt H1 ⟨b, 4, none⟩ .i64 fun n4 =>
 callD Try.prog 71 [(.int .i64 order), (.string s2), (.string s3), (.int .i64 n3), (.int .i64 n4)] H1 (panK R) fun v1 H2 =>
 tInt v1 .i64 fun n5 =>
 R (.returned (.bool (decide (n5 < (0 : Int))))) H2) <|
 R (.returned (.bool false)) H1
theorem L0_step {order : Int} {a b : Nat} {H : Heap} {R : EH} (h : L0n order a b H R) : L0 order a b H R :=
 goL_of_den (an := an) (fuel := 100000) (X := L0n order a b H R) mixed fn (by kernel_rfl) (fun ρ0 => by kernel_rfl) h
def go (order : Int) (s_0 s_1 : ByteArray) (s_2 : Bool) (s_3 s_4 : Int) (t_0 t_1 : ByteArray) (t_2 : Bool) (t_3 t_4 : Int) (H : Heap) (R : EH) : Prop :=
 newD H (.cells ⟨[(.string s_0), (.string s_1), (.bool s_2), (.int .i64 s_3), (.int .i64 s_4)]⟩ 35) fun r H1 =>
 newD H1 (.cells ⟨[(.string t_0), (.string t_1), (.bool t_2), (.int .i64 t_3), (.int .i64 t_4)]⟩ 35) fun r1 H2 =>
 (
 ldStr H2 ⟨r, 0, none⟩ fun s =>
 ldStr H2 ⟨r, 1, none⟩ fun s1 =>
 ldBool H2 ⟨r, 2, none⟩ fun b =>
 ldInt H2 ⟨r, 3, none⟩ .i64 fun n =>
 ldInt H2 ⟨r, 4, none⟩ .i64 fun n1 =>
 ldStr H2 ⟨r1, 0, none⟩ fun s2 =>
 ldStr H2 ⟨r1, 1, none⟩ fun s3 =>
 ldBool H2 ⟨r1, 2, none⟩ fun b1 =>
 ldInt H2 ⟨r1, 3, none⟩ .i64 fun n2 =>
 ldInt H2 ⟨r1, 4, none⟩ .i64 fun n3 =>
 callD Try.prog 67 [(.agg ⟨[(.string s), (.string s1), (.bool b), (.int .i64 n), (.int .i64 n1)]⟩)] H2 nope fun v H3 =>
 tAgg v fun l =>
 tCons l fun c l1 =>
 tStr c fun s4 =>
 tCons l1 fun c1 l2 =>
 tStr c1 fun s5 =>
 tCons l2 fun c2 l3 =>
 tBool c2 fun b2 =>
 tCons l3 fun c3 l4 =>
 tInt c3 .i64 fun n4 =>
 tCons l4 fun c4 l5 =>
 tInt c4 .i64 fun n5 =>
 tNil l5 <|
 andD (ExtH H2 H3) <|
 newD H3 (.cells ⟨[(.string (ByteArray.mk #[])), (.string (ByteArray.mk #[])), (.bool false), (.int .i64 (0 : Int)), (.int .i64 (0 : Int))]⟩ 35) fun r2 H4 =>
 newD H4 (.cells ⟨[(.string (ByteArray.mk #[])), (.string (ByteArray.mk #[])), (.bool false), (.int .i64 (0 : Int)), (.int .i64 (0 : Int))]⟩ 35) fun r3 H5 =>
 callD Try.prog 67 [(.agg ⟨[(.string s2), (.string s3), (.bool b1), (.int .i64 n2), (.int .i64 n3)]⟩)] H5 (panK R) fun v1 H6 =>
 tAgg v1 fun l6 =>
 tCons l6 fun c5 l7 =>
 tStr c5 fun s6 =>
 tCons l7 fun c6 l8 =>
 tStr c6 fun s7 =>
 tCons l8 fun c7 l9 =>
 tBool c7 fun b3 =>
 tCons l9 fun c8 l10 =>
 tInt c8 .i64 fun n6 =>
 tCons l10 fun c9 l11 =>
 tInt c9 .i64 fun n7 =>
 tNil l11 <|
 st1 H6 ⟨r2, 0, none⟩ (.string s4) fun H7 =>
 st1 H7 ⟨r2, 1, none⟩ (.string s5) fun H8 =>
 st1 H8 ⟨r2, 2, none⟩ (.bool b2) fun H9 =>
 st1 H9 ⟨r2, 3, none⟩ (.int .i64 n4) fun H10 =>
 st1 H10 ⟨r2, 4, none⟩ (.int .i64 n5) fun H11 =>
 st1 H11 ⟨r3, 0, none⟩ (.string s6) fun H12 =>
 st1 H12 ⟨r3, 1, none⟩ (.string s7) fun H13 =>
 st1 H13 ⟨r3, 2, none⟩ (.bool b3) fun H14 =>
 st1 H14 ⟨r3, 3, none⟩ (.int .i64 n6) fun H15 =>
 st1 H15 ⟨r3, 4, none⟩ (.int .i64 n7) fun H16 =>
 L0 order r2 r3 H16 R) ∧
 (
 ldStr H2 ⟨r, 0, none⟩ fun s8 =>
 ldStr H2 ⟨r, 1, none⟩ fun s9 =>
 ldBool H2 ⟨r, 2, none⟩ fun b4 =>
 ldInt H2 ⟨r, 3, none⟩ .i64 fun n8 =>
 ldInt H2 ⟨r, 4, none⟩ .i64 fun n9 =>
 ldStr H2 ⟨r1, 0, none⟩ fun s10 =>
 ldStr H2 ⟨r1, 1, none⟩ fun s11 =>
 ldBool H2 ⟨r1, 2, none⟩ fun b5 =>
 ldInt H2 ⟨r1, 3, none⟩ .i64 fun n10 =>
 ldInt H2 ⟨r1, 4, none⟩ .i64 fun n11 =>
 callD Try.prog 67 [(.agg ⟨[(.string s8), (.string s9), (.bool b4), (.int .i64 n8), (.int .i64 n9)]⟩)] H2 nope fun v2 H17 =>
 tAgg v2 fun l12 =>
 tCons l12 fun c10 l13 =>
 tStr c10 fun s12 =>
 tCons l13 fun c11 l14 =>
 tStr c11 fun s13 =>
 tCons l14 fun c12 l15 =>
 tBool c12 fun b6 =>
 tCons l15 fun c13 l16 =>
 tInt c13 .i64 fun n12 =>
 tCons l16 fun c14 l17 =>
 tInt c14 .i64 fun n13 =>
 tNil l17 <|
 andD (ExtH H2 H17) <|
 newD H17 (.cells ⟨[(.string (ByteArray.mk #[])), (.string (ByteArray.mk #[])), (.bool false), (.int .i64 (0 : Int)), (.int .i64 (0 : Int))]⟩ 35) fun r4 H18 =>
 callD Try.prog 67 [(.agg ⟨[(.string s10), (.string s11), (.bool b5), (.int .i64 n10), (.int .i64 n11)]⟩)] H18 (panK R) fun v3 H19 =>
 tAgg v3 fun l18 =>
 tCons l18 fun c15 l19 =>
 tStr c15 fun s14 =>
 tCons l19 fun c16 l20 =>
 tStr c16 fun s15 =>
 tCons l20 fun c17 l21 =>
 tBool c17 fun b7 =>
 tCons l21 fun c18 l22 =>
 tInt c18 .i64 fun n14 =>
 tCons l22 fun c19 l23 =>
 tInt c19 .i64 fun n15 =>
 tNil l23 <|
 newD H19 (.cells ⟨[(.string (ByteArray.mk #[])), (.string (ByteArray.mk #[])), (.bool false), (.int .i64 (0 : Int)), (.int .i64 (0 : Int))]⟩ 35) fun r5 H20 =>
 st1 H20 ⟨r4, 0, none⟩ (.string s12) fun H21 =>
 st1 H21 ⟨r4, 1, none⟩ (.string s13) fun H22 =>
 st1 H22 ⟨r4, 2, none⟩ (.bool b6) fun H23 =>
 st1 H23 ⟨r4, 3, none⟩ (.int .i64 n12) fun H24 =>
 st1 H24 ⟨r4, 4, none⟩ (.int .i64 n13) fun H25 =>
 st1 H25 ⟨r5, 0, none⟩ (.string s14) fun H26 =>
 st1 H26 ⟨r5, 1, none⟩ (.string s15) fun H27 =>
 st1 H27 ⟨r5, 2, none⟩ (.bool b7) fun H28 =>
 st1 H28 ⟨r5, 3, none⟩ (.int .i64 n14) fun H29 =>
 st1 H29 ⟨r5, 4, none⟩ (.int .i64 n15) fun H30 =>
 L0 order r4 r5 H30 R) ∧
 (
 ldStr H2 ⟨r, 0, none⟩ fun s16 =>
 ldStr H2 ⟨r, 1, none⟩ fun s17 =>
 ldBool H2 ⟨r, 2, none⟩ fun b8 =>
 ldInt H2 ⟨r, 3, none⟩ .i64 fun n16 =>
 ldInt H2 ⟨r, 4, none⟩ .i64 fun n17 =>
 ldStr H2 ⟨r1, 0, none⟩ fun s18 =>
 ldStr H2 ⟨r1, 1, none⟩ fun s19 =>
 ldBool H2 ⟨r1, 2, none⟩ fun b9 =>
 ldInt H2 ⟨r1, 3, none⟩ .i64 fun n18 =>
 ldInt H2 ⟨r1, 4, none⟩ .i64 fun n19 =>
 callD Try.prog 67 [(.agg ⟨[(.string s16), (.string s17), (.bool b8), (.int .i64 n16), (.int .i64 n17)]⟩)] H2 nope fun v4 H31 =>
 tAgg v4 fun l24 =>
 tCons l24 fun c20 l25 =>
 tStr c20 fun s20 =>
 tCons l25 fun c21 l26 =>
 tStr c21 fun s21 =>
 tCons l26 fun c22 l27 =>
 tBool c22 fun b10 =>
 tCons l27 fun c23 l28 =>
 tInt c23 .i64 fun n20 =>
 tCons l28 fun c24 l29 =>
 tInt c24 .i64 fun n21 =>
 tNil l29 <|
 andD (ExtH H2 H31) <|
 callD Try.prog 67 [(.agg ⟨[(.string s18), (.string s19), (.bool b9), (.int .i64 n18), (.int .i64 n19)]⟩)] H31 (panK R) fun v5 H32 =>
 tAgg v5 fun l30 =>
 tCons l30 fun c25 l31 =>
 tStr c25 fun s22 =>
 tCons l31 fun c26 l32 =>
 tStr c26 fun s23 =>
 tCons l32 fun c27 l33 =>
 tBool c27 fun b11 =>
 tCons l33 fun c28 l34 =>
 tInt c28 .i64 fun n22 =>
 tCons l34 fun c29 l35 =>
 tInt c29 .i64 fun n23 =>
 tNil l35 <|
 newD H32 (.cells ⟨[(.string (ByteArray.mk #[])), (.string (ByteArray.mk #[])), (.bool false), (.int .i64 (0 : Int)), (.int .i64 (0 : Int))]⟩ 35) fun r6 H33 =>
 newD H33 (.cells ⟨[(.string (ByteArray.mk #[])), (.string (ByteArray.mk #[])), (.bool false), (.int .i64 (0 : Int)), (.int .i64 (0 : Int))]⟩ 35) fun r7 H34 =>
 st1 H34 ⟨r6, 0, none⟩ (.string s20) fun H35 =>
 st1 H35 ⟨r6, 1, none⟩ (.string s21) fun H36 =>
 st1 H36 ⟨r6, 2, none⟩ (.bool b10) fun H37 =>
 st1 H37 ⟨r6, 3, none⟩ (.int .i64 n20) fun H38 =>
 st1 H38 ⟨r6, 4, none⟩ (.int .i64 n21) fun H39 =>
 st1 H39 ⟨r7, 0, none⟩ (.string s22) fun H40 =>
 st1 H40 ⟨r7, 1, none⟩ (.string s23) fun H41 =>
 st1 H41 ⟨r7, 2, none⟩ (.bool b11) fun H42 =>
 st1 H42 ⟨r7, 3, none⟩ (.int .i64 n22) fun H43 =>
 st1 H43 ⟨r7, 4, none⟩ (.int .i64 n23) fun H44 =>
 L0 order r6 r7 H44 R) ∧
 (
 ldStr H2 ⟨r, 0, none⟩ fun s24 =>
 ldStr H2 ⟨r, 1, none⟩ fun s25 =>
 ldBool H2 ⟨r, 2, none⟩ fun b12 =>
 ldInt H2 ⟨r, 3, none⟩ .i64 fun n24 =>
 ldInt H2 ⟨r, 4, none⟩ .i64 fun n25 =>
 ldStr H2 ⟨r1, 0, none⟩ fun s26 =>
 ldStr H2 ⟨r1, 1, none⟩ fun s27 =>
 ldBool H2 ⟨r1, 2, none⟩ fun b13 =>
 ldInt H2 ⟨r1, 3, none⟩ .i64 fun n26 =>
 ldInt H2 ⟨r1, 4, none⟩ .i64 fun n27 =>
 callD Try.prog 67 [(.agg ⟨[(.string s24), (.string s25), (.bool b12), (.int .i64 n24), (.int .i64 n25)]⟩)] H2 nope fun v6 H45 =>
 tAgg v6 fun l36 =>
 tCons l36 fun c30 l37 =>
 tStr c30 fun s28 =>
 tCons l37 fun c31 l38 =>
 tStr c31 fun s29 =>
 tCons l38 fun c32 l39 =>
 tBool c32 fun b14 =>
 tCons l39 fun c33 l40 =>
 tInt c33 .i64 fun n28 =>
 tCons l40 fun c34 l41 =>
 tInt c34 .i64 fun n29 =>
 tNil l41 <|
 andD (ExtH H2 H45) <|
 newD H45 (.cells ⟨[(.string (ByteArray.mk #[])), (.string (ByteArray.mk #[])), (.bool false), (.int .i64 (0 : Int)), (.int .i64 (0 : Int))]⟩ 35) fun r8 H46 =>
 newD H46 (.cells ⟨[(.string (ByteArray.mk #[])), (.string (ByteArray.mk #[])), (.bool false), (.int .i64 (0 : Int)), (.int .i64 (0 : Int))]⟩ 35) fun r9 H47 =>
 callD Try.prog 67 [(.agg ⟨[(.string s26), (.string s27), (.bool b13), (.int .i64 n26), (.int .i64 n27)]⟩)] H47 (panK R) fun v7 H48 =>
 tAgg v7 fun l42 =>
 tCons l42 fun c35 l43 =>
 tStr c35 fun s30 =>
 tCons l43 fun c36 l44 =>
 tStr c36 fun s31 =>
 tCons l44 fun c37 l45 =>
 tBool c37 fun b15 =>
 tCons l45 fun c38 l46 =>
 tInt c38 .i64 fun n30 =>
 tCons l46 fun c39 l47 =>
 tInt c39 .i64 fun n31 =>
 tNil l47 <|
 st1 H48 ⟨r9, 0, none⟩ (.string s28) fun H49 =>
 st1 H49 ⟨r9, 1, none⟩ (.string s29) fun H50 =>
 st1 H50 ⟨r9, 2, none⟩ (.bool b14) fun H51 =>
 st1 H51 ⟨r9, 3, none⟩ (.int .i64 n28) fun H52 =>
 st1 H52 ⟨r9, 4, none⟩ (.int .i64 n29) fun H53 =>
 st1 H53 ⟨r8, 0, none⟩ (.string s30) fun H54 =>
 st1 H54 ⟨r8, 1, none⟩ (.string s31) fun H55 =>
 st1 H55 ⟨r8, 2, none⟩ (.bool b15) fun H56 =>
 st1 H56 ⟨r8, 3, none⟩ (.int .i64 n30) fun H57 =>
 st1 H57 ⟨r8, 4, none⟩ (.int .i64 n31) fun H58 =>
 L0 order r9 r8 H58 R) ∧
 (
 ldStr H2 ⟨r, 0, none⟩ fun s32 =>
 ldStr H2 ⟨r, 1, none⟩ fun s33 =>
 ldBool H2 ⟨r, 2, none⟩ fun b16 =>
 ldInt H2 ⟨r, 3, none⟩ .i64 fun n32 =>
 ldInt H2 ⟨r, 4, none⟩ .i64 fun n33 =>
 ldStr H2 ⟨r1, 0, none⟩ fun s34 =>
 ldStr H2 ⟨r1, 1, none⟩ fun s35 =>
 ldBool H2 ⟨r1, 2, none⟩ fun b17 =>
 ldInt H2 ⟨r1, 3, none⟩ .i64 fun n34 =>
 ldInt H2 ⟨r1, 4, none⟩ .i64 fun n35 =>
 callD Try.prog 67 [(.agg ⟨[(.string s32), (.string s33), (.bool b16), (.int .i64 n32), (.int .i64 n33)]⟩)] H2 nope fun v8 H59 =>
 tAgg v8 fun l48 =>
 tCons l48 fun c40 l49 =>
 tStr c40 fun s36 =>
 tCons l49 fun c41 l50 =>
 tStr c41 fun s37 =>
 tCons l50 fun c42 l51 =>
 tBool c42 fun b18 =>
 tCons l51 fun c43 l52 =>
 tInt c43 .i64 fun n36 =>
 tCons l52 fun c44 l53 =>
 tInt c44 .i64 fun n37 =>
 tNil l53 <|
 andD (ExtH H2 H59) <|
 newD H59 (.cells ⟨[(.string (ByteArray.mk #[])), (.string (ByteArray.mk #[])), (.bool false), (.int .i64 (0 : Int)), (.int .i64 (0 : Int))]⟩ 35) fun r10 H60 =>
 callD Try.prog 67 [(.agg ⟨[(.string s34), (.string s35), (.bool b17), (.int .i64 n34), (.int .i64 n35)]⟩)] H60 (panK R) fun v9 H61 =>
 tAgg v9 fun l54 =>
 tCons l54 fun c45 l55 =>
 tStr c45 fun s38 =>
 tCons l55 fun c46 l56 =>
 tStr c46 fun s39 =>
 tCons l56 fun c47 l57 =>
 tBool c47 fun b19 =>
 tCons l57 fun c48 l58 =>
 tInt c48 .i64 fun n38 =>
 tCons l58 fun c49 l59 =>
 tInt c49 .i64 fun n39 =>
 tNil l59 <|
 newD H61 (.cells ⟨[(.string (ByteArray.mk #[])), (.string (ByteArray.mk #[])), (.bool false), (.int .i64 (0 : Int)), (.int .i64 (0 : Int))]⟩ 35) fun r11 H62 =>
 st1 H62 ⟨r11, 0, none⟩ (.string s36) fun H63 =>
 st1 H63 ⟨r11, 1, none⟩ (.string s37) fun H64 =>
 st1 H64 ⟨r11, 2, none⟩ (.bool b18) fun H65 =>
 st1 H65 ⟨r11, 3, none⟩ (.int .i64 n36) fun H66 =>
 st1 H66 ⟨r11, 4, none⟩ (.int .i64 n37) fun H67 =>
 st1 H67 ⟨r10, 0, none⟩ (.string s38) fun H68 =>
 st1 H68 ⟨r10, 1, none⟩ (.string s39) fun H69 =>
 st1 H69 ⟨r10, 2, none⟩ (.bool b19) fun H70 =>
 st1 H70 ⟨r10, 3, none⟩ (.int .i64 n38) fun H71 =>
 st1 H71 ⟨r10, 4, none⟩ (.int .i64 n39) fun H72 =>
 L0 order r11 r10 H72 R) ∧
 (
 ldStr H2 ⟨r, 0, none⟩ fun s40 =>
 ldStr H2 ⟨r, 1, none⟩ fun s41 =>
 ldBool H2 ⟨r, 2, none⟩ fun b20 =>
 ldInt H2 ⟨r, 3, none⟩ .i64 fun n40 =>
 ldInt H2 ⟨r, 4, none⟩ .i64 fun n41 =>
 ldStr H2 ⟨r1, 0, none⟩ fun s42 =>
 ldStr H2 ⟨r1, 1, none⟩ fun s43 =>
 ldBool H2 ⟨r1, 2, none⟩ fun b21 =>
 ldInt H2 ⟨r1, 3, none⟩ .i64 fun n42 =>
 ldInt H2 ⟨r1, 4, none⟩ .i64 fun n43 =>
 callD Try.prog 67 [(.agg ⟨[(.string s40), (.string s41), (.bool b20), (.int .i64 n40), (.int .i64 n41)]⟩)] H2 nope fun v10 H73 =>
 tAgg v10 fun l60 =>
 tCons l60 fun c50 l61 =>
 tStr c50 fun s44 =>
 tCons l61 fun c51 l62 =>
 tStr c51 fun s45 =>
 tCons l62 fun c52 l63 =>
 tBool c52 fun b22 =>
 tCons l63 fun c53 l64 =>
 tInt c53 .i64 fun n44 =>
 tCons l64 fun c54 l65 =>
 tInt c54 .i64 fun n45 =>
 tNil l65 <|
 andD (ExtH H2 H73) <|
 callD Try.prog 67 [(.agg ⟨[(.string s42), (.string s43), (.bool b21), (.int .i64 n42), (.int .i64 n43)]⟩)] H73 (panK R) fun v11 H74 =>
 tAgg v11 fun l66 =>
 tCons l66 fun c55 l67 =>
 tStr c55 fun s46 =>
 tCons l67 fun c56 l68 =>
 tStr c56 fun s47 =>
 tCons l68 fun c57 l69 =>
 tBool c57 fun b23 =>
 tCons l69 fun c58 l70 =>
 tInt c58 .i64 fun n46 =>
 tCons l70 fun c59 l71 =>
 tInt c59 .i64 fun n47 =>
 tNil l71 <|
 newD H74 (.cells ⟨[(.string (ByteArray.mk #[])), (.string (ByteArray.mk #[])), (.bool false), (.int .i64 (0 : Int)), (.int .i64 (0 : Int))]⟩ 35) fun r12 H75 =>
 newD H75 (.cells ⟨[(.string (ByteArray.mk #[])), (.string (ByteArray.mk #[])), (.bool false), (.int .i64 (0 : Int)), (.int .i64 (0 : Int))]⟩ 35) fun r13 H76 =>
 st1 H76 ⟨r13, 0, none⟩ (.string s44) fun H77 =>
 st1 H77 ⟨r13, 1, none⟩ (.string s45) fun H78 =>
 st1 H78 ⟨r13, 2, none⟩ (.bool b22) fun H79 =>
 st1 H79 ⟨r13, 3, none⟩ (.int .i64 n44) fun H80 =>
 st1 H80 ⟨r13, 4, none⟩ (.int .i64 n45) fun H81 =>
 st1 H81 ⟨r12, 0, none⟩ (.string s46) fun H82 =>
 st1 H82 ⟨r12, 1, none⟩ (.string s47) fun H83 =>
 st1 H83 ⟨r12, 2, none⟩ (.bool b23) fun H84 =>
 st1 H84 ⟨r12, 3, none⟩ (.int .i64 n46) fun H85 =>
 st1 H85 ⟨r12, 4, none⟩ (.int .i64 n47) fun H86 =>
 L0 order r13 r12 H86 R) ∧
 (
 ldStr H2 ⟨r, 0, none⟩ fun s48 =>
 ldStr H2 ⟨r, 1, none⟩ fun s49 =>
 ldBool H2 ⟨r, 2, none⟩ fun b24 =>
 ldInt H2 ⟨r, 3, none⟩ .i64 fun n48 =>
 ldInt H2 ⟨r, 4, none⟩ .i64 fun n49 =>
 ldStr H2 ⟨r1, 0, none⟩ fun s50 =>
 ldStr H2 ⟨r1, 1, none⟩ fun s51 =>
 ldBool H2 ⟨r1, 2, none⟩ fun b25 =>
 ldInt H2 ⟨r1, 3, none⟩ .i64 fun n50 =>
 ldInt H2 ⟨r1, 4, none⟩ .i64 fun n51 =>
 newD H2 (.cells ⟨[(.string (ByteArray.mk #[])), (.string (ByteArray.mk #[])), (.bool false), (.int .i64 (0 : Int)), (.int .i64 (0 : Int))]⟩ 35) fun r14 H87 =>
 callD Try.prog 67 [(.agg ⟨[(.string s48), (.string s49), (.bool b24), (.int .i64 n48), (.int .i64 n49)]⟩)] H87 nope fun v12 H88 =>
 tAgg v12 fun l72 =>
 tCons l72 fun c60 l73 =>
 tStr c60 fun s52 =>
 tCons l73 fun c61 l74 =>
 tStr c61 fun s53 =>
 tCons l74 fun c62 l75 =>
 tBool c62 fun b26 =>
 tCons l75 fun c63 l76 =>
 tInt c63 .i64 fun n52 =>
 tCons l76 fun c64 l77 =>
 tInt c64 .i64 fun n53 =>
 tNil l77 <|
 andD (ExtH H87 H88) <|
 newD H88 (.cells ⟨[(.string (ByteArray.mk #[])), (.string (ByteArray.mk #[])), (.bool false), (.int .i64 (0 : Int)), (.int .i64 (0 : Int))]⟩ 35) fun r15 H89 =>
 callD Try.prog 67 [(.agg ⟨[(.string s50), (.string s51), (.bool b25), (.int .i64 n50), (.int .i64 n51)]⟩)] H89 (panK R) fun v13 H90 =>
 tAgg v13 fun l78 =>
 tCons l78 fun c65 l79 =>
 tStr c65 fun s54 =>
 tCons l79 fun c66 l80 =>
 tStr c66 fun s55 =>
 tCons l80 fun c67 l81 =>
 tBool c67 fun b27 =>
 tCons l81 fun c68 l82 =>
 tInt c68 .i64 fun n54 =>
 tCons l82 fun c69 l83 =>
 tInt c69 .i64 fun n55 =>
 tNil l83 <|
 st1 H90 ⟨r15, 0, none⟩ (.string s52) fun H91 =>
 st1 H91 ⟨r15, 1, none⟩ (.string s53) fun H92 =>
 st1 H92 ⟨r15, 2, none⟩ (.bool b26) fun H93 =>
 st1 H93 ⟨r15, 3, none⟩ (.int .i64 n52) fun H94 =>
 st1 H94 ⟨r15, 4, none⟩ (.int .i64 n53) fun H95 =>
 st1 H95 ⟨r14, 0, none⟩ (.string s54) fun H96 =>
 st1 H96 ⟨r14, 1, none⟩ (.string s55) fun H97 =>
 st1 H97 ⟨r14, 2, none⟩ (.bool b27) fun H98 =>
 st1 H98 ⟨r14, 3, none⟩ (.int .i64 n54) fun H99 =>
 st1 H99 ⟨r14, 4, none⟩ (.int .i64 n55) fun H100 =>
 L0 order r15 r14 H100 R) ∧
 (
 ldStr H2 ⟨r, 0, none⟩ fun s56 =>
 ldStr H2 ⟨r, 1, none⟩ fun s57 =>
 ldBool H2 ⟨r, 2, none⟩ fun b28 =>
 ldInt H2 ⟨r, 3, none⟩ .i64 fun n56 =>
 ldInt H2 ⟨r, 4, none⟩ .i64 fun n57 =>
 ldStr H2 ⟨r1, 0, none⟩ fun s58 =>
 ldStr H2 ⟨r1, 1, none⟩ fun s59 =>
 ldBool H2 ⟨r1, 2, none⟩ fun b29 =>
 ldInt H2 ⟨r1, 3, none⟩ .i64 fun n58 =>
 ldInt H2 ⟨r1, 4, none⟩ .i64 fun n59 =>
 newD H2 (.cells ⟨[(.string (ByteArray.mk #[])), (.string (ByteArray.mk #[])), (.bool false), (.int .i64 (0 : Int)), (.int .i64 (0 : Int))]⟩ 35) fun r16 H101 =>
 callD Try.prog 67 [(.agg ⟨[(.string s56), (.string s57), (.bool b28), (.int .i64 n56), (.int .i64 n57)]⟩)] H101 nope fun v14 H102 =>
 tAgg v14 fun l84 =>
 tCons l84 fun c70 l85 =>
 tStr c70 fun s60 =>
 tCons l85 fun c71 l86 =>
 tStr c71 fun s61 =>
 tCons l86 fun c72 l87 =>
 tBool c72 fun b30 =>
 tCons l87 fun c73 l88 =>
 tInt c73 .i64 fun n60 =>
 tCons l88 fun c74 l89 =>
 tInt c74 .i64 fun n61 =>
 tNil l89 <|
 andD (ExtH H101 H102) <|
 callD Try.prog 67 [(.agg ⟨[(.string s58), (.string s59), (.bool b29), (.int .i64 n58), (.int .i64 n59)]⟩)] H102 (panK R) fun v15 H103 =>
 tAgg v15 fun l90 =>
 tCons l90 fun c75 l91 =>
 tStr c75 fun s62 =>
 tCons l91 fun c76 l92 =>
 tStr c76 fun s63 =>
 tCons l92 fun c77 l93 =>
 tBool c77 fun b31 =>
 tCons l93 fun c78 l94 =>
 tInt c78 .i64 fun n62 =>
 tCons l94 fun c79 l95 =>
 tInt c79 .i64 fun n63 =>
 tNil l95 <|
 newD H103 (.cells ⟨[(.string (ByteArray.mk #[])), (.string (ByteArray.mk #[])), (.bool false), (.int .i64 (0 : Int)), (.int .i64 (0 : Int))]⟩ 35) fun r17 H104 =>
 st1 H104 ⟨r17, 0, none⟩ (.string s60) fun H105 =>
 st1 H105 ⟨r17, 1, none⟩ (.string s61) fun H106 =>
 st1 H106 ⟨r17, 2, none⟩ (.bool b30) fun H107 =>
 st1 H107 ⟨r17, 3, none⟩ (.int .i64 n60) fun H108 =>
 st1 H108 ⟨r17, 4, none⟩ (.int .i64 n61) fun H109 =>
 st1 H109 ⟨r16, 0, none⟩ (.string s62) fun H110 =>
 st1 H110 ⟨r16, 1, none⟩ (.string s63) fun H111 =>
 st1 H111 ⟨r16, 2, none⟩ (.bool b31) fun H112 =>
 st1 H112 ⟨r16, 3, none⟩ (.int .i64 n62) fun H113 =>
 st1 H113 ⟨r16, 4, none⟩ (.int .i64 n63) fun H114 =>
 L0 order r17 r16 H114 R) ∧
 (
 ldStr H2 ⟨r, 0, none⟩ fun s64 =>
 ldStr H2 ⟨r, 1, none⟩ fun s65 =>
 ldBool H2 ⟨r, 2, none⟩ fun b32 =>
 ldInt H2 ⟨r, 3, none⟩ .i64 fun n64 =>
 ldInt H2 ⟨r, 4, none⟩ .i64 fun n65 =>
 ldStr H2 ⟨r1, 0, none⟩ fun s66 =>
 ldStr H2 ⟨r1, 1, none⟩ fun s67 =>
 ldBool H2 ⟨r1, 2, none⟩ fun b33 =>
 ldInt H2 ⟨r1, 3, none⟩ .i64 fun n66 =>
 ldInt H2 ⟨r1, 4, none⟩ .i64 fun n67 =>
 newD H2 (.cells ⟨[(.string (ByteArray.mk #[])), (.string (ByteArray.mk #[])), (.bool false), (.int .i64 (0 : Int)), (.int .i64 (0 : Int))]⟩ 35) fun r18 H115 =>
 callD Try.prog 67 [(.agg ⟨[(.string s64), (.string s65), (.bool b32), (.int .i64 n64), (.int .i64 n65)]⟩)] H115 nope fun v16 H116 =>
 tAgg v16 fun l96 =>
 tCons l96 fun c80 l97 =>
 tStr c80 fun s68 =>
 tCons l97 fun c81 l98 =>
 tStr c81 fun s69 =>
 tCons l98 fun c82 l99 =>
 tBool c82 fun b34 =>
 tCons l99 fun c83 l100 =>
 tInt c83 .i64 fun n68 =>
 tCons l100 fun c84 l101 =>
 tInt c84 .i64 fun n69 =>
 tNil l101 <|
 andD (ExtH H115 H116) <|
 newD H116 (.cells ⟨[(.string (ByteArray.mk #[])), (.string (ByteArray.mk #[])), (.bool false), (.int .i64 (0 : Int)), (.int .i64 (0 : Int))]⟩ 35) fun r19 H117 =>
 callD Try.prog 67 [(.agg ⟨[(.string s66), (.string s67), (.bool b33), (.int .i64 n66), (.int .i64 n67)]⟩)] H117 (panK R) fun v17 H118 =>
 tAgg v17 fun l102 =>
 tCons l102 fun c85 l103 =>
 tStr c85 fun s70 =>
 tCons l103 fun c86 l104 =>
 tStr c86 fun s71 =>
 tCons l104 fun c87 l105 =>
 tBool c87 fun b35 =>
 tCons l105 fun c88 l106 =>
 tInt c88 .i64 fun n70 =>
 tCons l106 fun c89 l107 =>
 tInt c89 .i64 fun n71 =>
 tNil l107 <|
 st1 H118 ⟨r18, 0, none⟩ (.string s68) fun H119 =>
 st1 H119 ⟨r18, 1, none⟩ (.string s69) fun H120 =>
 st1 H120 ⟨r18, 2, none⟩ (.bool b34) fun H121 =>
 st1 H121 ⟨r18, 3, none⟩ (.int .i64 n68) fun H122 =>
 st1 H122 ⟨r18, 4, none⟩ (.int .i64 n69) fun H123 =>
 st1 H123 ⟨r19, 0, none⟩ (.string s70) fun H124 =>
 st1 H124 ⟨r19, 1, none⟩ (.string s71) fun H125 =>
 st1 H125 ⟨r19, 2, none⟩ (.bool b35) fun H126 =>
 st1 H126 ⟨r19, 3, none⟩ (.int .i64 n70) fun H127 =>
 st1 H127 ⟨r19, 4, none⟩ (.int .i64 n71) fun H128 =>
 L0 order r18 r19 H128 R) ∧
 (
 ldStr H2 ⟨r, 0, none⟩ fun s72 =>
 ldStr H2 ⟨r, 1, none⟩ fun s73 =>
 ldBool H2 ⟨r, 2, none⟩ fun b36 =>
 ldInt H2 ⟨r, 3, none⟩ .i64 fun n72 =>
 ldInt H2 ⟨r, 4, none⟩ .i64 fun n73 =>
 ldStr H2 ⟨r1, 0, none⟩ fun s74 =>
 ldStr H2 ⟨r1, 1, none⟩ fun s75 =>
 ldBool H2 ⟨r1, 2, none⟩ fun b37 =>
 ldInt H2 ⟨r1, 3, none⟩ .i64 fun n74 =>
 ldInt H2 ⟨r1, 4, none⟩ .i64 fun n75 =>
 newD H2 (.cells ⟨[(.string (ByteArray.mk #[])), (.string (ByteArray.mk #[])), (.bool false), (.int .i64 (0 : Int)), (.int .i64 (0 : Int))]⟩ 35) fun r20 H129 =>
 callD Try.prog 67 [(.agg ⟨[(.string s72), (.string s73), (.bool b36), (.int .i64 n72), (.int .i64 n73)]⟩)] H129 nope fun v18 H130 =>
 tAgg v18 fun l108 =>
 tCons l108 fun c90 l109 =>
 tStr c90 fun s76 =>
 tCons l109 fun c91 l110 =>
 tStr c91 fun s77 =>
 tCons l110 fun c92 l111 =>
 tBool c92 fun b38 =>
 tCons l111 fun c93 l112 =>
 tInt c93 .i64 fun n76 =>
 tCons l112 fun c94 l113 =>
 tInt c94 .i64 fun n77 =>
 tNil l113 <|
 andD (ExtH H129 H130) <|
 callD Try.prog 67 [(.agg ⟨[(.string s74), (.string s75), (.bool b37), (.int .i64 n74), (.int .i64 n75)]⟩)] H130 (panK R) fun v19 H131 =>
 tAgg v19 fun l114 =>
 tCons l114 fun c95 l115 =>
 tStr c95 fun s78 =>
 tCons l115 fun c96 l116 =>
 tStr c96 fun s79 =>
 tCons l116 fun c97 l117 =>
 tBool c97 fun b39 =>
 tCons l117 fun c98 l118 =>
 tInt c98 .i64 fun n78 =>
 tCons l118 fun c99 l119 =>
 tInt c99 .i64 fun n79 =>
 tNil l119 <|
 newD H131 (.cells ⟨[(.string (ByteArray.mk #[])), (.string (ByteArray.mk #[])), (.bool false), (.int .i64 (0 : Int)), (.int .i64 (0 : Int))]⟩ 35) fun r21 H132 =>
 st1 H132 ⟨r20, 0, none⟩ (.string s76) fun H133 =>
 st1 H133 ⟨r20, 1, none⟩ (.string s77) fun H134 =>
 st1 H134 ⟨r20, 2, none⟩ (.bool b38) fun H135 =>
 st1 H135 ⟨r20, 3, none⟩ (.int .i64 n76) fun H136 =>
 st1 H136 ⟨r20, 4, none⟩ (.int .i64 n77) fun H137 =>
 st1 H137 ⟨r21, 0, none⟩ (.string s78) fun H138 =>
 st1 H138 ⟨r21, 1, none⟩ (.string s79) fun H139 =>
 st1 H139 ⟨r21, 2, none⟩ (.bool b39) fun H140 =>
 st1 H140 ⟨r21, 3, none⟩ (.int .i64 n78) fun H141 =>
 st1 H141 ⟨r21, 4, none⟩ (.int .i64 n79) fun H142 =>
 L0 order r20 r21 H142 R) ∧
 (
 ldStr H2 ⟨r, 0, none⟩ fun s80 =>
 ldStr H2 ⟨r, 1, none⟩ fun s81 =>
 ldBool H2 ⟨r, 2, none⟩ fun b40 =>
 ldInt H2 ⟨r, 3, none⟩ .i64 fun n80 =>
 ldInt H2 ⟨r, 4, none⟩ .i64 fun n81 =>
 ldStr H2 ⟨r1, 0, none⟩ fun s82 =>
 ldStr H2 ⟨r1, 1, none⟩ fun s83 =>
 ldBool H2 ⟨r1, 2, none⟩ fun b41 =>
 ldInt H2 ⟨r1, 3, none⟩ .i64 fun n82 =>
 ldInt H2 ⟨r1, 4, none⟩ .i64 fun n83 =>
 newD H2 (.cells ⟨[(.string (ByteArray.mk #[])), (.string (ByteArray.mk #[])), (.bool false), (.int .i64 (0 : Int)), (.int .i64 (0 : Int))]⟩ 35) fun r22 H143 =>
 newD H143 (.cells ⟨[(.string (ByteArray.mk #[])), (.string (ByteArray.mk #[])), (.bool false), (.int .i64 (0 : Int)), (.int .i64 (0 : Int))]⟩ 35) fun r23 H144 =>
 callD Try.prog 67 [(.agg ⟨[(.string s80), (.string s81), (.bool b40), (.int .i64 n80), (.int .i64 n81)]⟩)] H144 nope fun v20 H145 =>
 tAgg v20 fun l120 =>
 tCons l120 fun c100 l121 =>
 tStr c100 fun s84 =>
 tCons l121 fun c101 l122 =>
 tStr c101 fun s85 =>
 tCons l122 fun c102 l123 =>
 tBool c102 fun b42 =>
 tCons l123 fun c103 l124 =>
 tInt c103 .i64 fun n84 =>
 tCons l124 fun c104 l125 =>
 tInt c104 .i64 fun n85 =>
 tNil l125 <|
 andD (ExtH H144 H145) <|
 callD Try.prog 67 [(.agg ⟨[(.string s82), (.string s83), (.bool b41), (.int .i64 n82), (.int .i64 n83)]⟩)] H145 (panK R) fun v21 H146 =>
 tAgg v21 fun l126 =>
 tCons l126 fun c105 l127 =>
 tStr c105 fun s86 =>
 tCons l127 fun c106 l128 =>
 tStr c106 fun s87 =>
 tCons l128 fun c107 l129 =>
 tBool c107 fun b43 =>
 tCons l129 fun c108 l130 =>
 tInt c108 .i64 fun n86 =>
 tCons l130 fun c109 l131 =>
 tInt c109 .i64 fun n87 =>
 tNil l131 <|
 st1 H146 ⟨r22, 0, none⟩ (.string s84) fun H147 =>
 st1 H147 ⟨r22, 1, none⟩ (.string s85) fun H148 =>
 st1 H148 ⟨r22, 2, none⟩ (.bool b42) fun H149 =>
 st1 H149 ⟨r22, 3, none⟩ (.int .i64 n84) fun H150 =>
 st1 H150 ⟨r22, 4, none⟩ (.int .i64 n85) fun H151 =>
 st1 H151 ⟨r23, 0, none⟩ (.string s86) fun H152 =>
 st1 H152 ⟨r23, 1, none⟩ (.string s87) fun H153 =>
 st1 H153 ⟨r23, 2, none⟩ (.bool b43) fun H154 =>
 st1 H154 ⟨r23, 3, none⟩ (.int .i64 n86) fun H155 =>
 st1 H155 ⟨r23, 4, none⟩ (.int .i64 n87) fun H156 =>
 L0 order r22 r23 H156 R) ∧
 (
 ldStr H2 ⟨r, 0, none⟩ fun s88 =>
 ldStr H2 ⟨r, 1, none⟩ fun s89 =>
 ldBool H2 ⟨r, 2, none⟩ fun b44 =>
 ldInt H2 ⟨r, 3, none⟩ .i64 fun n88 =>
 ldInt H2 ⟨r, 4, none⟩ .i64 fun n89 =>
 ldStr H2 ⟨r1, 0, none⟩ fun s90 =>
 ldStr H2 ⟨r1, 1, none⟩ fun s91 =>
 ldBool H2 ⟨r1, 2, none⟩ fun b45 =>
 ldInt H2 ⟨r1, 3, none⟩ .i64 fun n90 =>
 ldInt H2 ⟨r1, 4, none⟩ .i64 fun n91 =>
 newD H2 (.cells ⟨[(.string (ByteArray.mk #[])), (.string (ByteArray.mk #[])), (.bool false), (.int .i64 (0 : Int)), (.int .i64 (0 : Int))]⟩ 35) fun r24 H157 =>
 newD H157 (.cells ⟨[(.string (ByteArray.mk #[])), (.string (ByteArray.mk #[])), (.bool false), (.int .i64 (0 : Int)), (.int .i64 (0 : Int))]⟩ 35) fun r25 H158 =>
 callD Try.prog 67 [(.agg ⟨[(.string s88), (.string s89), (.bool b44), (.int .i64 n88), (.int .i64 n89)]⟩)] H158 nope fun v22 H159 =>
 tAgg v22 fun l132 =>
 tCons l132 fun c110 l133 =>
 tStr c110 fun s92 =>
 tCons l133 fun c111 l134 =>
 tStr c111 fun s93 =>
 tCons l134 fun c112 l135 =>
 tBool c112 fun b46 =>
 tCons l135 fun c113 l136 =>
 tInt c113 .i64 fun n92 =>
 tCons l136 fun c114 l137 =>
 tInt c114 .i64 fun n93 =>
 tNil l137 <|
 andD (ExtH H158 H159) <|
 callD Try.prog 67 [(.agg ⟨[(.string s90), (.string s91), (.bool b45), (.int .i64 n90), (.int .i64 n91)]⟩)] H159 (panK R) fun v23 H160 =>
 tAgg v23 fun l138 =>
 tCons l138 fun c115 l139 =>
 tStr c115 fun s94 =>
 tCons l139 fun c116 l140 =>
 tStr c116 fun s95 =>
 tCons l140 fun c117 l141 =>
 tBool c117 fun b47 =>
 tCons l141 fun c118 l142 =>
 tInt c118 .i64 fun n94 =>
 tCons l142 fun c119 l143 =>
 tInt c119 .i64 fun n95 =>
 tNil l143 <|
 st1 H160 ⟨r25, 0, none⟩ (.string s92) fun H161 =>
 st1 H161 ⟨r25, 1, none⟩ (.string s93) fun H162 =>
 st1 H162 ⟨r25, 2, none⟩ (.bool b46) fun H163 =>
 st1 H163 ⟨r25, 3, none⟩ (.int .i64 n92) fun H164 =>
 st1 H164 ⟨r25, 4, none⟩ (.int .i64 n93) fun H165 =>
 st1 H165 ⟨r24, 0, none⟩ (.string s94) fun H166 =>
 st1 H166 ⟨r24, 1, none⟩ (.string s95) fun H167 =>
 st1 H167 ⟨r24, 2, none⟩ (.bool b47) fun H168 =>
 st1 H168 ⟨r24, 3, none⟩ (.int .i64 n94) fun H169 =>
 st1 H169 ⟨r24, 4, none⟩ (.int .i64 n95) fun H170 =>
 L0 order r25 r24 H170 R)
theorem calls {order : Int} {s_0 s_1 : ByteArray} {s_2 : Bool} {s_3 s_4 : Int} {t_0 t_1 : ByteArray} {t_2 : Bool} {t_3 t_4 : Int} {H : Heap} {R : EH} (h : go order s_0 s_1 s_2 s_3 s_4 t_0 t_1 t_2 t_3 t_4 H R) : CallsH Try.prog 57 ⟨[(.int .i64 order), (.agg ⟨[(.string s_0), (.string s_1), (.bool s_2), (.int .i64 s_3), (.int .i64 s_4)]⟩), (.agg ⟨[(.string t_0), (.string t_1), (.bool t_2), (.int .i64 t_3), (.int .i64 t_4)]⟩)]⟩ H R :=
 callsH_of_den (an := an) (fuel := 100000) (X := go order s_0 s_1 s_2 s_3 s_4 t_0 t_1 t_2 t_3 t_4 H R) (c := body) mixed fn (by kernel_rfl) (by kernel_rfl) (by kernel_rfl) ok (by kernel_rfl) h
end F57
/-! ### 64 "(*pub-stadtholder/spec.Pieces).Meeting" -/
namespace F64
def an : Ann := { kinds := [], taus := [(5, [[0, 1, 2, 4, 3, 5, 6, 7]])], pairs := [], lab := [(40000004, [0, 3, 5, 11, 12, 13]), (40000008, [0, 3, 5, 11, 12, 13])] }
noncomputable def body : Code := (Try.f64.body).getD .skip
theorem fn : Try.prog.funcs[64]? = some Try.f64 := by kernel_rfl
theorem ok : codeOk an 31 body = true := by kernel_rfl
noncomputable def L0t : List Item := [.code (sub [1, 1, 0, 1, 0, 0] body), .inLoop (sub [1, 1, 0, 1, 0, 0] body), .inBlock 0, .code (sub [1, 1, 1] body)]
def L0 (p : OA) (s : Nat) (out : OA) (outn outc : Nat) (s11 : OA) (s11n s11c : Nat) (s12 s13 : Int) (H : Heap) (R : EH) : Prop :=
 GoL Try.prog 64 31 L0t [0, 3, 5, 11, 12, 13] [(.pointer p), (.pointer (some ⟨s, 0, none⟩)), (.slice out outn outc), (.slice s11 s11n s11c), (.int .i64 s12), (.int .i64 s13)] H R
noncomputable def L1t : List Item := [.code (sub [1, 1, 0, 1, 0, 0, 1, 1, 1] body), .inLoop (sub [1, 1, 0, 1, 0, 0] body), .inBlock 0, .code (sub [1, 1, 1] body)]
def L1 (p : OA) (s : Nat) (out : OA) (outn outc : Nat) (s11 : OA) (s11n s11c : Nat) (s12 s13 : Int) (H : Heap) (R : EH) : Prop :=
 GoL Try.prog 64 31 L1t [0, 3, 5, 11, 12, 13] [(.pointer p), (.pointer (some ⟨s, 0, none⟩)), (.slice out outn outc), (.slice s11 s11n s11c), (.int .i64 s12), (.int .i64 s13)] H R
def L0n (p : OA) (s : Nat) (out : OA) (outn outc : Nat) (s11 : OA) (s11n s11c : Nat) (s12 s13 : Int) (H : Heap) (R : EH) : Prop :=
 iteB (decide (s13 < s12)) (
 idxD s11 s11n s13 fun a =>
 ldStr H (Addr.add a (Int.toNat s13 * 6)) fun s1 =>
 ldStr H (Addr.add (Addr.add a (Int.toNat s13 * 6)) 1) fun s2 =>
 ldBool H (Addr.add (Addr.add a (Int.toNat s13 * 6)) 2) fun b =>
 ldInt H (Addr.add (Addr.add a (Int.toNat s13 * 6)) 3) .i64 fun n =>
 ldInt H (Addr.add (Addr.add a (Int.toNat s13 * 6)) 4) .i64 fun n1 =>
 ldInt H (Addr.add (Addr.add a (Int.toNat s13 * 6)) 5) .i64 fun n2 =>
 newD H (.cells ⟨[(.string (ByteArray.mk #[])), (.string (ByteArray.mk #[])), (.bool false), (.int .i64 (0 : Int)), (.int .i64 (0 : Int)), (.int .i64 (0 : Int))]⟩ 71) fun r H1 =>
 st1 H1 ⟨r, 0, none⟩ (.string s1) fun H2 =>
 st1 H2 ⟨r, 1, none⟩ (.string s2) fun H3 =>
 st1 H3 ⟨r, 2, none⟩ (.bool b) fun H4 =>
 st1 H4 ⟨r, 3, none⟩ (.int .i64 n) fun H5 =>
 st1 H5 ⟨r, 4, none⟩ (.int .i64 n1) fun H6 =>
 st1 H6 ⟨r, 5, none⟩ (.int .i64 n2) fun H7 =>
 nilD p fun a1 =>
 ldInt H7 a1 .i64 fun n3 =>
 ldStr H7 ⟨r, 0, none⟩ fun s3 =>
 ldStr H7 ⟨r, 1, none⟩ fun s4 =>
 ldBool H7 ⟨r, 2, none⟩ fun b1 =>
 ldInt H7 ⟨r, 3, none⟩ .i64 fun n4 =>
 ldInt H7 ⟨r, 4, none⟩ .i64 fun n5 =>
 ldStr H7 ⟨s, 0, none⟩ fun s5 =>
 ldStr H7 ⟨s, 1, none⟩ fun s6 =>
 ldBool H7 ⟨s, 2, none⟩ fun b2 =>
 ldInt H7 ⟨s, 3, none⟩ .i64 fun n6 =>
 ldInt H7 ⟨s, 4, none⟩ .i64 fun n7 =>
 callD Try.prog 43 [(.int .i64 n3), (.agg ⟨[(.string s3), (.string s4), (.bool b1), (.int .i64 n4), (.int .i64 n5)]⟩), (.agg ⟨[(.string s5), (.string s6), (.bool b2), (.int .i64 n6), (.int .i64 n7)]⟩)] H7 (panK R) fun v H8 =>
 tBool v fun b3 =>
 iteB b3 (
 ldStr H8 ⟨r, 0, none⟩ fun s7 =>
 ldStr H8 ⟨r, 1, none⟩ fun s8 =>
 ldBool H8 ⟨r, 2, none⟩ fun b4 =>
 ldInt H8 ⟨r, 3, none⟩ .i64 fun n8 =>
 ldInt H8 ⟨r, 4, none⟩ .i64 fun n9 =>
 ldInt H8 ⟨r, 5, none⟩ .i64 fun n10 =>
 newD H8 (.cells ⟨[(.string s7), (.string s8), (.bool b4), (.int .i64 n8), (.int .i64 n9), (.int .i64 n10)]⟩ 71) fun r1 H9 =>
 apD H9 6 64 [(.string (ByteArray.mk #[])), (.string (ByteArray.mk #[])), (.bool false), (.int .i64 (0 : Int)), (.int .i64 (0 : Int)), (.int .i64 (0 : Int))] 71 out outn outc (some ⟨r1, 0, none⟩) 1 fun q qn qc H10 =>
 L1 p s q qn qc s11 s11n s11c s12 s13 H10 R) <|
 L1 p s out outn outc s11 s11n s11c s12 s13 H8 R) <|
 R (.returned (.slice out outn outc)) H
theorem L0_step {p : OA} {s : Nat} {out : OA} {outn outc : Nat} {s11 : OA} {s11n s11c : Nat} {s12 s13 : Int} {H : Heap} {R : EH} (h : L0n p s out outn outc s11 s11n s11c s12 s13 H R) : L0 p s out outn outc s11 s11n s11c s12 s13 H R :=
 goL_of_den (an := an) (fuel := 100000) (X := L0n p s out outn outc s11 s11n s11c s12 s13 H R) mixed fn (by kernel_rfl) (fun ρ0 => by kernel_rfl) h
def L1n (p : OA) (s : Nat) (out : OA) (outn outc : Nat) (s11 : OA) (s11n s11c : Nat) (s12 s13 : Int) (H : Heap) (R : EH) : Prop :=
 L0 p s out outn outc s11 s11n s11c s12 (IntKind.wrap .i64 (s13 + (1 : Int))) H R
theorem L1_step {p : OA} {s : Nat} {out : OA} {outn outc : Nat} {s11 : OA} {s11n s11c : Nat} {s12 s13 : Int} {H : Heap} {R : EH} (h : L1n p s out outn outc s11 s11n s11c s12 s13 H R) : L1 p s out outn outc s11 s11n s11c s12 s13 H R :=
 goL_of_den (an := an) (fuel := 100000) (X := L1n p s out outn outc s11 s11n s11c s12 s13 H R) mixed fn (by kernel_rfl) (fun ρ0 => by kernel_rfl) h
def go (p : OA) (s_0 s_1 : ByteArray) (s_2 : Bool) (s_3 s_4 : Int) (H : Heap) (R : EH) : Prop :=
 newD H (.cells ⟨[(.string s_0), (.string s_1), (.bool s_2), (.int .i64 s_3), (.int .i64 s_4)]⟩ 35) fun r H1 =>
 nilD p fun a =>
 ldSl H1 (Addr.add a 1) fun q qn qc =>
 L0 p r none 0 0 q qn qc ((qn : Nat) : Int) (0 : Int) H1 R
theorem calls {p : OA} {s_0 s_1 : ByteArray} {s_2 : Bool} {s_3 s_4 : Int} {H : Heap} {R : EH} (h : go p s_0 s_1 s_2 s_3 s_4 H R) : CallsH Try.prog 64 ⟨[(.pointer p), (.agg ⟨[(.string s_0), (.string s_1), (.bool s_2), (.int .i64 s_3), (.int .i64 s_4)]⟩)]⟩ H R :=
 callsH_of_den (an := an) (fuel := 100000) (X := go p s_0 s_1 s_2 s_3 s_4 H R) (c := body) mixed fn (by kernel_rfl) (by kernel_rfl) (by kernel_rfl) ok (by kernel_rfl) h
end F64
/-! ### 67 "pub-stadtholder/spec.Plain" -/
namespace F67
def an : Ann := { kinds := [], taus := [], pairs := [], lab := [] }
noncomputable def body : Code := (Try.f67.body).getD .skip
theorem fn : Try.prog.funcs[67]? = some Try.f67 := by kernel_rfl
theorem ok : codeOk an 16 body = true := by kernel_rfl
def go (s_0 s_1 : ByteArray) (s_2 : Bool) (s_3 s_4 : Int) (H : Heap) (R : EH) : Prop :=
 newD H (.cells ⟨[(.string s_0), (.string s_1), (.bool s_2), (.int .i64 s_3), (.int .i64 s_4)]⟩ 35) fun r H1 =>
 newD H1 (.cells ⟨[(.string (ByteArray.mk #[])), (.string (ByteArray.mk #[])), (.bool false), (.int .i64 (0 : Int)), (.int .i64 (0 : Int))]⟩ 35) fun r1 H2 =>
 ldBool H2 ⟨r, 2, none⟩ fun b =>
 iteB b (
 ldStr H2 ⟨r, 0, none⟩ fun s =>
 ldStr H2 ⟨r, 0, none⟩ fun s1 =>
 catD s1 (ByteArray.mk #[0]) fun s2 =>
 st1 H2 ⟨r, 0, none⟩ (.string s) fun H3 =>
 st1 H3 ⟨r, 1, none⟩ (.string s2) fun H4 =>
 st1 H4 ⟨r, 2, none⟩ (.bool false) fun H5 =>
 ldStr H5 ⟨r, 0, none⟩ fun s3 =>
 ldStr H5 ⟨r, 1, none⟩ fun s4 =>
 ldBool H5 ⟨r, 2, none⟩ fun b1 =>
 ldInt H5 ⟨r, 3, none⟩ .i64 fun n =>
 ldInt H5 ⟨r, 4, none⟩ .i64 fun n1 =>
 st1 H5 ⟨r1, 0, none⟩ (.string s3) fun H6 =>
 st1 H6 ⟨r1, 1, none⟩ (.string s4) fun H7 =>
 st1 H7 ⟨r1, 2, none⟩ (.bool b1) fun H8 =>
 st1 H8 ⟨r1, 3, none⟩ (.int .i64 n) fun H9 =>
 st1 H9 ⟨r1, 4, none⟩ (.int .i64 n1) fun H10 =>
 ldStr H10 ⟨r1, 0, none⟩ fun s5 =>
 ldStr H10 ⟨r1, 1, none⟩ fun s6 =>
 ldBool H10 ⟨r1, 2, none⟩ fun b2 =>
 ldInt H10 ⟨r1, 3, none⟩ .i64 fun n2 =>
 ldInt H10 ⟨r1, 4, none⟩ .i64 fun n3 =>
 R (.returned (.agg ⟨[(.string s5), (.string s6), (.bool b2), (.int .i64 n2), (.int .i64 n3)]⟩)) H10) <|
 ldStr H2 ⟨r, 0, none⟩ fun s7 =>
 ldStr H2 ⟨r, 1, none⟩ fun s8 =>
 ldBool H2 ⟨r, 2, none⟩ fun b3 =>
 ldInt H2 ⟨r, 3, none⟩ .i64 fun n4 =>
 ldInt H2 ⟨r, 4, none⟩ .i64 fun n5 =>
 st1 H2 ⟨r1, 0, none⟩ (.string s7) fun H11 =>
 st1 H11 ⟨r1, 1, none⟩ (.string s8) fun H12 =>
 st1 H12 ⟨r1, 2, none⟩ (.bool b3) fun H13 =>
 st1 H13 ⟨r1, 3, none⟩ (.int .i64 n4) fun H14 =>
 st1 H14 ⟨r1, 4, none⟩ (.int .i64 n5) fun H15 =>
 ldStr H15 ⟨r1, 0, none⟩ fun s9 =>
 ldStr H15 ⟨r1, 1, none⟩ fun s10 =>
 ldBool H15 ⟨r1, 2, none⟩ fun b4 =>
 ldInt H15 ⟨r1, 3, none⟩ .i64 fun n6 =>
 ldInt H15 ⟨r1, 4, none⟩ .i64 fun n7 =>
 R (.returned (.agg ⟨[(.string s9), (.string s10), (.bool b4), (.int .i64 n6), (.int .i64 n7)]⟩)) H15
theorem calls {s_0 s_1 : ByteArray} {s_2 : Bool} {s_3 s_4 : Int} {H : Heap} {R : EH} (h : go s_0 s_1 s_2 s_3 s_4 H R) : CallsH Try.prog 67 ⟨[(.agg ⟨[(.string s_0), (.string s_1), (.bool s_2), (.int .i64 s_3), (.int .i64 s_4)]⟩)]⟩ H R :=
 callsH_of_den (an := an) (fuel := 100000) (X := go s_0 s_1 s_2 s_3 s_4 H R) (c := body) mixed fn (by kernel_rfl) (by kernel_rfl) (by kernel_rfl) ok (by kernel_rfl) h
end F67
/-! ### 71 "pub-stadtholder/spec.Ends" -/
namespace F71
def an : Ann := { kinds := [], taus := [], pairs := [], lab := [(30000006, [1, 2]), (10000007, [11, 12])] }
noncomputable def body : Code := (Try.f71.body).getD .skip
theorem fn : Try.prog.funcs[71]? = some Try.f71 := by kernel_rfl
theorem ok : codeOk an 46 body = true := by kernel_rfl
noncomputable def L0t : List Item := [.code (sub [1, 1, 0, 0, 1, 1, 1, 0] body), .inBlock 0, .code (sub [1, 1, 1] body)]
def L0 (s t : ByteArray) (H : Heap) (R : EH) : Prop :=
 GoL Try.prog 71 46 L0t [1, 2] [(.string s), (.string t)] H R
noncomputable def L1t : List Item := [.code (sub [1, 1, 1] body)]
def L1 (less more : Bool) (H : Heap) (R : EH) : Prop :=
 GoL Try.prog 71 46 L1t [11, 12] [(.bool less), (.bool more)] H R
def L0n (s t : ByteArray) (H : Heap) (R : EH) : Prop :=
 L1 (eqS t (ByteArray.mk #[])) (eqS s (ByteArray.mk #[])) H R
theorem L0_step {s t : ByteArray} {H : Heap} {R : EH} (h : L0n s t H R) : L0 s t H R :=
 goL_of_den (an := an) (fuel := 100000) (X := L0n s t H R) mixed fn (by kernel_rfl) (fun ρ0 => by kernel_rfl) h
def L1n (less more : Bool) (H : Heap) (R : EH) : Prop :=
 iteB less (
 R (.returned (.int .i64 (-1 : Int))) H) <|
 iteB more (
 R (.returned (.int .i64 (1 : Int))) H) <|
 R (.returned (.int .i64 (0 : Int))) H
theorem L1_step {less more : Bool} {H : Heap} {R : EH} (h : L1n less more H R) : L1 less more H R :=
 goL_of_den (an := an) (fuel := 100000) (X := L1n less more H R) mixed fn (by kernel_rfl) (fun ρ0 => by kernel_rfl) h
def go (order : Int) (s t : ByteArray) (a b : Int) (H : Heap) (R : EH) : Prop :=
 iteB (order == (3 : Int)) (
 L1 (decide (a < b)) (decide (a > b)) H R) <|
 iteB (order != (0 : Int)) (
 iteB (!((eqS s (ByteArray.mk #[])) == (eqS t (ByteArray.mk #[])))) (
 L0 s t H R) <|
 L1 (ltS s t) (!(ltS s t || eqS s t)) H R) <|
 L1 (ltS s t) (!(ltS s t || eqS s t)) H R
theorem calls {order : Int} {s t : ByteArray} {a b : Int} {H : Heap} {R : EH} (h : go order s t a b H R) : CallsH Try.prog 71 ⟨[(.int .i64 order), (.string s), (.string t), (.int .i64 a), (.int .i64 b)]⟩ H R :=
 callsH_of_den (an := an) (fuel := 100000) (X := go order s t a b H R) (c := body) mixed fn (by kernel_rfl) (by kernel_rfl) (by kernel_rfl) ok (by kernel_rfl) h
end F71
end Go.Proofs.Ytobolifgehagfaa
