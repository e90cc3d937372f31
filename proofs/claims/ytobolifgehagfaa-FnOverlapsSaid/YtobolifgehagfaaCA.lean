/- What functions of this seat do, each proved by a walk; no condition. -/
import Derived.Test.YtobolifgehagfaaJC
import Derived.KernelRfl
set_option linter.unusedVariables false
namespace Go.Proofs.Ytobolifgehagfaa
open Go Go.Den Go.Proofs
/-! ### 58 "pub-stadtholder/impl.order" -/
namespace F58
def an : Ann := { kinds := [], taus := [], pairs := [], lab := [] }
noncomputable def body : Code := (Try.f58.body).getD .skip
theorem fn : Try.prog.funcs[58]? = some Try.f58 := by kernel_rfl
theorem ok : codeOk an 11 body = true := by kernel_rfl
def go (n : Int) (H : Heap) (R : EH) : Prop :=
 iteB (decide (n < (-2147483648 : Int))) (
 R (.returned (.int .i32 (-1 : Int))) H) <|
 iteB (decide (n > (2147483647 : Int))) (
 R (.returned (.int .i32 (-1 : Int))) H) <|
 R (.returned (.int .i32 (IntKind.wrap .i32 n))) H
theorem calls {n : Int} {H : Heap} {R : EH} (h : go n H R) : CallsH Try.prog 58 ⟨[(.int .i64 n)]⟩ H R :=
 callsH_of_den (an := an) (fuel := 100000) (X := go n H R) (c := body) mixed fn (by kernel_rfl) (by kernel_rfl) (by kernel_rfl) ok (by kernel_rfl) h
end F58
/-! ### 8 "pub-stadtholder/laws.FnOverlaps" -/
namespace F8
def an : Ann := { kinds := [], taus := [(14, [[1, 2, 4, 0, 3, 5, 6, 7, 8, 9]])], pairs := [], lab := [(10000006, [0]), (10000012, [4, 6]), (40000013, [6, 73, 74, 75])] }
noncomputable def body : Code := (Try.f8.body).getD .skip
theorem fn : Try.prog.funcs[8]? = some Try.f8 := by kernel_rfl
theorem ok : codeOk an 92 body = true := by kernel_rfl
noncomputable def L0t : List Item := [.code (sub [1, 1, 1] body)]
def L0 (s0 : OA) (s0n s0c : Nat) (H : Heap) (R : EH) : Prop :=
 GoL Try.prog 8 92 L0t [0] [(.slice s0 s0n s0c)] H R
noncomputable def L1t : List Item := [.code (sub [1, 1, 1, 1, 1, 1, 1] body)]
def L1 (s4 : OA) (s4n s4c s6 : Nat) (H : Heap) (R : EH) : Prop :=
 GoL Try.prog 8 92 L1t [4, 6] [(.slice s4 s4n s4c), (.pointer (some ⟨s6, 0, none⟩))] H R
noncomputable def L2t : List Item := [.code (sub [1, 1, 1, 1, 1, 1, 1, 0, 1, 0, 0] body), .inLoop (sub [1, 1, 1, 1, 1, 1, 1, 0, 1, 0, 0] body), .inBlock 0, .code (sub [1, 1, 1, 1, 1, 1, 1, 1] body)]
def L2 (s6 : Nat) (s73 : OA) (s73n s73c : Nat) (s74 s75 : Int) (H : Heap) (R : EH) : Prop :=
 GoL Try.prog 8 92 L2t [6, 73, 74, 75] [(.pointer (some ⟨s6, 0, none⟩)), (.slice s73 s73n s73c), (.int .i64 s74), (.int .i64 s75)] H R
def L0n (s0 : OA) (s0n s0c : Nat) (H : Heap) (R : EH) : Prop :=
 callD Try.prog 26 [(.slice s0 s0n s0c)] H (panK R) fun v H1 =>
 tTup v fun l =>
 tCons l fun c l1 =>
 tSl c fun q qn qc =>
 tCons l1 fun c1 l2 =>
 tSl c1 fun q1 q1n q1c =>
 tCons l2 fun c2 l3 =>
 tInt c2 .i64 fun n =>
 tNil l3 <|
 callD Try.prog 27 [(.slice s0 s0n s0c)] H1 (panK R) fun v1 H2 =>
 tTup v1 fun l4 =>
 tCons l4 fun c3 l5 =>
 tAgg c3 fun l6 =>
 tCons l6 fun c4 l7 =>
 tSl c4 fun q2 q2n q2c =>
 tCons l7 fun c5 l8 =>
 tInt c5 .i64 fun n1 =>
 tCons l8 fun c6 l9 =>
 tSl c6 fun q3 q3n q3c =>
 tNil l9 <|
 tCons l5 fun c7 l10 =>
 tBool c7 fun b =>
 tNil l10 <|
 newD H2 (.cells ⟨[(.slice none 0 0), (.int .i64 (0 : Int)), (.slice none 0 0)]⟩ 65) fun r H3 =>
 st1 H3 ⟨r, 0, none⟩ (.slice q2 q2n q2c) fun H4 =>
 st1 H4 ⟨r, 1, none⟩ (.int .i64 n1) fun H5 =>
 st1 H5 ⟨r, 2, none⟩ (.slice q3 q3n q3c) fun H6 =>
 iteB (!b) (
 iteB (n == (5 : Int)) (
 iteB (((qn : Nat) : Int) == (0 : Int)) (
 iteB (((q1n : Nat) : Int) == (0 : Int)) (
 callD Try.prog 25 [] H6 (panK R) fun v2 H7 =>
 tBool v2 fun b1 =>
 R (.returned (.bool b1)) H7) <|
 R (.returned (.bool false)) H6) <|
 R (.returned (.bool false)) H6) <|
 R (.returned (.bool false)) H6) <|
 iteB (n != (0 : Int)) (
 R (.returned (.bool false)) H6) <|
 ldSl H6 ⟨r, 0, none⟩ fun q4 q4n q4c =>
 callD Try.prog 28 [(.slice q qn qc), (.slice q4 q4n q4c)] H6 (panK R) fun v3 H8 =>
 tBool v3 fun b2 =>
 iteB (!b2) (
 R (.returned (.bool false)) H8) <|
 ldSl H8 ⟨r, 2, none⟩ fun q5 q5n q5c =>
 iteB (((q1n : Nat) : Int) != ((q5n : Nat) : Int)) (
 R (.returned (.bool false)) H8) <|
 L1 q1 q1n q1c r H8 R
theorem L0_step {s0 : OA} {s0n s0c : Nat} {H : Heap} {R : EH} (h : L0n s0 s0n s0c H R) : L0 s0 s0n s0c H R :=
 goL_of_den (an := an) (fuel := 100000) (X := L0n s0 s0n s0c H R) mixed fn (by kernel_rfl) (fun ρ0 => by kernel_rfl) h
def L1n (s4 : OA) (s4n s4c s6 : Nat) (H : Heap) (R : EH) : Prop :=
 L2 s6 s4 s4n s4c ((s4n : Nat) : Int) (0 : Int) H R
theorem L1_step {s4 : OA} {s4n s4c s6 : Nat} {H : Heap} {R : EH} (h : L1n s4 s4n s4c s6 H R) : L1 s4 s4n s4c s6 H R :=
 goL_of_den (an := an) (fuel := 100000) (X := L1n s4 s4n s4c s6 H R) mixed fn (by kernel_rfl) (fun ρ0 => by kernel_rfl) h
def L2n (s6 : Nat) (s73 : OA) (s73n s73c : Nat) (s74 s75 : Int) (H : Heap) (R : EH) : Prop :=
 iteB (decide (s75 < s74)) (
 idxD s73 s73n s75 fun a =>
 ldStr H (Addr.add a (Int.toNat s75 * 5)) fun s =>
 ldStr H (Addr.add (Addr.add a (Int.toNat s75 * 5)) 1) fun s1 =>
 ldBool H (Addr.add (Addr.add a (Int.toNat s75 * 5)) 2) fun b =>
 ldInt H (Addr.add (Addr.add a (Int.toNat s75 * 5)) 3) .i64 fun n =>
 ldInt H (Addr.add (Addr.add a (Int.toNat s75 * 5)) 4) .i64 fun n1 =>
 newD H (.cells ⟨[(.string (ByteArray.mk #[])), (.string (ByteArray.mk #[])), (.bool false), (.int .i64 (0 : Int)), (.int .i64 (0 : Int))]⟩ 35) fun r H1 =>
 st1 H1 ⟨r, 0, none⟩ (.string s) fun H2 =>
 st1 H2 ⟨r, 1, none⟩ (.string s1) fun H3 =>
 st1 H3 ⟨r, 2, none⟩ (.bool b) fun H4 =>
 st1 H4 ⟨r, 3, none⟩ (.int .i64 n) fun H5 =>
 st1 H5 ⟨r, 4, none⟩ (.int .i64 n1) fun H6 =>
 ldStr H6 ⟨r, 0, none⟩ fun s2 =>
 ldStr H6 ⟨r, 1, none⟩ fun s3 =>
 ldBool H6 ⟨r, 2, none⟩ fun b1 =>
 ldInt H6 ⟨r, 3, none⟩ .i64 fun n2 =>
 ldInt H6 ⟨r, 4, none⟩ .i64 fun n3 =>
 ldSl H6 ⟨s6, 2, none⟩ fun q qn qc =>
 idxD q qn s75 fun a1 =>
 ldStr H6 (Addr.add a1 (Int.toNat s75 * 6)) fun s4 =>
 ldStr H6 (Addr.add (Addr.add a1 (Int.toNat s75 * 6)) 1) fun s5 =>
 ldBool H6 (Addr.add (Addr.add a1 (Int.toNat s75 * 6)) 2) fun b2 =>
 ldInt H6 (Addr.add (Addr.add a1 (Int.toNat s75 * 6)) 3) .i64 fun n4 =>
 ldInt H6 (Addr.add (Addr.add a1 (Int.toNat s75 * 6)) 4) .i64 fun n5 =>
 callD Try.prog 29 [(.int .i64 (1 : Int)), (.agg ⟨[(.string s2), (.string s3), (.bool b1), (.int .i64 n2), (.int .i64 n3)]⟩), (.agg ⟨[(.string s4), (.string s5), (.bool b2), (.int .i64 n4), (.int .i64 n5)]⟩)] H6 (panK R) fun v H7 =>
 tBool v fun b3 =>
 iteB (!b3) (
 R (.returned (.bool false)) H7) <|
 L2 s6 s73 s73n s73c s74 (IntKind.wrap .i64 (s75 + (1 : Int))) H7 R) <|
 callD Try.prog 25 [] H (panK R) fun v1 H8 =>
 tBool v1 fun b4 =>
 R (.returned (.bool b4)) H8
theorem L2_step {s6 : Nat} {s73 : OA} {s73n s73c : Nat} {s74 s75 : Int} {H : Heap} {R : EH} (h : L2n s6 s73 s73n s73c s74 s75 H R) : L2 s6 s73 s73n s73c s74 s75 H R :=
 goL_of_den (an := an) (fuel := 100000) (X := L2n s6 s73 s73n s73c s74 s75 H R) mixed fn (by kernel_rfl) (fun ρ0 => by kernel_rfl) h
def go (s0 : OA) (s0n s0c : Nat) (H : Heap) (R : EH) : Prop :=
 iteB (decide (((s0n : Nat) : Int) > (2147483647 : Int))) (
 R (.returned (.bool true)) H) <|
 callD Try.prog 22 [(.slice s0 s0n s0c)] H (panK R) fun v H1 =>
 tBool v fun b =>
 iteB (!b) (
 callD Try.prog 25 [] H1 (panK R) fun v1 H2 =>
 tBool v1 fun b1 =>
 R (.returned (.bool b1)) H2) <|
 callD Try.prog 23 [(.slice s0 s0n s0c)] H1 (panK R) fun v2 H3 =>
 tBool v2 fun b2 =>
 iteB (!b2) (
 callD Try.prog 25 [] H3 (panK R) fun v3 H4 =>
 tBool v3 fun b3 =>
 R (.returned (.bool b3)) H4) <|
 callD Try.prog 24 [(.slice s0 s0n s0c)] H3 (panK R) fun v4 H5 =>
 tBool v4 fun b4 =>
 iteB (!b4) (
 callD Try.prog 25 [] H5 (panK R) fun v5 H6 =>
 tBool v5 fun b5 =>
 R (.returned (.bool b5)) H6) <|
 L0 s0 s0n s0c H5 R
theorem calls {s0 : OA} {s0n s0c : Nat} {H : Heap} {R : EH} (h : go s0 s0n s0c H R) : CallsH Try.prog 8 ⟨[(.slice s0 s0n s0c)]⟩ H R :=
 callsH_of_den (an := an) (fuel := 100000) (X := go s0 s0n s0c H R) (c := body) mixed fn (by kernel_rfl) (by kernel_rfl) (by kernel_rfl) ok (by kernel_rfl) h
end F8
/-! ### 22 "pub-stadtholder/laws.ckFew" -/
namespace F22
def an : Ann := { kinds := [], taus := [], pairs := [], lab := [] }
noncomputable def body : Code := (Try.f22.body).getD .skip
theorem fn : Try.prog.funcs[22]? = some Try.f22 := by kernel_rfl
theorem ok : codeOk an 12 body = true := by kernel_rfl
def go (l : OA) (ln lc : Nat) (H : Heap) (R : EH) : Prop :=
 callD Try.prog 41 [(.slice l ln lc), (.int .i64 (3 : Int))] H (panK R) fun v H1 =>
 tInt v .i64 fun n =>
 iteB (decide (n ≥ (0 : Int))) (
 R (.returned (.bool (decide (n ≤ (200 : Int))))) H1) <|
 R (.returned (.bool false)) H1
theorem calls {l : OA} {ln lc : Nat} {H : Heap} {R : EH} (h : go l ln lc H R) : CallsH Try.prog 22 ⟨[(.slice l ln lc)]⟩ H R :=
 callsH_of_den (an := an) (fuel := 100000) (X := go l ln lc H R) (c := body) mixed fn (by kernel_rfl) (by kernel_rfl) (by kernel_rfl) ok (by kernel_rfl) h
end F22
/-! ### 23 "pub-stadtholder/laws.ckProper" -/
namespace F23
def an : Ann := { kinds := [], taus := [], pairs := [], lab := [(40000003, [5, 6, 7]), (40000015, [5, 6, 7])] }
noncomputable def body : Code := (Try.f23.body).getD .skip
theorem fn : Try.prog.funcs[23]? = some Try.f23 := by kernel_rfl
theorem ok : codeOk an 53 body = true := by kernel_rfl
noncomputable def L0t : List Item := [.code (sub [1, 0, 1, 0, 0] body), .inLoop (sub [1, 0, 1, 0, 0] body), .inBlock 0, .code (sub [1, 1] body)]
def L0 (s5 : OA) (s5n s5c : Nat) (s6 s7 : Int) (H : Heap) (R : EH) : Prop :=
 GoL Try.prog 23 53 L0t [5, 6, 7] [(.slice s5 s5n s5c), (.int .i64 s6), (.int .i64 s7)] H R
noncomputable def L1t : List Item := [.code (sub [1, 0, 1, 0, 0, 1, 1, 1] body), .inLoop (sub [1, 0, 1, 0, 0] body), .inBlock 0, .code (sub [1, 1] body)]
def L1 (s5 : OA) (s5n s5c : Nat) (s6 s7 : Int) (H : Heap) (R : EH) : Prop :=
 GoL Try.prog 23 53 L1t [5, 6, 7] [(.slice s5 s5n s5c), (.int .i64 s6), (.int .i64 s7)] H R
def L0n (s5 : OA) (s5n s5c : Nat) (s6 s7 : Int) (H : Heap) (R : EH) : Prop :=
 iteB (decide (s7 < s6)) (
 idxD s5 s5n s7 fun a =>
 ldInt H (Addr.add a (Int.toNat s7 * 21)) .i64 fun n =>
 ldStr H (Addr.add (Addr.add a (Int.toNat s7 * 21)) 1) fun s =>
 ldStr H (Addr.add (Addr.add a (Int.toNat s7 * 21)) 2) fun s1 =>
 ldStr H (Addr.add (Addr.add a (Int.toNat s7 * 21)) 3) fun s2 =>
 ldInt H (Addr.add (Addr.add a (Int.toNat s7 * 21)) 4) .i64 fun n1 =>
 ldInt H (Addr.add (Addr.add a (Int.toNat s7 * 21)) 5) .i64 fun n2 =>
 ldInt H (Addr.add (Addr.add a (Int.toNat s7 * 21)) 6) .i64 fun n3 =>
 ldInt H (Addr.add (Addr.add a (Int.toNat s7 * 21)) 7) .i64 fun n4 =>
 ldInt H (Addr.add (Addr.add a (Int.toNat s7 * 21)) 8) .i64 fun n5 =>
 ldInt H (Addr.add (Addr.add a (Int.toNat s7 * 21)) 9) .i64 fun n6 =>
 ldInt H (Addr.add (Addr.add a (Int.toNat s7 * 21)) 10) .i64 fun n7 =>
 ldInt H (Addr.add (Addr.add a (Int.toNat s7 * 21)) 11) .i64 fun n8 =>
 ldInt H (Addr.add (Addr.add a (Int.toNat s7 * 21)) 12) .i64 fun n9 =>
 ldBool H (Addr.add (Addr.add a (Int.toNat s7 * 21)) 13) fun b =>
 ldBool H (Addr.add (Addr.add a (Int.toNat s7 * 21)) 14) fun b1 =>
 ldBool H (Addr.add (Addr.add a (Int.toNat s7 * 21)) 15) fun b2 =>
 ldBool H (Addr.add (Addr.add a (Int.toNat s7 * 21)) 16) fun b3 =>
 ldBool H (Addr.add (Addr.add a (Int.toNat s7 * 21)) 17) fun b4 =>
 ldSl H (Addr.add (Addr.add a (Int.toNat s7 * 21)) 18) fun q qn qc =>
 ldSl H (Addr.add (Addr.add a (Int.toNat s7 * 21)) 19) fun q1 q1n q1c =>
 ldSl H (Addr.add (Addr.add a (Int.toNat s7 * 21)) 20) fun q2 q2n q2c =>
 newD H (.cells ⟨[(.int .i64 (0 : Int)), (.string (ByteArray.mk #[])), (.string (ByteArray.mk #[])), (.string (ByteArray.mk #[])), (.int .i64 (0 : Int)), (.int .i64 (0 : Int)), (.int .i64 (0 : Int)), (.int .i64 (0 : Int)), (.int .i64 (0 : Int)), (.int .i64 (0 : Int)), (.int .i64 (0 : Int)), (.int .i64 (0 : Int)), (.int .i64 (0 : Int)), (.bool false), (.bool false), (.bool false), (.bool false), (.bool false), (.slice none 0 0), (.slice none 0 0), (.slice none 0 0)]⟩ 92) fun r H1 =>
 st1 H1 ⟨r, 0, none⟩ (.int .i64 n) fun H2 =>
 st1 H2 ⟨r, 1, none⟩ (.string s) fun H3 =>
 st1 H3 ⟨r, 2, none⟩ (.string s1) fun H4 =>
 st1 H4 ⟨r, 3, none⟩ (.string s2) fun H5 =>
 st1 H5 ⟨r, 4, none⟩ (.int .i64 n1) fun H6 =>
 st1 H6 ⟨r, 5, none⟩ (.int .i64 n2) fun H7 =>
 st1 H7 ⟨r, 6, none⟩ (.int .i64 n3) fun H8 =>
 st1 H8 ⟨r, 7, none⟩ (.int .i64 n4) fun H9 =>
 st1 H9 ⟨r, 8, none⟩ (.int .i64 n5) fun H10 =>
 st1 H10 ⟨r, 9, none⟩ (.int .i64 n6) fun H11 =>
 st1 H11 ⟨r, 10, none⟩ (.int .i64 n7) fun H12 =>
 st1 H12 ⟨r, 11, none⟩ (.int .i64 n8) fun H13 =>
 st1 H13 ⟨r, 12, none⟩ (.int .i64 n9) fun H14 =>
 st1 H14 ⟨r, 13, none⟩ (.bool b) fun H15 =>
 st1 H15 ⟨r, 14, none⟩ (.bool b1) fun H16 =>
 st1 H16 ⟨r, 15, none⟩ (.bool b2) fun H17 =>
 st1 H17 ⟨r, 16, none⟩ (.bool b3) fun H18 =>
 st1 H18 ⟨r, 17, none⟩ (.bool b4) fun H19 =>
 st1 H19 ⟨r, 18, none⟩ (.slice q qn qc) fun H20 =>
 st1 H20 ⟨r, 19, none⟩ (.slice q1 q1n q1c) fun H21 =>
 st1 H21 ⟨r, 20, none⟩ (.slice q2 q2n q2c) fun H22 =>
 ldInt H22 ⟨r, 0, none⟩ .i64 fun n10 =>
 iteB (n10 == (2 : Int)) (
 ldStr H22 ⟨r, 1, none⟩ fun s3 =>
 iteB (eqS s3 (ByteArray.mk #[])) (
 R (.returned (.bool false)) H22) <|
 L1 s5 s5n s5c s6 s7 H22 R) <|
 iteB (n10 == (3 : Int)) (
 ldStr H22 ⟨r, 1, none⟩ fun s4 =>
 iteB (eqS s4 (ByteArray.mk #[])) (
 R (.returned (.bool false)) H22) <|
 ldStr H22 ⟨r, 2, none⟩ fun s8 =>
 iteB (!eqS s8 (ByteArray.mk #[])) (
 ldStr H22 ⟨r, 2, none⟩ fun s9 =>
 ldStr H22 ⟨r, 1, none⟩ fun s10 =>
 iteB (ltS s9 s10 || eqS s9 s10) (
 R (.returned (.bool false)) H22) <|
 ldStr H22 ⟨r, 2, none⟩ fun s11 =>
 iteB (eqS s11 (ByteArray.mk #[0])) (
 R (.returned (.bool false)) H22) <|
 L1 s5 s5n s5c s6 s7 H22 R) <|
 L1 s5 s5n s5c s6 s7 H22 R) <|
 iteB (n10 == (4 : Int)) (
 ldSl H22 ⟨r, 19, none⟩ fun q3 q3n q3c =>
 callD Try.prog 23 [(.slice q3 q3n q3c)] H22 (panK R) fun v H23 =>
 tBool v fun b5 =>
 iteB (!b5) (
 R (.returned (.bool false)) H23) <|
 ldSl H23 ⟨r, 20, none⟩ fun q4 q4n q4c =>
 callD Try.prog 23 [(.slice q4 q4n q4c)] H23 (panK R) fun v1 H24 =>
 tBool v1 fun b6 =>
 iteB (!b6) (
 R (.returned (.bool false)) H24) <|
 L1 s5 s5n s5c s6 s7 H24 R) <|
 L1 s5 s5n s5c s6 s7 H22 R) <|
 R (.returned (.bool true)) H
theorem L0_step {s5 : OA} {s5n s5c : Nat} {s6 s7 : Int} {H : Heap} {R : EH} (h : L0n s5 s5n s5c s6 s7 H R) : L0 s5 s5n s5c s6 s7 H R :=
 goL_of_den (an := an) (fuel := 100000) (X := L0n s5 s5n s5c s6 s7 H R) mixed fn (by kernel_rfl) (fun ρ0 => by kernel_rfl) h
def L1n (s5 : OA) (s5n s5c : Nat) (s6 s7 : Int) (H : Heap) (R : EH) : Prop :=
 L0 s5 s5n s5c s6 (IntKind.wrap .i64 (s7 + (1 : Int))) H R
theorem L1_step {s5 : OA} {s5n s5c : Nat} {s6 s7 : Int} {H : Heap} {R : EH} (h : L1n s5 s5n s5c s6 s7 H R) : L1 s5 s5n s5c s6 s7 H R :=
 goL_of_den (an := an) (fuel := 100000) (X := L1n s5 s5n s5c s6 s7 H R) mixed fn (by kernel_rfl) (fun ρ0 => by kernel_rfl) h
def go (l : OA) (ln lc : Nat) (H : Heap) (R : EH) : Prop :=
 L0 l ln lc ((ln : Nat) : Int) (0 : Int) H R
theorem calls {l : OA} {ln lc : Nat} {H : Heap} {R : EH} (h : go l ln lc H R) : CallsH Try.prog 23 ⟨[(.slice l ln lc)]⟩ H R :=
 callsH_of_den (an := an) (fuel := 100000) (X := go l ln lc H R) (c := body) mixed fn (by kernel_rfl) (by kernel_rfl) (by kernel_rfl) ok (by kernel_rfl) h
end F23
/-! ### 24 "pub-stadtholder/laws.ckBehind" -/
namespace F24
def an : Ann := { kinds := [], taus := [], pairs := [], lab := [(40000004, [3, 10, 11, 12]), (60000009, [3, 5, 10, 11, 12]), (90000010, [3, 5, 10, 11, 12, 29, 30, 31]), (130000013, [3, 5, 7, 10, 11, 12, 29, 30, 31, 37, 38, 39]), (40000020, [3, 10, 11, 12])] }
noncomputable def body : Code := (Try.f24.body).getD .skip
theorem fn : Try.prog.funcs[24]? = some Try.f24 := by kernel_rfl
theorem ok : codeOk an 55 body = true := by kernel_rfl
noncomputable def L0t : List Item := [.code (sub [1, 1, 0, 1, 0, 0] body), .inLoop (sub [1, 1, 0, 1, 0, 0] body), .inBlock 0, .code (sub [1, 1, 1] body)]
def L0 (puts : OA) (putsn putsc : Nat) (s10 : OA) (s10n s10c : Nat) (s11 s12 : Int) (H : Heap) (R : EH) : Prop :=
 GoL Try.prog 24 55 L0t [3, 10, 11, 12] [(.slice puts putsn putsc), (.slice s10 s10n s10c), (.int .i64 s11), (.int .i64 s12)] H R
noncomputable def L1t : List Item := [.code (sub [1, 1, 0, 1, 0, 0, 1, 1, 0, 0, 1, 1, 1] body), .inBlock 1, .code (sub [1, 1, 0, 1, 0, 0, 1, 1, 1] body), .inLoop (sub [1, 1, 0, 1, 0, 0] body), .inBlock 0, .code (sub [1, 1, 1] body)]
def L1 (puts : OA) (putsn putsc r : Nat) (s10 : OA) (s10n s10c : Nat) (s11 s12 : Int) (H : Heap) (R : EH) : Prop :=
 GoL Try.prog 24 55 L1t [3, 5, 10, 11, 12] [(.slice puts putsn putsc), (.pointer (some ⟨r, 0, none⟩)), (.slice s10 s10n s10c), (.int .i64 s11), (.int .i64 s12)] H R
noncomputable def L2t : List Item := [.code (sub [1, 1, 0, 1, 0, 0, 1, 1, 0, 0, 1, 1, 1, 0, 1, 0, 0] body), .inLoop (sub [1, 1, 0, 1, 0, 0, 1, 1, 0, 0, 1, 1, 1, 0, 1, 0, 0] body), .inBlock 2, .code (sub [1, 1, 0, 1, 0, 0, 1, 1, 0, 0, 1, 1, 1, 1] body), .inBlock 1, .code (sub [1, 1, 0, 1, 0, 0, 1, 1, 1] body), .inLoop (sub [1, 1, 0, 1, 0, 0] body), .inBlock 0, .code (sub [1, 1, 1] body)]
def L2 (puts : OA) (putsn putsc r : Nat) (s10 : OA) (s10n s10c : Nat) (s11 s12 : Int) (s29 : OA) (s29n s29c : Nat) (s30 s31 : Int) (H : Heap) (R : EH) : Prop :=
 GoL Try.prog 24 55 L2t [3, 5, 10, 11, 12, 29, 30, 31] [(.slice puts putsn putsc), (.pointer (some ⟨r, 0, none⟩)), (.slice s10 s10n s10c), (.int .i64 s11), (.int .i64 s12), (.slice s29 s29n s29c), (.int .i64 s30), (.int .i64 s31)] H R
noncomputable def L3t : List Item := [.code (sub [1, 1, 0, 1, 0, 0, 1, 1, 0, 0, 1, 1, 1, 0, 1, 0, 0, 1, 1, 0, 0, 1, 1, 0, 0] body), .inLoop (sub [1, 1, 0, 1, 0, 0, 1, 1, 0, 0, 1, 1, 1, 0, 1, 0, 0, 1, 1, 0, 0, 1, 1, 0, 0] body), .inBlock 4, .inBlock 3, .code (sub [1, 1, 0, 1, 0, 0, 1, 1, 0, 0, 1, 1, 1, 0, 1, 0, 0, 1, 1, 1] body), .inLoop (sub [1, 1, 0, 1, 0, 0, 1, 1, 0, 0, 1, 1, 1, 0, 1, 0, 0] body), .inBlock 2, .code (sub [1, 1, 0, 1, 0, 0, 1, 1, 0, 0, 1, 1, 1, 1] body), .inBlock 1, .code (sub [1, 1, 0, 1, 0, 0, 1, 1, 1] body), .inLoop (sub [1, 1, 0, 1, 0, 0] body), .inBlock 0, .code (sub [1, 1, 1] body)]
def L3 (puts : OA) (putsn putsc r : Nat) (k : ByteArray) (s10 : OA) (s10n s10c : Nat) (s11 s12 : Int) (s29 : OA) (s29n s29c : Nat) (s30 s31 : Int) (s37 : OA) (s37n s37c : Nat) (s38 s39 : Int) (H : Heap) (R : EH) : Prop :=
 GoL Try.prog 24 55 L3t [3, 5, 7, 10, 11, 12, 29, 30, 31, 37, 38, 39] [(.slice puts putsn putsc), (.pointer (some ⟨r, 0, none⟩)), (.string k), (.slice s10 s10n s10c), (.int .i64 s11), (.int .i64 s12), (.slice s29 s29n s29c), (.int .i64 s30), (.int .i64 s31), (.slice s37 s37n s37c), (.int .i64 s38), (.int .i64 s39)] H R
noncomputable def L4t : List Item := [.code (sub [1, 1, 0, 1, 0, 0, 1, 1, 1] body), .inLoop (sub [1, 1, 0, 1, 0, 0] body), .inBlock 0, .code (sub [1, 1, 1] body)]
def L4 (puts : OA) (putsn putsc : Nat) (s10 : OA) (s10n s10c : Nat) (s11 s12 : Int) (H : Heap) (R : EH) : Prop :=
 GoL Try.prog 24 55 L4t [3, 10, 11, 12] [(.slice puts putsn putsc), (.slice s10 s10n s10c), (.int .i64 s11), (.int .i64 s12)] H R
def L0n (puts : OA) (putsn putsc : Nat) (s10 : OA) (s10n s10c : Nat) (s11 s12 : Int) (H : Heap) (R : EH) : Prop :=
 iteB (decide (s12 < s11)) (
 idxD s10 s10n s12 fun a =>
 ldInt H (Addr.add a (Int.toNat s12 * 21)) .i64 fun n =>
 ldStr H (Addr.add (Addr.add a (Int.toNat s12 * 21)) 1) fun s =>
 ldStr H (Addr.add (Addr.add a (Int.toNat s12 * 21)) 2) fun s1 =>
 ldStr H (Addr.add (Addr.add a (Int.toNat s12 * 21)) 3) fun s2 =>
 ldInt H (Addr.add (Addr.add a (Int.toNat s12 * 21)) 4) .i64 fun n1 =>
 ldInt H (Addr.add (Addr.add a (Int.toNat s12 * 21)) 5) .i64 fun n2 =>
 ldInt H (Addr.add (Addr.add a (Int.toNat s12 * 21)) 6) .i64 fun n3 =>
 ldInt H (Addr.add (Addr.add a (Int.toNat s12 * 21)) 7) .i64 fun n4 =>
 ldInt H (Addr.add (Addr.add a (Int.toNat s12 * 21)) 8) .i64 fun n5 =>
 ldInt H (Addr.add (Addr.add a (Int.toNat s12 * 21)) 9) .i64 fun n6 =>
 ldInt H (Addr.add (Addr.add a (Int.toNat s12 * 21)) 10) .i64 fun n7 =>
 ldInt H (Addr.add (Addr.add a (Int.toNat s12 * 21)) 11) .i64 fun n8 =>
 ldInt H (Addr.add (Addr.add a (Int.toNat s12 * 21)) 12) .i64 fun n9 =>
 ldBool H (Addr.add (Addr.add a (Int.toNat s12 * 21)) 13) fun b =>
 ldBool H (Addr.add (Addr.add a (Int.toNat s12 * 21)) 14) fun b1 =>
 ldBool H (Addr.add (Addr.add a (Int.toNat s12 * 21)) 15) fun b2 =>
 ldBool H (Addr.add (Addr.add a (Int.toNat s12 * 21)) 16) fun b3 =>
 ldBool H (Addr.add (Addr.add a (Int.toNat s12 * 21)) 17) fun b4 =>
 ldSl H (Addr.add (Addr.add a (Int.toNat s12 * 21)) 18) fun q qn qc =>
 ldSl H (Addr.add (Addr.add a (Int.toNat s12 * 21)) 19) fun q1 q1n q1c =>
 ldSl H (Addr.add (Addr.add a (Int.toNat s12 * 21)) 20) fun q2 q2n q2c =>
 newD H (.cells ⟨[(.int .i64 (0 : Int)), (.string (ByteArray.mk #[])), (.string (ByteArray.mk #[])), (.string (ByteArray.mk #[])), (.int .i64 (0 : Int)), (.int .i64 (0 : Int)), (.int .i64 (0 : Int)), (.int .i64 (0 : Int)), (.int .i64 (0 : Int)), (.int .i64 (0 : Int)), (.int .i64 (0 : Int)), (.int .i64 (0 : Int)), (.int .i64 (0 : Int)), (.bool false), (.bool false), (.bool false), (.bool false), (.bool false), (.slice none 0 0), (.slice none 0 0), (.slice none 0 0)]⟩ 92) fun r H1 =>
 st1 H1 ⟨r, 0, none⟩ (.int .i64 n) fun H2 =>
 st1 H2 ⟨r, 1, none⟩ (.string s) fun H3 =>
 st1 H3 ⟨r, 2, none⟩ (.string s1) fun H4 =>
 st1 H4 ⟨r, 3, none⟩ (.string s2) fun H5 =>
 st1 H5 ⟨r, 4, none⟩ (.int .i64 n1) fun H6 =>
 st1 H6 ⟨r, 5, none⟩ (.int .i64 n2) fun H7 =>
 st1 H7 ⟨r, 6, none⟩ (.int .i64 n3) fun H8 =>
 st1 H8 ⟨r, 7, none⟩ (.int .i64 n4) fun H9 =>
 st1 H9 ⟨r, 8, none⟩ (.int .i64 n5) fun H10 =>
 st1 H10 ⟨r, 9, none⟩ (.int .i64 n6) fun H11 =>
 st1 H11 ⟨r, 10, none⟩ (.int .i64 n7) fun H12 =>
 st1 H12 ⟨r, 11, none⟩ (.int .i64 n8) fun H13 =>
 st1 H13 ⟨r, 12, none⟩ (.int .i64 n9) fun H14 =>
 st1 H14 ⟨r, 13, none⟩ (.bool b) fun H15 =>
 st1 H15 ⟨r, 14, none⟩ (.bool b1) fun H16 =>
 st1 H16 ⟨r, 15, none⟩ (.bool b2) fun H17 =>
 st1 H17 ⟨r, 16, none⟩ (.bool b3) fun H18 =>
 st1 H18 ⟨r, 17, none⟩ (.bool b4) fun H19 =>
 st1 H19 ⟨r, 18, none⟩ (.slice q qn qc) fun H20 =>
 st1 H20 ⟨r, 19, none⟩ (.slice q1 q1n q1c) fun H21 =>
 st1 H21 ⟨r, 20, none⟩ (.slice q2 q2n q2c) fun H22 =>
 ldInt H22 ⟨r, 0, none⟩ .i64 fun n10 =>
 iteB (n10 != (4 : Int)) (
 L4 puts putsn putsc s10 s10n s10c s11 s12 H22 R) <|
 ldSl H22 ⟨r, 19, none⟩ fun q3 q3n q3c =>
 callD Try.prog 24 [(.slice q3 q3n q3c)] H22 (panK R) fun v H23 =>
 tBool v fun b5 =>
 iteB (!b5) (
 R (.returned (.bool false)) H23) <|
 ldSl H23 ⟨r, 20, none⟩ fun q4 q4n q4c =>
 callD Try.prog 24 [(.slice q4 q4n q4c)] H23 (panK R) fun v1 H24 =>
 tBool v1 fun b6 =>
 iteB (!b6) (
 R (.returned (.bool false)) H24) <|
 L1 puts putsn putsc r s10 s10n s10c s11 s12 H24 R) <|
 R (.returned (.bool true)) H
theorem L0_step {puts : OA} {putsn putsc : Nat} {s10 : OA} {s10n s10c : Nat} {s11 s12 : Int} {H : Heap} {R : EH} (h : L0n puts putsn putsc s10 s10n s10c s11 s12 H R) : L0 puts putsn putsc s10 s10n s10c s11 s12 H R :=
 goL_of_den (an := an) (fuel := 100000) (X := L0n puts putsn putsc s10 s10n s10c s11 s12 H R) mixed fn (by kernel_rfl) (fun ρ0 => by kernel_rfl) h
def L1n (puts : OA) (putsn putsc r : Nat) (s10 : OA) (s10n s10c : Nat) (s11 s12 : Int) (H : Heap) (R : EH) : Prop :=
 L2 puts putsn putsc r s10 s10n s10c s11 s12 puts putsn putsc ((putsn : Nat) : Int) (0 : Int) H R
theorem L1_step {puts : OA} {putsn putsc r : Nat} {s10 : OA} {s10n s10c : Nat} {s11 s12 : Int} {H : Heap} {R : EH} (h : L1n puts putsn putsc r s10 s10n s10c s11 s12 H R) : L1 puts putsn putsc r s10 s10n s10c s11 s12 H R :=
 goL_of_den (an := an) (fuel := 100000) (X := L1n puts putsn putsc r s10 s10n s10c s11 s12 H R) mixed fn (by kernel_rfl) (fun ρ0 => by kernel_rfl) h
def L2n (puts : OA) (putsn putsc r : Nat) (s10 : OA) (s10n s10c : Nat) (s11 s12 : Int) (s29 : OA) (s29n s29c : Nat) (s30 s31 : Int) (H : Heap) (R : EH) : Prop :=
 iteB (decide (s31 < s30)) (
 idxD s29 s29n s31 fun a =>
 ldStr H (Addr.add a (Int.toNat s31 * 1)) fun s =>
 ldInt H ⟨r, 0, none⟩ .i64 fun n =>
 ldStr H ⟨r, 1, none⟩ fun s1 =>
 ldStr H ⟨r, 2, none⟩ fun s2 =>
 ldStr H ⟨r, 3, none⟩ fun s3 =>
 ldInt H ⟨r, 4, none⟩ .i64 fun n1 =>
 ldInt H ⟨r, 5, none⟩ .i64 fun n2 =>
 ldInt H ⟨r, 6, none⟩ .i64 fun n3 =>
 ldInt H ⟨r, 7, none⟩ .i64 fun n4 =>
 ldInt H ⟨r, 8, none⟩ .i64 fun n5 =>
 ldInt H ⟨r, 9, none⟩ .i64 fun n6 =>
 ldInt H ⟨r, 10, none⟩ .i64 fun n7 =>
 ldInt H ⟨r, 11, none⟩ .i64 fun n8 =>
 ldInt H ⟨r, 12, none⟩ .i64 fun n9 =>
 ldBool H ⟨r, 13, none⟩ fun b =>
 ldBool H ⟨r, 14, none⟩ fun b1 =>
 ldBool H ⟨r, 15, none⟩ fun b2 =>
 ldBool H ⟨r, 16, none⟩ fun b3 =>
 ldBool H ⟨r, 17, none⟩ fun b4 =>
 ldSl H ⟨r, 18, none⟩ fun q qn qc =>
 ldSl H ⟨r, 19, none⟩ fun q1 q1n q1c =>
 ldSl H ⟨r, 20, none⟩ fun q2 q2n q2c =>
 newD H (.cells ⟨[(.int .i64 n), (.string s1), (.string s2), (.string s3), (.int .i64 n1), (.int .i64 n2), (.int .i64 n3), (.int .i64 n4), (.int .i64 n5), (.int .i64 n6), (.int .i64 n7), (.int .i64 n8), (.int .i64 n9), (.bool b), (.bool b1), (.bool b2), (.bool b3), (.bool b4), (.slice q qn qc), (.slice q1 q1n q1c), (.slice q2 q2n q2c)]⟩ 92) fun r1 H1 =>
 callD Try.prog 42 [(.slice (some ⟨r1, 0, none⟩) 1 1)] H1 (panK R) fun v H2 =>
 tSl v fun q3 q3n q3c =>
 L3 puts putsn putsc r s s10 s10n s10c s11 s12 s29 s29n s29c s30 s31 q3 q3n q3c ((q3n : Nat) : Int) (0 : Int) H2 R) <|
 ldInt H ⟨r, 0, none⟩ .i64 fun n10 =>
 ldStr H ⟨r, 1, none⟩ fun s4 =>
 ldStr H ⟨r, 2, none⟩ fun s5 =>
 ldStr H ⟨r, 3, none⟩ fun s6 =>
 ldInt H ⟨r, 4, none⟩ .i64 fun n11 =>
 ldInt H ⟨r, 5, none⟩ .i64 fun n12 =>
 ldInt H ⟨r, 6, none⟩ .i64 fun n13 =>
 ldInt H ⟨r, 7, none⟩ .i64 fun n14 =>
 ldInt H ⟨r, 8, none⟩ .i64 fun n15 =>
 ldInt H ⟨r, 9, none⟩ .i64 fun n16 =>
 ldInt H ⟨r, 10, none⟩ .i64 fun n17 =>
 ldInt H ⟨r, 11, none⟩ .i64 fun n18 =>
 ldInt H ⟨r, 12, none⟩ .i64 fun n19 =>
 ldBool H ⟨r, 13, none⟩ fun b5 =>
 ldBool H ⟨r, 14, none⟩ fun b6 =>
 ldBool H ⟨r, 15, none⟩ fun b7 =>
 ldBool H ⟨r, 16, none⟩ fun b8 =>
 ldBool H ⟨r, 17, none⟩ fun b9 =>
 ldSl H ⟨r, 18, none⟩ fun q4 q4n q4c =>
 ldSl H ⟨r, 19, none⟩ fun q5 q5n q5c =>
 ldSl H ⟨r, 20, none⟩ fun q6 q6n q6c =>
 newD H (.cells ⟨[(.int .i64 n10), (.string s4), (.string s5), (.string s6), (.int .i64 n11), (.int .i64 n12), (.int .i64 n13), (.int .i64 n14), (.int .i64 n15), (.int .i64 n16), (.int .i64 n17), (.int .i64 n18), (.int .i64 n19), (.bool b5), (.bool b6), (.bool b7), (.bool b8), (.bool b9), (.slice q4 q4n q4c), (.slice q5 q5n q5c), (.slice q6 q6n q6c)]⟩ 92) fun r2 H3 =>
 callD Try.prog 44 [(.slice puts putsn putsc), (.slice (some ⟨r2, 0, none⟩) 1 1)] H3 (panK R) fun v1 H4 =>
 tSl v1 fun q7 q7n q7c =>
 L4 q7 q7n q7c s10 s10n s10c s11 s12 H4 R
theorem L2_step {puts : OA} {putsn putsc r : Nat} {s10 : OA} {s10n s10c : Nat} {s11 s12 : Int} {s29 : OA} {s29n s29c : Nat} {s30 s31 : Int} {H : Heap} {R : EH} (h : L2n puts putsn putsc r s10 s10n s10c s11 s12 s29 s29n s29c s30 s31 H R) : L2 puts putsn putsc r s10 s10n s10c s11 s12 s29 s29n s29c s30 s31 H R :=
 goL_of_den (an := an) (fuel := 100000) (X := L2n puts putsn putsc r s10 s10n s10c s11 s12 s29 s29n s29c s30 s31 H R) mixed fn (by kernel_rfl) (fun ρ0 => by kernel_rfl) h
def L3n (puts : OA) (putsn putsc r : Nat) (k : ByteArray) (s10 : OA) (s10n s10c : Nat) (s11 s12 : Int) (s29 : OA) (s29n s29c : Nat) (s30 s31 : Int) (s37 : OA) (s37n s37c : Nat) (s38 s39 : Int) (H : Heap) (R : EH) : Prop :=
 iteB (decide (s39 < s38)) (
 idxD s37 s37n s39 fun a =>
 ldStr H (Addr.add a (Int.toNat s39 * 5)) fun s =>
 ldStr H (Addr.add (Addr.add a (Int.toNat s39 * 5)) 1) fun s1 =>
 ldBool H (Addr.add (Addr.add a (Int.toNat s39 * 5)) 2) fun b =>
 ldInt H (Addr.add (Addr.add a (Int.toNat s39 * 5)) 3) .i64 fun n =>
 ldInt H (Addr.add (Addr.add a (Int.toNat s39 * 5)) 4) .i64 fun n1 =>
 newD H (.cells ⟨[(.string (ByteArray.mk #[])), (.string (ByteArray.mk #[])), (.bool false), (.int .i64 (0 : Int)), (.int .i64 (0 : Int))]⟩ 35) fun r1 H1 =>
 st1 H1 ⟨r1, 0, none⟩ (.string s) fun H2 =>
 st1 H2 ⟨r1, 1, none⟩ (.string s1) fun H3 =>
 st1 H3 ⟨r1, 2, none⟩ (.bool b) fun H4 =>
 st1 H4 ⟨r1, 3, none⟩ (.int .i64 n) fun H5 =>
 st1 H5 ⟨r1, 4, none⟩ (.int .i64 n1) fun H6 =>
 ldStr H6 ⟨r1, 0, none⟩ fun s2 =>
 ldStr H6 ⟨r1, 1, none⟩ fun s3 =>
 ldBool H6 ⟨r1, 2, none⟩ fun b1 =>
 ldInt H6 ⟨r1, 3, none⟩ .i64 fun n2 =>
 ldInt H6 ⟨r1, 4, none⟩ .i64 fun n3 =>
 callD Try.prog 43 [(.int .i64 (1 : Int)), (.agg ⟨[(.string s2), (.string s3), (.bool b1), (.int .i64 n2), (.int .i64 n3)]⟩), (.agg ⟨[(.string k), (.string (ByteArray.mk #[])), (.bool true), (.int .i64 (0 : Int)), (.int .i64 (0 : Int))]⟩)] H6 (panK R) fun v H7 =>
 tBool v fun b2 =>
 iteB b2 (
 R (.returned (.bool false)) H7) <|
 L3 puts putsn putsc r k s10 s10n s10c s11 s12 s29 s29n s29c s30 s31 s37 s37n s37c s38 (IntKind.wrap .i64 (s39 + (1 : Int))) H7 R) <|
 L2 puts putsn putsc r s10 s10n s10c s11 s12 s29 s29n s29c s30 (IntKind.wrap .i64 (s31 + (1 : Int))) H R
theorem L3_step {puts : OA} {putsn putsc r : Nat} {k : ByteArray} {s10 : OA} {s10n s10c : Nat} {s11 s12 : Int} {s29 : OA} {s29n s29c : Nat} {s30 s31 : Int} {s37 : OA} {s37n s37c : Nat} {s38 s39 : Int} {H : Heap} {R : EH} (h : L3n puts putsn putsc r k s10 s10n s10c s11 s12 s29 s29n s29c s30 s31 s37 s37n s37c s38 s39 H R) : L3 puts putsn putsc r k s10 s10n s10c s11 s12 s29 s29n s29c s30 s31 s37 s37n s37c s38 s39 H R :=
 goL_of_den (an := an) (fuel := 100000) (X := L3n puts putsn putsc r k s10 s10n s10c s11 s12 s29 s29n s29c s30 s31 s37 s37n s37c s38 s39 H R) mixed fn (by kernel_rfl) (fun ρ0 => by kernel_rfl) h
def L4n (puts : OA) (putsn putsc : Nat) (s10 : OA) (s10n s10c : Nat) (s11 s12 : Int) (H : Heap) (R : EH) : Prop :=
 L0 puts putsn putsc s10 s10n s10c s11 (IntKind.wrap .i64 (s12 + (1 : Int))) H R
theorem L4_step {puts : OA} {putsn putsc : Nat} {s10 : OA} {s10n s10c : Nat} {s11 s12 : Int} {H : Heap} {R : EH} (h : L4n puts putsn putsc s10 s10n s10c s11 s12 H R) : L4 puts putsn putsc s10 s10n s10c s11 s12 H R :=
 goL_of_den (an := an) (fuel := 100000) (X := L4n puts putsn putsc s10 s10n s10c s11 s12 H R) mixed fn (by kernel_rfl) (fun ρ0 => by kernel_rfl) h
def go (l : OA) (ln lc : Nat) (H : Heap) (R : EH) : Prop :=
 L0 none 0 0 l ln lc ((ln : Nat) : Int) (0 : Int) H R
theorem calls {l : OA} {ln lc : Nat} {H : Heap} {R : EH} (h : go l ln lc H R) : CallsH Try.prog 24 ⟨[(.slice l ln lc)]⟩ H R :=
 callsH_of_den (an := an) (fuel := 100000) (X := go l ln lc H R) (c := body) mixed fn (by kernel_rfl) (by kernel_rfl) (by kernel_rfl) ok (by kernel_rfl) h
end F24
/-! ### 25 "pub-stadtholder/laws.ckLive" -/
namespace F25
def an : Ann := { kinds := [], taus := [], pairs := [], lab := [] }
noncomputable def body : Code := (Try.f25.body).getD .skip
theorem fn : Try.prog.funcs[25]? = some Try.f25 := by kernel_rfl
theorem ok : codeOk an 9 body = true := by kernel_rfl
def go  (H : Heap) (R : EH) : Prop :=
 callD Try.prog 45 [(.agg ⟨[(.int .i64 (2 : Int)), (.string (ByteArray.mk #[])), (.string (ByteArray.mk #[])), (.string (ByteArray.mk #[])), (.int .i64 (0 : Int)), (.int .i64 (0 : Int)), (.int .i64 (0 : Int)), (.int .i64 (0 : Int)), (.int .i64 (0 : Int)), (.int .i64 (0 : Int)), (.int .i64 (0 : Int)), (.int .i64 (0 : Int)), (.int .i64 (0 : Int)), (.bool false), (.bool false), (.bool false), (.bool false), (.bool false), (.slice none 0 0), (.slice none 0 0), (.slice none 0 0)]⟩), (.int .i64 (3 : Int))] H (panK R) fun v H1 =>
 tInt v .i64 fun n =>
 iteB (n == (1 : Int)) (
 callD Try.prog 45 [(.agg ⟨[(.int .i64 (2 : Int)), (.string (ByteArray.mk #[107])), (.string (ByteArray.mk #[])), (.string (ByteArray.mk #[])), (.int .i64 (0 : Int)), (.int .i64 (0 : Int)), (.int .i64 (0 : Int)), (.int .i64 (0 : Int)), (.int .i64 (0 : Int)), (.int .i64 (0 : Int)), (.int .i64 (0 : Int)), (.int .i64 (0 : Int)), (.int .i64 (0 : Int)), (.bool false), (.bool false), (.bool false), (.bool false), (.bool false), (.slice none 0 0), (.slice none 0 0), (.slice none 0 0)]⟩), (.int .i64 (3 : Int))] H1 (panK R) fun v1 H2 =>
 tInt v1 .i64 fun n1 =>
 R (.returned (.bool (n1 == (0 : Int)))) H2) <|
 R (.returned (.bool false)) H1
theorem calls  {H : Heap} {R : EH} (h : go  H R) : CallsH Try.prog 25 ⟨[]⟩ H R :=
 callsH_of_den (an := an) (fuel := 100000) (X := go  H R) (c := body) mixed fn (by kernel_rfl) (by kernel_rfl) (by kernel_rfl) ok (by kernel_rfl) h
end F25
/-! ### 26 "pub-stadtholder/impl.Overlaps" -/
namespace F26
def an : Ann := { kinds := [(5001, .heavy 0), (6000, .heavy 96), (7000, .heavy 96)], taus := [(11, [[0, 2, 3, 4, 5, 1, 6]]), (12, [[0, 2, 1, 3, 4]])], pairs := [], lab := [(40000007, [6, 8, 23])] }
noncomputable def body : Code := (Try.f26.body).getD .skip
theorem fn : Try.prog.funcs[26]? = some Try.f26 := by kernel_rfl
theorem ok : codeOk an 43 body = true := by kernel_rfl
noncomputable def L0t : List Item := [.code (sub [1, 1, 1, 1, 0, 1, 0, 0] body), .inLoop (sub [1, 1, 1, 1, 0, 1, 0, 0] body), .inBlock 0, .code (sub [1, 1, 1, 1, 1] body)]
def L0 (dels : IV) (keys : OA) (keysn keysc : Nat) (s23 : OA) (H : Heap) (R : EH) : Prop :=
 GoL Try.prog 26 43 L0t [6, 8, 23] [(IV.v dels), (.slice keys keysn keysc), (.pointer s23)] H R
def L0n (dels : IV) (keys : OA) (keysn keysc : Nat) (s23 : OA) (H : Heap) (R : EH) : Prop :=
 valD Try.prog (Instr.next (.pointer s23) false 0) H (panK R) fun v H1 =>
 tTup v fun l =>
 tCons l fun c l1 =>
 tBool c fun b =>
 iteB b (
 tCons l1 fun c1 l2 =>
 tStr c1 fun s =>
 tCons l2 fun c2 l3 =>
 tAgg c2 fun l4 =>
 tNil l4 <|
 tNil l3 <|
 valD Try.prog (Instr.entry (.pointer s23)) H1 (panK R) fun v1 H2 =>
 tTup v1 fun l5 =>
 tCons l5 fun c3 l6 =>
 tStr c3 fun s1 =>
 tCons l6 fun c4 l7 =>
 tAgg c4 fun l8 =>
 tNil l8 <|
 tNil l7 <|
 newD H2 (.cells ⟨[(.string s1)]⟩ 9) fun r H3 =>
 apD H3 1 16 [(.string (ByteArray.mk #[]))] 9 keys keysn keysc (some ⟨r, 0, none⟩) 1 fun q qn qc H4 =>
 L0 dels q qn qc s23 H4 R) <|
 tNil l1 <|
 callD Try.prog 49 [(.slice keys keysn keysc)] H1 (panK R) fun v2 H5 =>
 tTup v2 fun l9 =>
 tNil l9 <|
 newD H5 (.cells ⟨[(.slice none 0 0)]⟩ 31) fun r1 H6 =>
 nilM Try.prog "Visit" ⟨[(IV.v dels)]⟩ <|
 callD Try.prog 50 [(.string (ByteArray.mk #[0])), (.string (ByteArray.mk #[]))] H6 (panK R) fun v3 H7 =>
 tAgg v3 fun l10 =>
 tCons l10 fun c5 l11 =>
 tIf c5 fun i =>
 tCons l11 fun c6 l12 =>
 tIf c6 fun i1 =>
 tNil l12 <|
 callI Try.prog (IV.v dels) "Visit" [(.agg ⟨[(IV.v i), (IV.v i1)]⟩), (.func (.func 51) ⟨[]⟩ ⟨[(.pointer (some ⟨r1, 0, none⟩))]⟩)] H7 (panK R) fun v4 H8 =>
 tTup v4 fun l13 =>
 tNil l13 <|
 ldSl H8 ⟨r1, 0, none⟩ fun q1 q1n q1c =>
 R (.returned (.tuple ⟨[(.slice keys keysn keysc), (.slice q1 q1n q1c), (.int .i64 (0 : Int))]⟩)) H8
theorem L0_step {dels : IV} {keys : OA} {keysn keysc : Nat} {s23 : OA} {H : Heap} {R : EH} (h : L0n dels keys keysn keysc s23 H R) : L0 dels keys keysn keysc s23 H R :=
 goL_of_den (an := an) (fuel := 100000) (X := L0n dels keys keysn keysc s23 H R) mixed fn (by kernel_rfl) (fun ρ0 => by kernel_rfl) h
def go (ops : OA) (opsn opsc : Nat) (H : Heap) (R : EH) : Prop :=
 callD Try.prog 47 [(.slice ops opsn opsc)] H (panK R) fun v H1 =>
 tSl v fun q qn qc =>
 callD Try.prog 46 [(.slice q qn qc)] H1 (panK R) fun v1 H2 =>
 tTup v1 fun l =>
 tCons l fun c l1 =>
 tMap c fun m =>
 tCons l1 fun c1 l2 =>
 tIf c1 fun i =>
 tCons l2 fun c2 l3 =>
 tIf c2 fun i1 =>
 tNil l3 <|
 ifNilD (IV.v i1) fun b =>
 iteB (!b) (
 callD Try.prog 48 [(IV.v i1)] H2 (panK R) fun v2 H3 =>
 tInt v2 .i64 fun n =>
 R (.returned (.tuple ⟨[(.slice none 0 0), (.slice none 0 0), (.int .i64 n)]⟩)) H3) <|
 valD Try.prog (Instr.range 96 (.map m)) H2 (panK R) fun v3 H4 =>
 tPtr v3 fun p =>
 L0 i none 0 0 p H4 R
theorem calls {ops : OA} {opsn opsc : Nat} {H : Heap} {R : EH} (h : go ops opsn opsc H R) : CallsH Try.prog 26 ⟨[(.slice ops opsn opsc)]⟩ H R :=
 callsH_of_den (an := an) (fuel := 100000) (X := go ops opsn opsc H R) (c := body) mixed fn (by kernel_rfl) (by kernel_rfl) (by kernel_rfl) ok (by kernel_rfl) h
end F26
/-! ### 27 "pub-stadtholder/spec.Overlaps" -/
namespace F27
def an : Ann := { kinds := [(17000, .grow), (17003, .grow), (29000, .grow), (29004, .grow)], taus := [(17, [[1, 4, 8, 2, 5, 0, 3, 6, 7]]), (29, [[1, 2, 5, 6, 10, 3, 7, 0, 4, 8, 9]])], pairs := [], lab := [(40000004, [0, 2, 4, 24, 25, 26]), (40000010, [0, 2, 4, 38, 39, 40]), (40000037, [2, 4, 123, 124, 125]), (60000042, [2, 4, 21, 123, 124, 125]), (40000043, [2, 4, 123, 124, 125]), (60000017, [0, 2, 4, 9, 11, 38, 39, 40]), (90000019, [0, 2, 4, 9, 11, 13, 38, 39, 40, 72, 73, 74]), (90000026, [0, 2, 4, 9, 11, 38, 39, 40, 91, 92, 93]), (80000031, [0, 2, 4, 38, 39, 40, 111, 112, 113]), (110000023, [0, 2, 4, 9, 11, 13, 15, 38, 39, 40, 72, 73, 74]), (40000035, [0, 2, 4, 38, 39, 40]), (40000008, [0, 2, 4, 24, 25, 26])] }
noncomputable def body : Code := (Try.f27.body).getD .skip
theorem fn : Try.prog.funcs[27]? = some Try.f27 := by kernel_rfl
theorem ok : codeOk an 151 body = true := by kernel_rfl
noncomputable def L0t : List Item := [.code (sub [1, 1, 0, 1, 0, 0] body), .inLoop (sub [1, 1, 0, 1, 0, 0] body), .inBlock 0, .code (sub [1, 1, 1] body)]
def L0 (s0 : OA) (s0n s0c s2 s4 : Nat) (s24 : OA) (s24n s24c : Nat) (s25 s26 : Int) (H : Heap) (R : EH) : Prop :=
 GoL Try.prog 27 151 L0t [0, 2, 4, 24, 25, 26] [(.slice s0 s0n s0c), (.pointer (some ⟨s2, 0, none⟩)), (.pointer (some ⟨s4, 0, none⟩)), (.slice s24 s24n s24c), (.int .i64 s25), (.int .i64 s26)] H R
noncomputable def L1t : List Item := [.code (sub [1, 1, 1, 0, 1, 0, 0] body), .inLoop (sub [1, 1, 1, 0, 1, 0, 0] body), .inBlock 2, .code (sub [1, 1, 1, 1] body)]
def L1 (s0 : OA) (s0n s0c s2 s4 : Nat) (s38 : OA) (s38n s38c : Nat) (s39 s40 : Int) (H : Heap) (R : EH) : Prop :=
 GoL Try.prog 27 151 L1t [0, 2, 4, 38, 39, 40] [(.slice s0 s0n s0c), (.pointer (some ⟨s2, 0, none⟩)), (.pointer (some ⟨s4, 0, none⟩)), (.slice s38 s38n s38c), (.int .i64 s39), (.int .i64 s40)] H R
noncomputable def L2t : List Item := [.code (sub [1, 1, 1, 1, 0, 1, 0, 0] body), .inLoop (sub [1, 1, 1, 1, 0, 1, 0, 0] body), .inBlock 10, .code (sub [1, 1, 1, 1, 1] body)]
def L2 (s2 s4 : Nat) (s123 : OA) (s123n s123c : Nat) (s124 s125 : Int) (H : Heap) (R : EH) : Prop :=
 GoL Try.prog 27 151 L2t [2, 4, 123, 124, 125] [(.pointer (some ⟨s2, 0, none⟩)), (.pointer (some ⟨s4, 0, none⟩)), (.slice s123 s123n s123c), (.int .i64 s124), (.int .i64 s125)] H R
noncomputable def L3t : List Item := [.code (sub [1, 1, 1, 1, 0, 1, 0, 0, 1, 1, 0, 0, 1, 1, 1] body), .inBlock 11, .code (sub [1, 1, 1, 1, 0, 1, 0, 0, 1, 1, 1] body), .inLoop (sub [1, 1, 1, 1, 0, 1, 0, 0] body), .inBlock 10, .code (sub [1, 1, 1, 1, 1] body)]
def L3 (s2 s4 s21 : Nat) (s123 : OA) (s123n s123c : Nat) (s124 s125 : Int) (H : Heap) (R : EH) : Prop :=
 GoL Try.prog 27 151 L3t [2, 4, 21, 123, 124, 125] [(.pointer (some ⟨s2, 0, none⟩)), (.pointer (some ⟨s4, 0, none⟩)), (.pointer (some ⟨s21, 0, none⟩)), (.slice s123 s123n s123c), (.int .i64 s124), (.int .i64 s125)] H R
noncomputable def L4t : List Item := [.code (sub [1, 1, 1, 1, 0, 1, 0, 0, 1, 1, 1] body), .inLoop (sub [1, 1, 1, 1, 0, 1, 0, 0] body), .inBlock 10, .code (sub [1, 1, 1, 1, 1] body)]
def L4 (s2 s4 : Nat) (s123 : OA) (s123n s123c : Nat) (s124 s125 : Int) (H : Heap) (R : EH) : Prop :=
 GoL Try.prog 27 151 L4t [2, 4, 123, 124, 125] [(.pointer (some ⟨s2, 0, none⟩)), (.pointer (some ⟨s4, 0, none⟩)), (.slice s123 s123n s123c), (.int .i64 s124), (.int .i64 s125)] H R
noncomputable def L5t : List Item := [.code (sub [1, 1, 1, 0, 1, 0, 0, 1, 1, 0, 0, 1, 1, 1, 1, 1] body), .inBlock 3, .code (sub [1, 1, 1, 0, 1, 0, 0, 1, 1, 1] body), .inLoop (sub [1, 1, 1, 0, 1, 0, 0] body), .inBlock 2, .code (sub [1, 1, 1, 1] body)]
def L5 (s0 : OA) (s0n s0c s2 s4 s9 s11 : Nat) (s38 : OA) (s38n s38c : Nat) (s39 s40 : Int) (H : Heap) (R : EH) : Prop :=
 GoL Try.prog 27 151 L5t [0, 2, 4, 9, 11, 38, 39, 40] [(.slice s0 s0n s0c), (.pointer (some ⟨s2, 0, none⟩)), (.pointer (some ⟨s4, 0, none⟩)), (.pointer (some ⟨s9, 0, none⟩)), (.pointer (some ⟨s11, 0, none⟩)), (.slice s38 s38n s38c), (.int .i64 s39), (.int .i64 s40)] H R
noncomputable def L6t : List Item := [.code (sub [1, 1, 1, 0, 1, 0, 0, 1, 1, 0, 0, 1, 1, 1, 1, 1, 1, 0, 1, 0, 0] body), .inLoop (sub [1, 1, 1, 0, 1, 0, 0, 1, 1, 0, 0, 1, 1, 1, 1, 1, 1, 0, 1, 0, 0] body), .inBlock 4, .code (sub [1, 1, 1, 0, 1, 0, 0, 1, 1, 0, 0, 1, 1, 1, 1, 1, 1, 1] body), .inBlock 3, .code (sub [1, 1, 1, 0, 1, 0, 0, 1, 1, 1] body), .inLoop (sub [1, 1, 1, 0, 1, 0, 0] body), .inBlock 2, .code (sub [1, 1, 1, 1] body)]
def L6 (s0 : OA) (s0n s0c s2 s4 s9 s11 : Nat) (s13 : OA) (s13n s13c : Nat) (s38 : OA) (s38n s38c : Nat) (s39 s40 : Int) (s72 : OA) (s72n s72c : Nat) (s73 s74 : Int) (H : Heap) (R : EH) : Prop :=
 GoL Try.prog 27 151 L6t [0, 2, 4, 9, 11, 13, 38, 39, 40, 72, 73, 74] [(.slice s0 s0n s0c), (.pointer (some ⟨s2, 0, none⟩)), (.pointer (some ⟨s4, 0, none⟩)), (.pointer (some ⟨s9, 0, none⟩)), (.pointer (some ⟨s11, 0, none⟩)), (.slice s13 s13n s13c), (.slice s38 s38n s38c), (.int .i64 s39), (.int .i64 s40), (.slice s72 s72n s72c), (.int .i64 s73), (.int .i64 s74)] H R
noncomputable def L7t : List Item := [.code (sub [1, 1, 1, 0, 1, 0, 0, 1, 1, 0, 0, 1, 1, 1, 1, 1, 1, 1, 0, 1, 0, 0] body), .inLoop (sub [1, 1, 1, 0, 1, 0, 0, 1, 1, 0, 0, 1, 1, 1, 1, 1, 1, 1, 0, 1, 0, 0] body), .inBlock 6, .code (sub [1, 1, 1, 0, 1, 0, 0, 1, 1, 0, 0, 1, 1, 1, 1, 1, 1, 1, 1] body), .inBlock 3, .code (sub [1, 1, 1, 0, 1, 0, 0, 1, 1, 1] body), .inLoop (sub [1, 1, 1, 0, 1, 0, 0] body), .inBlock 2, .code (sub [1, 1, 1, 1] body)]
def L7 (s0 : OA) (s0n s0c s2 s4 s9 s11 : Nat) (s38 : OA) (s38n s38c : Nat) (s39 s40 : Int) (s91 : OA) (s91n s91c : Nat) (s92 s93 : Int) (H : Heap) (R : EH) : Prop :=
 GoL Try.prog 27 151 L7t [0, 2, 4, 9, 11, 38, 39, 40, 91, 92, 93] [(.slice s0 s0n s0c), (.pointer (some ⟨s2, 0, none⟩)), (.pointer (some ⟨s4, 0, none⟩)), (.pointer (some ⟨s9, 0, none⟩)), (.pointer (some ⟨s11, 0, none⟩)), (.slice s38 s38n s38c), (.int .i64 s39), (.int .i64 s40), (.slice s91 s91n s91c), (.int .i64 s92), (.int .i64 s93)] H R
noncomputable def L8t : List Item := [.code (sub [1, 1, 1, 0, 1, 0, 0, 1, 1, 0, 0, 1, 1, 1, 1, 1, 1, 1, 1, 1, 0, 0] body), .inLoop (sub [1, 1, 1, 0, 1, 0, 0, 1, 1, 0, 0, 1, 1, 1, 1, 1, 1, 1, 1, 1, 0, 0] body), .inBlock 8, .inBlock 3, .code (sub [1, 1, 1, 0, 1, 0, 0, 1, 1, 1] body), .inLoop (sub [1, 1, 1, 0, 1, 0, 0] body), .inBlock 2, .code (sub [1, 1, 1, 1] body)]
def L8 (s0 : OA) (s0n s0c s2 s4 : Nat) (s38 : OA) (s38n s38c : Nat) (s39 s40 : Int) (s111 : OA) (s111n s111c : Nat) (s112 s113 : Int) (H : Heap) (R : EH) : Prop :=
 GoL Try.prog 27 151 L8t [0, 2, 4, 38, 39, 40, 111, 112, 113] [(.slice s0 s0n s0c), (.pointer (some ⟨s2, 0, none⟩)), (.pointer (some ⟨s4, 0, none⟩)), (.slice s38 s38n s38c), (.int .i64 s39), (.int .i64 s40), (.slice s111 s111n s111c), (.int .i64 s112), (.int .i64 s113)] H R
noncomputable def L9t : List Item := [.code (sub [1, 1, 1, 0, 1, 0, 0, 1, 1, 0, 0, 1, 1, 1, 1, 1, 1, 0, 1, 0, 0, 1, 1, 0, 0, 1, 1] body), .inBlock 5, .code (sub [1, 1, 1, 0, 1, 0, 0, 1, 1, 0, 0, 1, 1, 1, 1, 1, 1, 0, 1, 0, 0, 1, 1, 1] body), .inLoop (sub [1, 1, 1, 0, 1, 0, 0, 1, 1, 0, 0, 1, 1, 1, 1, 1, 1, 0, 1, 0, 0] body), .inBlock 4, .code (sub [1, 1, 1, 0, 1, 0, 0, 1, 1, 0, 0, 1, 1, 1, 1, 1, 1, 1] body), .inBlock 3, .code (sub [1, 1, 1, 0, 1, 0, 0, 1, 1, 1] body), .inLoop (sub [1, 1, 1, 0, 1, 0, 0] body), .inBlock 2, .code (sub [1, 1, 1, 1] body)]
def L9 (s0 : OA) (s0n s0c s2 s4 s9 s11 : Nat) (s13 : OA) (s13n s13c : Nat) (s15 : ByteArray) (s38 : OA) (s38n s38c : Nat) (s39 s40 : Int) (s72 : OA) (s72n s72c : Nat) (s73 s74 : Int) (H : Heap) (R : EH) : Prop :=
 GoL Try.prog 27 151 L9t [0, 2, 4, 9, 11, 13, 15, 38, 39, 40, 72, 73, 74] [(.slice s0 s0n s0c), (.pointer (some ⟨s2, 0, none⟩)), (.pointer (some ⟨s4, 0, none⟩)), (.pointer (some ⟨s9, 0, none⟩)), (.pointer (some ⟨s11, 0, none⟩)), (.slice s13 s13n s13c), (.string s15), (.slice s38 s38n s38c), (.int .i64 s39), (.int .i64 s40), (.slice s72 s72n s72c), (.int .i64 s73), (.int .i64 s74)] H R
noncomputable def L10t : List Item := [.code (sub [1, 1, 1, 0, 1, 0, 0, 1, 1, 1] body), .inLoop (sub [1, 1, 1, 0, 1, 0, 0] body), .inBlock 2, .code (sub [1, 1, 1, 1] body)]
def L10 (s0 : OA) (s0n s0c s2 s4 : Nat) (s38 : OA) (s38n s38c : Nat) (s39 s40 : Int) (H : Heap) (R : EH) : Prop :=
 GoL Try.prog 27 151 L10t [0, 2, 4, 38, 39, 40] [(.slice s0 s0n s0c), (.pointer (some ⟨s2, 0, none⟩)), (.pointer (some ⟨s4, 0, none⟩)), (.slice s38 s38n s38c), (.int .i64 s39), (.int .i64 s40)] H R
noncomputable def L11t : List Item := [.code (sub [1, 1, 0, 1, 0, 0, 1, 1, 1] body), .inLoop (sub [1, 1, 0, 1, 0, 0] body), .inBlock 0, .code (sub [1, 1, 1] body)]
def L11 (s0 : OA) (s0n s0c s2 s4 : Nat) (s24 : OA) (s24n s24c : Nat) (s25 s26 : Int) (H : Heap) (R : EH) : Prop :=
 GoL Try.prog 27 151 L11t [0, 2, 4, 24, 25, 26] [(.slice s0 s0n s0c), (.pointer (some ⟨s2, 0, none⟩)), (.pointer (some ⟨s4, 0, none⟩)), (.slice s24 s24n s24c), (.int .i64 s25), (.int .i64 s26)] H R
def L0n (s0 : OA) (s0n s0c s2 s4 : Nat) (s24 : OA) (s24n s24c : Nat) (s25 s26 : Int) (H : Heap) (R : EH) : Prop :=
 iteB (decide (s26 < s25)) (
 idxD s24 s24n s26 fun a =>
 ldInt H (Addr.add a (Int.toNat s26 * 21)) .i64 fun n =>
 ldStr H (Addr.add (Addr.add a (Int.toNat s26 * 21)) 1) fun s =>
 ldStr H (Addr.add (Addr.add a (Int.toNat s26 * 21)) 2) fun s1 =>
 ldStr H (Addr.add (Addr.add a (Int.toNat s26 * 21)) 3) fun s3 =>
 ldInt H (Addr.add (Addr.add a (Int.toNat s26 * 21)) 4) .i64 fun n1 =>
 ldInt H (Addr.add (Addr.add a (Int.toNat s26 * 21)) 5) .i64 fun n2 =>
 ldInt H (Addr.add (Addr.add a (Int.toNat s26 * 21)) 6) .i64 fun n3 =>
 ldInt H (Addr.add (Addr.add a (Int.toNat s26 * 21)) 7) .i64 fun n4 =>
 ldInt H (Addr.add (Addr.add a (Int.toNat s26 * 21)) 8) .i64 fun n5 =>
 ldInt H (Addr.add (Addr.add a (Int.toNat s26 * 21)) 9) .i64 fun n6 =>
 ldInt H (Addr.add (Addr.add a (Int.toNat s26 * 21)) 10) .i64 fun n7 =>
 ldInt H (Addr.add (Addr.add a (Int.toNat s26 * 21)) 11) .i64 fun n8 =>
 ldInt H (Addr.add (Addr.add a (Int.toNat s26 * 21)) 12) .i64 fun n9 =>
 ldBool H (Addr.add (Addr.add a (Int.toNat s26 * 21)) 13) fun b =>
 ldBool H (Addr.add (Addr.add a (Int.toNat s26 * 21)) 14) fun b1 =>
 ldBool H (Addr.add (Addr.add a (Int.toNat s26 * 21)) 15) fun b2 =>
 ldBool H (Addr.add (Addr.add a (Int.toNat s26 * 21)) 16) fun b3 =>
 ldBool H (Addr.add (Addr.add a (Int.toNat s26 * 21)) 17) fun b4 =>
 ldSl H (Addr.add (Addr.add a (Int.toNat s26 * 21)) 18) fun q qn qc =>
 ldSl H (Addr.add (Addr.add a (Int.toNat s26 * 21)) 19) fun q1 q1n q1c =>
 ldSl H (Addr.add (Addr.add a (Int.toNat s26 * 21)) 20) fun q2 q2n q2c =>
 newD H (.cells ⟨[(.int .i64 (0 : Int)), (.string (ByteArray.mk #[])), (.string (ByteArray.mk #[])), (.string (ByteArray.mk #[])), (.int .i64 (0 : Int)), (.int .i64 (0 : Int)), (.int .i64 (0 : Int)), (.int .i64 (0 : Int)), (.int .i64 (0 : Int)), (.int .i64 (0 : Int)), (.int .i64 (0 : Int)), (.int .i64 (0 : Int)), (.int .i64 (0 : Int)), (.bool false), (.bool false), (.bool false), (.bool false), (.bool false), (.slice none 0 0), (.slice none 0 0), (.slice none 0 0)]⟩ 92) fun r H1 =>
 st1 H1 ⟨r, 0, none⟩ (.int .i64 n) fun H2 =>
 st1 H2 ⟨r, 1, none⟩ (.string s) fun H3 =>
 st1 H3 ⟨r, 2, none⟩ (.string s1) fun H4 =>
 st1 H4 ⟨r, 3, none⟩ (.string s3) fun H5 =>
 st1 H5 ⟨r, 4, none⟩ (.int .i64 n1) fun H6 =>
 st1 H6 ⟨r, 5, none⟩ (.int .i64 n2) fun H7 =>
 st1 H7 ⟨r, 6, none⟩ (.int .i64 n3) fun H8 =>
 st1 H8 ⟨r, 7, none⟩ (.int .i64 n4) fun H9 =>
 st1 H9 ⟨r, 8, none⟩ (.int .i64 n5) fun H10 =>
 st1 H10 ⟨r, 9, none⟩ (.int .i64 n6) fun H11 =>
 st1 H11 ⟨r, 10, none⟩ (.int .i64 n7) fun H12 =>
 st1 H12 ⟨r, 11, none⟩ (.int .i64 n8) fun H13 =>
 st1 H13 ⟨r, 12, none⟩ (.int .i64 n9) fun H14 =>
 st1 H14 ⟨r, 13, none⟩ (.bool b) fun H15 =>
 st1 H15 ⟨r, 14, none⟩ (.bool b1) fun H16 =>
 st1 H16 ⟨r, 15, none⟩ (.bool b2) fun H17 =>
 st1 H17 ⟨r, 16, none⟩ (.bool b3) fun H18 =>
 st1 H18 ⟨r, 17, none⟩ (.bool b4) fun H19 =>
 st1 H19 ⟨r, 18, none⟩ (.slice q qn qc) fun H20 =>
 st1 H20 ⟨r, 19, none⟩ (.slice q1 q1n q1c) fun H21 =>
 st1 H21 ⟨r, 20, none⟩ (.slice q2 q2n q2c) fun H22 =>
 ldInt H22 ⟨r, 0, none⟩ .i64 fun n10 =>
 iteB (n10 == (3 : Int)) (
 ldInt H22 ⟨r, 0, none⟩ .i64 fun n11 =>
 ldStr H22 ⟨r, 1, none⟩ fun s5 =>
 ldStr H22 ⟨r, 2, none⟩ fun s6 =>
 ldStr H22 ⟨r, 3, none⟩ fun s7 =>
 ldInt H22 ⟨r, 4, none⟩ .i64 fun n12 =>
 ldInt H22 ⟨r, 5, none⟩ .i64 fun n13 =>
 ldInt H22 ⟨r, 6, none⟩ .i64 fun n14 =>
 ldInt H22 ⟨r, 7, none⟩ .i64 fun n15 =>
 ldInt H22 ⟨r, 8, none⟩ .i64 fun n16 =>
 ldInt H22 ⟨r, 9, none⟩ .i64 fun n17 =>
 ldInt H22 ⟨r, 10, none⟩ .i64 fun n18 =>
 ldInt H22 ⟨r, 11, none⟩ .i64 fun n19 =>
 ldInt H22 ⟨r, 12, none⟩ .i64 fun n20 =>
 ldBool H22 ⟨r, 13, none⟩ fun b5 =>
 ldBool H22 ⟨r, 14, none⟩ fun b6 =>
 ldBool H22 ⟨r, 15, none⟩ fun b7 =>
 ldBool H22 ⟨r, 16, none⟩ fun b8 =>
 ldBool H22 ⟨r, 17, none⟩ fun b9 =>
 ldSl H22 ⟨r, 18, none⟩ fun q3 q3n q3c =>
 ldSl H22 ⟨r, 19, none⟩ fun q4 q4n q4c =>
 ldSl H22 ⟨r, 20, none⟩ fun q5 q5n q5c =>
 callD Try.prog 53 [(.agg ⟨[(.int .i64 n11), (.string s5), (.string s6), (.string s7), (.int .i64 n12), (.int .i64 n13), (.int .i64 n14), (.int .i64 n15), (.int .i64 n16), (.int .i64 n17), (.int .i64 n18), (.int .i64 n19), (.int .i64 n20), (.bool b5), (.bool b6), (.bool b7), (.bool b8), (.bool b9), (.slice q3 q3n q3c), (.slice q4 q4n q4c), (.slice q5 q5n q5c)]⟩)] H22 (panK R) fun v H23 =>
 tAgg v fun l =>
 tCons l fun c l1 =>
 tStr c fun s8 =>
 tCons l1 fun c1 l2 =>
 tStr c1 fun s9 =>
 tCons l2 fun c2 l3 =>
 tBool c2 fun b10 =>
 tCons l3 fun c3 l4 =>
 tInt c3 .i64 fun n21 =>
 tCons l4 fun c4 l5 =>
 tInt c4 .i64 fun n22 =>
 tNil l5 <|
 callD Try.prog 38 [(.pointer (some ⟨s4, 1, none⟩)), (.agg ⟨[(.string s8), (.string s9), (.bool b10), (.int .i64 n21), (.int .i64 n22)]⟩), (.int .i64 (0 : Int))] H23 (panK R) fun v1 H24 =>
 tTup v1 fun l6 =>
 tNil l6 <|
 L11 s0 s0n s0c s2 s4 s24 s24n s24c s25 s26 H24 R) <|
 L11 s0 s0n s0c s2 s4 s24 s24n s24c s25 s26 H22 R) <|
 L1 s0 s0n s0c s2 s4 s0 s0n s0c ((s0n : Nat) : Int) (0 : Int) H R
theorem L0_step {s0 : OA} {s0n s0c s2 s4 : Nat} {s24 : OA} {s24n s24c : Nat} {s25 s26 : Int} {H : Heap} {R : EH} (h : L0n s0 s0n s0c s2 s4 s24 s24n s24c s25 s26 H R) : L0 s0 s0n s0c s2 s4 s24 s24n s24c s25 s26 H R :=
 goL_of_den (an := an) (fuel := 100000) (X := L0n s0 s0n s0c s2 s4 s24 s24n s24c s25 s26 H R) mixed fn (by kernel_rfl) (fun ρ0 => by kernel_rfl) h
def L1n (s0 : OA) (s0n s0c s2 s4 : Nat) (s38 : OA) (s38n s38c : Nat) (s39 s40 : Int) (H : Heap) (R : EH) : Prop :=
 iteB (decide (s40 < s39)) (
 idxD s38 s38n s40 fun a =>
 ldInt H (Addr.add a (Int.toNat s40 * 21)) .i64 fun n =>
 ldStr H (Addr.add (Addr.add a (Int.toNat s40 * 21)) 1) fun s =>
 ldStr H (Addr.add (Addr.add a (Int.toNat s40 * 21)) 2) fun s1 =>
 ldStr H (Addr.add (Addr.add a (Int.toNat s40 * 21)) 3) fun s3 =>
 ldInt H (Addr.add (Addr.add a (Int.toNat s40 * 21)) 4) .i64 fun n1 =>
 ldInt H (Addr.add (Addr.add a (Int.toNat s40 * 21)) 5) .i64 fun n2 =>
 ldInt H (Addr.add (Addr.add a (Int.toNat s40 * 21)) 6) .i64 fun n3 =>
 ldInt H (Addr.add (Addr.add a (Int.toNat s40 * 21)) 7) .i64 fun n4 =>
 ldInt H (Addr.add (Addr.add a (Int.toNat s40 * 21)) 8) .i64 fun n5 =>
 ldInt H (Addr.add (Addr.add a (Int.toNat s40 * 21)) 9) .i64 fun n6 =>
 ldInt H (Addr.add (Addr.add a (Int.toNat s40 * 21)) 10) .i64 fun n7 =>
 ldInt H (Addr.add (Addr.add a (Int.toNat s40 * 21)) 11) .i64 fun n8 =>
 ldInt H (Addr.add (Addr.add a (Int.toNat s40 * 21)) 12) .i64 fun n9 =>
 ldBool H (Addr.add (Addr.add a (Int.toNat s40 * 21)) 13) fun b =>
 ldBool H (Addr.add (Addr.add a (Int.toNat s40 * 21)) 14) fun b1 =>
 ldBool H (Addr.add (Addr.add a (Int.toNat s40 * 21)) 15) fun b2 =>
 ldBool H (Addr.add (Addr.add a (Int.toNat s40 * 21)) 16) fun b3 =>
 ldBool H (Addr.add (Addr.add a (Int.toNat s40 * 21)) 17) fun b4 =>
 ldSl H (Addr.add (Addr.add a (Int.toNat s40 * 21)) 18) fun q qn qc =>
 ldSl H (Addr.add (Addr.add a (Int.toNat s40 * 21)) 19) fun q1 q1n q1c =>
 ldSl H (Addr.add (Addr.add a (Int.toNat s40 * 21)) 20) fun q2 q2n q2c =>
 newD H (.cells ⟨[(.int .i64 (0 : Int)), (.string (ByteArray.mk #[])), (.string (ByteArray.mk #[])), (.string (ByteArray.mk #[])), (.int .i64 (0 : Int)), (.int .i64 (0 : Int)), (.int .i64 (0 : Int)), (.int .i64 (0 : Int)), (.int .i64 (0 : Int)), (.int .i64 (0 : Int)), (.int .i64 (0 : Int)), (.int .i64 (0 : Int)), (.int .i64 (0 : Int)), (.bool false), (.bool false), (.bool false), (.bool false), (.bool false), (.slice none 0 0), (.slice none 0 0), (.slice none 0 0)]⟩ 92) fun r H1 =>
 st1 H1 ⟨r, 0, none⟩ (.int .i64 n) fun H2 =>
 st1 H2 ⟨r, 1, none⟩ (.string s) fun H3 =>
 st1 H3 ⟨r, 2, none⟩ (.string s1) fun H4 =>
 st1 H4 ⟨r, 3, none⟩ (.string s3) fun H5 =>
 st1 H5 ⟨r, 4, none⟩ (.int .i64 n1) fun H6 =>
 st1 H6 ⟨r, 5, none⟩ (.int .i64 n2) fun H7 =>
 st1 H7 ⟨r, 6, none⟩ (.int .i64 n3) fun H8 =>
 st1 H8 ⟨r, 7, none⟩ (.int .i64 n4) fun H9 =>
 st1 H9 ⟨r, 8, none⟩ (.int .i64 n5) fun H10 =>
 st1 H10 ⟨r, 9, none⟩ (.int .i64 n6) fun H11 =>
 st1 H11 ⟨r, 10, none⟩ (.int .i64 n7) fun H12 =>
 st1 H12 ⟨r, 11, none⟩ (.int .i64 n8) fun H13 =>
 st1 H13 ⟨r, 12, none⟩ (.int .i64 n9) fun H14 =>
 st1 H14 ⟨r, 13, none⟩ (.bool b) fun H15 =>
 st1 H15 ⟨r, 14, none⟩ (.bool b1) fun H16 =>
 st1 H16 ⟨r, 15, none⟩ (.bool b2) fun H17 =>
 st1 H17 ⟨r, 16, none⟩ (.bool b3) fun H18 =>
 st1 H18 ⟨r, 17, none⟩ (.bool b4) fun H19 =>
 st1 H19 ⟨r, 18, none⟩ (.slice q qn qc) fun H20 =>
 st1 H20 ⟨r, 19, none⟩ (.slice q1 q1n q1c) fun H21 =>
 st1 H21 ⟨r, 20, none⟩ (.slice q2 q2n q2c) fun H22 =>
 ldInt H22 ⟨r, 0, none⟩ .i64 fun n10 =>
 iteB (n10 != (4 : Int)) (
 L10 s0 s0n s0c s2 s4 s38 s38n s38c s39 s40 H22 R) <|
 ldSl H22 ⟨r, 19, none⟩ fun q3 q3n q3c =>
 callD Try.prog 27 [(.slice q3 q3n q3c)] H22 (panK R) fun v H23 =>
 tTup v fun l =>
 tCons l fun c l1 =>
 tAgg c fun l2 =>
 tCons l2 fun c1 l3 =>
 tSl c1 fun q4 q4n q4c =>
 tCons l3 fun c2 l4 =>
 tInt c2 .i64 fun n11 =>
 tCons l4 fun c3 l5 =>
 tSl c3 fun q5 q5n q5c =>
 tNil l5 <|
 tCons l1 fun c4 l6 =>
 tBool c4 fun b5 =>
 tNil l6 <|
 newD H23 (.cells ⟨[(.slice none 0 0), (.int .i64 (0 : Int)), (.slice none 0 0)]⟩ 65) fun r1 H24 =>
 st1 H24 ⟨r1, 0, none⟩ (.slice q4 q4n q4c) fun H25 =>
 st1 H25 ⟨r1, 1, none⟩ (.int .i64 n11) fun H26 =>
 st1 H26 ⟨r1, 2, none⟩ (.slice q5 q5n q5c) fun H27 =>
 ldSl H27 ⟨r, 20, none⟩ fun q6 q6n q6c =>
 callD Try.prog 27 [(.slice q6 q6n q6c)] H27 (panK R) fun v1 H28 =>
 tTup v1 fun l7 =>
 tCons l7 fun c5 l8 =>
 tAgg c5 fun l9 =>
 tCons l9 fun c6 l10 =>
 tSl c6 fun q7 q7n q7c =>
 tCons l10 fun c7 l11 =>
 tInt c7 .i64 fun n12 =>
 tCons l11 fun c8 l12 =>
 tSl c8 fun q8 q8n q8c =>
 tNil l12 <|
 tCons l8 fun c9 l13 =>
 tBool c9 fun b6 =>
 tNil l13 <|
 newD H28 (.cells ⟨[(.slice none 0 0), (.int .i64 (0 : Int)), (.slice none 0 0)]⟩ 65) fun r2 H29 =>
 st1 H29 ⟨r2, 0, none⟩ (.slice q7 q7n q7c) fun H30 =>
 st1 H30 ⟨r2, 1, none⟩ (.int .i64 n12) fun H31 =>
 st1 H31 ⟨r2, 2, none⟩ (.slice q8 q8n q8c) fun H32 =>
 iteB (!b5) (
 st1 H32 ⟨s2, 0, none⟩ (.slice none 0 0) fun H33 =>
 st1 H33 ⟨s2, 1, none⟩ (.int .i64 (0 : Int)) fun H34 =>
 st1 H34 ⟨s2, 2, none⟩ (.slice none 0 0) fun H35 =>
 ldSl H35 ⟨s2, 0, none⟩ fun q9 q9n q9c =>
 ldInt H35 ⟨s2, 1, none⟩ .i64 fun n13 =>
 ldSl H35 ⟨s2, 2, none⟩ fun q10 q10n q10c =>
 R (.returned (.tuple ⟨[(.agg ⟨[(.slice q9 q9n q9c), (.int .i64 n13), (.slice q10 q10n q10c)]⟩), (.bool false)]⟩)) H35) <|
 iteB (!b6) (
 st1 H32 ⟨s2, 0, none⟩ (.slice none 0 0) fun H36 =>
 st1 H36 ⟨s2, 1, none⟩ (.int .i64 (0 : Int)) fun H37 =>
 st1 H37 ⟨s2, 2, none⟩ (.slice none 0 0) fun H38 =>
 ldSl H38 ⟨s2, 0, none⟩ fun q11 q11n q11c =>
 ldInt H38 ⟨s2, 1, none⟩ .i64 fun n14 =>
 ldSl H38 ⟨s2, 2, none⟩ fun q12 q12n q12c =>
 R (.returned (.tuple ⟨[(.agg ⟨[(.slice q11 q11n q11c), (.int .i64 n14), (.slice q12 q12n q12c)]⟩), (.bool false)]⟩)) H38) <|
 L5 s0 s0n s0c s2 s4 r1 r2 s38 s38n s38c s39 s40 H32 R) <|
 L2 s2 s4 s0 s0n s0c ((s0n : Nat) : Int) (0 : Int) H R
theorem L1_step {s0 : OA} {s0n s0c s2 s4 : Nat} {s38 : OA} {s38n s38c : Nat} {s39 s40 : Int} {H : Heap} {R : EH} (h : L1n s0 s0n s0c s2 s4 s38 s38n s38c s39 s40 H R) : L1 s0 s0n s0c s2 s4 s38 s38n s38c s39 s40 H R :=
 goL_of_den (an := an) (fuel := 100000) (X := L1n s0 s0n s0c s2 s4 s38 s38n s38c s39 s40 H R) mixed fn (by kernel_rfl) (fun ρ0 => by kernel_rfl) h
def L2n (s2 s4 : Nat) (s123 : OA) (s123n s123c : Nat) (s124 s125 : Int) (H : Heap) (R : EH) : Prop :=
 iteB (decide (s125 < s124)) (
 idxD s123 s123n s125 fun a =>
 ldInt H (Addr.add a (Int.toNat s125 * 21)) .i64 fun n =>
 ldStr H (Addr.add (Addr.add a (Int.toNat s125 * 21)) 1) fun s =>
 ldStr H (Addr.add (Addr.add a (Int.toNat s125 * 21)) 2) fun s1 =>
 ldStr H (Addr.add (Addr.add a (Int.toNat s125 * 21)) 3) fun s3 =>
 ldInt H (Addr.add (Addr.add a (Int.toNat s125 * 21)) 4) .i64 fun n1 =>
 ldInt H (Addr.add (Addr.add a (Int.toNat s125 * 21)) 5) .i64 fun n2 =>
 ldInt H (Addr.add (Addr.add a (Int.toNat s125 * 21)) 6) .i64 fun n3 =>
 ldInt H (Addr.add (Addr.add a (Int.toNat s125 * 21)) 7) .i64 fun n4 =>
 ldInt H (Addr.add (Addr.add a (Int.toNat s125 * 21)) 8) .i64 fun n5 =>
 ldInt H (Addr.add (Addr.add a (Int.toNat s125 * 21)) 9) .i64 fun n6 =>
 ldInt H (Addr.add (Addr.add a (Int.toNat s125 * 21)) 10) .i64 fun n7 =>
 ldInt H (Addr.add (Addr.add a (Int.toNat s125 * 21)) 11) .i64 fun n8 =>
 ldInt H (Addr.add (Addr.add a (Int.toNat s125 * 21)) 12) .i64 fun n9 =>
 ldBool H (Addr.add (Addr.add a (Int.toNat s125 * 21)) 13) fun b =>
 ldBool H (Addr.add (Addr.add a (Int.toNat s125 * 21)) 14) fun b1 =>
 ldBool H (Addr.add (Addr.add a (Int.toNat s125 * 21)) 15) fun b2 =>
 ldBool H (Addr.add (Addr.add a (Int.toNat s125 * 21)) 16) fun b3 =>
 ldBool H (Addr.add (Addr.add a (Int.toNat s125 * 21)) 17) fun b4 =>
 ldSl H (Addr.add (Addr.add a (Int.toNat s125 * 21)) 18) fun q qn qc =>
 ldSl H (Addr.add (Addr.add a (Int.toNat s125 * 21)) 19) fun q1 q1n q1c =>
 ldSl H (Addr.add (Addr.add a (Int.toNat s125 * 21)) 20) fun q2 q2n q2c =>
 newD H (.cells ⟨[(.int .i64 (0 : Int)), (.string (ByteArray.mk #[])), (.string (ByteArray.mk #[])), (.string (ByteArray.mk #[])), (.int .i64 (0 : Int)), (.int .i64 (0 : Int)), (.int .i64 (0 : Int)), (.int .i64 (0 : Int)), (.int .i64 (0 : Int)), (.int .i64 (0 : Int)), (.int .i64 (0 : Int)), (.int .i64 (0 : Int)), (.int .i64 (0 : Int)), (.bool false), (.bool false), (.bool false), (.bool false), (.bool false), (.slice none 0 0), (.slice none 0 0), (.slice none 0 0)]⟩ 92) fun r H1 =>
 st1 H1 ⟨r, 0, none⟩ (.int .i64 n) fun H2 =>
 st1 H2 ⟨r, 1, none⟩ (.string s) fun H3 =>
 st1 H3 ⟨r, 2, none⟩ (.string s1) fun H4 =>
 st1 H4 ⟨r, 3, none⟩ (.string s3) fun H5 =>
 st1 H5 ⟨r, 4, none⟩ (.int .i64 n1) fun H6 =>
 st1 H6 ⟨r, 5, none⟩ (.int .i64 n2) fun H7 =>
 st1 H7 ⟨r, 6, none⟩ (.int .i64 n3) fun H8 =>
 st1 H8 ⟨r, 7, none⟩ (.int .i64 n4) fun H9 =>
 st1 H9 ⟨r, 8, none⟩ (.int .i64 n5) fun H10 =>
 st1 H10 ⟨r, 9, none⟩ (.int .i64 n6) fun H11 =>
 st1 H11 ⟨r, 10, none⟩ (.int .i64 n7) fun H12 =>
 st1 H12 ⟨r, 11, none⟩ (.int .i64 n8) fun H13 =>
 st1 H13 ⟨r, 12, none⟩ (.int .i64 n9) fun H14 =>
 st1 H14 ⟨r, 13, none⟩ (.bool b) fun H15 =>
 st1 H15 ⟨r, 14, none⟩ (.bool b1) fun H16 =>
 st1 H16 ⟨r, 15, none⟩ (.bool b2) fun H17 =>
 st1 H17 ⟨r, 16, none⟩ (.bool b3) fun H18 =>
 st1 H18 ⟨r, 17, none⟩ (.bool b4) fun H19 =>
 st1 H19 ⟨r, 18, none⟩ (.slice q qn qc) fun H20 =>
 st1 H20 ⟨r, 19, none⟩ (.slice q1 q1n q1c) fun H21 =>
 st1 H21 ⟨r, 20, none⟩ (.slice q2 q2n q2c) fun H22 =>
 ldInt H22 ⟨r, 0, none⟩ .i64 fun n10 =>
 iteB (n10 != (2 : Int)) (
 L4 s2 s4 s123 s123n s123c s124 s125 H22 R) <|
 ldSl H22 ⟨s4, 0, none⟩ fun q3 q3n q3c =>
 ldStr H22 ⟨r, 1, none⟩ fun s5 =>
 callD Try.prog 54 [(.slice q3 q3n q3c), (.string s5)] H22 (panK R) fun v H23 =>
 tBool v fun b5 =>
 iteB b5 (
 st1 H23 ⟨s2, 0, none⟩ (.slice none 0 0) fun H24 =>
 st1 H24 ⟨s2, 1, none⟩ (.int .i64 (0 : Int)) fun H25 =>
 st1 H25 ⟨s2, 2, none⟩ (.slice none 0 0) fun H26 =>
 ldSl H26 ⟨s2, 0, none⟩ fun q4 q4n q4c =>
 ldInt H26 ⟨s2, 1, none⟩ .i64 fun n11 =>
 ldSl H26 ⟨s2, 2, none⟩ fun q5 q5n q5c =>
 R (.returned (.tuple ⟨[(.agg ⟨[(.slice q4 q4n q4c), (.int .i64 n11), (.slice q5 q5n q5c)]⟩), (.bool false)]⟩)) H26) <|
 ldStr H23 ⟨r, 1, none⟩ fun s6 =>
 callD Try.prog 55 [(.pointer (some ⟨s4, 0, none⟩)), (.string s6)] H23 (panK R) fun v1 H27 =>
 tBool v1 fun b6 =>
 iteB b6 (
 st1 H27 ⟨s2, 0, none⟩ (.slice none 0 0) fun H28 =>
 st1 H28 ⟨s2, 1, none⟩ (.int .i64 (0 : Int)) fun H29 =>
 st1 H29 ⟨s2, 2, none⟩ (.slice none 0 0) fun H30 =>
 ldSl H30 ⟨s2, 0, none⟩ fun q6 q6n q6c =>
 ldInt H30 ⟨s2, 1, none⟩ .i64 fun n12 =>
 ldSl H30 ⟨s2, 2, none⟩ fun q7 q7n q7c =>
 R (.returned (.tuple ⟨[(.agg ⟨[(.slice q6 q6n q6c), (.int .i64 n12), (.slice q7 q7n q7c)]⟩), (.bool false)]⟩)) H30) <|
 L3 s2 s4 r s123 s123n s123c s124 s125 H27 R) <|
 ldSl H ⟨s4, 0, none⟩ fun q8 q8n q8c =>
 ldInt H ⟨s4, 1, none⟩ .i64 fun n13 =>
 ldSl H ⟨s4, 2, none⟩ fun q9 q9n q9c =>
 st1 H ⟨s2, 0, none⟩ (.slice q8 q8n q8c) fun H31 =>
 st1 H31 ⟨s2, 1, none⟩ (.int .i64 n13) fun H32 =>
 st1 H32 ⟨s2, 2, none⟩ (.slice q9 q9n q9c) fun H33 =>
 ldSl H33 ⟨s2, 0, none⟩ fun q10 q10n q10c =>
 ldInt H33 ⟨s2, 1, none⟩ .i64 fun n14 =>
 ldSl H33 ⟨s2, 2, none⟩ fun q11 q11n q11c =>
 R (.returned (.tuple ⟨[(.agg ⟨[(.slice q10 q10n q10c), (.int .i64 n14), (.slice q11 q11n q11c)]⟩), (.bool true)]⟩)) H33
theorem L2_step {s2 s4 : Nat} {s123 : OA} {s123n s123c : Nat} {s124 s125 : Int} {H : Heap} {R : EH} (h : L2n s2 s4 s123 s123n s123c s124 s125 H R) : L2 s2 s4 s123 s123n s123c s124 s125 H R :=
 goL_of_den (an := an) (fuel := 100000) (X := L2n s2 s4 s123 s123n s123c s124 s125 H R) mixed fn (by kernel_rfl) (fun ρ0 => by kernel_rfl) h
def L3n (s2 s4 s21 : Nat) (s123 : OA) (s123n s123c : Nat) (s124 s125 : Int) (H : Heap) (R : EH) : Prop :=
 ldSl H ⟨s4, 0, none⟩ fun q qn qc =>
 ldStr H ⟨s21, 1, none⟩ fun s =>
 callD Try.prog 56 [(.slice q qn qc), (.string s)] H (panK R) fun v H1 =>
 tSl v fun q1 q1n q1c =>
 st1 H1 ⟨s4, 0, none⟩ (.slice q1 q1n q1c) fun H2 =>
 L4 s2 s4 s123 s123n s123c s124 s125 H2 R
theorem L3_step {s2 s4 s21 : Nat} {s123 : OA} {s123n s123c : Nat} {s124 s125 : Int} {H : Heap} {R : EH} (h : L3n s2 s4 s21 s123 s123n s123c s124 s125 H R) : L3 s2 s4 s21 s123 s123n s123c s124 s125 H R :=
 goL_of_den (an := an) (fuel := 100000) (X := L3n s2 s4 s21 s123 s123n s123c s124 s125 H R) mixed fn (by kernel_rfl) (fun ρ0 => by kernel_rfl) h
def L4n (s2 s4 : Nat) (s123 : OA) (s123n s123c : Nat) (s124 s125 : Int) (H : Heap) (R : EH) : Prop :=
 L2 s2 s4 s123 s123n s123c s124 (IntKind.wrap .i64 (s125 + (1 : Int))) H R
theorem L4_step {s2 s4 : Nat} {s123 : OA} {s123n s123c : Nat} {s124 s125 : Int} {H : Heap} {R : EH} (h : L4n s2 s4 s123 s123n s123c s124 s125 H R) : L4 s2 s4 s123 s123n s123c s124 s125 H R :=
 goL_of_den (an := an) (fuel := 100000) (X := L4n s2 s4 s123 s123n s123c s124 s125 H R) mixed fn (by kernel_rfl) (fun ρ0 => by kernel_rfl) h
def L5n (s0 : OA) (s0n s0c s2 s4 s9 s11 : Nat) (s38 : OA) (s38n s38c : Nat) (s39 s40 : Int) (H : Heap) (R : EH) : Prop :=
 ldSl H ⟨s9, 0, none⟩ fun q qn qc =>
 ldSl H ⟨s11, 0, none⟩ fun q1 q1n q1c =>
 newD H (.cells ⟨[]⟩ 9) fun r H1 =>
 apD H1 1 16 [(.string (ByteArray.mk #[]))] 9 (some ⟨r, 0, none⟩) 0 0 q qn fun q2 q2n q2c H2 =>
 andD (ExtH H1 H2) <|
 apD H2 1 16 [(.string (ByteArray.mk #[]))] 9 q2 q2n q2c q1 q1n fun q3 q3n q3c H3 =>
 L6 s0 s0n s0c s2 s4 s9 s11 none 0 0 s38 s38n s38c s39 s40 q3 q3n q3c ((q3n : Nat) : Int) (0 : Int) H3 R
theorem L5_step {s0 : OA} {s0n s0c s2 s4 s9 s11 : Nat} {s38 : OA} {s38n s38c : Nat} {s39 s40 : Int} {H : Heap} {R : EH} (h : L5n s0 s0n s0c s2 s4 s9 s11 s38 s38n s38c s39 s40 H R) : L5 s0 s0n s0c s2 s4 s9 s11 s38 s38n s38c s39 s40 H R :=
 goL_of_den (an := an) (fuel := 100000) (X := L5n s0 s0n s0c s2 s4 s9 s11 s38 s38n s38c s39 s40 H R) mixed fn (by kernel_rfl) (fun ρ0 => by kernel_rfl) h
def L6n (s0 : OA) (s0n s0c s2 s4 s9 s11 : Nat) (s13 : OA) (s13n s13c : Nat) (s38 : OA) (s38n s38c : Nat) (s39 s40 : Int) (s72 : OA) (s72n s72c : Nat) (s73 s74 : Int) (H : Heap) (R : EH) : Prop :=
 iteB (decide (s74 < s73)) (
 idxD s72 s72n s74 fun a =>
 ldStr H (Addr.add a (Int.toNat s74 * 1)) fun s =>
 ldSl H ⟨s4, 0, none⟩ fun q qn qc =>
 callD Try.prog 54 [(.slice q qn qc), (.string s)] H (panK R) fun v H1 =>
 tBool v fun b =>
 iteB b (
 st1 H1 ⟨s2, 0, none⟩ (.slice none 0 0) fun H2 =>
 st1 H2 ⟨s2, 1, none⟩ (.int .i64 (0 : Int)) fun H3 =>
 st1 H3 ⟨s2, 2, none⟩ (.slice none 0 0) fun H4 =>
 ldSl H4 ⟨s2, 0, none⟩ fun q1 q1n q1c =>
 ldInt H4 ⟨s2, 1, none⟩ .i64 fun n =>
 ldSl H4 ⟨s2, 2, none⟩ fun q2 q2n q2c =>
 R (.returned (.tuple ⟨[(.agg ⟨[(.slice q1 q1n q1c), (.int .i64 n), (.slice q2 q2n q2c)]⟩), (.bool false)]⟩)) H4) <|
 callD Try.prog 55 [(.pointer (some ⟨s4, 0, none⟩)), (.string s)] H1 (panK R) fun v1 H5 =>
 tBool v1 fun b1 =>
 iteB b1 (
 st1 H5 ⟨s2, 0, none⟩ (.slice none 0 0) fun H6 =>
 st1 H6 ⟨s2, 1, none⟩ (.int .i64 (0 : Int)) fun H7 =>
 st1 H7 ⟨s2, 2, none⟩ (.slice none 0 0) fun H8 =>
 ldSl H8 ⟨s2, 0, none⟩ fun q3 q3n q3c =>
 ldInt H8 ⟨s2, 1, none⟩ .i64 fun n1 =>
 ldSl H8 ⟨s2, 2, none⟩ fun q4 q4n q4c =>
 R (.returned (.tuple ⟨[(.agg ⟨[(.slice q3 q3n q3c), (.int .i64 n1), (.slice q4 q4n q4c)]⟩), (.bool false)]⟩)) H8) <|
 L9 s0 s0n s0c s2 s4 s9 s11 s13 s13n s13c s s38 s38n s38c s39 s40 s72 s72n s72c s73 s74 H5 R) <|
 L7 s0 s0n s0c s2 s4 s9 s11 s38 s38n s38c s39 s40 s13 s13n s13c ((s13n : Nat) : Int) (0 : Int) H R
theorem L6_step {s0 : OA} {s0n s0c s2 s4 s9 s11 : Nat} {s13 : OA} {s13n s13c : Nat} {s38 : OA} {s38n s38c : Nat} {s39 s40 : Int} {s72 : OA} {s72n s72c : Nat} {s73 s74 : Int} {H : Heap} {R : EH} (h : L6n s0 s0n s0c s2 s4 s9 s11 s13 s13n s13c s38 s38n s38c s39 s40 s72 s72n s72c s73 s74 H R) : L6 s0 s0n s0c s2 s4 s9 s11 s13 s13n s13c s38 s38n s38c s39 s40 s72 s72n s72c s73 s74 H R :=
 goL_of_den (an := an) (fuel := 100000) (X := L6n s0 s0n s0c s2 s4 s9 s11 s13 s13n s13c s38 s38n s38c s39 s40 s72 s72n s72c s73 s74 H R) mixed fn (by kernel_rfl) (fun ρ0 => by kernel_rfl) h
def L7n (s0 : OA) (s0n s0c s2 s4 s9 s11 : Nat) (s38 : OA) (s38n s38c : Nat) (s39 s40 : Int) (s91 : OA) (s91n s91c : Nat) (s92 s93 : Int) (H : Heap) (R : EH) : Prop :=
 iteB (decide (s93 < s92)) (
 idxD s91 s91n s93 fun a =>
 ldStr H (Addr.add a (Int.toNat s93 * 1)) fun s =>
 ldSl H ⟨s4, 0, none⟩ fun q qn qc =>
 callD Try.prog 56 [(.slice q qn qc), (.string s)] H (panK R) fun v H1 =>
 tSl v fun q1 q1n q1c =>
 st1 H1 ⟨s4, 0, none⟩ (.slice q1 q1n q1c) fun H2 =>
 L7 s0 s0n s0c s2 s4 s9 s11 s38 s38n s38c s39 s40 s91 s91n s91c s92 (IntKind.wrap .i64 (s93 + (1 : Int))) H2 R) <|
 ldSl H ⟨s9, 2, none⟩ fun q2 q2n q2c =>
 ldSl H ⟨s11, 2, none⟩ fun q3 q3n q3c =>
 newD H (.cells ⟨[]⟩ 71) fun r H3 =>
 apD H3 6 64 [(.string (ByteArray.mk #[])), (.string (ByteArray.mk #[])), (.bool false), (.int .i64 (0 : Int)), (.int .i64 (0 : Int)), (.int .i64 (0 : Int))] 71 (some ⟨r, 0, none⟩) 0 0 q2 q2n fun q4 q4n q4c H4 =>
 andD (ExtH H3 H4) <|
 apD H4 6 64 [(.string (ByteArray.mk #[])), (.string (ByteArray.mk #[])), (.bool false), (.int .i64 (0 : Int)), (.int .i64 (0 : Int)), (.int .i64 (0 : Int))] 71 q4 q4n q4c q3 q3n fun q5 q5n q5c H5 =>
 L8 s0 s0n s0c s2 s4 s38 s38n s38c s39 s40 q5 q5n q5c ((q5n : Nat) : Int) (0 : Int) H5 R
theorem L7_step {s0 : OA} {s0n s0c s2 s4 s9 s11 : Nat} {s38 : OA} {s38n s38c : Nat} {s39 s40 : Int} {s91 : OA} {s91n s91c : Nat} {s92 s93 : Int} {H : Heap} {R : EH} (h : L7n s0 s0n s0c s2 s4 s9 s11 s38 s38n s38c s39 s40 s91 s91n s91c s92 s93 H R) : L7 s0 s0n s0c s2 s4 s9 s11 s38 s38n s38c s39 s40 s91 s91n s91c s92 s93 H R :=
 goL_of_den (an := an) (fuel := 100000) (X := L7n s0 s0n s0c s2 s4 s9 s11 s38 s38n s38c s39 s40 s91 s91n s91c s92 s93 H R) mixed fn (by kernel_rfl) (fun ρ0 => by kernel_rfl) h
def L8n (s0 : OA) (s0n s0c s2 s4 : Nat) (s38 : OA) (s38n s38c : Nat) (s39 s40 : Int) (s111 : OA) (s111n s111c : Nat) (s112 s113 : Int) (H : Heap) (R : EH) : Prop :=
 iteB (decide (s113 < s112)) (
 idxD s111 s111n s113 fun a =>
 ldStr H (Addr.add a (Int.toNat s113 * 6)) fun s =>
 ldStr H (Addr.add (Addr.add a (Int.toNat s113 * 6)) 1) fun s1 =>
 ldBool H (Addr.add (Addr.add a (Int.toNat s113 * 6)) 2) fun b =>
 ldInt H (Addr.add (Addr.add a (Int.toNat s113 * 6)) 3) .i64 fun n =>
 ldInt H (Addr.add (Addr.add a (Int.toNat s113 * 6)) 4) .i64 fun n1 =>
 ldInt H (Addr.add (Addr.add a (Int.toNat s113 * 6)) 5) .i64 fun n2 =>
 newD H (.cells ⟨[(.string (ByteArray.mk #[])), (.string (ByteArray.mk #[])), (.bool false), (.int .i64 (0 : Int)), (.int .i64 (0 : Int)), (.int .i64 (0 : Int))]⟩ 71) fun r H1 =>
 st1 H1 ⟨r, 0, none⟩ (.string s) fun H2 =>
 st1 H2 ⟨r, 1, none⟩ (.string s1) fun H3 =>
 st1 H3 ⟨r, 2, none⟩ (.bool b) fun H4 =>
 st1 H4 ⟨r, 3, none⟩ (.int .i64 n) fun H5 =>
 st1 H5 ⟨r, 4, none⟩ (.int .i64 n1) fun H6 =>
 st1 H6 ⟨r, 5, none⟩ (.int .i64 n2) fun H7 =>
 ldStr H7 ⟨r, 0, none⟩ fun s3 =>
 ldStr H7 ⟨r, 1, none⟩ fun s5 =>
 ldBool H7 ⟨r, 2, none⟩ fun b1 =>
 ldInt H7 ⟨r, 3, none⟩ .i64 fun n3 =>
 ldInt H7 ⟨r, 4, none⟩ .i64 fun n4 =>
 callD Try.prog 38 [(.pointer (some ⟨s4, 1, none⟩)), (.agg ⟨[(.string s3), (.string s5), (.bool b1), (.int .i64 n3), (.int .i64 n4)]⟩), (.int .i64 (0 : Int))] H7 (panK R) fun v H8 =>
 tTup v fun l =>
 tNil l <|
 L8 s0 s0n s0c s2 s4 s38 s38n s38c s39 s40 s111 s111n s111c s112 (IntKind.wrap .i64 (s113 + (1 : Int))) H8 R) <|
 L10 s0 s0n s0c s2 s4 s38 s38n s38c s39 s40 H R
theorem L8_step {s0 : OA} {s0n s0c s2 s4 : Nat} {s38 : OA} {s38n s38c : Nat} {s39 s40 : Int} {s111 : OA} {s111n s111c : Nat} {s112 s113 : Int} {H : Heap} {R : EH} (h : L8n s0 s0n s0c s2 s4 s38 s38n s38c s39 s40 s111 s111n s111c s112 s113 H R) : L8 s0 s0n s0c s2 s4 s38 s38n s38c s39 s40 s111 s111n s111c s112 s113 H R :=
 goL_of_den (an := an) (fuel := 100000) (X := L8n s0 s0n s0c s2 s4 s38 s38n s38c s39 s40 s111 s111n s111c s112 s113 H R) mixed fn (by kernel_rfl) (fun ρ0 => by kernel_rfl) h
def L9n (s0 : OA) (s0n s0c s2 s4 s9 s11 : Nat) (s13 : OA) (s13n s13c : Nat) (s15 : ByteArray) (s38 : OA) (s38n s38c : Nat) (s39 s40 : Int) (s72 : OA) (s72n s72c : Nat) (s73 s74 : Int) (H : Heap) (R : EH) : Prop :=
 callD Try.prog 56 [(.slice s13 s13n s13c), (.string s15)] H (panK R) fun v H1 =>
 tSl v fun q qn qc =>
 L6 s0 s0n s0c s2 s4 s9 s11 q qn qc s38 s38n s38c s39 s40 s72 s72n s72c s73 (IntKind.wrap .i64 (s74 + (1 : Int))) H1 R
theorem L9_step {s0 : OA} {s0n s0c s2 s4 s9 s11 : Nat} {s13 : OA} {s13n s13c : Nat} {s15 : ByteArray} {s38 : OA} {s38n s38c : Nat} {s39 s40 : Int} {s72 : OA} {s72n s72c : Nat} {s73 s74 : Int} {H : Heap} {R : EH} (h : L9n s0 s0n s0c s2 s4 s9 s11 s13 s13n s13c s15 s38 s38n s38c s39 s40 s72 s72n s72c s73 s74 H R) : L9 s0 s0n s0c s2 s4 s9 s11 s13 s13n s13c s15 s38 s38n s38c s39 s40 s72 s72n s72c s73 s74 H R :=
 goL_of_den (an := an) (fuel := 100000) (X := L9n s0 s0n s0c s2 s4 s9 s11 s13 s13n s13c s15 s38 s38n s38c s39 s40 s72 s72n s72c s73 s74 H R) mixed fn (by kernel_rfl) (fun ρ0 => by kernel_rfl) h
def L10n (s0 : OA) (s0n s0c s2 s4 : Nat) (s38 : OA) (s38n s38c : Nat) (s39 s40 : Int) (H : Heap) (R : EH) : Prop :=
 L1 s0 s0n s0c s2 s4 s38 s38n s38c s39 (IntKind.wrap .i64 (s40 + (1 : Int))) H R
theorem L10_step {s0 : OA} {s0n s0c s2 s4 : Nat} {s38 : OA} {s38n s38c : Nat} {s39 s40 : Int} {H : Heap} {R : EH} (h : L10n s0 s0n s0c s2 s4 s38 s38n s38c s39 s40 H R) : L10 s0 s0n s0c s2 s4 s38 s38n s38c s39 s40 H R :=
 goL_of_den (an := an) (fuel := 100000) (X := L10n s0 s0n s0c s2 s4 s38 s38n s38c s39 s40 H R) mixed fn (by kernel_rfl) (fun ρ0 => by kernel_rfl) h
def L11n (s0 : OA) (s0n s0c s2 s4 : Nat) (s24 : OA) (s24n s24c : Nat) (s25 s26 : Int) (H : Heap) (R : EH) : Prop :=
 L0 s0 s0n s0c s2 s4 s24 s24n s24c s25 (IntKind.wrap .i64 (s26 + (1 : Int))) H R
theorem L11_step {s0 : OA} {s0n s0c s2 s4 : Nat} {s24 : OA} {s24n s24c : Nat} {s25 s26 : Int} {H : Heap} {R : EH} (h : L11n s0 s0n s0c s2 s4 s24 s24n s24c s25 s26 H R) : L11 s0 s0n s0c s2 s4 s24 s24n s24c s25 s26 H R :=
 goL_of_den (an := an) (fuel := 100000) (X := L11n s0 s0n s0c s2 s4 s24 s24n s24c s25 s26 H R) mixed fn (by kernel_rfl) (fun ρ0 => by kernel_rfl) h
def go (s0 : OA) (s0n s0c : Nat) (H : Heap) (R : EH) : Prop :=
 newD H (.cells ⟨[(.slice none 0 0), (.int .i64 (0 : Int)), (.slice none 0 0)]⟩ 65) fun r H1 =>
 newD H1 (.cells ⟨[(.slice none 0 0), (.int .i64 (0 : Int)), (.slice none 0 0)]⟩ 65) fun r1 H2 =>
 st1 H2 ⟨r1, 0, none⟩ (.slice none 0 0) fun H3 =>
 st1 H3 ⟨r1, 1, none⟩ (.int .i64 (1 : Int)) fun H4 =>
 st1 H4 ⟨r1, 2, none⟩ (.slice none 0 0) fun H5 =>
 L0 s0 s0n s0c r r1 s0 s0n s0c ((s0n : Nat) : Int) (0 : Int) H5 R
theorem calls {s0 : OA} {s0n s0c : Nat} {H : Heap} {R : EH} (h : go s0 s0n s0c H R) : CallsH Try.prog 27 ⟨[(.slice s0 s0n s0c)]⟩ H R :=
 callsH_of_den (an := an) (fuel := 100000) (X := go s0 s0n s0c H R) (c := body) mixed fn (by kernel_rfl) (by kernel_rfl) (by kernel_rfl) ok (by kernel_rfl) h
end F27
/-! ### 28 "pub-stadtholder/laws.ixSameTexts" -/
namespace F28
def an : Ann := { kinds := [], taus := [(6, [[0, 1, 2, 4, 5, 6, 3, 7, 8]])], pairs := [], lab := [(40000005, [0, 1, 12, 13])] }
noncomputable def body : Code := (Try.f28.body).getD .skip
theorem fn : Try.prog.funcs[28]? = some Try.f28 := by kernel_rfl
theorem ok : codeOk an 26 body = true := by kernel_rfl
noncomputable def L0t : List Item := [.code (sub [1, 1, 0, 1, 0, 0] body), .inLoop (sub [1, 1, 0, 1, 0, 0] body), .inBlock 0, .code (sub [1, 1, 1] body)]
def L0 (a : OA) (an1 ac : Nat) (b : OA) (bn bc : Nat) (s12 s13 : Int) (H : Heap) (R : EH) : Prop :=
 GoL Try.prog 28 26 L0t [0, 1, 12, 13] [(.slice a an1 ac), (.slice b bn bc), (.int .i64 s12), (.int .i64 s13)] H R
def L0n (a : OA) (an1 ac : Nat) (b : OA) (bn bc : Nat) (s12 s13 : Int) (H : Heap) (R : EH) : Prop :=
 iteB (decide (s13 < s12)) (
 idxD a an1 s13 fun a1 =>
 idxD b bn s13 fun a2 =>
 ldStr H (Addr.add a1 (Int.toNat s13 * 1)) fun s =>
 ldStr H (Addr.add a2 (Int.toNat s13 * 1)) fun s1 =>
 iteB (!eqS s s1) (
 R (.returned (.bool false)) H) <|
 L0 a an1 ac b bn bc s12 (IntKind.wrap .i64 (s13 + (1 : Int))) H R) <|
 R (.returned (.bool true)) H
theorem L0_step {a : OA} {an1 ac : Nat} {b : OA} {bn bc : Nat} {s12 s13 : Int} {H : Heap} {R : EH} (h : L0n a an1 ac b bn bc s12 s13 H R) : L0 a an1 ac b bn bc s12 s13 H R :=
 goL_of_den (an := an) (fuel := 100000) (X := L0n a an1 ac b bn bc s12 s13 H R) mixed fn (by kernel_rfl) (fun ρ0 => by kernel_rfl) h
def go (a : OA) (an1 ac : Nat) (b : OA) (bn bc : Nat) (H : Heap) (R : EH) : Prop :=
 iteB (((an1 : Nat) : Int) != ((bn : Nat) : Int)) (
 R (.returned (.bool false)) H) <|
 L0 a an1 ac b bn bc ((an1 : Nat) : Int) (0 : Int) H R
theorem calls {a : OA} {an1 ac : Nat} {b : OA} {bn bc : Nat} {H : Heap} {R : EH} (h : go a an1 ac b bn bc H R) : CallsH Try.prog 28 ⟨[(.slice a an1 ac), (.slice b bn bc)]⟩ H R :=
 callsH_of_den (an := an) (fuel := 100000) (X := go a an1 ac b bn bc H R) (c := body) mixed fn (by kernel_rfl) (by kernel_rfl) (by kernel_rfl) ok (by kernel_rfl) h
end F28
/-! ### 41 "pub-stadtholder/laws.ckMany" -/
namespace F41
def an : Ann := { kinds := [(9004, .grow)], taus := [(9, [[0, 2, 3, 5, 7, 8, 1, 6, 4, 9, 10, 11]])], pairs := [], lab := [(40000004, [1, 5, 10, 11, 12]), (60000009, [1, 5, 7, 10, 11, 12]), (40000014, [1, 5, 10, 11, 12])] }
noncomputable def body : Code := (Try.f41.body).getD .skip
theorem fn : Try.prog.funcs[41]? = some Try.f41 := by kernel_rfl
theorem ok : codeOk an 69 body = true := by kernel_rfl
noncomputable def L0t : List Item := [.code (sub [1, 1, 0, 1, 0, 0] body), .inLoop (sub [1, 1, 0, 1, 0, 0] body), .inBlock 0, .code (sub [1, 1, 1] body)]
def L0 (s1 s5 : Int) (s10 : OA) (s10n s10c : Nat) (s11 s12 : Int) (H : Heap) (R : EH) : Prop :=
 GoL Try.prog 41 69 L0t [1, 5, 10, 11, 12] [(.int .i64 s1), (.int .i64 s5), (.slice s10 s10n s10c), (.int .i64 s11), (.int .i64 s12)] H R
noncomputable def L1t : List Item := [.code (sub [1, 1, 0, 1, 0, 0, 1, 1, 0, 0, 1, 1, 1] body), .inBlock 1, .code (sub [1, 1, 0, 1, 0, 0, 1, 1, 1] body), .inLoop (sub [1, 1, 0, 1, 0, 0] body), .inBlock 0, .code (sub [1, 1, 1] body)]
def L1 (s1 s5 : Int) (s7 : Nat) (s10 : OA) (s10n s10c : Nat) (s11 s12 : Int) (H : Heap) (R : EH) : Prop :=
 GoL Try.prog 41 69 L1t [1, 5, 7, 10, 11, 12] [(.int .i64 s1), (.int .i64 s5), (.pointer (some ⟨s7, 0, none⟩)), (.slice s10 s10n s10c), (.int .i64 s11), (.int .i64 s12)] H R
noncomputable def L2t : List Item := [.code (sub [1, 1, 0, 1, 0, 0, 1, 1, 1] body), .inLoop (sub [1, 1, 0, 1, 0, 0] body), .inBlock 0, .code (sub [1, 1, 1] body)]
def L2 (s1 s5 : Int) (s10 : OA) (s10n s10c : Nat) (s11 s12 : Int) (H : Heap) (R : EH) : Prop :=
 GoL Try.prog 41 69 L2t [1, 5, 10, 11, 12] [(.int .i64 s1), (.int .i64 s5), (.slice s10 s10n s10c), (.int .i64 s11), (.int .i64 s12)] H R
def L0n (s1 s5 : Int) (s10 : OA) (s10n s10c : Nat) (s11 s12 : Int) (H : Heap) (R : EH) : Prop :=
 iteB (decide (s12 < s11)) (
 idxD s10 s10n s12 fun a =>
 ldInt H (Addr.add a (Int.toNat s12 * 21)) .i64 fun n =>
 ldStr H (Addr.add (Addr.add a (Int.toNat s12 * 21)) 1) fun s =>
 ldStr H (Addr.add (Addr.add a (Int.toNat s12 * 21)) 2) fun s2 =>
 ldStr H (Addr.add (Addr.add a (Int.toNat s12 * 21)) 3) fun s3 =>
 ldInt H (Addr.add (Addr.add a (Int.toNat s12 * 21)) 4) .i64 fun n1 =>
 ldInt H (Addr.add (Addr.add a (Int.toNat s12 * 21)) 5) .i64 fun n2 =>
 ldInt H (Addr.add (Addr.add a (Int.toNat s12 * 21)) 6) .i64 fun n3 =>
 ldInt H (Addr.add (Addr.add a (Int.toNat s12 * 21)) 7) .i64 fun n4 =>
 ldInt H (Addr.add (Addr.add a (Int.toNat s12 * 21)) 8) .i64 fun n5 =>
 ldInt H (Addr.add (Addr.add a (Int.toNat s12 * 21)) 9) .i64 fun n6 =>
 ldInt H (Addr.add (Addr.add a (Int.toNat s12 * 21)) 10) .i64 fun n7 =>
 ldInt H (Addr.add (Addr.add a (Int.toNat s12 * 21)) 11) .i64 fun n8 =>
 ldInt H (Addr.add (Addr.add a (Int.toNat s12 * 21)) 12) .i64 fun n9 =>
 ldBool H (Addr.add (Addr.add a (Int.toNat s12 * 21)) 13) fun b =>
 ldBool H (Addr.add (Addr.add a (Int.toNat s12 * 21)) 14) fun b1 =>
 ldBool H (Addr.add (Addr.add a (Int.toNat s12 * 21)) 15) fun b2 =>
 ldBool H (Addr.add (Addr.add a (Int.toNat s12 * 21)) 16) fun b3 =>
 ldBool H (Addr.add (Addr.add a (Int.toNat s12 * 21)) 17) fun b4 =>
 ldSl H (Addr.add (Addr.add a (Int.toNat s12 * 21)) 18) fun q qn qc =>
 ldSl H (Addr.add (Addr.add a (Int.toNat s12 * 21)) 19) fun q1 q1n q1c =>
 ldSl H (Addr.add (Addr.add a (Int.toNat s12 * 21)) 20) fun q2 q2n q2c =>
 newD H (.cells ⟨[(.int .i64 (0 : Int)), (.string (ByteArray.mk #[])), (.string (ByteArray.mk #[])), (.string (ByteArray.mk #[])), (.int .i64 (0 : Int)), (.int .i64 (0 : Int)), (.int .i64 (0 : Int)), (.int .i64 (0 : Int)), (.int .i64 (0 : Int)), (.int .i64 (0 : Int)), (.int .i64 (0 : Int)), (.int .i64 (0 : Int)), (.int .i64 (0 : Int)), (.bool false), (.bool false), (.bool false), (.bool false), (.bool false), (.slice none 0 0), (.slice none 0 0), (.slice none 0 0)]⟩ 92) fun r H1 =>
 st1 H1 ⟨r, 0, none⟩ (.int .i64 n) fun H2 =>
 st1 H2 ⟨r, 1, none⟩ (.string s) fun H3 =>
 st1 H3 ⟨r, 2, none⟩ (.string s2) fun H4 =>
 st1 H4 ⟨r, 3, none⟩ (.string s3) fun H5 =>
 st1 H5 ⟨r, 4, none⟩ (.int .i64 n1) fun H6 =>
 st1 H6 ⟨r, 5, none⟩ (.int .i64 n2) fun H7 =>
 st1 H7 ⟨r, 6, none⟩ (.int .i64 n3) fun H8 =>
 st1 H8 ⟨r, 7, none⟩ (.int .i64 n4) fun H9 =>
 st1 H9 ⟨r, 8, none⟩ (.int .i64 n5) fun H10 =>
 st1 H10 ⟨r, 9, none⟩ (.int .i64 n6) fun H11 =>
 st1 H11 ⟨r, 10, none⟩ (.int .i64 n7) fun H12 =>
 st1 H12 ⟨r, 11, none⟩ (.int .i64 n8) fun H13 =>
 st1 H13 ⟨r, 12, none⟩ (.int .i64 n9) fun H14 =>
 st1 H14 ⟨r, 13, none⟩ (.bool b) fun H15 =>
 st1 H15 ⟨r, 14, none⟩ (.bool b1) fun H16 =>
 st1 H16 ⟨r, 15, none⟩ (.bool b2) fun H17 =>
 st1 H17 ⟨r, 16, none⟩ (.bool b3) fun H18 =>
 st1 H18 ⟨r, 17, none⟩ (.bool b4) fun H19 =>
 st1 H19 ⟨r, 18, none⟩ (.slice q qn qc) fun H20 =>
 st1 H20 ⟨r, 19, none⟩ (.slice q1 q1n q1c) fun H21 =>
 st1 H21 ⟨r, 20, none⟩ (.slice q2 q2n q2c) fun H22 =>
 ldInt H22 ⟨r, 0, none⟩ .i64 fun n10 =>
 iteB (decide (n10 < (1 : Int))) (
 R (.returned (.int .i64 (-1 : Int))) H22) <|
 ldInt H22 ⟨r, 0, none⟩ .i64 fun n11 =>
 iteB (decide (n11 > (4 : Int))) (
 R (.returned (.int .i64 (-1 : Int))) H22) <|
 ldInt H22 ⟨r, 0, none⟩ .i64 fun n12 =>
 iteB (n12 == (4 : Int)) (
 iteB (s1 == (0 : Int)) (
 R (.returned (.int .i64 (-1 : Int))) H22) <|
 L1 s1 (IntKind.wrap .i64 (s5 + (1 : Int))) r s10 s10n s10c s11 s12 H22 R) <|
 L1 s1 (IntKind.wrap .i64 (s5 + (1 : Int))) r s10 s10n s10c s11 s12 H22 R) <|
 R (.returned (.int .i64 s5)) H
theorem L0_step {s1 s5 : Int} {s10 : OA} {s10n s10c : Nat} {s11 s12 : Int} {H : Heap} {R : EH} (h : L0n s1 s5 s10 s10n s10c s11 s12 H R) : L0 s1 s5 s10 s10n s10c s11 s12 H R :=
 goL_of_den (an := an) (fuel := 100000) (X := L0n s1 s5 s10 s10n s10c s11 s12 H R) mixed fn (by kernel_rfl) (fun ρ0 => by kernel_rfl) h
def L1n (s1 s5 : Int) (s7 : Nat) (s10 : OA) (s10n s10c : Nat) (s11 s12 : Int) (H : Heap) (R : EH) : Prop :=
 ldInt H ⟨s7, 0, none⟩ .i64 fun n =>
 iteB (n != (4 : Int)) (
 L2 s1 s5 s10 s10n s10c s11 s12 H R) <|
 ldSl H ⟨s7, 19, none⟩ fun q qn qc =>
 ldSl H ⟨s7, 20, none⟩ fun q1 q1n q1c =>
 callD Try.prog 41 [(.slice q qn qc), (.int .i64 (IntKind.wrap .i64 (s1 - (1 : Int))))] H nope fun v H1 =>
 tInt v .i64 fun n1 =>
 andD (ExtH H H1) <|
 callD Try.prog 41 [(.slice q1 q1n q1c), (.int .i64 (IntKind.wrap .i64 (s1 - (1 : Int))))] H1 (panK R) fun v1 H2 =>
 tInt v1 .i64 fun n2 =>
 ldSl H2 ⟨s7, 18, none⟩ fun q2 q2n q2c =>
 iteB (decide (n1 < (0 : Int))) (
 R (.returned (.int .i64 (-1 : Int))) H2) <|
 iteB (decide (n2 < (0 : Int))) (
 R (.returned (.int .i64 (-1 : Int))) H2) <|
 iteB (decide ((IntKind.wrap .i64 (s5 + (IntKind.wrap .i64 ((IntKind.wrap .i64 (n1 + n2)) + ((q2n : Nat) : Int))))) > (200 : Int))) (
 R (.returned (.int .i64 (-1 : Int))) H2) <|
 L2 s1 (IntKind.wrap .i64 (s5 + (IntKind.wrap .i64 ((IntKind.wrap .i64 (n1 + n2)) + ((q2n : Nat) : Int))))) s10 s10n s10c s11 s12 H2 R
theorem L1_step {s1 s5 : Int} {s7 : Nat} {s10 : OA} {s10n s10c : Nat} {s11 s12 : Int} {H : Heap} {R : EH} (h : L1n s1 s5 s7 s10 s10n s10c s11 s12 H R) : L1 s1 s5 s7 s10 s10n s10c s11 s12 H R :=
 goL_of_den (an := an) (fuel := 100000) (X := L1n s1 s5 s7 s10 s10n s10c s11 s12 H R) mixed fn (by kernel_rfl) (fun ρ0 => by kernel_rfl) h
def L2n (s1 s5 : Int) (s10 : OA) (s10n s10c : Nat) (s11 s12 : Int) (H : Heap) (R : EH) : Prop :=
 L0 s1 s5 s10 s10n s10c s11 (IntKind.wrap .i64 (s12 + (1 : Int))) H R
theorem L2_step {s1 s5 : Int} {s10 : OA} {s10n s10c : Nat} {s11 s12 : Int} {H : Heap} {R : EH} (h : L2n s1 s5 s10 s10n s10c s11 s12 H R) : L2 s1 s5 s10 s10n s10c s11 s12 H R :=
 goL_of_den (an := an) (fuel := 100000) (X := L2n s1 s5 s10 s10n s10c s11 s12 H R) mixed fn (by kernel_rfl) (fun ρ0 => by kernel_rfl) h
def go (s0 : OA) (s0n s0c : Nat) (s1 : Int) (H : Heap) (R : EH) : Prop :=
 L0 s1 (0 : Int) s0 s0n s0c ((s0n : Nat) : Int) (0 : Int) H R
theorem calls {s0 : OA} {s0n s0c : Nat} {s1 : Int} {H : Heap} {R : EH} (h : go s0 s0n s0c s1 H R) : CallsH Try.prog 41 ⟨[(.slice s0 s0n s0c), (.int .i64 s1)]⟩ H R :=
 callsH_of_den (an := an) (fuel := 100000) (X := go s0 s0n s0c s1 H R) (c := body) mixed fn (by kernel_rfl) (by kernel_rfl) (by kernel_rfl) ok (by kernel_rfl) h
end F41
/-! ### 42 "pub-stadtholder/laws.ckDeletes" -/
namespace F42
def an : Ann := { kinds := [], taus := [(8, [[0, 1, 5, 2, 6, 3, 4, 7, 8, 9], [0, 1, 5, 2, 3, 6, 4, 7, 8, 9], [0, 1, 5, 2, 3, 4, 6, 7, 8, 9]])], pairs := [(8, [(6, 3), (6, 4)])], lab := [(40000004, [3, 6, 7, 8]), (60000008, [3, 5, 6, 7, 8]), (40000010, [3, 6, 7, 8])] }
noncomputable def body : Code := (Try.f42.body).getD .skip
theorem fn : Try.prog.funcs[42]? = some Try.f42 := by kernel_rfl
theorem ok : codeOk an 34 body = true := by kernel_rfl
noncomputable def L0t : List Item := [.code (sub [1, 1, 0, 1, 0, 0] body), .inLoop (sub [1, 1, 0, 1, 0, 0] body), .inBlock 0, .code (sub [1, 1, 1] body)]
def L0 (out : OA) (outn outc : Nat) (s6 : OA) (s6n s6c : Nat) (s7 s8 : Int) (H : Heap) (R : EH) : Prop :=
 GoL Try.prog 42 34 L0t [3, 6, 7, 8] [(.slice out outn outc), (.slice s6 s6n s6c), (.int .i64 s7), (.int .i64 s8)] H R
noncomputable def L1t : List Item := [.code (sub [1, 1, 0, 1, 0, 0, 1, 1, 0, 0, 1, 1] body), .inBlock 1, .code (sub [1, 1, 0, 1, 0, 0, 1, 1, 1] body), .inLoop (sub [1, 1, 0, 1, 0, 0] body), .inBlock 0, .code (sub [1, 1, 1] body)]
def L1 (out : OA) (outn outc r : Nat) (s6 : OA) (s6n s6c : Nat) (s7 s8 : Int) (H : Heap) (R : EH) : Prop :=
 GoL Try.prog 42 34 L1t [3, 5, 6, 7, 8] [(.slice out outn outc), (.pointer (some ⟨r, 0, none⟩)), (.slice s6 s6n s6c), (.int .i64 s7), (.int .i64 s8)] H R
noncomputable def L2t : List Item := [.code (sub [1, 1, 0, 1, 0, 0, 1, 1, 1] body), .inLoop (sub [1, 1, 0, 1, 0, 0] body), .inBlock 0, .code (sub [1, 1, 1] body)]
def L2 (out : OA) (outn outc : Nat) (s6 : OA) (s6n s6c : Nat) (s7 s8 : Int) (H : Heap) (R : EH) : Prop :=
 GoL Try.prog 42 34 L2t [3, 6, 7, 8] [(.slice out outn outc), (.slice s6 s6n s6c), (.int .i64 s7), (.int .i64 s8)] H R
def L0n (out : OA) (outn outc : Nat) (s6 : OA) (s6n s6c : Nat) (s7 s8 : Int) (H : Heap) (R : EH) : Prop :=
 iteB (decide (s8 < s7)) (
 idxD s6 s6n s8 fun a =>
 ldInt H (Addr.add a (Int.toNat s8 * 21)) .i64 fun n =>
 ldStr H (Addr.add (Addr.add a (Int.toNat s8 * 21)) 1) fun s =>
 ldStr H (Addr.add (Addr.add a (Int.toNat s8 * 21)) 2) fun s1 =>
 ldStr H (Addr.add (Addr.add a (Int.toNat s8 * 21)) 3) fun s2 =>
 ldInt H (Addr.add (Addr.add a (Int.toNat s8 * 21)) 4) .i64 fun n1 =>
 ldInt H (Addr.add (Addr.add a (Int.toNat s8 * 21)) 5) .i64 fun n2 =>
 ldInt H (Addr.add (Addr.add a (Int.toNat s8 * 21)) 6) .i64 fun n3 =>
 ldInt H (Addr.add (Addr.add a (Int.toNat s8 * 21)) 7) .i64 fun n4 =>
 ldInt H (Addr.add (Addr.add a (Int.toNat s8 * 21)) 8) .i64 fun n5 =>
 ldInt H (Addr.add (Addr.add a (Int.toNat s8 * 21)) 9) .i64 fun n6 =>
 ldInt H (Addr.add (Addr.add a (Int.toNat s8 * 21)) 10) .i64 fun n7 =>
 ldInt H (Addr.add (Addr.add a (Int.toNat s8 * 21)) 11) .i64 fun n8 =>
 ldInt H (Addr.add (Addr.add a (Int.toNat s8 * 21)) 12) .i64 fun n9 =>
 ldBool H (Addr.add (Addr.add a (Int.toNat s8 * 21)) 13) fun b =>
 ldBool H (Addr.add (Addr.add a (Int.toNat s8 * 21)) 14) fun b1 =>
 ldBool H (Addr.add (Addr.add a (Int.toNat s8 * 21)) 15) fun b2 =>
 ldBool H (Addr.add (Addr.add a (Int.toNat s8 * 21)) 16) fun b3 =>
 ldBool H (Addr.add (Addr.add a (Int.toNat s8 * 21)) 17) fun b4 =>
 ldSl H (Addr.add (Addr.add a (Int.toNat s8 * 21)) 18) fun q qn qc =>
 ldSl H (Addr.add (Addr.add a (Int.toNat s8 * 21)) 19) fun q1 q1n q1c =>
 ldSl H (Addr.add (Addr.add a (Int.toNat s8 * 21)) 20) fun q2 q2n q2c =>
 newD H (.cells ⟨[(.int .i64 (0 : Int)), (.string (ByteArray.mk #[])), (.string (ByteArray.mk #[])), (.string (ByteArray.mk #[])), (.int .i64 (0 : Int)), (.int .i64 (0 : Int)), (.int .i64 (0 : Int)), (.int .i64 (0 : Int)), (.int .i64 (0 : Int)), (.int .i64 (0 : Int)), (.int .i64 (0 : Int)), (.int .i64 (0 : Int)), (.int .i64 (0 : Int)), (.bool false), (.bool false), (.bool false), (.bool false), (.bool false), (.slice none 0 0), (.slice none 0 0), (.slice none 0 0)]⟩ 92) fun r H1 =>
 st1 H1 ⟨r, 0, none⟩ (.int .i64 n) fun H2 =>
 st1 H2 ⟨r, 1, none⟩ (.string s) fun H3 =>
 st1 H3 ⟨r, 2, none⟩ (.string s1) fun H4 =>
 st1 H4 ⟨r, 3, none⟩ (.string s2) fun H5 =>
 st1 H5 ⟨r, 4, none⟩ (.int .i64 n1) fun H6 =>
 st1 H6 ⟨r, 5, none⟩ (.int .i64 n2) fun H7 =>
 st1 H7 ⟨r, 6, none⟩ (.int .i64 n3) fun H8 =>
 st1 H8 ⟨r, 7, none⟩ (.int .i64 n4) fun H9 =>
 st1 H9 ⟨r, 8, none⟩ (.int .i64 n5) fun H10 =>
 st1 H10 ⟨r, 9, none⟩ (.int .i64 n6) fun H11 =>
 st1 H11 ⟨r, 10, none⟩ (.int .i64 n7) fun H12 =>
 st1 H12 ⟨r, 11, none⟩ (.int .i64 n8) fun H13 =>
 st1 H13 ⟨r, 12, none⟩ (.int .i64 n9) fun H14 =>
 st1 H14 ⟨r, 13, none⟩ (.bool b) fun H15 =>
 st1 H15 ⟨r, 14, none⟩ (.bool b1) fun H16 =>
 st1 H16 ⟨r, 15, none⟩ (.bool b2) fun H17 =>
 st1 H17 ⟨r, 16, none⟩ (.bool b3) fun H18 =>
 st1 H18 ⟨r, 17, none⟩ (.bool b4) fun H19 =>
 st1 H19 ⟨r, 18, none⟩ (.slice q qn qc) fun H20 =>
 st1 H20 ⟨r, 19, none⟩ (.slice q1 q1n q1c) fun H21 =>
 st1 H21 ⟨r, 20, none⟩ (.slice q2 q2n q2c) fun H22 =>
 ldInt H22 ⟨r, 0, none⟩ .i64 fun n10 =>
 iteB (n10 == (3 : Int)) (
 ldInt H22 ⟨r, 0, none⟩ .i64 fun n11 =>
 ldStr H22 ⟨r, 1, none⟩ fun s3 =>
 ldStr H22 ⟨r, 2, none⟩ fun s4 =>
 ldStr H22 ⟨r, 3, none⟩ fun s5 =>
 ldInt H22 ⟨r, 4, none⟩ .i64 fun n12 =>
 ldInt H22 ⟨r, 5, none⟩ .i64 fun n13 =>
 ldInt H22 ⟨r, 6, none⟩ .i64 fun n14 =>
 ldInt H22 ⟨r, 7, none⟩ .i64 fun n15 =>
 ldInt H22 ⟨r, 8, none⟩ .i64 fun n16 =>
 ldInt H22 ⟨r, 9, none⟩ .i64 fun n17 =>
 ldInt H22 ⟨r, 10, none⟩ .i64 fun n18 =>
 ldInt H22 ⟨r, 11, none⟩ .i64 fun n19 =>
 ldInt H22 ⟨r, 12, none⟩ .i64 fun n20 =>
 ldBool H22 ⟨r, 13, none⟩ fun b5 =>
 ldBool H22 ⟨r, 14, none⟩ fun b6 =>
 ldBool H22 ⟨r, 15, none⟩ fun b7 =>
 ldBool H22 ⟨r, 16, none⟩ fun b8 =>
 ldBool H22 ⟨r, 17, none⟩ fun b9 =>
 ldSl H22 ⟨r, 18, none⟩ fun q3 q3n q3c =>
 ldSl H22 ⟨r, 19, none⟩ fun q4 q4n q4c =>
 ldSl H22 ⟨r, 20, none⟩ fun q5 q5n q5c =>
 callD Try.prog 53 [(.agg ⟨[(.int .i64 n11), (.string s3), (.string s4), (.string s5), (.int .i64 n12), (.int .i64 n13), (.int .i64 n14), (.int .i64 n15), (.int .i64 n16), (.int .i64 n17), (.int .i64 n18), (.int .i64 n19), (.int .i64 n20), (.bool b5), (.bool b6), (.bool b7), (.bool b8), (.bool b9), (.slice q3 q3n q3c), (.slice q4 q4n q4c), (.slice q5 q5n q5c)]⟩)] H22 (panK R) fun v H23 =>
 tAgg v fun l =>
 tCons l fun c l1 =>
 tStr c fun s9 =>
 tCons l1 fun c1 l2 =>
 tStr c1 fun s10 =>
 tCons l2 fun c2 l3 =>
 tBool c2 fun b10 =>
 tCons l3 fun c3 l4 =>
 tInt c3 .i64 fun n21 =>
 tCons l4 fun c4 l5 =>
 tInt c4 .i64 fun n22 =>
 tNil l5 <|
 newD H23 (.cells ⟨[(.string s9), (.string s10), (.bool b10), (.int .i64 n21), (.int .i64 n22)]⟩ 35) fun r1 H24 =>
 apD H24 5 56 [(.string (ByteArray.mk #[])), (.string (ByteArray.mk #[])), (.bool false), (.int .i64 (0 : Int)), (.int .i64 (0 : Int))] 35 out outn outc (some ⟨r1, 0, none⟩) 1 fun q6 q6n q6c H25 =>
 L1 q6 q6n q6c r s6 s6n s6c s7 s8 H25 R) <|
 L1 out outn outc r s6 s6n s6c s7 s8 H22 R) <|
 R (.returned (.slice out outn outc)) H
theorem L0_step {out : OA} {outn outc : Nat} {s6 : OA} {s6n s6c : Nat} {s7 s8 : Int} {H : Heap} {R : EH} (h : L0n out outn outc s6 s6n s6c s7 s8 H R) : L0 out outn outc s6 s6n s6c s7 s8 H R :=
 goL_of_den (an := an) (fuel := 100000) (X := L0n out outn outc s6 s6n s6c s7 s8 H R) mixed fn (by kernel_rfl) (fun ρ0 => by kernel_rfl) h
def L1n (out : OA) (outn outc r : Nat) (s6 : OA) (s6n s6c : Nat) (s7 s8 : Int) (H : Heap) (R : EH) : Prop :=
 ldInt H ⟨r, 0, none⟩ .i64 fun n =>
 iteB (n == (4 : Int)) (
 (
 ldSl H ⟨r, 19, none⟩ fun q qn qc =>
 ldSl H ⟨r, 20, none⟩ fun q1 q1n q1c =>
 callD Try.prog 42 [(.slice q qn qc)] H (panK R) fun v H1 =>
 tSl v fun q2 q2n q2c =>
 apD H1 5 56 [(.string (ByteArray.mk #[])), (.string (ByteArray.mk #[])), (.bool false), (.int .i64 (0 : Int)), (.int .i64 (0 : Int))] 35 out outn outc q2 q2n fun q3 q3n q3c H2 =>
 callD Try.prog 42 [(.slice q1 q1n q1c)] H2 (panK R) fun v1 H3 =>
 tSl v1 fun q4 q4n q4c =>
 apD H3 5 56 [(.string (ByteArray.mk #[])), (.string (ByteArray.mk #[])), (.bool false), (.int .i64 (0 : Int)), (.int .i64 (0 : Int))] 35 q3 q3n q3c q4 q4n fun q5 q5n q5c H4 =>
 L2 q5 q5n q5c s6 s6n s6c s7 s8 H4 R) ∧
 (
 ldSl H ⟨r, 19, none⟩ fun q6 q6n q6c =>
 callD Try.prog 42 [(.slice q6 q6n q6c)] H (panK R) fun v2 H5 =>
 tSl v2 fun q7 q7n q7c =>
 ldSl H5 ⟨r, 20, none⟩ fun q8 q8n q8c =>
 apD H5 5 56 [(.string (ByteArray.mk #[])), (.string (ByteArray.mk #[])), (.bool false), (.int .i64 (0 : Int)), (.int .i64 (0 : Int))] 35 out outn outc q7 q7n fun q9 q9n q9c H6 =>
 callD Try.prog 42 [(.slice q8 q8n q8c)] H6 (panK R) fun v3 H7 =>
 tSl v3 fun q10 q10n q10c =>
 apD H7 5 56 [(.string (ByteArray.mk #[])), (.string (ByteArray.mk #[])), (.bool false), (.int .i64 (0 : Int)), (.int .i64 (0 : Int))] 35 q9 q9n q9c q10 q10n fun q11 q11n q11c H8 =>
 L2 q11 q11n q11c s6 s6n s6c s7 s8 H8 R) ∧
 (
 ldSl H ⟨r, 19, none⟩ fun q12 q12n q12c =>
 callD Try.prog 42 [(.slice q12 q12n q12c)] H (panK R) fun v4 H9 =>
 tSl v4 fun q13 q13n q13c =>
 apD H9 5 56 [(.string (ByteArray.mk #[])), (.string (ByteArray.mk #[])), (.bool false), (.int .i64 (0 : Int)), (.int .i64 (0 : Int))] 35 out outn outc q13 q13n fun q14 q14n q14c H10 =>
 ldSl H10 ⟨r, 20, none⟩ fun q15 q15n q15c =>
 callD Try.prog 42 [(.slice q15 q15n q15c)] H10 (panK R) fun v5 H11 =>
 tSl v5 fun q16 q16n q16c =>
 apD H11 5 56 [(.string (ByteArray.mk #[])), (.string (ByteArray.mk #[])), (.bool false), (.int .i64 (0 : Int)), (.int .i64 (0 : Int))] 35 q14 q14n q14c q16 q16n fun q17 q17n q17c H12 =>
 L2 q17 q17n q17c s6 s6n s6c s7 s8 H12 R)) <|
 L2 out outn outc s6 s6n s6c s7 s8 H R
theorem L1_step {out : OA} {outn outc r : Nat} {s6 : OA} {s6n s6c : Nat} {s7 s8 : Int} {H : Heap} {R : EH} (h : L1n out outn outc r s6 s6n s6c s7 s8 H R) : L1 out outn outc r s6 s6n s6c s7 s8 H R :=
 goL_of_den (an := an) (fuel := 100000) (X := L1n out outn outc r s6 s6n s6c s7 s8 H R) mixed fn (by kernel_rfl) (fun ρ0 => by kernel_rfl) h
def L2n (out : OA) (outn outc : Nat) (s6 : OA) (s6n s6c : Nat) (s7 s8 : Int) (H : Heap) (R : EH) : Prop :=
 L0 out outn outc s6 s6n s6c s7 (IntKind.wrap .i64 (s8 + (1 : Int))) H R
theorem L2_step {out : OA} {outn outc : Nat} {s6 : OA} {s6n s6c : Nat} {s7 s8 : Int} {H : Heap} {R : EH} (h : L2n out outn outc s6 s6n s6c s7 s8 H R) : L2 out outn outc s6 s6n s6c s7 s8 H R :=
 goL_of_den (an := an) (fuel := 100000) (X := L2n out outn outc s6 s6n s6c s7 s8 H R) mixed fn (by kernel_rfl) (fun ρ0 => by kernel_rfl) h
def go (l : OA) (ln lc : Nat) (H : Heap) (R : EH) : Prop :=
 L0 none 0 0 l ln lc ((ln : Nat) : Int) (0 : Int) H R
theorem calls {l : OA} {ln lc : Nat} {H : Heap} {R : EH} (h : go l ln lc H R) : CallsH Try.prog 42 ⟨[(.slice l ln lc)]⟩ H R :=
 callsH_of_den (an := an) (fuel := 100000) (X := go l ln lc H R) (c := body) mixed fn (by kernel_rfl) (by kernel_rfl) (by kernel_rfl) ok (by kernel_rfl) h
end F42
/-! ### 44 "pub-stadtholder/laws.ckPuts" -/
namespace F44
def an : Ann := { kinds := [], taus := [(7, [[0, 1, 4, 2, 5, 3, 6, 7], [0, 1, 4, 2, 3, 5, 6, 7]])], pairs := [(7, [(5, 3)])], lab := [(40000003, [0, 7, 8, 9]), (60000007, [0, 6, 7, 8, 9]), (40000009, [0, 7, 8, 9])] }
noncomputable def body : Code := (Try.f44.body).getD .skip
theorem fn : Try.prog.funcs[44]? = some Try.f44 := by kernel_rfl
theorem ok : codeOk an 33 body = true := by kernel_rfl
noncomputable def L0t : List Item := [.code (sub [1, 0, 1, 0, 0] body), .inLoop (sub [1, 0, 1, 0, 0] body), .inBlock 0, .code (sub [1, 1] body)]
def L0 (keys : OA) (keysn keysc : Nat) (s7 : OA) (s7n s7c : Nat) (s8 s9 : Int) (H : Heap) (R : EH) : Prop :=
 GoL Try.prog 44 33 L0t [0, 7, 8, 9] [(.slice keys keysn keysc), (.slice s7 s7n s7c), (.int .i64 s8), (.int .i64 s9)] H R
noncomputable def L1t : List Item := [.code (sub [1, 0, 1, 0, 0, 1, 1, 0, 0, 1, 1] body), .inBlock 1, .code (sub [1, 0, 1, 0, 0, 1, 1, 1] body), .inLoop (sub [1, 0, 1, 0, 0] body), .inBlock 0, .code (sub [1, 1] body)]
def L1 (keys : OA) (keysn keysc r : Nat) (s7 : OA) (s7n s7c : Nat) (s8 s9 : Int) (H : Heap) (R : EH) : Prop :=
 GoL Try.prog 44 33 L1t [0, 6, 7, 8, 9] [(.slice keys keysn keysc), (.pointer (some ⟨r, 0, none⟩)), (.slice s7 s7n s7c), (.int .i64 s8), (.int .i64 s9)] H R
noncomputable def L2t : List Item := [.code (sub [1, 0, 1, 0, 0, 1, 1, 1] body), .inLoop (sub [1, 0, 1, 0, 0] body), .inBlock 0, .code (sub [1, 1] body)]
def L2 (keys : OA) (keysn keysc : Nat) (s7 : OA) (s7n s7c : Nat) (s8 s9 : Int) (H : Heap) (R : EH) : Prop :=
 GoL Try.prog 44 33 L2t [0, 7, 8, 9] [(.slice keys keysn keysc), (.slice s7 s7n s7c), (.int .i64 s8), (.int .i64 s9)] H R
def L0n (keys : OA) (keysn keysc : Nat) (s7 : OA) (s7n s7c : Nat) (s8 s9 : Int) (H : Heap) (R : EH) : Prop :=
 iteB (decide (s9 < s8)) (
 idxD s7 s7n s9 fun a =>
 ldInt H (Addr.add a (Int.toNat s9 * 21)) .i64 fun n =>
 ldStr H (Addr.add (Addr.add a (Int.toNat s9 * 21)) 1) fun s =>
 ldStr H (Addr.add (Addr.add a (Int.toNat s9 * 21)) 2) fun s1 =>
 ldStr H (Addr.add (Addr.add a (Int.toNat s9 * 21)) 3) fun s2 =>
 ldInt H (Addr.add (Addr.add a (Int.toNat s9 * 21)) 4) .i64 fun n1 =>
 ldInt H (Addr.add (Addr.add a (Int.toNat s9 * 21)) 5) .i64 fun n2 =>
 ldInt H (Addr.add (Addr.add a (Int.toNat s9 * 21)) 6) .i64 fun n3 =>
 ldInt H (Addr.add (Addr.add a (Int.toNat s9 * 21)) 7) .i64 fun n4 =>
 ldInt H (Addr.add (Addr.add a (Int.toNat s9 * 21)) 8) .i64 fun n5 =>
 ldInt H (Addr.add (Addr.add a (Int.toNat s9 * 21)) 9) .i64 fun n6 =>
 ldInt H (Addr.add (Addr.add a (Int.toNat s9 * 21)) 10) .i64 fun n7 =>
 ldInt H (Addr.add (Addr.add a (Int.toNat s9 * 21)) 11) .i64 fun n8 =>
 ldInt H (Addr.add (Addr.add a (Int.toNat s9 * 21)) 12) .i64 fun n9 =>
 ldBool H (Addr.add (Addr.add a (Int.toNat s9 * 21)) 13) fun b =>
 ldBool H (Addr.add (Addr.add a (Int.toNat s9 * 21)) 14) fun b1 =>
 ldBool H (Addr.add (Addr.add a (Int.toNat s9 * 21)) 15) fun b2 =>
 ldBool H (Addr.add (Addr.add a (Int.toNat s9 * 21)) 16) fun b3 =>
 ldBool H (Addr.add (Addr.add a (Int.toNat s9 * 21)) 17) fun b4 =>
 ldSl H (Addr.add (Addr.add a (Int.toNat s9 * 21)) 18) fun q qn qc =>
 ldSl H (Addr.add (Addr.add a (Int.toNat s9 * 21)) 19) fun q1 q1n q1c =>
 ldSl H (Addr.add (Addr.add a (Int.toNat s9 * 21)) 20) fun q2 q2n q2c =>
 newD H (.cells ⟨[(.int .i64 (0 : Int)), (.string (ByteArray.mk #[])), (.string (ByteArray.mk #[])), (.string (ByteArray.mk #[])), (.int .i64 (0 : Int)), (.int .i64 (0 : Int)), (.int .i64 (0 : Int)), (.int .i64 (0 : Int)), (.int .i64 (0 : Int)), (.int .i64 (0 : Int)), (.int .i64 (0 : Int)), (.int .i64 (0 : Int)), (.int .i64 (0 : Int)), (.bool false), (.bool false), (.bool false), (.bool false), (.bool false), (.slice none 0 0), (.slice none 0 0), (.slice none 0 0)]⟩ 92) fun r H1 =>
 st1 H1 ⟨r, 0, none⟩ (.int .i64 n) fun H2 =>
 st1 H2 ⟨r, 1, none⟩ (.string s) fun H3 =>
 st1 H3 ⟨r, 2, none⟩ (.string s1) fun H4 =>
 st1 H4 ⟨r, 3, none⟩ (.string s2) fun H5 =>
 st1 H5 ⟨r, 4, none⟩ (.int .i64 n1) fun H6 =>
 st1 H6 ⟨r, 5, none⟩ (.int .i64 n2) fun H7 =>
 st1 H7 ⟨r, 6, none⟩ (.int .i64 n3) fun H8 =>
 st1 H8 ⟨r, 7, none⟩ (.int .i64 n4) fun H9 =>
 st1 H9 ⟨r, 8, none⟩ (.int .i64 n5) fun H10 =>
 st1 H10 ⟨r, 9, none⟩ (.int .i64 n6) fun H11 =>
 st1 H11 ⟨r, 10, none⟩ (.int .i64 n7) fun H12 =>
 st1 H12 ⟨r, 11, none⟩ (.int .i64 n8) fun H13 =>
 st1 H13 ⟨r, 12, none⟩ (.int .i64 n9) fun H14 =>
 st1 H14 ⟨r, 13, none⟩ (.bool b) fun H15 =>
 st1 H15 ⟨r, 14, none⟩ (.bool b1) fun H16 =>
 st1 H16 ⟨r, 15, none⟩ (.bool b2) fun H17 =>
 st1 H17 ⟨r, 16, none⟩ (.bool b3) fun H18 =>
 st1 H18 ⟨r, 17, none⟩ (.bool b4) fun H19 =>
 st1 H19 ⟨r, 18, none⟩ (.slice q qn qc) fun H20 =>
 st1 H20 ⟨r, 19, none⟩ (.slice q1 q1n q1c) fun H21 =>
 st1 H21 ⟨r, 20, none⟩ (.slice q2 q2n q2c) fun H22 =>
 ldInt H22 ⟨r, 0, none⟩ .i64 fun n10 =>
 iteB (n10 == (2 : Int)) (
 ldStr H22 ⟨r, 1, none⟩ fun s3 =>
 newD H22 (.cells ⟨[(.string s3)]⟩ 9) fun r1 H23 =>
 apD H23 1 16 [(.string (ByteArray.mk #[]))] 9 keys keysn keysc (some ⟨r1, 0, none⟩) 1 fun q3 q3n q3c H24 =>
 L1 q3 q3n q3c r s7 s7n s7c s8 s9 H24 R) <|
 L1 keys keysn keysc r s7 s7n s7c s8 s9 H22 R) <|
 R (.returned (.slice keys keysn keysc)) H
theorem L0_step {keys : OA} {keysn keysc : Nat} {s7 : OA} {s7n s7c : Nat} {s8 s9 : Int} {H : Heap} {R : EH} (h : L0n keys keysn keysc s7 s7n s7c s8 s9 H R) : L0 keys keysn keysc s7 s7n s7c s8 s9 H R :=
 goL_of_den (an := an) (fuel := 100000) (X := L0n keys keysn keysc s7 s7n s7c s8 s9 H R) mixed fn (by kernel_rfl) (fun ρ0 => by kernel_rfl) h
def L1n (keys : OA) (keysn keysc r : Nat) (s7 : OA) (s7n s7c : Nat) (s8 s9 : Int) (H : Heap) (R : EH) : Prop :=
 ldInt H ⟨r, 0, none⟩ .i64 fun n =>
 iteB (n == (4 : Int)) (
 (
 ldSl H ⟨r, 19, none⟩ fun q qn qc =>
 ldSl H ⟨r, 20, none⟩ fun q1 q1n q1c =>
 callD Try.prog 44 [(.slice keys keysn keysc), (.slice q qn qc)] H (panK R) fun v H1 =>
 tSl v fun q2 q2n q2c =>
 callD Try.prog 44 [(.slice q2 q2n q2c), (.slice q1 q1n q1c)] H1 (panK R) fun v1 H2 =>
 tSl v1 fun q3 q3n q3c =>
 L2 q3 q3n q3c s7 s7n s7c s8 s9 H2 R) ∧
 (
 ldSl H ⟨r, 19, none⟩ fun q4 q4n q4c =>
 callD Try.prog 44 [(.slice keys keysn keysc), (.slice q4 q4n q4c)] H (panK R) fun v2 H3 =>
 tSl v2 fun q5 q5n q5c =>
 ldSl H3 ⟨r, 20, none⟩ fun q6 q6n q6c =>
 callD Try.prog 44 [(.slice q5 q5n q5c), (.slice q6 q6n q6c)] H3 (panK R) fun v3 H4 =>
 tSl v3 fun q7 q7n q7c =>
 L2 q7 q7n q7c s7 s7n s7c s8 s9 H4 R)) <|
 L2 keys keysn keysc s7 s7n s7c s8 s9 H R
theorem L1_step {keys : OA} {keysn keysc r : Nat} {s7 : OA} {s7n s7c : Nat} {s8 s9 : Int} {H : Heap} {R : EH} (h : L1n keys keysn keysc r s7 s7n s7c s8 s9 H R) : L1 keys keysn keysc r s7 s7n s7c s8 s9 H R :=
 goL_of_den (an := an) (fuel := 100000) (X := L1n keys keysn keysc r s7 s7n s7c s8 s9 H R) mixed fn (by kernel_rfl) (fun ρ0 => by kernel_rfl) h
def L2n (keys : OA) (keysn keysc : Nat) (s7 : OA) (s7n s7c : Nat) (s8 s9 : Int) (H : Heap) (R : EH) : Prop :=
 L0 keys keysn keysc s7 s7n s7c s8 (IntKind.wrap .i64 (s9 + (1 : Int))) H R
theorem L2_step {keys : OA} {keysn keysc : Nat} {s7 : OA} {s7n s7c : Nat} {s8 s9 : Int} {H : Heap} {R : EH} (h : L2n keys keysn keysc s7 s7n s7c s8 s9 H R) : L2 keys keysn keysc s7 s7n s7c s8 s9 H R :=
 goL_of_den (an := an) (fuel := 100000) (X := L2n keys keysn keysc s7 s7n s7c s8 s9 H R) mixed fn (by kernel_rfl) (fun ρ0 => by kernel_rfl) h
def go (keys : OA) (keysn keysc : Nat) (l : OA) (ln lc : Nat) (H : Heap) (R : EH) : Prop :=
 L0 keys keysn keysc l ln lc ((ln : Nat) : Int) (0 : Int) H R
theorem calls {keys : OA} {keysn keysc : Nat} {l : OA} {ln lc : Nat} {H : Heap} {R : EH} (h : go keys keysn keysc l ln lc H R) : CallsH Try.prog 44 ⟨[(.slice keys keysn keysc), (.slice l ln lc)]⟩ H R :=
 callsH_of_den (an := an) (fuel := 100000) (X := go keys keysn keysc l ln lc H R) (c := body) mixed fn (by kernel_rfl) (by kernel_rfl) (by kernel_rfl) ok (by kernel_rfl) h
end F44
/-! ### 45 "pub-stadtholder/impl.Check" -/
namespace F45
def an : Ann := { kinds := [], taus := [], pairs := [], lab := [] }
noncomputable def body : Code := (Try.f45.body).getD .skip
theorem fn : Try.prog.funcs[45]? = some Try.f45 := by kernel_rfl
theorem ok : codeOk an 32 body = true := by kernel_rfl
def go (r_0 : Int) (r_1 r_2 r_3 : ByteArray) (r_4 r_5 r_6 r_7 r_8 r_9 r_10 r_11 r_12 : Int) (r_13 r_14 r_15 r_16 r_17 : Bool) (r_18 : OA) (r_18n r_18c : Nat) (r_19 : OA) (r_19n r_19c : Nat) (r_20 : OA) (r_20n r_20c : Nat) (most : Int) (H : Heap) (R : EH) : Prop :=
 newD H (.cells ⟨[(.int .i64 r_0), (.string r_1), (.string r_2), (.string r_3), (.int .i64 r_4), (.int .i64 r_5), (.int .i64 r_6), (.int .i64 r_7), (.int .i64 r_8), (.int .i64 r_9), (.int .i64 r_10), (.int .i64 r_11), (.int .i64 r_12), (.bool r_13), (.bool r_14), (.bool r_15), (.bool r_16), (.bool r_17), (.slice r_18 r_18n r_18c), (.slice r_19 r_19n r_19c), (.slice r_20 r_20n r_20c)]⟩ 92) fun r H1 =>
 ldInt H1 ⟨r, 0, none⟩ .i64 fun n =>
 iteB (n == (1 : Int)) (
 ldInt H1 ⟨r, 0, none⟩ .i64 fun n1 =>
 ldStr H1 ⟨r, 1, none⟩ fun s =>
 ldStr H1 ⟨r, 2, none⟩ fun s1 =>
 ldStr H1 ⟨r, 3, none⟩ fun s2 =>
 ldInt H1 ⟨r, 4, none⟩ .i64 fun n2 =>
 ldInt H1 ⟨r, 5, none⟩ .i64 fun n3 =>
 ldInt H1 ⟨r, 6, none⟩ .i64 fun n4 =>
 ldInt H1 ⟨r, 7, none⟩ .i64 fun n5 =>
 ldInt H1 ⟨r, 8, none⟩ .i64 fun n6 =>
 ldInt H1 ⟨r, 9, none⟩ .i64 fun n7 =>
 ldInt H1 ⟨r, 10, none⟩ .i64 fun n8 =>
 ldInt H1 ⟨r, 11, none⟩ .i64 fun n9 =>
 ldInt H1 ⟨r, 12, none⟩ .i64 fun n10 =>
 ldBool H1 ⟨r, 13, none⟩ fun b =>
 ldBool H1 ⟨r, 14, none⟩ fun b1 =>
 ldBool H1 ⟨r, 15, none⟩ fun b2 =>
 ldBool H1 ⟨r, 16, none⟩ fun b3 =>
 ldBool H1 ⟨r, 17, none⟩ fun b4 =>
 ldSl H1 ⟨r, 18, none⟩ fun q qn qc =>
 ldSl H1 ⟨r, 19, none⟩ fun q1 q1n q1c =>
 ldSl H1 ⟨r, 20, none⟩ fun q2 q2n q2c =>
 callD Try.prog 73 [(.agg ⟨[(.int .i64 n1), (.string s), (.string s1), (.string s2), (.int .i64 n2), (.int .i64 n3), (.int .i64 n4), (.int .i64 n5), (.int .i64 n6), (.int .i64 n7), (.int .i64 n8), (.int .i64 n9), (.int .i64 n10), (.bool b), (.bool b1), (.bool b2), (.bool b3), (.bool b4), (.slice q qn qc), (.slice q1 q1n q1c), (.slice q2 q2n q2c)]⟩)] H1 (panK R) fun v H2 =>
 tPtr v fun p =>
 callD Try.prog 72 [(.pointer p)] H2 (panK R) fun v1 H3 =>
 tIf v1 fun i =>
 callD Try.prog 48 [(IV.v i)] H3 (panK R) fun v2 H4 =>
 tInt v2 .i64 fun n11 =>
 R (.returned (.int .i64 n11)) H4) <|
 iteB (n == (2 : Int)) (
 ldInt H1 ⟨r, 0, none⟩ .i64 fun n12 =>
 ldStr H1 ⟨r, 1, none⟩ fun s3 =>
 ldStr H1 ⟨r, 2, none⟩ fun s4 =>
 ldStr H1 ⟨r, 3, none⟩ fun s5 =>
 ldInt H1 ⟨r, 4, none⟩ .i64 fun n13 =>
 ldInt H1 ⟨r, 5, none⟩ .i64 fun n14 =>
 ldInt H1 ⟨r, 6, none⟩ .i64 fun n15 =>
 ldInt H1 ⟨r, 7, none⟩ .i64 fun n16 =>
 ldInt H1 ⟨r, 8, none⟩ .i64 fun n17 =>
 ldInt H1 ⟨r, 9, none⟩ .i64 fun n18 =>
 ldInt H1 ⟨r, 10, none⟩ .i64 fun n19 =>
 ldInt H1 ⟨r, 11, none⟩ .i64 fun n20 =>
 ldInt H1 ⟨r, 12, none⟩ .i64 fun n21 =>
 ldBool H1 ⟨r, 13, none⟩ fun b5 =>
 ldBool H1 ⟨r, 14, none⟩ fun b6 =>
 ldBool H1 ⟨r, 15, none⟩ fun b7 =>
 ldBool H1 ⟨r, 16, none⟩ fun b8 =>
 ldBool H1 ⟨r, 17, none⟩ fun b9 =>
 ldSl H1 ⟨r, 18, none⟩ fun q3 q3n q3c =>
 ldSl H1 ⟨r, 19, none⟩ fun q4 q4n q4c =>
 ldSl H1 ⟨r, 20, none⟩ fun q5 q5n q5c =>
 callD Try.prog 75 [(.agg ⟨[(.int .i64 n12), (.string s3), (.string s4), (.string s5), (.int .i64 n13), (.int .i64 n14), (.int .i64 n15), (.int .i64 n16), (.int .i64 n17), (.int .i64 n18), (.int .i64 n19), (.int .i64 n20), (.int .i64 n21), (.bool b5), (.bool b6), (.bool b7), (.bool b8), (.bool b9), (.slice q3 q3n q3c), (.slice q4 q4n q4c), (.slice q5 q5n q5c)]⟩)] H1 (panK R) fun v3 H5 =>
 tPtr v3 fun p1 =>
 callD Try.prog 74 [(.pointer p1)] H5 (panK R) fun v4 H6 =>
 tIf v4 fun i1 =>
 callD Try.prog 48 [(IV.v i1)] H6 (panK R) fun v5 H7 =>
 tInt v5 .i64 fun n22 =>
 R (.returned (.int .i64 n22)) H7) <|
 iteB (n == (3 : Int)) (
 ldInt H1 ⟨r, 0, none⟩ .i64 fun n23 =>
 ldStr H1 ⟨r, 1, none⟩ fun s6 =>
 ldStr H1 ⟨r, 2, none⟩ fun s7 =>
 ldStr H1 ⟨r, 3, none⟩ fun s8 =>
 ldInt H1 ⟨r, 4, none⟩ .i64 fun n24 =>
 ldInt H1 ⟨r, 5, none⟩ .i64 fun n25 =>
 ldInt H1 ⟨r, 6, none⟩ .i64 fun n26 =>
 ldInt H1 ⟨r, 7, none⟩ .i64 fun n27 =>
 ldInt H1 ⟨r, 8, none⟩ .i64 fun n28 =>
 ldInt H1 ⟨r, 9, none⟩ .i64 fun n29 =>
 ldInt H1 ⟨r, 10, none⟩ .i64 fun n30 =>
 ldInt H1 ⟨r, 11, none⟩ .i64 fun n31 =>
 ldInt H1 ⟨r, 12, none⟩ .i64 fun n32 =>
 ldBool H1 ⟨r, 13, none⟩ fun b10 =>
 ldBool H1 ⟨r, 14, none⟩ fun b11 =>
 ldBool H1 ⟨r, 15, none⟩ fun b12 =>
 ldBool H1 ⟨r, 16, none⟩ fun b13 =>
 ldBool H1 ⟨r, 17, none⟩ fun b14 =>
 ldSl H1 ⟨r, 18, none⟩ fun q6 q6n q6c =>
 ldSl H1 ⟨r, 19, none⟩ fun q7 q7n q7c =>
 ldSl H1 ⟨r, 20, none⟩ fun q8 q8n q8c =>
 callD Try.prog 77 [(.agg ⟨[(.int .i64 n23), (.string s6), (.string s7), (.string s8), (.int .i64 n24), (.int .i64 n25), (.int .i64 n26), (.int .i64 n27), (.int .i64 n28), (.int .i64 n29), (.int .i64 n30), (.int .i64 n31), (.int .i64 n32), (.bool b10), (.bool b11), (.bool b12), (.bool b13), (.bool b14), (.slice q6 q6n q6c), (.slice q7 q7n q7c), (.slice q8 q8n q8c)]⟩)] H1 (panK R) fun v6 H8 =>
 tPtr v6 fun p2 =>
 callD Try.prog 76 [(.pointer p2)] H8 (panK R) fun v7 H9 =>
 tIf v7 fun i2 =>
 callD Try.prog 48 [(IV.v i2)] H9 (panK R) fun v8 H10 =>
 tInt v8 .i64 fun n33 =>
 R (.returned (.int .i64 n33)) H10) <|
 iteB (n == (4 : Int)) (
 ldInt H1 ⟨r, 0, none⟩ .i64 fun n34 =>
 ldStr H1 ⟨r, 1, none⟩ fun s9 =>
 ldStr H1 ⟨r, 2, none⟩ fun s10 =>
 ldStr H1 ⟨r, 3, none⟩ fun s11 =>
 ldInt H1 ⟨r, 4, none⟩ .i64 fun n35 =>
 ldInt H1 ⟨r, 5, none⟩ .i64 fun n36 =>
 ldInt H1 ⟨r, 6, none⟩ .i64 fun n37 =>
 ldInt H1 ⟨r, 7, none⟩ .i64 fun n38 =>
 ldInt H1 ⟨r, 8, none⟩ .i64 fun n39 =>
 ldInt H1 ⟨r, 9, none⟩ .i64 fun n40 =>
 ldInt H1 ⟨r, 10, none⟩ .i64 fun n41 =>
 ldInt H1 ⟨r, 11, none⟩ .i64 fun n42 =>
 ldInt H1 ⟨r, 12, none⟩ .i64 fun n43 =>
 ldBool H1 ⟨r, 13, none⟩ fun b15 =>
 ldBool H1 ⟨r, 14, none⟩ fun b16 =>
 ldBool H1 ⟨r, 15, none⟩ fun b17 =>
 ldBool H1 ⟨r, 16, none⟩ fun b18 =>
 ldBool H1 ⟨r, 17, none⟩ fun b19 =>
 ldSl H1 ⟨r, 18, none⟩ fun q9 q9n q9c =>
 ldSl H1 ⟨r, 19, none⟩ fun q10 q10n q10c =>
 ldSl H1 ⟨r, 20, none⟩ fun q11 q11n q11c =>
 callD Try.prog 79 [(.agg ⟨[(.int .i64 n34), (.string s9), (.string s10), (.string s11), (.int .i64 n35), (.int .i64 n36), (.int .i64 n37), (.int .i64 n38), (.int .i64 n39), (.int .i64 n40), (.int .i64 n41), (.int .i64 n42), (.int .i64 n43), (.bool b15), (.bool b16), (.bool b17), (.bool b18), (.bool b19), (.slice q9 q9n q9c), (.slice q10 q10n q10c), (.slice q11 q11n q11c)]⟩)] H1 (panK R) fun v9 H11 =>
 tPtr v9 fun p3 =>
 callD Try.prog 78 [(.pointer p3), (.int .i64 most)] H11 (panK R) fun v10 H12 =>
 tIf v10 fun i3 =>
 callD Try.prog 48 [(IV.v i3)] H12 (panK R) fun v11 H13 =>
 tInt v11 .i64 fun n44 =>
 R (.returned (.int .i64 n44)) H13) <|
 R (.returned (.int .i64 (8 : Int))) H1
theorem calls {r_0 : Int} {r_1 r_2 r_3 : ByteArray} {r_4 r_5 r_6 r_7 r_8 r_9 r_10 r_11 r_12 : Int} {r_13 r_14 r_15 r_16 r_17 : Bool} {r_18 : OA} {r_18n r_18c : Nat} {r_19 : OA} {r_19n r_19c : Nat} {r_20 : OA} {r_20n r_20c : Nat} {most : Int} {H : Heap} {R : EH} (h : go r_0 r_1 r_2 r_3 r_4 r_5 r_6 r_7 r_8 r_9 r_10 r_11 r_12 r_13 r_14 r_15 r_16 r_17 r_18 r_18n r_18c r_19 r_19n r_19c r_20 r_20n r_20c most H R) : CallsH Try.prog 45 ⟨[(.agg ⟨[(.int .i64 r_0), (.string r_1), (.string r_2), (.string r_3), (.int .i64 r_4), (.int .i64 r_5), (.int .i64 r_6), (.int .i64 r_7), (.int .i64 r_8), (.int .i64 r_9), (.int .i64 r_10), (.int .i64 r_11), (.int .i64 r_12), (.bool r_13), (.bool r_14), (.bool r_15), (.bool r_16), (.bool r_17), (.slice r_18 r_18n r_18c), (.slice r_19 r_19n r_19c), (.slice r_20 r_20n r_20c)]⟩), (.int .i64 most)]⟩ H R :=
 callsH_of_den (an := an) (fuel := 100000) (X := go r_0 r_1 r_2 r_3 r_4 r_5 r_6 r_7 r_8 r_9 r_10 r_11 r_12 r_13 r_14 r_15 r_16 r_17 r_18 r_18n r_18c r_19 r_19n r_19c r_20 r_20n r_20c most H R) (c := body) mixed fn (by kernel_rfl) (by kernel_rfl) (by kernel_rfl) ok (by kernel_rfl) h
end F45
/-! ### 46 "pub-stadtholder/pub/etcdserver/etcdserver/api/v3rpc.ZzIntervals" -/
namespace F46
def an : Ann := { kinds := [], taus := [], pairs := [], lab := [] }
noncomputable def body : Code := (Try.f46.body).getD .skip
theorem fn : Try.prog.funcs[46]? = some Try.f46 := by kernel_rfl
theorem ok : codeOk an 10 body = true := by kernel_rfl
def go (reqs : OA) (reqsn reqsc : Nat) (H : Heap) (R : EH) : Prop :=
 callD Try.prog 80 [(.slice reqs reqsn reqsc)] H (panK R) fun v H1 =>
 tTup v fun l =>
 tCons l fun c l1 =>
 tMap c fun m =>
 tCons l1 fun c1 l2 =>
 tIf c1 fun i =>
 tCons l2 fun c2 l3 =>
 tIf c2 fun i1 =>
 tNil l3 <|
 R (.returned (.tuple ⟨[(.map m), (IV.v i), (IV.v i1)]⟩)) H1
theorem calls {reqs : OA} {reqsn reqsc : Nat} {H : Heap} {R : EH} (h : go reqs reqsn reqsc H R) : CallsH Try.prog 46 ⟨[(.slice reqs reqsn reqsc)]⟩ H R :=
 callsH_of_den (an := an) (fuel := 100000) (X := go reqs reqsn reqsc H R) (c := body) mixed fn (by kernel_rfl) (by kernel_rfl) (by kernel_rfl) ok (by kernel_rfl) h
end F46
/-! ### 47 "pub-stadtholder/impl.opsIn" -/
namespace F47
def an : Ann := { kinds := [], taus := [], pairs := [], lab := [(40000004, [0, 3, 4]), (40000005, [0, 3, 4])] }
noncomputable def body : Code := (Try.f47.body).getD .skip
theorem fn : Try.prog.funcs[47]? = some Try.f47 := by kernel_rfl
theorem ok : codeOk an 77 body = true := by kernel_rfl
noncomputable def L0t : List Item := [.code (sub [1, 1, 0, 1, 0, 0] body), .inLoop (sub [1, 1, 0, 1, 0, 0] body), .inBlock 0, .code (sub [1, 1, 1] body)]
def L0 (s0 : OA) (s0n s0c : Nat) (s3 : OA) (s3n s3c : Nat) (s4 : Int) (H : Heap) (R : EH) : Prop :=
 GoL Try.prog 47 77 L0t [0, 3, 4] [(.slice s0 s0n s0c), (.slice s3 s3n s3c), (.int .i64 s4)] H R
noncomputable def L1t : List Item := [.code (sub [1, 1, 0, 1, 0, 0, 1, 1] body), .inLoop (sub [1, 1, 0, 1, 0, 0] body), .inBlock 0, .code (sub [1, 1, 1] body)]
def L1 (s0 : OA) (s0n s0c : Nat) (s3 : OA) (s3n s3c : Nat) (s4 : Int) (H : Heap) (R : EH) : Prop :=
 GoL Try.prog 47 77 L1t [0, 3, 4] [(.slice s0 s0n s0c), (.slice s3 s3n s3c), (.int .i64 s4)] H R
def L0n (s0 : OA) (s0n s0c : Nat) (s3 : OA) (s3n s3c : Nat) (s4 : Int) (H : Heap) (R : EH) : Prop :=
 iteB (decide (s4 < ((s0n : Nat) : Int))) (
 idxD s0 s0n s4 fun a =>
 ldInt H (Addr.add a (Int.toNat s4 * 21)) .i64 fun n =>
 iteB (n == (1 : Int)) (
 idxD s0 s0n s4 fun a1 =>
 ldInt H (Addr.add a1 (Int.toNat s4 * 21)) .i64 fun n1 =>
 ldStr H (Addr.add (Addr.add a1 (Int.toNat s4 * 21)) 1) fun s =>
 ldStr H (Addr.add (Addr.add a1 (Int.toNat s4 * 21)) 2) fun s1 =>
 ldStr H (Addr.add (Addr.add a1 (Int.toNat s4 * 21)) 3) fun s2 =>
 ldInt H (Addr.add (Addr.add a1 (Int.toNat s4 * 21)) 4) .i64 fun n2 =>
 ldInt H (Addr.add (Addr.add a1 (Int.toNat s4 * 21)) 5) .i64 fun n3 =>
 ldInt H (Addr.add (Addr.add a1 (Int.toNat s4 * 21)) 6) .i64 fun n4 =>
 ldInt H (Addr.add (Addr.add a1 (Int.toNat s4 * 21)) 7) .i64 fun n5 =>
 ldInt H (Addr.add (Addr.add a1 (Int.toNat s4 * 21)) 8) .i64 fun n6 =>
 ldInt H (Addr.add (Addr.add a1 (Int.toNat s4 * 21)) 9) .i64 fun n7 =>
 ldInt H (Addr.add (Addr.add a1 (Int.toNat s4 * 21)) 10) .i64 fun n8 =>
 ldInt H (Addr.add (Addr.add a1 (Int.toNat s4 * 21)) 11) .i64 fun n9 =>
 ldInt H (Addr.add (Addr.add a1 (Int.toNat s4 * 21)) 12) .i64 fun n10 =>
 ldBool H (Addr.add (Addr.add a1 (Int.toNat s4 * 21)) 13) fun b =>
 ldBool H (Addr.add (Addr.add a1 (Int.toNat s4 * 21)) 14) fun b1 =>
 ldBool H (Addr.add (Addr.add a1 (Int.toNat s4 * 21)) 15) fun b2 =>
 ldBool H (Addr.add (Addr.add a1 (Int.toNat s4 * 21)) 16) fun b3 =>
 ldBool H (Addr.add (Addr.add a1 (Int.toNat s4 * 21)) 17) fun b4 =>
 ldSl H (Addr.add (Addr.add a1 (Int.toNat s4 * 21)) 18) fun q qn qc =>
 ldSl H (Addr.add (Addr.add a1 (Int.toNat s4 * 21)) 19) fun q1 q1n q1c =>
 ldSl H (Addr.add (Addr.add a1 (Int.toNat s4 * 21)) 20) fun q2 q2n q2c =>
 callD Try.prog 73 [(.agg ⟨[(.int .i64 n1), (.string s), (.string s1), (.string s2), (.int .i64 n2), (.int .i64 n3), (.int .i64 n4), (.int .i64 n5), (.int .i64 n6), (.int .i64 n7), (.int .i64 n8), (.int .i64 n9), (.int .i64 n10), (.bool b), (.bool b1), (.bool b2), (.bool b3), (.bool b4), (.slice q qn qc), (.slice q1 q1n q1c), (.slice q2 q2n q2c)]⟩)] H (panK R) fun v H1 =>
 tPtr v fun p =>
 newD H1 (.cells ⟨[(.pointer p)]⟩ 164) fun r H2 =>
 newD H2 (.cells ⟨[(.iface 162 (.pointer (some ⟨r, 0, none⟩)))]⟩ 166) fun r1 H3 =>
 newD H3 (.cells ⟨[(.pointer (some ⟨r1, 0, none⟩))]⟩ 161) fun r2 H4 =>
 apD H4 1 8 [(.pointer none)] 161 s3 s3n s3c (some ⟨r2, 0, none⟩) 1 fun q3 q3n q3c H5 =>
 L1 s0 s0n s0c q3 q3n q3c s4 H5 R) <|
 iteB (n == (2 : Int)) (
 idxD s0 s0n s4 fun a2 =>
 ldInt H (Addr.add a2 (Int.toNat s4 * 21)) .i64 fun n11 =>
 ldStr H (Addr.add (Addr.add a2 (Int.toNat s4 * 21)) 1) fun s5 =>
 ldStr H (Addr.add (Addr.add a2 (Int.toNat s4 * 21)) 2) fun s6 =>
 ldStr H (Addr.add (Addr.add a2 (Int.toNat s4 * 21)) 3) fun s7 =>
 ldInt H (Addr.add (Addr.add a2 (Int.toNat s4 * 21)) 4) .i64 fun n12 =>
 ldInt H (Addr.add (Addr.add a2 (Int.toNat s4 * 21)) 5) .i64 fun n13 =>
 ldInt H (Addr.add (Addr.add a2 (Int.toNat s4 * 21)) 6) .i64 fun n14 =>
 ldInt H (Addr.add (Addr.add a2 (Int.toNat s4 * 21)) 7) .i64 fun n15 =>
 ldInt H (Addr.add (Addr.add a2 (Int.toNat s4 * 21)) 8) .i64 fun n16 =>
 ldInt H (Addr.add (Addr.add a2 (Int.toNat s4 * 21)) 9) .i64 fun n17 =>
 ldInt H (Addr.add (Addr.add a2 (Int.toNat s4 * 21)) 10) .i64 fun n18 =>
 ldInt H (Addr.add (Addr.add a2 (Int.toNat s4 * 21)) 11) .i64 fun n19 =>
 ldInt H (Addr.add (Addr.add a2 (Int.toNat s4 * 21)) 12) .i64 fun n20 =>
 ldBool H (Addr.add (Addr.add a2 (Int.toNat s4 * 21)) 13) fun b5 =>
 ldBool H (Addr.add (Addr.add a2 (Int.toNat s4 * 21)) 14) fun b6 =>
 ldBool H (Addr.add (Addr.add a2 (Int.toNat s4 * 21)) 15) fun b7 =>
 ldBool H (Addr.add (Addr.add a2 (Int.toNat s4 * 21)) 16) fun b8 =>
 ldBool H (Addr.add (Addr.add a2 (Int.toNat s4 * 21)) 17) fun b9 =>
 ldSl H (Addr.add (Addr.add a2 (Int.toNat s4 * 21)) 18) fun q4 q4n q4c =>
 ldSl H (Addr.add (Addr.add a2 (Int.toNat s4 * 21)) 19) fun q5 q5n q5c =>
 ldSl H (Addr.add (Addr.add a2 (Int.toNat s4 * 21)) 20) fun q6 q6n q6c =>
 callD Try.prog 75 [(.agg ⟨[(.int .i64 n11), (.string s5), (.string s6), (.string s7), (.int .i64 n12), (.int .i64 n13), (.int .i64 n14), (.int .i64 n15), (.int .i64 n16), (.int .i64 n17), (.int .i64 n18), (.int .i64 n19), (.int .i64 n20), (.bool b5), (.bool b6), (.bool b7), (.bool b8), (.bool b9), (.slice q4 q4n q4c), (.slice q5 q5n q5c), (.slice q6 q6n q6c)]⟩)] H (panK R) fun v1 H6 =>
 tPtr v1 fun p1 =>
 newD H6 (.cells ⟨[(.pointer p1)]⟩ 169) fun r3 H7 =>
 newD H7 (.cells ⟨[(.iface 167 (.pointer (some ⟨r3, 0, none⟩)))]⟩ 166) fun r4 H8 =>
 newD H8 (.cells ⟨[(.pointer (some ⟨r4, 0, none⟩))]⟩ 161) fun r5 H9 =>
 apD H9 1 8 [(.pointer none)] 161 s3 s3n s3c (some ⟨r5, 0, none⟩) 1 fun q7 q7n q7c H10 =>
 L1 s0 s0n s0c q7 q7n q7c s4 H10 R) <|
 iteB (n == (3 : Int)) (
 idxD s0 s0n s4 fun a3 =>
 ldInt H (Addr.add a3 (Int.toNat s4 * 21)) .i64 fun n21 =>
 ldStr H (Addr.add (Addr.add a3 (Int.toNat s4 * 21)) 1) fun s8 =>
 ldStr H (Addr.add (Addr.add a3 (Int.toNat s4 * 21)) 2) fun s9 =>
 ldStr H (Addr.add (Addr.add a3 (Int.toNat s4 * 21)) 3) fun s10 =>
 ldInt H (Addr.add (Addr.add a3 (Int.toNat s4 * 21)) 4) .i64 fun n22 =>
 ldInt H (Addr.add (Addr.add a3 (Int.toNat s4 * 21)) 5) .i64 fun n23 =>
 ldInt H (Addr.add (Addr.add a3 (Int.toNat s4 * 21)) 6) .i64 fun n24 =>
 ldInt H (Addr.add (Addr.add a3 (Int.toNat s4 * 21)) 7) .i64 fun n25 =>
 ldInt H (Addr.add (Addr.add a3 (Int.toNat s4 * 21)) 8) .i64 fun n26 =>
 ldInt H (Addr.add (Addr.add a3 (Int.toNat s4 * 21)) 9) .i64 fun n27 =>
 ldInt H (Addr.add (Addr.add a3 (Int.toNat s4 * 21)) 10) .i64 fun n28 =>
 ldInt H (Addr.add (Addr.add a3 (Int.toNat s4 * 21)) 11) .i64 fun n29 =>
 ldInt H (Addr.add (Addr.add a3 (Int.toNat s4 * 21)) 12) .i64 fun n30 =>
 ldBool H (Addr.add (Addr.add a3 (Int.toNat s4 * 21)) 13) fun b10 =>
 ldBool H (Addr.add (Addr.add a3 (Int.toNat s4 * 21)) 14) fun b11 =>
 ldBool H (Addr.add (Addr.add a3 (Int.toNat s4 * 21)) 15) fun b12 =>
 ldBool H (Addr.add (Addr.add a3 (Int.toNat s4 * 21)) 16) fun b13 =>
 ldBool H (Addr.add (Addr.add a3 (Int.toNat s4 * 21)) 17) fun b14 =>
 ldSl H (Addr.add (Addr.add a3 (Int.toNat s4 * 21)) 18) fun q8 q8n q8c =>
 ldSl H (Addr.add (Addr.add a3 (Int.toNat s4 * 21)) 19) fun q9 q9n q9c =>
 ldSl H (Addr.add (Addr.add a3 (Int.toNat s4 * 21)) 20) fun q10 q10n q10c =>
 callD Try.prog 77 [(.agg ⟨[(.int .i64 n21), (.string s8), (.string s9), (.string s10), (.int .i64 n22), (.int .i64 n23), (.int .i64 n24), (.int .i64 n25), (.int .i64 n26), (.int .i64 n27), (.int .i64 n28), (.int .i64 n29), (.int .i64 n30), (.bool b10), (.bool b11), (.bool b12), (.bool b13), (.bool b14), (.slice q8 q8n q8c), (.slice q9 q9n q9c), (.slice q10 q10n q10c)]⟩)] H (panK R) fun v2 H11 =>
 tPtr v2 fun p2 =>
 newD H11 (.cells ⟨[(.pointer p2)]⟩ 172) fun r6 H12 =>
 newD H12 (.cells ⟨[(.iface 170 (.pointer (some ⟨r6, 0, none⟩)))]⟩ 166) fun r7 H13 =>
 newD H13 (.cells ⟨[(.pointer (some ⟨r7, 0, none⟩))]⟩ 161) fun r8 H14 =>
 apD H14 1 8 [(.pointer none)] 161 s3 s3n s3c (some ⟨r8, 0, none⟩) 1 fun q11 q11n q11c H15 =>
 L1 s0 s0n s0c q11 q11n q11c s4 H15 R) <|
 iteB (n == (4 : Int)) (
 idxD s0 s0n s4 fun a4 =>
 ldInt H (Addr.add a4 (Int.toNat s4 * 21)) .i64 fun n31 =>
 ldStr H (Addr.add (Addr.add a4 (Int.toNat s4 * 21)) 1) fun s11 =>
 ldStr H (Addr.add (Addr.add a4 (Int.toNat s4 * 21)) 2) fun s12 =>
 ldStr H (Addr.add (Addr.add a4 (Int.toNat s4 * 21)) 3) fun s13 =>
 ldInt H (Addr.add (Addr.add a4 (Int.toNat s4 * 21)) 4) .i64 fun n32 =>
 ldInt H (Addr.add (Addr.add a4 (Int.toNat s4 * 21)) 5) .i64 fun n33 =>
 ldInt H (Addr.add (Addr.add a4 (Int.toNat s4 * 21)) 6) .i64 fun n34 =>
 ldInt H (Addr.add (Addr.add a4 (Int.toNat s4 * 21)) 7) .i64 fun n35 =>
 ldInt H (Addr.add (Addr.add a4 (Int.toNat s4 * 21)) 8) .i64 fun n36 =>
 ldInt H (Addr.add (Addr.add a4 (Int.toNat s4 * 21)) 9) .i64 fun n37 =>
 ldInt H (Addr.add (Addr.add a4 (Int.toNat s4 * 21)) 10) .i64 fun n38 =>
 ldInt H (Addr.add (Addr.add a4 (Int.toNat s4 * 21)) 11) .i64 fun n39 =>
 ldInt H (Addr.add (Addr.add a4 (Int.toNat s4 * 21)) 12) .i64 fun n40 =>
 ldBool H (Addr.add (Addr.add a4 (Int.toNat s4 * 21)) 13) fun b15 =>
 ldBool H (Addr.add (Addr.add a4 (Int.toNat s4 * 21)) 14) fun b16 =>
 ldBool H (Addr.add (Addr.add a4 (Int.toNat s4 * 21)) 15) fun b17 =>
 ldBool H (Addr.add (Addr.add a4 (Int.toNat s4 * 21)) 16) fun b18 =>
 ldBool H (Addr.add (Addr.add a4 (Int.toNat s4 * 21)) 17) fun b19 =>
 ldSl H (Addr.add (Addr.add a4 (Int.toNat s4 * 21)) 18) fun q12 q12n q12c =>
 ldSl H (Addr.add (Addr.add a4 (Int.toNat s4 * 21)) 19) fun q13 q13n q13c =>
 ldSl H (Addr.add (Addr.add a4 (Int.toNat s4 * 21)) 20) fun q14 q14n q14c =>
 callD Try.prog 79 [(.agg ⟨[(.int .i64 n31), (.string s11), (.string s12), (.string s13), (.int .i64 n32), (.int .i64 n33), (.int .i64 n34), (.int .i64 n35), (.int .i64 n36), (.int .i64 n37), (.int .i64 n38), (.int .i64 n39), (.int .i64 n40), (.bool b15), (.bool b16), (.bool b17), (.bool b18), (.bool b19), (.slice q12 q12n q12c), (.slice q13 q13n q13c), (.slice q14 q14n q14c)]⟩)] H (panK R) fun v3 H16 =>
 tPtr v3 fun p3 =>
 newD H16 (.cells ⟨[(.pointer p3)]⟩ 175) fun r9 H17 =>
 newD H17 (.cells ⟨[(.iface 173 (.pointer (some ⟨r9, 0, none⟩)))]⟩ 166) fun r10 H18 =>
 newD H18 (.cells ⟨[(.pointer (some ⟨r10, 0, none⟩))]⟩ 161) fun r11 H19 =>
 apD H19 1 8 [(.pointer none)] 161 s3 s3n s3c (some ⟨r11, 0, none⟩) 1 fun q15 q15n q15c H20 =>
 L1 s0 s0n s0c q15 q15n q15c s4 H20 R) <|
 L1 s0 s0n s0c s3 s3n s3c s4 H R) <|
 R (.returned (.slice s3 s3n s3c)) H
theorem L0_step {s0 : OA} {s0n s0c : Nat} {s3 : OA} {s3n s3c : Nat} {s4 : Int} {H : Heap} {R : EH} (h : L0n s0 s0n s0c s3 s3n s3c s4 H R) : L0 s0 s0n s0c s3 s3n s3c s4 H R :=
 goL_of_den (an := an) (fuel := 100000) (X := L0n s0 s0n s0c s3 s3n s3c s4 H R) mixed fn (by kernel_rfl) (fun ρ0 => by kernel_rfl) h
def L1n (s0 : OA) (s0n s0c : Nat) (s3 : OA) (s3n s3c : Nat) (s4 : Int) (H : Heap) (R : EH) : Prop :=
 L0 s0 s0n s0c s3 s3n s3c (IntKind.wrap .i64 (s4 + (1 : Int))) H R
theorem L1_step {s0 : OA} {s0n s0c : Nat} {s3 : OA} {s3n s3c : Nat} {s4 : Int} {H : Heap} {R : EH} (h : L1n s0 s0n s0c s3 s3n s3c s4 H R) : L1 s0 s0n s0c s3 s3n s3c s4 H R :=
 goL_of_den (an := an) (fuel := 100000) (X := L1n s0 s0n s0c s3 s3n s3c s4 H R) mixed fn (by kernel_rfl) (fun ρ0 => by kernel_rfl) h
def go (s0 : OA) (s0n s0c : Nat) (H : Heap) (R : EH) : Prop :=
 L0 s0 s0n s0c none 0 0 (0 : Int) H R
theorem calls {s0 : OA} {s0n s0c : Nat} {H : Heap} {R : EH} (h : go s0 s0n s0c H R) : CallsH Try.prog 47 ⟨[(.slice s0 s0n s0c)]⟩ H R :=
 callsH_of_den (an := an) (fuel := 100000) (X := go s0 s0n s0c H R) (c := body) mixed fn (by kernel_rfl) (by kernel_rfl) (by kernel_rfl) ok (by kernel_rfl) h
end F47
/-! ### 48 "pub-stadtholder/impl.checkKind" -/
namespace F48
def an : Ann := { kinds := [], taus := [], pairs := [], lab := [] }
noncomputable def body : Code := (Try.f48.body).getD .skip
theorem fn : Try.prog.funcs[48]? = some Try.f48 := by kernel_rfl
theorem ok : codeOk an 27 body = true := by kernel_rfl
def go (err : IV) (H : Heap) (R : EH) : Prop :=
 ifNilD (IV.v err) fun b =>
 iteB b (
 R (.returned (.int .i64 (0 : Int))) H) <|
 rawI Try.prog .eql 98 (IV.v err) (.iface 176 (.string (ByteArray.mk #[101, 116, 99, 100, 115, 101, 114, 118, 101, 114, 58, 32, 107, 101, 121, 32, 105, 115, 32, 110, 111, 116, 32, 112, 114, 111, 118, 105, 100, 101, 100]))) fun b1 =>
 iteB b1 (
 R (.returned (.int .i64 (1 : Int))) H) <|
 rawI Try.prog .eql 98 (IV.v err) (.iface 176 (.string (ByteArray.mk #[101, 116, 99, 100, 115, 101, 114, 118, 101, 114, 58, 32, 118, 97, 108, 117, 101, 32, 105, 115, 32, 112, 114, 111, 118, 105, 100, 101, 100]))) fun b2 =>
 iteB b2 (
 R (.returned (.int .i64 (2 : Int))) H) <|
 rawI Try.prog .eql 98 (IV.v err) (.iface 176 (.string (ByteArray.mk #[101, 116, 99, 100, 115, 101, 114, 118, 101, 114, 58, 32, 108, 101, 97, 115, 101, 32, 105, 115, 32, 112, 114, 111, 118, 105, 100, 101, 100]))) fun b3 =>
 iteB b3 (
 R (.returned (.int .i64 (3 : Int))) H) <|
 rawI Try.prog .eql 98 (IV.v err) (.iface 176 (.string (ByteArray.mk #[101, 116, 99, 100, 115, 101, 114, 118, 101, 114, 58, 32, 116, 111, 111, 32, 109, 97, 110, 121, 32, 111, 112, 101, 114, 97, 116, 105, 111, 110, 115, 32, 105, 110, 32, 116, 120, 110, 32, 114, 101, 113, 117, 101, 115, 116]))) fun b4 =>
 iteB b4 (
 R (.returned (.int .i64 (4 : Int))) H) <|
 rawI Try.prog .eql 98 (IV.v err) (.iface 176 (.string (ByteArray.mk #[101, 116, 99, 100, 115, 101, 114, 118, 101, 114, 58, 32, 100, 117, 112, 108, 105, 99, 97, 116, 101, 32, 107, 101, 121, 32, 103, 105, 118, 101, 110, 32, 105, 110, 32, 116, 120, 110, 32, 114, 101, 113, 117, 101, 115, 116]))) fun b5 =>
 iteB b5 (
 R (.returned (.int .i64 (5 : Int))) H) <|
 rawI Try.prog .eql 98 (IV.v err) (.iface 176 (.string (ByteArray.mk #[101, 116, 99, 100, 115, 101, 114, 118, 101, 114, 58, 32, 105, 110, 118, 97, 108, 105, 100, 32, 115, 111, 114, 116, 32, 111, 112, 116, 105, 111, 110]))) fun b6 =>
 iteB b6 (
 R (.returned (.int .i64 (6 : Int))) H) <|
 rawI Try.prog .eql 98 (IV.v err) (.iface 176 (.string (ByteArray.mk #[101, 116, 99, 100, 115, 101, 114, 118, 101, 114, 58, 32, 107, 101, 121, 32, 110, 111, 116, 32, 102, 111, 117, 110, 100]))) fun b7 =>
 iteB b7 (
 R (.returned (.int .i64 (7 : Int))) H) <|
 R (.returned (.int .i64 (8 : Int))) H
theorem calls {err : IV} {H : Heap} {R : EH} (h : go err H R) : CallsH Try.prog 48 ⟨[(IV.v err)]⟩ H R :=
 callsH_of_den (an := an) (fuel := 100000) (X := go err H R) (c := body) mixed fn (by kernel_rfl) (by kernel_rfl) (by kernel_rfl) ok (by kernel_rfl) h
end F48
/-! ### 49 "slices.Sort[[]string,string]" -/
namespace F49
def an : Ann := { kinds := [], taus := [], pairs := [], lab := [] }
noncomputable def body : Code := (Try.f49.body).getD .skip
theorem fn : Try.prog.funcs[49]? = some Try.f49 := by kernel_rfl
theorem ok : codeOk an 11 body = true := by kernel_rfl
def go (x : OA) (xn xc : Nat) (H : Heap) (R : EH) : Prop :=
 callD Try.prog 82 [(.int .u64 (IntKind.wrap .u64 ((xn : Nat) : Int)))] H (panK R) fun v H1 =>
 tInt v .i64 fun n =>
 callD Try.prog 81 [(.slice x xn xc), (.int .i64 (0 : Int)), (.int .i64 ((xn : Nat) : Int)), (.int .i64 n)] H1 (panK R) fun v1 H2 =>
 tTup v1 fun l =>
 tNil l <|
 R (.returned (.tuple ⟨[]⟩)) H2
theorem calls {x : OA} {xn xc : Nat} {H : Heap} {R : EH} (h : go x xn xc H R) : CallsH Try.prog 49 ⟨[(.slice x xn xc)]⟩ H R :=
 callsH_of_den (an := an) (fuel := 100000) (X := go x xn xc H R) (c := body) mixed fn (by kernel_rfl) (by kernel_rfl) (by kernel_rfl) ok (by kernel_rfl) h
end F49
/-! ### 51 "pub-stadtholder/impl.Overlaps$1" -/
namespace F51
def an : Ann := { kinds := [(1005, .grow), (1006, .grow)], taus := [(1, [[1, 2, 3, 0, 4, 5, 6, 7, 8]])], pairs := [], lab := [] }
noncomputable def body : Code := (Try.f51.body).getD .skip
theorem fn : Try.prog.funcs[51]? = some Try.f51 := by kernel_rfl
theorem ok : codeOk an 12 body = true := by kernel_rfl
def go (n : OA) (s1 : Addr) (H : Heap) (R : EH) : Prop :=
 nilD n fun a =>
 ldSl H s1 fun q qn qc =>
 ldIf H a fun i =>
 ldIf H (Addr.add a 1) fun i1 =>
 callD Try.prog 52 [(.agg ⟨[(IV.v i), (IV.v i1)]⟩)] H nope fun v H1 =>
 tAgg v fun l =>
 tCons l fun c l1 =>
 tStr c fun s =>
 tCons l1 fun c1 l2 =>
 tStr c1 fun s2 =>
 tCons l2 fun c2 l3 =>
 tBool c2 fun b =>
 tCons l3 fun c3 l4 =>
 tInt c3 .i64 fun n1 =>
 tCons l4 fun c4 l5 =>
 tInt c4 .i64 fun n2 =>
 tNil l5 <|
 andD (ExtH H H1) <|
 newD H1 (.cells ⟨[(.string s), (.string s2), (.bool b), (.int .i64 n1), (.int .i64 n2)]⟩ 35) fun r H2 =>
 apD H2 5 56 [(.string (ByteArray.mk #[])), (.string (ByteArray.mk #[])), (.bool false), (.int .i64 (0 : Int)), (.int .i64 (0 : Int))] 35 q qn qc (some ⟨r, 0, none⟩) 1 fun q1 q1n q1c H3 =>
 st1 H3 s1 (.slice q1 q1n q1c) fun H4 =>
 R (.returned (.bool true)) H4
theorem calls {n : OA} {s1 : Addr} {H : Heap} {R : EH} (h : go n s1 H R) : CallsH Try.prog 51 ⟨[(.pointer n), (.pointer (some s1))]⟩ H R :=
 callsH_of_den (an := an) (fuel := 100000) (X := go n s1 H R) (c := body) mixed fn (by kernel_rfl) (by kernel_rfl) (by kernel_rfl) ok (by kernel_rfl) h
end F51
/-! ### 53 "pub-stadtholder/spec.Deleted" -/
namespace F53
def an : Ann := { kinds := [], taus := [], pairs := [], lab := [] }
noncomputable def body : Code := (Try.f53.body).getD .skip
theorem fn : Try.prog.funcs[53]? = some Try.f53 := by kernel_rfl
theorem ok : codeOk an 12 body = true := by kernel_rfl
def go (r_0 : Int) (r_1 r_2 r_3 : ByteArray) (r_4 r_5 r_6 r_7 r_8 r_9 r_10 r_11 r_12 : Int) (r_13 r_14 r_15 r_16 r_17 : Bool) (r_18 : OA) (r_18n r_18c : Nat) (r_19 : OA) (r_19n r_19c : Nat) (r_20 : OA) (r_20n r_20c : Nat) (H : Heap) (R : EH) : Prop :=
 newD H (.cells ⟨[(.int .i64 r_0), (.string r_1), (.string r_2), (.string r_3), (.int .i64 r_4), (.int .i64 r_5), (.int .i64 r_6), (.int .i64 r_7), (.int .i64 r_8), (.int .i64 r_9), (.int .i64 r_10), (.int .i64 r_11), (.int .i64 r_12), (.bool r_13), (.bool r_14), (.bool r_15), (.bool r_16), (.bool r_17), (.slice r_18 r_18n r_18c), (.slice r_19 r_19n r_19c), (.slice r_20 r_20n r_20c)]⟩ 92) fun r H1 =>
 newD H1 (.cells ⟨[(.string (ByteArray.mk #[])), (.string (ByteArray.mk #[])), (.bool false), (.int .i64 (0 : Int)), (.int .i64 (0 : Int))]⟩ 35) fun r1 H2 =>
 ldStr H2 ⟨r, 1, none⟩ fun s =>
 ldStr H2 ⟨r, 2, none⟩ fun s1 =>
 ldStr H2 ⟨r, 2, none⟩ fun s2 =>
 st1 H2 ⟨r1, 0, none⟩ (.string s) fun H3 =>
 st1 H3 ⟨r1, 1, none⟩ (.string s1) fun H4 =>
 st1 H4 ⟨r1, 2, none⟩ (.bool (eqS s2 (ByteArray.mk #[]))) fun H5 =>
 st1 H5 ⟨r1, 3, none⟩ (.int .i64 (0 : Int)) fun H6 =>
 st1 H6 ⟨r1, 4, none⟩ (.int .i64 (0 : Int)) fun H7 =>
 ldStr H7 ⟨r1, 0, none⟩ fun s3 =>
 ldStr H7 ⟨r1, 1, none⟩ fun s4 =>
 ldBool H7 ⟨r1, 2, none⟩ fun b =>
 ldInt H7 ⟨r1, 3, none⟩ .i64 fun n =>
 ldInt H7 ⟨r1, 4, none⟩ .i64 fun n1 =>
 R (.returned (.agg ⟨[(.string s3), (.string s4), (.bool b), (.int .i64 n), (.int .i64 n1)]⟩)) H7
theorem calls {r_0 : Int} {r_1 r_2 r_3 : ByteArray} {r_4 r_5 r_6 r_7 r_8 r_9 r_10 r_11 r_12 : Int} {r_13 r_14 r_15 r_16 r_17 : Bool} {r_18 : OA} {r_18n r_18c : Nat} {r_19 : OA} {r_19n r_19c : Nat} {r_20 : OA} {r_20n r_20c : Nat} {H : Heap} {R : EH} (h : go r_0 r_1 r_2 r_3 r_4 r_5 r_6 r_7 r_8 r_9 r_10 r_11 r_12 r_13 r_14 r_15 r_16 r_17 r_18 r_18n r_18c r_19 r_19n r_19c r_20 r_20n r_20c H R) : CallsH Try.prog 53 ⟨[(.agg ⟨[(.int .i64 r_0), (.string r_1), (.string r_2), (.string r_3), (.int .i64 r_4), (.int .i64 r_5), (.int .i64 r_6), (.int .i64 r_7), (.int .i64 r_8), (.int .i64 r_9), (.int .i64 r_10), (.int .i64 r_11), (.int .i64 r_12), (.bool r_13), (.bool r_14), (.bool r_15), (.bool r_16), (.bool r_17), (.slice r_18 r_18n r_18c), (.slice r_19 r_19n r_19c), (.slice r_20 r_20n r_20c)]⟩)]⟩ H R :=
 callsH_of_den (an := an) (fuel := 100000) (X := go r_0 r_1 r_2 r_3 r_4 r_5 r_6 r_7 r_8 r_9 r_10 r_11 r_12 r_13 r_14 r_15 r_16 r_17 r_18 r_18n r_18c r_19 r_19n r_19c r_20 r_20n r_20c H R) (c := body) mixed fn (by kernel_rfl) (by kernel_rfl) (by kernel_rfl) ok (by kernel_rfl) h
end F53
/-! ### 54 "pub-stadtholder/spec.HasText" -/
namespace F54
def an : Ann := { kinds := [], taus := [], pairs := [], lab := [(40000003, [0, 1, 5])] }
noncomputable def body : Code := (Try.f54.body).getD .skip
theorem fn : Try.prog.funcs[54]? = some Try.f54 := by kernel_rfl
theorem ok : codeOk an 18 body = true := by kernel_rfl
noncomputable def L0t : List Item := [.code (sub [1, 0, 1, 0, 0] body), .inLoop (sub [1, 0, 1, 0, 0] body), .inBlock 0, .code (sub [1, 1] body)]
def L0 (l : OA) (ln lc : Nat) (s : ByteArray) (i : Int) (H : Heap) (R : EH) : Prop :=
 GoL Try.prog 54 18 L0t [0, 1, 5] [(.slice l ln lc), (.string s), (.int .i64 i)] H R
def L0n (l : OA) (ln lc : Nat) (s : ByteArray) (i : Int) (H : Heap) (R : EH) : Prop :=
 iteB (decide (i < ((ln : Nat) : Int))) (
 idxD l ln i fun a =>
 ldStr H (Addr.add a (Int.toNat i * 1)) fun s1 =>
 iteB (eqS s1 s) (
 R (.returned (.bool true)) H) <|
 L0 l ln lc s (IntKind.wrap .i64 (i + (1 : Int))) H R) <|
 R (.returned (.bool false)) H
theorem L0_step {l : OA} {ln lc : Nat} {s : ByteArray} {i : Int} {H : Heap} {R : EH} (h : L0n l ln lc s i H R) : L0 l ln lc s i H R :=
 goL_of_den (an := an) (fuel := 100000) (X := L0n l ln lc s i H R) mixed fn (by kernel_rfl) (fun ρ0 => by kernel_rfl) h
def go (l : OA) (ln lc : Nat) (s : ByteArray) (H : Heap) (R : EH) : Prop :=
 L0 l ln lc s (0 : Int) H R
theorem calls {l : OA} {ln lc : Nat} {s : ByteArray} {H : Heap} {R : EH} (h : go l ln lc s H R) : CallsH Try.prog 54 ⟨[(.slice l ln lc), (.string s)]⟩ H R :=
 callsH_of_den (an := an) (fuel := 100000) (X := go l ln lc s H R) (c := body) mixed fn (by kernel_rfl) (by kernel_rfl) (by kernel_rfl) ok (by kernel_rfl) h
end F54
/-! ### 55 "(*pub-stadtholder/spec.Touched).clashes" -/
namespace F55
def an : Ann := { kinds := [], taus := [], pairs := [], lab := [] }
noncomputable def body : Code := (Try.f55.body).getD .skip
theorem fn : Try.prog.funcs[55]? = some Try.f55 := by kernel_rfl
theorem ok : codeOk an 14 body = true := by kernel_rfl
def go (t : OA) (key : ByteArray) (H : Heap) (R : EH) : Prop :=
 nilD t fun a =>
 callD Try.prog 64 [(.pointer (some (Addr.add a 1))), (.agg ⟨[(.string key), (.string (ByteArray.mk #[])), (.bool true), (.int .i64 (0 : Int)), (.int .i64 (0 : Int))]⟩)] H (panK R) fun v H1 =>
 tSl v fun q qn qc =>
 R (.returned (.bool (decide (((qn : Nat) : Int) > (0 : Int))))) H1
theorem calls {t : OA} {key : ByteArray} {H : Heap} {R : EH} (h : go t key H R) : CallsH Try.prog 55 ⟨[(.pointer t), (.string key)]⟩ H R :=
 callsH_of_den (an := an) (fuel := 100000) (X := go t key H R) (c := body) mixed fn (by kernel_rfl) (by kernel_rfl) (by kernel_rfl) ok (by kernel_rfl) h
end F55
/-! ### 56 "pub-stadtholder/spec.PutText" -/
namespace F56
def an : Ann := { kinds := [], taus := [], pairs := [], lab := [(40000005, [0, 1, 5, 6, 7]), (70000008, [0, 1, 5, 7]), (60000010, [0, 1, 5, 6, 7]), (40000006, [0, 1, 5, 6, 7])] }
noncomputable def body : Code := (Try.f56.body).getD .skip
theorem fn : Try.prog.funcs[56]? = some Try.f56 := by kernel_rfl
theorem ok : codeOk an 48 body = true := by kernel_rfl
noncomputable def L0t : List Item := [.code (sub [1, 1, 1, 0, 1, 0, 0] body), .inLoop (sub [1, 1, 1, 0, 1, 0, 0] body), .inBlock 0, .code (sub [1, 1, 1, 1] body)]
def L0 (l : OA) (ln lc : Nat) (s : ByteArray) (out : OA) (outn outc : Nat) (put : Bool) (i : Int) (H : Heap) (R : EH) : Prop :=
 GoL Try.prog 56 48 L0t [0, 1, 5, 6, 7] [(.slice l ln lc), (.string s), (.slice out outn outc), (.bool put), (.int .i64 i)] H R
noncomputable def L1t : List Item := [.code (sub [1, 1, 1, 0, 1, 0, 0, 1, 0, 0, 0, 1, 0] body), .code (sub [1, 1, 1, 0, 1, 0, 0, 1, 0, 0, 1] body), .inBlock 1, .code (sub [1, 1, 1, 0, 1, 0, 0, 1, 1] body), .inLoop (sub [1, 1, 1, 0, 1, 0, 0] body), .inBlock 0, .code (sub [1, 1, 1, 1] body)]
def L1 (l : OA) (ln lc : Nat) (s : ByteArray) (out : OA) (outn outc : Nat) (i : Int) (H : Heap) (R : EH) : Prop :=
 GoL Try.prog 56 48 L1t [0, 1, 5, 7] [(.slice l ln lc), (.string s), (.slice out outn outc), (.int .i64 i)] H R
noncomputable def L2t : List Item := [.code (sub [1, 1, 1, 0, 1, 0, 0, 1, 0, 0, 1] body), .inBlock 1, .code (sub [1, 1, 1, 0, 1, 0, 0, 1, 1] body), .inLoop (sub [1, 1, 1, 0, 1, 0, 0] body), .inBlock 0, .code (sub [1, 1, 1, 1] body)]
def L2 (l : OA) (ln lc : Nat) (s : ByteArray) (out : OA) (outn outc : Nat) (put : Bool) (i : Int) (H : Heap) (R : EH) : Prop :=
 GoL Try.prog 56 48 L2t [0, 1, 5, 6, 7] [(.slice l ln lc), (.string s), (.slice out outn outc), (.bool put), (.int .i64 i)] H R
noncomputable def L3t : List Item := [.code (sub [1, 1, 1, 0, 1, 0, 0, 1, 1] body), .inLoop (sub [1, 1, 1, 0, 1, 0, 0] body), .inBlock 0, .code (sub [1, 1, 1, 1] body)]
def L3 (l : OA) (ln lc : Nat) (s : ByteArray) (out : OA) (outn outc : Nat) (put : Bool) (i : Int) (H : Heap) (R : EH) : Prop :=
 GoL Try.prog 56 48 L3t [0, 1, 5, 6, 7] [(.slice l ln lc), (.string s), (.slice out outn outc), (.bool put), (.int .i64 i)] H R
def L0n (l : OA) (ln lc : Nat) (s : ByteArray) (out : OA) (outn outc : Nat) (put : Bool) (i : Int) (H : Heap) (R : EH) : Prop :=
 iteB (decide (i < ((ln : Nat) : Int))) (
 iteB (!put) (
 idxD l ln i fun a =>
 ldStr H (Addr.add a (Int.toNat i * 1)) fun s1 =>
 iteB (ltS s s1 || eqS s s1) (
 L1 l ln lc s out outn outc i H R) <|
 L2 l ln lc s out outn outc put i H R) <|
 L2 l ln lc s out outn outc put i H R) <|
 iteB (!put) (
 newD H (.cells ⟨[(.string s)]⟩ 9) fun r H1 =>
 apD H1 1 16 [(.string (ByteArray.mk #[]))] 9 out outn outc (some ⟨r, 0, none⟩) 1 fun q qn qc H2 =>
 R (.returned (.slice q qn qc)) H2) <|
 R (.returned (.slice out outn outc)) H
theorem L0_step {l : OA} {ln lc : Nat} {s : ByteArray} {out : OA} {outn outc : Nat} {put : Bool} {i : Int} {H : Heap} {R : EH} (h : L0n l ln lc s out outn outc put i H R) : L0 l ln lc s out outn outc put i H R :=
 goL_of_den (an := an) (fuel := 100000) (X := L0n l ln lc s out outn outc put i H R) mixed fn (by kernel_rfl) (fun ρ0 => by kernel_rfl) h
def L1n (l : OA) (ln lc : Nat) (s : ByteArray) (out : OA) (outn outc : Nat) (i : Int) (H : Heap) (R : EH) : Prop :=
 newD H (.cells ⟨[(.string s)]⟩ 9) fun r H1 =>
 apD H1 1 16 [(.string (ByteArray.mk #[]))] 9 out outn outc (some ⟨r, 0, none⟩) 1 fun q qn qc H2 =>
 L2 l ln lc s q qn qc true i H2 R
theorem L1_step {l : OA} {ln lc : Nat} {s : ByteArray} {out : OA} {outn outc : Nat} {i : Int} {H : Heap} {R : EH} (h : L1n l ln lc s out outn outc i H R) : L1 l ln lc s out outn outc i H R :=
 goL_of_den (an := an) (fuel := 100000) (X := L1n l ln lc s out outn outc i H R) mixed fn (by kernel_rfl) (fun ρ0 => by kernel_rfl) h
def L2n (l : OA) (ln lc : Nat) (s : ByteArray) (out : OA) (outn outc : Nat) (put : Bool) (i : Int) (H : Heap) (R : EH) : Prop :=
 idxD l ln i fun a =>
 ldStr H (Addr.add a (Int.toNat i * 1)) fun s1 =>
 iteB (!eqS s1 s) (
 idxD l ln i fun a1 =>
 ldStr H (Addr.add a1 (Int.toNat i * 1)) fun s2 =>
 newD H (.cells ⟨[(.string s2)]⟩ 9) fun r H1 =>
 apD H1 1 16 [(.string (ByteArray.mk #[]))] 9 out outn outc (some ⟨r, 0, none⟩) 1 fun q qn qc H2 =>
 L3 l ln lc s q qn qc put i H2 R) <|
 L3 l ln lc s out outn outc put i H R
theorem L2_step {l : OA} {ln lc : Nat} {s : ByteArray} {out : OA} {outn outc : Nat} {put : Bool} {i : Int} {H : Heap} {R : EH} (h : L2n l ln lc s out outn outc put i H R) : L2 l ln lc s out outn outc put i H R :=
 goL_of_den (an := an) (fuel := 100000) (X := L2n l ln lc s out outn outc put i H R) mixed fn (by kernel_rfl) (fun ρ0 => by kernel_rfl) h
def L3n (l : OA) (ln lc : Nat) (s : ByteArray) (out : OA) (outn outc : Nat) (put : Bool) (i : Int) (H : Heap) (R : EH) : Prop :=
 L0 l ln lc s out outn outc put (IntKind.wrap .i64 (i + (1 : Int))) H R
theorem L3_step {l : OA} {ln lc : Nat} {s : ByteArray} {out : OA} {outn outc : Nat} {put : Bool} {i : Int} {H : Heap} {R : EH} (h : L3n l ln lc s out outn outc put i H R) : L3 l ln lc s out outn outc put i H R :=
 goL_of_den (an := an) (fuel := 100000) (X := L3n l ln lc s out outn outc put i H R) mixed fn (by kernel_rfl) (fun ρ0 => by kernel_rfl) h
def go (l : OA) (ln lc : Nat) (s : ByteArray) (H : Heap) (R : EH) : Prop :=
 L0 l ln lc s none 0 0 false (0 : Int) H R
theorem calls {l : OA} {ln lc : Nat} {s : ByteArray} {H : Heap} {R : EH} (h : go l ln lc s H R) : CallsH Try.prog 56 ⟨[(.slice l ln lc), (.string s)]⟩ H R :=
 callsH_of_den (an := an) (fuel := 100000) (X := go l ln lc s H R) (c := body) mixed fn (by kernel_rfl) (by kernel_rfl) (by kernel_rfl) ok (by kernel_rfl) h
end F56
/-! ### 73 "pub-stadtholder/impl.rangeIn" -/
namespace F73
def an : Ann := { kinds := [(1002, .grow), (1005, .grow), (1012, .grow), (1015, .grow), (1031, .grow)], taus := [(1, [[0, 3, 6, 8, 10, 13, 16, 18, 20, 22, 24, 26, 28, 1, 4, 7, 9, 11, 14, 17, 19, 21, 23, 25, 27, 29, 2, 5, 12, 15, 30, 31, 32], [0, 3, 6, 8, 10, 13, 16, 18, 20, 22, 24, 26, 28, 1, 4, 7, 9, 11, 14, 17, 19, 21, 23, 25, 27, 29, 5, 2, 12, 15, 30, 31, 32], [0, 3, 6, 8, 10, 13, 16, 18, 20, 22, 24, 26, 28, 1, 4, 7, 9, 11, 14, 17, 19, 21, 23, 25, 27, 29, 5, 12, 2, 15, 30, 31, 32], [0, 3, 6, 8, 10, 13, 16, 18, 20, 22, 24, 26, 28, 1, 4, 7, 9, 11, 14, 17, 19, 21, 23, 25, 27, 29, 5, 12, 15, 2, 30, 31, 32]])], pairs := [(1, [(2, 5), (2, 12), (2, 15)])], lab := [] }
noncomputable def body : Code := (Try.f73.body).getD .skip
theorem fn : Try.prog.funcs[73]? = some Try.f73 := by kernel_rfl
theorem ok : codeOk an 35 body = true := by kernel_rfl
def go (r_0 : Int) (r_1 r_2 r_3 : ByteArray) (r_4 r_5 r_6 r_7 r_8 r_9 r_10 r_11 r_12 : Int) (r_13 r_14 r_15 r_16 r_17 : Bool) (r_18 : OA) (r_18n r_18c : Nat) (r_19 : OA) (r_19n r_19c : Nat) (r_20 : OA) (r_20n r_20c : Nat) (H : Heap) (R : EH) : Prop :=
 newD H (.cells ⟨[(.int .i64 r_0), (.string r_1), (.string r_2), (.string r_3), (.int .i64 r_4), (.int .i64 r_5), (.int .i64 r_6), (.int .i64 r_7), (.int .i64 r_8), (.int .i64 r_9), (.int .i64 r_10), (.int .i64 r_11), (.int .i64 r_12), (.bool r_13), (.bool r_14), (.bool r_15), (.bool r_16), (.bool r_17), (.slice r_18 r_18n r_18c), (.slice r_19 r_19n r_19c), (.slice r_20 r_20n r_20c)]⟩ 92) fun r H1 =>
 (
 ldStr H1 ⟨r, 1, none⟩ fun s =>
 ldStr H1 ⟨r, 2, none⟩ fun s1 =>
 ldInt H1 ⟨r, 6, none⟩ .i64 fun n =>
 ldInt H1 ⟨r, 5, none⟩ .i64 fun n1 =>
 ldInt H1 ⟨r, 7, none⟩ .i64 fun n2 =>
 ldInt H1 ⟨r, 8, none⟩ .i64 fun n3 =>
 ldBool H1 ⟨r, 15, none⟩ fun b =>
 ldBool H1 ⟨r, 13, none⟩ fun b1 =>
 ldBool H1 ⟨r, 14, none⟩ fun b2 =>
 ldInt H1 ⟨r, 9, none⟩ .i64 fun n4 =>
 ldInt H1 ⟨r, 10, none⟩ .i64 fun n5 =>
 ldInt H1 ⟨r, 11, none⟩ .i64 fun n6 =>
 ldInt H1 ⟨r, 12, none⟩ .i64 fun n7 =>
 sbD H1 5 s fun r1 c H2 =>
 callD Try.prog 93 [(.string s1)] H2 nope fun v H3 =>
 tSl v fun q qn qc =>
 andD (ExtH H2 H3) <|
 callD Try.prog 58 [(.int .i64 n2)] H3 nope fun v1 H4 =>
 tInt v1 .i32 fun n8 =>
 andD (ExtH H3 H4) <|
 callD Try.prog 58 [(.int .i64 n3)] H4 nope fun v2 H5 =>
 tInt v2 .i32 fun n9 =>
 andD (ExtH H4 H5) <|
 newD H5 (.cells ⟨[(.slice (some ⟨r1, 0, none⟩) (ByteArray.size s) c), (.slice q qn qc), (.int .i64 n), (.int .i64 n1), (.int .i32 n8), (.int .i32 n9), (.bool b), (.bool b1), (.bool b2), (.int .i64 n4), (.int .i64 n5), (.int .i64 n6), (.int .i64 n7)]⟩ 211) fun r2 H6 =>
 R (.returned (.pointer (some ⟨r2, 0, none⟩))) H6) ∧
 (
 ldStr H1 ⟨r, 1, none⟩ fun s2 =>
 ldStr H1 ⟨r, 2, none⟩ fun s3 =>
 ldInt H1 ⟨r, 6, none⟩ .i64 fun n10 =>
 ldInt H1 ⟨r, 5, none⟩ .i64 fun n11 =>
 ldInt H1 ⟨r, 7, none⟩ .i64 fun n12 =>
 ldInt H1 ⟨r, 8, none⟩ .i64 fun n13 =>
 ldBool H1 ⟨r, 15, none⟩ fun b3 =>
 ldBool H1 ⟨r, 13, none⟩ fun b4 =>
 ldBool H1 ⟨r, 14, none⟩ fun b5 =>
 ldInt H1 ⟨r, 9, none⟩ .i64 fun n14 =>
 ldInt H1 ⟨r, 10, none⟩ .i64 fun n15 =>
 ldInt H1 ⟨r, 11, none⟩ .i64 fun n16 =>
 ldInt H1 ⟨r, 12, none⟩ .i64 fun n17 =>
 callD Try.prog 93 [(.string s3)] H1 nope fun v3 H7 =>
 tSl v3 fun q1 q1n q1c =>
 andD (ExtH H1 H7) <|
 sbD H7 5 s2 fun r3 c1 H8 =>
 callD Try.prog 58 [(.int .i64 n12)] H8 nope fun v4 H9 =>
 tInt v4 .i32 fun n18 =>
 andD (ExtH H8 H9) <|
 callD Try.prog 58 [(.int .i64 n13)] H9 nope fun v5 H10 =>
 tInt v5 .i32 fun n19 =>
 andD (ExtH H9 H10) <|
 newD H10 (.cells ⟨[(.slice (some ⟨r3, 0, none⟩) (ByteArray.size s2) c1), (.slice q1 q1n q1c), (.int .i64 n10), (.int .i64 n11), (.int .i32 n18), (.int .i32 n19), (.bool b3), (.bool b4), (.bool b5), (.int .i64 n14), (.int .i64 n15), (.int .i64 n16), (.int .i64 n17)]⟩ 211) fun r4 H11 =>
 R (.returned (.pointer (some ⟨r4, 0, none⟩))) H11) ∧
 (
 ldStr H1 ⟨r, 1, none⟩ fun s4 =>
 ldStr H1 ⟨r, 2, none⟩ fun s5 =>
 ldInt H1 ⟨r, 6, none⟩ .i64 fun n20 =>
 ldInt H1 ⟨r, 5, none⟩ .i64 fun n21 =>
 ldInt H1 ⟨r, 7, none⟩ .i64 fun n22 =>
 ldInt H1 ⟨r, 8, none⟩ .i64 fun n23 =>
 ldBool H1 ⟨r, 15, none⟩ fun b6 =>
 ldBool H1 ⟨r, 13, none⟩ fun b7 =>
 ldBool H1 ⟨r, 14, none⟩ fun b8 =>
 ldInt H1 ⟨r, 9, none⟩ .i64 fun n24 =>
 ldInt H1 ⟨r, 10, none⟩ .i64 fun n25 =>
 ldInt H1 ⟨r, 11, none⟩ .i64 fun n26 =>
 ldInt H1 ⟨r, 12, none⟩ .i64 fun n27 =>
 callD Try.prog 93 [(.string s5)] H1 nope fun v6 H12 =>
 tSl v6 fun q2 q2n q2c =>
 andD (ExtH H1 H12) <|
 callD Try.prog 58 [(.int .i64 n22)] H12 nope fun v7 H13 =>
 tInt v7 .i32 fun n28 =>
 andD (ExtH H12 H13) <|
 sbD H13 5 s4 fun r5 c2 H14 =>
 callD Try.prog 58 [(.int .i64 n23)] H14 nope fun v8 H15 =>
 tInt v8 .i32 fun n29 =>
 andD (ExtH H14 H15) <|
 newD H15 (.cells ⟨[(.slice (some ⟨r5, 0, none⟩) (ByteArray.size s4) c2), (.slice q2 q2n q2c), (.int .i64 n20), (.int .i64 n21), (.int .i32 n28), (.int .i32 n29), (.bool b6), (.bool b7), (.bool b8), (.int .i64 n24), (.int .i64 n25), (.int .i64 n26), (.int .i64 n27)]⟩ 211) fun r6 H16 =>
 R (.returned (.pointer (some ⟨r6, 0, none⟩))) H16) ∧
 (
 ldStr H1 ⟨r, 1, none⟩ fun s6 =>
 ldStr H1 ⟨r, 2, none⟩ fun s7 =>
 ldInt H1 ⟨r, 6, none⟩ .i64 fun n30 =>
 ldInt H1 ⟨r, 5, none⟩ .i64 fun n31 =>
 ldInt H1 ⟨r, 7, none⟩ .i64 fun n32 =>
 ldInt H1 ⟨r, 8, none⟩ .i64 fun n33 =>
 ldBool H1 ⟨r, 15, none⟩ fun b9 =>
 ldBool H1 ⟨r, 13, none⟩ fun b10 =>
 ldBool H1 ⟨r, 14, none⟩ fun b11 =>
 ldInt H1 ⟨r, 9, none⟩ .i64 fun n34 =>
 ldInt H1 ⟨r, 10, none⟩ .i64 fun n35 =>
 ldInt H1 ⟨r, 11, none⟩ .i64 fun n36 =>
 ldInt H1 ⟨r, 12, none⟩ .i64 fun n37 =>
 callD Try.prog 93 [(.string s7)] H1 nope fun v9 H17 =>
 tSl v9 fun q3 q3n q3c =>
 andD (ExtH H1 H17) <|
 callD Try.prog 58 [(.int .i64 n32)] H17 nope fun v10 H18 =>
 tInt v10 .i32 fun n38 =>
 andD (ExtH H17 H18) <|
 callD Try.prog 58 [(.int .i64 n33)] H18 nope fun v11 H19 =>
 tInt v11 .i32 fun n39 =>
 andD (ExtH H18 H19) <|
 sbD H19 5 s6 fun r7 c3 H20 =>
 newD H20 (.cells ⟨[(.slice (some ⟨r7, 0, none⟩) (ByteArray.size s6) c3), (.slice q3 q3n q3c), (.int .i64 n30), (.int .i64 n31), (.int .i32 n38), (.int .i32 n39), (.bool b9), (.bool b10), (.bool b11), (.int .i64 n34), (.int .i64 n35), (.int .i64 n36), (.int .i64 n37)]⟩ 211) fun r8 H21 =>
 R (.returned (.pointer (some ⟨r8, 0, none⟩))) H21)
theorem calls {r_0 : Int} {r_1 r_2 r_3 : ByteArray} {r_4 r_5 r_6 r_7 r_8 r_9 r_10 r_11 r_12 : Int} {r_13 r_14 r_15 r_16 r_17 : Bool} {r_18 : OA} {r_18n r_18c : Nat} {r_19 : OA} {r_19n r_19c : Nat} {r_20 : OA} {r_20n r_20c : Nat} {H : Heap} {R : EH} (h : go r_0 r_1 r_2 r_3 r_4 r_5 r_6 r_7 r_8 r_9 r_10 r_11 r_12 r_13 r_14 r_15 r_16 r_17 r_18 r_18n r_18c r_19 r_19n r_19c r_20 r_20n r_20c H R) : CallsH Try.prog 73 ⟨[(.agg ⟨[(.int .i64 r_0), (.string r_1), (.string r_2), (.string r_3), (.int .i64 r_4), (.int .i64 r_5), (.int .i64 r_6), (.int .i64 r_7), (.int .i64 r_8), (.int .i64 r_9), (.int .i64 r_10), (.int .i64 r_11), (.int .i64 r_12), (.bool r_13), (.bool r_14), (.bool r_15), (.bool r_16), (.bool r_17), (.slice r_18 r_18n r_18c), (.slice r_19 r_19n r_19c), (.slice r_20 r_20n r_20c)]⟩)]⟩ H R :=
 callsH_of_den (an := an) (fuel := 100000) (X := go r_0 r_1 r_2 r_3 r_4 r_5 r_6 r_7 r_8 r_9 r_10 r_11 r_12 r_13 r_14 r_15 r_16 r_17 r_18 r_18n r_18c r_19 r_19n r_19c r_20 r_20n r_20c H R) (c := body) mixed fn (by kernel_rfl) (by kernel_rfl) (by kernel_rfl) ok (by kernel_rfl) h
end F73
/-! ### 74 "pub-stadtholder/pub/etcdserver/etcdserver/api/v3rpc.ZzPut" -/
namespace F74
def an : Ann := { kinds := [], taus := [], pairs := [], lab := [] }
noncomputable def body : Code := (Try.f74.body).getD .skip
theorem fn : Try.prog.funcs[74]? = some Try.f74 := by kernel_rfl
theorem ok : codeOk an 5 body = true := by kernel_rfl
def go (r : OA) (H : Heap) (R : EH) : Prop :=
 callD Try.prog 94 [(.pointer r)] H (panK R) fun v H1 =>
 tIf v fun i =>
 R (.returned (IV.v i)) H1
theorem calls {r : OA} {H : Heap} {R : EH} (h : go r H R) : CallsH Try.prog 74 ⟨[(.pointer r)]⟩ H R :=
 callsH_of_den (an := an) (fuel := 100000) (X := go r H R) (c := body) mixed fn (by kernel_rfl) (by kernel_rfl) (by kernel_rfl) ok (by kernel_rfl) h
end F74
/-! ### 75 "pub-stadtholder/impl.putIn" -/
namespace F75
def an : Ann := { kinds := [(1002, .loud), (1005, .loud)], taus := [], pairs := [], lab := [] }
noncomputable def body : Code := (Try.f75.body).getD .skip
theorem fn : Try.prog.funcs[75]? = some Try.f75 := by kernel_rfl
theorem ok : codeOk an 19 body = true := by kernel_rfl
def go (r_0 : Int) (r_1 r_2 r_3 : ByteArray) (r_4 r_5 r_6 r_7 r_8 r_9 r_10 r_11 r_12 : Int) (r_13 r_14 r_15 r_16 r_17 : Bool) (r_18 : OA) (r_18n r_18c : Nat) (r_19 : OA) (r_19n r_19c : Nat) (r_20 : OA) (r_20n r_20c : Nat) (H : Heap) (R : EH) : Prop :=
 newD H (.cells ⟨[(.int .i64 r_0), (.string r_1), (.string r_2), (.string r_3), (.int .i64 r_4), (.int .i64 r_5), (.int .i64 r_6), (.int .i64 r_7), (.int .i64 r_8), (.int .i64 r_9), (.int .i64 r_10), (.int .i64 r_11), (.int .i64 r_12), (.bool r_13), (.bool r_14), (.bool r_15), (.bool r_16), (.bool r_17), (.slice r_18 r_18n r_18c), (.slice r_19 r_19n r_19c), (.slice r_20 r_20n r_20c)]⟩ 92) fun r H1 =>
 ldStr H1 ⟨r, 1, none⟩ fun s =>
 sbD H1 5 s fun r1 c H2 =>
 ldStr H2 ⟨r, 3, none⟩ fun s1 =>
 sbD H2 5 s1 fun r2 c1 H3 =>
 ldInt H3 ⟨r, 4, none⟩ .i64 fun n =>
 ldBool H3 ⟨r, 15, none⟩ fun b =>
 ldBool H3 ⟨r, 16, none⟩ fun b1 =>
 ldBool H3 ⟨r, 17, none⟩ fun b2 =>
 newD H3 (.cells ⟨[(.slice (some ⟨r1, 0, none⟩) (ByteArray.size s) c), (.slice (some ⟨r2, 0, none⟩) (ByteArray.size s1) c1), (.int .i64 n), (.bool b), (.bool b1), (.bool b2)]⟩ 213) fun r3 H4 =>
 R (.returned (.pointer (some ⟨r3, 0, none⟩))) H4
theorem calls {r_0 : Int} {r_1 r_2 r_3 : ByteArray} {r_4 r_5 r_6 r_7 r_8 r_9 r_10 r_11 r_12 : Int} {r_13 r_14 r_15 r_16 r_17 : Bool} {r_18 : OA} {r_18n r_18c : Nat} {r_19 : OA} {r_19n r_19c : Nat} {r_20 : OA} {r_20n r_20c : Nat} {H : Heap} {R : EH} (h : go r_0 r_1 r_2 r_3 r_4 r_5 r_6 r_7 r_8 r_9 r_10 r_11 r_12 r_13 r_14 r_15 r_16 r_17 r_18 r_18n r_18c r_19 r_19n r_19c r_20 r_20n r_20c H R) : CallsH Try.prog 75 ⟨[(.agg ⟨[(.int .i64 r_0), (.string r_1), (.string r_2), (.string r_3), (.int .i64 r_4), (.int .i64 r_5), (.int .i64 r_6), (.int .i64 r_7), (.int .i64 r_8), (.int .i64 r_9), (.int .i64 r_10), (.int .i64 r_11), (.int .i64 r_12), (.bool r_13), (.bool r_14), (.bool r_15), (.bool r_16), (.bool r_17), (.slice r_18 r_18n r_18c), (.slice r_19 r_19n r_19c), (.slice r_20 r_20n r_20c)]⟩)]⟩ H R :=
 callsH_of_den (an := an) (fuel := 100000) (X := go r_0 r_1 r_2 r_3 r_4 r_5 r_6 r_7 r_8 r_9 r_10 r_11 r_12 r_13 r_14 r_15 r_16 r_17 r_18 r_18n r_18c r_19 r_19n r_19c r_20 r_20n r_20c H R) (c := body) mixed fn (by kernel_rfl) (by kernel_rfl) (by kernel_rfl) ok (by kernel_rfl) h
end F75
/-! ### 77 "pub-stadtholder/impl.deleteIn" -/
namespace F77
def an : Ann := { kinds := [(1002, .grow), (1005, .grow), (1009, .grow)], taus := [(1, [[0, 3, 6, 1, 4, 7, 2, 5, 8, 9, 10], [0, 3, 6, 1, 4, 7, 5, 2, 8, 9, 10]])], pairs := [(1, [(2, 5)])], lab := [] }
noncomputable def body : Code := (Try.f77.body).getD .skip
theorem fn : Try.prog.funcs[77]? = some Try.f77 := by kernel_rfl
theorem ok : codeOk an 13 body = true := by kernel_rfl
def go (r_0 : Int) (r_1 r_2 r_3 : ByteArray) (r_4 r_5 r_6 r_7 r_8 r_9 r_10 r_11 r_12 : Int) (r_13 r_14 r_15 r_16 r_17 : Bool) (r_18 : OA) (r_18n r_18c : Nat) (r_19 : OA) (r_19n r_19c : Nat) (r_20 : OA) (r_20n r_20c : Nat) (H : Heap) (R : EH) : Prop :=
 newD H (.cells ⟨[(.int .i64 r_0), (.string r_1), (.string r_2), (.string r_3), (.int .i64 r_4), (.int .i64 r_5), (.int .i64 r_6), (.int .i64 r_7), (.int .i64 r_8), (.int .i64 r_9), (.int .i64 r_10), (.int .i64 r_11), (.int .i64 r_12), (.bool r_13), (.bool r_14), (.bool r_15), (.bool r_16), (.bool r_17), (.slice r_18 r_18n r_18c), (.slice r_19 r_19n r_19c), (.slice r_20 r_20n r_20c)]⟩ 92) fun r H1 =>
 (
 ldStr H1 ⟨r, 1, none⟩ fun s =>
 ldStr H1 ⟨r, 2, none⟩ fun s1 =>
 ldBool H1 ⟨r, 15, none⟩ fun b =>
 sbD H1 5 s fun r1 c H2 =>
 callD Try.prog 93 [(.string s1)] H2 nope fun v H3 =>
 tSl v fun q qn qc =>
 andD (ExtH H2 H3) <|
 newD H3 (.cells ⟨[(.slice (some ⟨r1, 0, none⟩) (ByteArray.size s) c), (.slice q qn qc), (.bool b)]⟩ 215) fun r2 H4 =>
 R (.returned (.pointer (some ⟨r2, 0, none⟩))) H4) ∧
 (
 ldStr H1 ⟨r, 1, none⟩ fun s2 =>
 ldStr H1 ⟨r, 2, none⟩ fun s3 =>
 ldBool H1 ⟨r, 15, none⟩ fun b1 =>
 callD Try.prog 93 [(.string s3)] H1 nope fun v1 H5 =>
 tSl v1 fun q1 q1n q1c =>
 andD (ExtH H1 H5) <|
 sbD H5 5 s2 fun r3 c1 H6 =>
 newD H6 (.cells ⟨[(.slice (some ⟨r3, 0, none⟩) (ByteArray.size s2) c1), (.slice q1 q1n q1c), (.bool b1)]⟩ 215) fun r4 H7 =>
 R (.returned (.pointer (some ⟨r4, 0, none⟩))) H7)
theorem calls {r_0 : Int} {r_1 r_2 r_3 : ByteArray} {r_4 r_5 r_6 r_7 r_8 r_9 r_10 r_11 r_12 : Int} {r_13 r_14 r_15 r_16 r_17 : Bool} {r_18 : OA} {r_18n r_18c : Nat} {r_19 : OA} {r_19n r_19c : Nat} {r_20 : OA} {r_20n r_20c : Nat} {H : Heap} {R : EH} (h : go r_0 r_1 r_2 r_3 r_4 r_5 r_6 r_7 r_8 r_9 r_10 r_11 r_12 r_13 r_14 r_15 r_16 r_17 r_18 r_18n r_18c r_19 r_19n r_19c r_20 r_20n r_20c H R) : CallsH Try.prog 77 ⟨[(.agg ⟨[(.int .i64 r_0), (.string r_1), (.string r_2), (.string r_3), (.int .i64 r_4), (.int .i64 r_5), (.int .i64 r_6), (.int .i64 r_7), (.int .i64 r_8), (.int .i64 r_9), (.int .i64 r_10), (.int .i64 r_11), (.int .i64 r_12), (.bool r_13), (.bool r_14), (.bool r_15), (.bool r_16), (.bool r_17), (.slice r_18 r_18n r_18c), (.slice r_19 r_19n r_19c), (.slice r_20 r_20n r_20c)]⟩)]⟩ H R :=
 callsH_of_den (an := an) (fuel := 100000) (X := go r_0 r_1 r_2 r_3 r_4 r_5 r_6 r_7 r_8 r_9 r_10 r_11 r_12 r_13 r_14 r_15 r_16 r_17 r_18 r_18n r_18c r_19 r_19n r_19c r_20 r_20n r_20c H R) (c := body) mixed fn (by kernel_rfl) (by kernel_rfl) (by kernel_rfl) ok (by kernel_rfl) h
end F77
/-! ### 79 "pub-stadtholder/impl.txnIn" -/
namespace F79
def an : Ann := { kinds := [(5010, .grow), (5011, .grow)], taus := [(5, [[0, 1, 2, 3, 5, 7, 4, 6, 8, 9, 10, 11, 12, 13, 14, 15]])], pairs := [], lab := [(40000004, [1, 3, 4])] }
noncomputable def body : Code := (Try.f79.body).getD .skip
theorem fn : Try.prog.funcs[79]? = some Try.f79 := by kernel_rfl
theorem ok : codeOk an 42 body = true := by kernel_rfl
noncomputable def L0t : List Item := [.code (sub [1, 1, 0, 1, 0, 0] body), .inLoop (sub [1, 1, 0, 1, 0, 0] body), .inBlock 0, .code (sub [1, 1, 1] body)]
def L0 (r x : Nat) (i : Int) (H : Heap) (R : EH) : Prop :=
 GoL Try.prog 79 42 L0t [1, 3, 4] [(.pointer (some ⟨r, 0, none⟩)), (.pointer (some ⟨x, 0, none⟩)), (.int .i64 i)] H R
def L0n (r x : Nat) (i : Int) (H : Heap) (R : EH) : Prop :=
 ldSl H ⟨r, 18, none⟩ fun q qn qc =>
 iteB (decide (i < ((qn : Nat) : Int))) (
 ldSl H ⟨x, 0, none⟩ fun q1 q1n q1c =>
 ldSl H ⟨r, 18, none⟩ fun q2 q2n q2c =>
 idxD q2 q2n i fun a =>
 ldInt H (Addr.add a (Int.toNat i * 7)) .i64 fun n =>
 ldInt H (Addr.add (Addr.add a (Int.toNat i * 7)) 1) .i64 fun n1 =>
 ldStr H (Addr.add (Addr.add a (Int.toNat i * 7)) 2) fun s =>
 ldStr H (Addr.add (Addr.add a (Int.toNat i * 7)) 3) fun s1 =>
 ldInt H (Addr.add (Addr.add a (Int.toNat i * 7)) 4) .i64 fun n2 =>
 ldStr H (Addr.add (Addr.add a (Int.toNat i * 7)) 5) fun s2 =>
 ldBool H (Addr.add (Addr.add a (Int.toNat i * 7)) 6) fun b =>
 callD Try.prog 97 [(.agg ⟨[(.int .i64 n), (.int .i64 n1), (.string s), (.string s1), (.int .i64 n2), (.string s2), (.bool b)]⟩)] H nope fun v H1 =>
 tPtr v fun p =>
 andD (ExtH H H1) <|
 newD H1 (.cells ⟨[(.pointer p)]⟩ 219) fun r1 H2 =>
 apD H2 1 8 [(.pointer none)] 219 q1 q1n q1c (some ⟨r1, 0, none⟩) 1 fun q3 q3n q3c H3 =>
 st1 H3 ⟨x, 0, none⟩ (.slice q3 q3n q3c) fun H4 =>
 L0 r x (IntKind.wrap .i64 (i + (1 : Int))) H4 R) <|
 ldSl H ⟨r, 19, none⟩ fun q4 q4n q4c =>
 callD Try.prog 47 [(.slice q4 q4n q4c)] H (panK R) fun v1 H5 =>
 tSl v1 fun q5 q5n q5c =>
 st1 H5 ⟨x, 1, none⟩ (.slice q5 q5n q5c) fun H6 =>
 ldSl H6 ⟨r, 20, none⟩ fun q6 q6n q6c =>
 callD Try.prog 47 [(.slice q6 q6n q6c)] H6 (panK R) fun v2 H7 =>
 tSl v2 fun q7 q7n q7c =>
 st1 H7 ⟨x, 2, none⟩ (.slice q7 q7n q7c) fun H8 =>
 R (.returned (.pointer (some ⟨x, 0, none⟩))) H8
theorem L0_step {r x : Nat} {i : Int} {H : Heap} {R : EH} (h : L0n r x i H R) : L0 r x i H R :=
 goL_of_den (an := an) (fuel := 100000) (X := L0n r x i H R) mixed fn (by kernel_rfl) (fun ρ0 => by kernel_rfl) h
def go (r_0 : Int) (r_1 r_2 r_3 : ByteArray) (r_4 r_5 r_6 r_7 r_8 r_9 r_10 r_11 r_12 : Int) (r_13 r_14 r_15 r_16 r_17 : Bool) (r_18 : OA) (r_18n r_18c : Nat) (r_19 : OA) (r_19n r_19c : Nat) (r_20 : OA) (r_20n r_20c : Nat) (H : Heap) (R : EH) : Prop :=
 newD H (.cells ⟨[(.int .i64 r_0), (.string r_1), (.string r_2), (.string r_3), (.int .i64 r_4), (.int .i64 r_5), (.int .i64 r_6), (.int .i64 r_7), (.int .i64 r_8), (.int .i64 r_9), (.int .i64 r_10), (.int .i64 r_11), (.int .i64 r_12), (.bool r_13), (.bool r_14), (.bool r_15), (.bool r_16), (.bool r_17), (.slice r_18 r_18n r_18c), (.slice r_19 r_19n r_19c), (.slice r_20 r_20n r_20c)]⟩ 92) fun r H1 =>
 newD H1 (.cells ⟨[(.slice none 0 0), (.slice none 0 0), (.slice none 0 0)]⟩ 218) fun r1 H2 =>
 L0 r r1 (0 : Int) H2 R
theorem calls {r_0 : Int} {r_1 r_2 r_3 : ByteArray} {r_4 r_5 r_6 r_7 r_8 r_9 r_10 r_11 r_12 : Int} {r_13 r_14 r_15 r_16 r_17 : Bool} {r_18 : OA} {r_18n r_18c : Nat} {r_19 : OA} {r_19n r_19c : Nat} {r_20 : OA} {r_20n r_20c : Nat} {H : Heap} {R : EH} (h : go r_0 r_1 r_2 r_3 r_4 r_5 r_6 r_7 r_8 r_9 r_10 r_11 r_12 r_13 r_14 r_15 r_16 r_17 r_18 r_18n r_18c r_19 r_19n r_19c r_20 r_20n r_20c H R) : CallsH Try.prog 79 ⟨[(.agg ⟨[(.int .i64 r_0), (.string r_1), (.string r_2), (.string r_3), (.int .i64 r_4), (.int .i64 r_5), (.int .i64 r_6), (.int .i64 r_7), (.int .i64 r_8), (.int .i64 r_9), (.int .i64 r_10), (.int .i64 r_11), (.int .i64 r_12), (.bool r_13), (.bool r_14), (.bool r_15), (.bool r_16), (.bool r_17), (.slice r_18 r_18n r_18c), (.slice r_19 r_19n r_19c), (.slice r_20 r_20n r_20c)]⟩)]⟩ H R :=
 callsH_of_den (an := an) (fuel := 100000) (X := go r_0 r_1 r_2 r_3 r_4 r_5 r_6 r_7 r_8 r_9 r_10 r_11 r_12 r_13 r_14 r_15 r_16 r_17 r_18 r_18n r_18c r_19 r_19n r_19c r_20 r_20n r_20c H R) (c := body) mixed fn (by kernel_rfl) (by kernel_rfl) (by kernel_rfl) ok (by kernel_rfl) h
end F79
/-! ### 80 "pub-stadtholder/pub/etcdserver/etcdserver/api/v3rpc.checkIntervals" -/
namespace F80
def an : Ann := { kinds := [(5004, .heavy 0), (11004, .read), (11009, .read), (12004, .read), (19004, .heavy 0), (27001, .heavy 0), (28000, .heavy 96), (29000, .heavy 96), (30002, .heavy 0), (35003, .heavy 0), (36001, .heavy 0), (37000, .heavy 96), (38000, .heavy 96), (39002, .heavy 0), (41002, .heavy 0), (46003, .heavy 0), (53004, .heavy 0), (55007, .read), (56002, .heavy 0), (61003, .heavy 0)], taus := [(11, [[0, 1, 2, 5, 6, 7, 3, 4, 8, 9, 10, 11]]), (33, [[0, 1, 3, 4, 5, 2, 6]]), (44, [[0, 1, 3, 4, 5, 2, 6]]), (47, [[0, 1, 3, 4, 5, 2, 6]]), (48, [[0, 1, 3, 4, 5, 2, 6]]), (59, [[0, 1, 3, 4, 5, 2, 6]])], pairs := [], lab := [(40000004, [0, 5, 38, 39, 40]), (40000018, [0, 5, 12, 90, 91, 92]), (40000052, [5, 12, 215, 216, 217]), (60000056, [5, 12, 32, 215, 216, 217]), (40000063, [5, 12, 215, 216, 217]), (90000029, [0, 5, 12, 17, 18, 20, 21, 90, 91, 92, 139]), (90000038, [0, 5, 12, 17, 18, 21, 90, 91, 92, 166]), (100000045, [0, 5, 12, 17, 18, 21, 25, 90, 91, 92, 166]), (40000050, [0, 5, 12, 90, 91, 92]), (60000014, [0, 5, 11, 38, 39, 40]), (40000015, [0, 5, 38, 39, 40])] }
noncomputable def body : Code := (Try.f80.body).getD .skip
theorem fn : Try.prog.funcs[80]? = some Try.f80 := by kernel_rfl
theorem ok : codeOk an 270 body = true := by kernel_rfl
noncomputable def L0t : List Item := [.code (sub [1, 1, 0, 1, 0, 0] body), .inLoop (sub [1, 1, 0, 1, 0, 0] body), .inBlock 0, .code (sub [1, 1, 1] body)]
def L0 (s0 : OA) (s0n s0c : Nat) (s5 : IV) (s38 : OA) (s38n s38c : Nat) (s39 s40 : Int) (H : Heap) (R : EH) : Prop :=
 GoL Try.prog 80 270 L0t [0, 5, 38, 39, 40] [(.slice s0 s0n s0c), (IV.v s5), (.slice s38 s38n s38c), (.int .i64 s39), (.int .i64 s40)] H R
noncomputable def L1t : List Item := [.code (sub [1, 1, 1, 1, 0, 1, 0, 0] body), .inLoop (sub [1, 1, 1, 1, 0, 1, 0, 0] body), .inBlock 2, .code (sub [1, 1, 1, 1, 1] body)]
def L1 (s0 : OA) (s0n s0c : Nat) (s5 : IV) (s12 : Nat) (s90 : OA) (s90n s90c : Nat) (s91 s92 : Int) (H : Heap) (R : EH) : Prop :=
 GoL Try.prog 80 270 L1t [0, 5, 12, 90, 91, 92] [(.slice s0 s0n s0c), (IV.v s5), (.map (some s12)), (.slice s90 s90n s90c), (.int .i64 s91), (.int .i64 s92)] H R
noncomputable def L2t : List Item := [.code (sub [1, 1, 1, 1, 1, 0, 1, 0, 0] body), .inLoop (sub [1, 1, 1, 1, 1, 0, 1, 0, 0] body), .inBlock 8, .code (sub [1, 1, 1, 1, 1, 1] body)]
def L2 (s5 : IV) (s12 : Nat) (s215 : OA) (s215n s215c : Nat) (s216 s217 : Int) (H : Heap) (R : EH) : Prop :=
 GoL Try.prog 80 270 L2t [5, 12, 215, 216, 217] [(IV.v s5), (.map (some s12)), (.slice s215 s215n s215c), (.int .i64 s216), (.int .i64 s217)] H R
noncomputable def L3t : List Item := [.code (sub [1, 1, 1, 1, 1, 0, 1, 0, 0, 1, 1, 0, 0, 1, 1, 1] body), .inBlock 9, .code (sub [1, 1, 1, 1, 1, 0, 1, 0, 0, 1, 1, 1] body), .inLoop (sub [1, 1, 1, 1, 1, 0, 1, 0, 0] body), .inBlock 8, .code (sub [1, 1, 1, 1, 1, 1] body)]
def L3 (s5 : IV) (s12 : Nat) (s32 s215 : OA) (s215n s215c : Nat) (s216 s217 : Int) (H : Heap) (R : EH) : Prop :=
 GoL Try.prog 80 270 L3t [5, 12, 32, 215, 216, 217] [(IV.v s5), (.map (some s12)), (.pointer s32), (.slice s215 s215n s215c), (.int .i64 s216), (.int .i64 s217)] H R
noncomputable def L4t : List Item := [.code (sub [1, 1, 1, 1, 1, 0, 1, 0, 0, 1, 1, 1] body), .inLoop (sub [1, 1, 1, 1, 1, 0, 1, 0, 0] body), .inBlock 8, .code (sub [1, 1, 1, 1, 1, 1] body)]
def L4 (s5 : IV) (s12 : Nat) (s215 : OA) (s215n s215c : Nat) (s216 s217 : Int) (H : Heap) (R : EH) : Prop :=
 GoL Try.prog 80 270 L4t [5, 12, 215, 216, 217] [(IV.v s5), (.map (some s12)), (.slice s215 s215n s215c), (.int .i64 s216), (.int .i64 s217)] H R
noncomputable def L5t : List Item := [.code (sub [1, 1, 1, 1, 0, 1, 0, 0, 1, 1, 0, 0, 1, 1, 1, 1, 1, 1, 1, 0, 1, 0, 0] body), .inLoop (sub [1, 1, 1, 1, 0, 1, 0, 0, 1, 1, 0, 0, 1, 1, 1, 1, 1, 1, 1, 0, 1, 0, 0] body), .inBlock 4, .code (sub [1, 1, 1, 1, 0, 1, 0, 0, 1, 1, 0, 0, 1, 1, 1, 1, 1, 1, 1, 1] body), .inBlock 3, .code (sub [1, 1, 1, 1, 0, 1, 0, 0, 1, 1, 1] body), .inLoop (sub [1, 1, 1, 1, 0, 1, 0, 0] body), .inBlock 2, .code (sub [1, 1, 1, 1, 1] body)]
def L5 (s0 : OA) (s0n s0c : Nat) (s5 : IV) (s12 : Nat) (s17 : Option Nat) (s18 : IV) (s20 : Option Nat) (s21 : IV) (s90 : OA) (s90n s90c : Nat) (s91 s92 : Int) (s139 : OA) (H : Heap) (R : EH) : Prop :=
 GoL Try.prog 80 270 L5t [0, 5, 12, 17, 18, 20, 21, 90, 91, 92, 139] [(.slice s0 s0n s0c), (IV.v s5), (.map (some s12)), (.map s17), (IV.v s18), (.map s20), (IV.v s21), (.slice s90 s90n s90c), (.int .i64 s91), (.int .i64 s92), (.pointer s139)] H R
noncomputable def L6t : List Item := [.code (sub [1, 1, 1, 1, 0, 1, 0, 0, 1, 1, 0, 0, 1, 1, 1, 1, 1, 1, 1, 1, 0, 1, 0, 0] body), .inLoop (sub [1, 1, 1, 1, 0, 1, 0, 0, 1, 1, 0, 0, 1, 1, 1, 1, 1, 1, 1, 1, 0, 1, 0, 0] body), .inBlock 6, .code (sub [1, 1, 1, 1, 0, 1, 0, 0, 1, 1, 0, 0, 1, 1, 1, 1, 1, 1, 1, 1, 1] body), .inBlock 3, .code (sub [1, 1, 1, 1, 0, 1, 0, 0, 1, 1, 1] body), .inLoop (sub [1, 1, 1, 1, 0, 1, 0, 0] body), .inBlock 2, .code (sub [1, 1, 1, 1, 1] body)]
def L6 (s0 : OA) (s0n s0c : Nat) (s5 : IV) (s12 : Nat) (s17 : Option Nat) (s18 s21 : IV) (s90 : OA) (s90n s90c : Nat) (s91 s92 : Int) (s166 : OA) (H : Heap) (R : EH) : Prop :=
 GoL Try.prog 80 270 L6t [0, 5, 12, 17, 18, 21, 90, 91, 92, 166] [(.slice s0 s0n s0c), (IV.v s5), (.map (some s12)), (.map s17), (IV.v s18), (IV.v s21), (.slice s90 s90n s90c), (.int .i64 s91), (.int .i64 s92), (.pointer s166)] H R
noncomputable def L7t : List Item := [.code (sub [1, 1, 1, 1, 0, 1, 0, 0, 1, 1, 0, 0, 1, 1, 1, 1, 1, 1, 1, 1, 0, 1, 0, 0, 1, 1, 0, 1, 1] body), .inBlock 7, .inLoop (sub [1, 1, 1, 1, 0, 1, 0, 0, 1, 1, 0, 0, 1, 1, 1, 1, 1, 1, 1, 1, 0, 1, 0, 0] body), .inBlock 6, .code (sub [1, 1, 1, 1, 0, 1, 0, 0, 1, 1, 0, 0, 1, 1, 1, 1, 1, 1, 1, 1, 1] body), .inBlock 3, .code (sub [1, 1, 1, 1, 0, 1, 0, 0, 1, 1, 1] body), .inLoop (sub [1, 1, 1, 1, 0, 1, 0, 0] body), .inBlock 2, .code (sub [1, 1, 1, 1, 1] body)]
def L7 (s0 : OA) (s0n s0c : Nat) (s5 : IV) (s12 : Nat) (s17 : Option Nat) (s18 s21 : IV) (s25 : ByteArray) (s90 : OA) (s90n s90c : Nat) (s91 s92 : Int) (s166 : OA) (H : Heap) (R : EH) : Prop :=
 GoL Try.prog 80 270 L7t [0, 5, 12, 17, 18, 21, 25, 90, 91, 92, 166] [(.slice s0 s0n s0c), (IV.v s5), (.map (some s12)), (.map s17), (IV.v s18), (IV.v s21), (.string s25), (.slice s90 s90n s90c), (.int .i64 s91), (.int .i64 s92), (.pointer s166)] H R
noncomputable def L8t : List Item := [.code (sub [1, 1, 1, 1, 0, 1, 0, 0, 1, 1, 1] body), .inLoop (sub [1, 1, 1, 1, 0, 1, 0, 0] body), .inBlock 2, .code (sub [1, 1, 1, 1, 1] body)]
def L8 (s0 : OA) (s0n s0c : Nat) (s5 : IV) (s12 : Nat) (s90 : OA) (s90n s90c : Nat) (s91 s92 : Int) (H : Heap) (R : EH) : Prop :=
 GoL Try.prog 80 270 L8t [0, 5, 12, 90, 91, 92] [(.slice s0 s0n s0c), (IV.v s5), (.map (some s12)), (.slice s90 s90n s90c), (.int .i64 s91), (.int .i64 s92)] H R
noncomputable def L9t : List Item := [.code (sub [1, 1, 0, 1, 0, 0, 1, 1, 0, 0, 1, 1, 1, 1, 1, 1, 1] body), .inBlock 1, .code (sub [1, 1, 0, 1, 0, 0, 1, 1, 1] body), .inLoop (sub [1, 1, 0, 1, 0, 0] body), .inBlock 0, .code (sub [1, 1, 1] body)]
def L9 (s0 : OA) (s0n s0c : Nat) (s5 : IV) (s11 : Nat) (s38 : OA) (s38n s38c : Nat) (s39 s40 : Int) (H : Heap) (R : EH) : Prop :=
 GoL Try.prog 80 270 L9t [0, 5, 11, 38, 39, 40] [(.slice s0 s0n s0c), (IV.v s5), (.pointer (some ⟨s11, 0, none⟩)), (.slice s38 s38n s38c), (.int .i64 s39), (.int .i64 s40)] H R
noncomputable def L10t : List Item := [.code (sub [1, 1, 0, 1, 0, 0, 1, 1, 1] body), .inLoop (sub [1, 1, 0, 1, 0, 0] body), .inBlock 0, .code (sub [1, 1, 1] body)]
def L10 (s0 : OA) (s0n s0c : Nat) (s5 : IV) (s38 : OA) (s38n s38c : Nat) (s39 s40 : Int) (H : Heap) (R : EH) : Prop :=
 GoL Try.prog 80 270 L10t [0, 5, 38, 39, 40] [(.slice s0 s0n s0c), (IV.v s5), (.slice s38 s38n s38c), (.int .i64 s39), (.int .i64 s40)] H R
def L0n (s0 : OA) (s0n s0c : Nat) (s5 : IV) (s38 : OA) (s38n s38c : Nat) (s39 s40 : Int) (H : Heap) (R : EH) : Prop :=
 iteB (decide (s40 < s39)) (
 idxD s38 s38n s40 fun a =>
 ldPtr H (Addr.add a (Int.toNat s40 * 1)) fun p =>
 nilD p fun a1 =>
 ldIf H a1 fun i =>
 valD Try.prog (Instr.typeAssert (IV.v i) 20 170 true) H (panK R) fun v H1 =>
 tTup v fun l =>
 tCons l fun c l1 =>
 tPtr c fun p1 =>
 tCons l1 fun c1 l2 =>
 tBool c1 fun b =>
 tNil l2 <|
 iteB (!b) (
 L10 s0 s0n s0c s5 s38 s38n s38c s39 s40 H1 R) <|
 nilD p1 fun a2 =>
 ldPtr H1 a2 fun p2 =>
 iteB (Option.isNone p2) (
 L10 s0 s0n s0c s5 s38 s38n s38c s39 s40 H1 R) <|
 newD H1 (.cells ⟨[.nilIface, .nilIface]⟩ 109) fun r H2 =>
 nilD p2 fun a3 =>
 ldSl H2 (Addr.add a3 1) fun q qn qc =>
 iteB (((qn : Nat) : Int) != (0 : Int)) (
 nilD p2 fun a4 =>
 nilD p2 fun a5 =>
 ldSl H2 a4 fun q1 q1n q1c =>
 bsD H2 q1 q1n fun s =>
 ldSl H2 (Addr.add a5 1) fun q2 q2n q2c =>
 bsD H2 q2 q2n fun s1 =>
 callD Try.prog 50 [(.string s), (.string s1)] H2 (panK R) fun v1 H3 =>
 tAgg v1 fun l3 =>
 tCons l3 fun c2 l4 =>
 tIf c2 fun i1 =>
 tCons l4 fun c3 l5 =>
 tIf c3 fun i2 =>
 tNil l5 <|
 st1 H3 ⟨r, 0, none⟩ (IV.v i1) fun H4 =>
 st1 H4 ⟨r, 1, none⟩ (IV.v i2) fun H5 =>
 L9 s0 s0n s0c s5 r s38 s38n s38c s39 s40 H5 R) <|
 nilD p2 fun a6 =>
 ldSl H2 a6 fun q3 q3n q3c =>
 bsD H2 q3 q3n fun s2 =>
 callD Try.prog 87 [(.string s2)] H2 (panK R) fun v2 H6 =>
 tAgg v2 fun l6 =>
 tCons l6 fun c4 l7 =>
 tIf c4 fun i3 =>
 tCons l7 fun c5 l8 =>
 tIf c5 fun i4 =>
 tNil l8 <|
 st1 H6 ⟨r, 0, none⟩ (IV.v i3) fun H7 =>
 st1 H7 ⟨r, 1, none⟩ (IV.v i4) fun H8 =>
 L9 s0 s0n s0c s5 r s38 s38n s38c s39 s40 H8 R) <|
 newD H (.map #[] 0) fun r1 H9 =>
 L1 s0 s0n s0c s5 r1 s0 s0n s0c ((s0n : Nat) : Int) (0 : Int) H9 R
theorem L0_step {s0 : OA} {s0n s0c : Nat} {s5 : IV} {s38 : OA} {s38n s38c : Nat} {s39 s40 : Int} {H : Heap} {R : EH} (h : L0n s0 s0n s0c s5 s38 s38n s38c s39 s40 H R) : L0 s0 s0n s0c s5 s38 s38n s38c s39 s40 H R :=
 goL_of_den (an := an) (fuel := 100000) (X := L0n s0 s0n s0c s5 s38 s38n s38c s39 s40 H R) mixed fn (by kernel_rfl) (fun ρ0 => by kernel_rfl) h
def L1n (s0 : OA) (s0n s0c : Nat) (s5 : IV) (s12 : Nat) (s90 : OA) (s90n s90c : Nat) (s91 s92 : Int) (H : Heap) (R : EH) : Prop :=
 iteB (decide (s92 < s91)) (
 idxD s90 s90n s92 fun a =>
 ldPtr H (Addr.add a (Int.toNat s92 * 1)) fun p =>
 nilD p fun a1 =>
 ldIf H a1 fun i =>
 valD Try.prog (Instr.typeAssert (IV.v i) 20 173 true) H (panK R) fun v H1 =>
 tTup v fun l =>
 tCons l fun c l1 =>
 tPtr c fun p1 =>
 tCons l1 fun c1 l2 =>
 tBool c1 fun b =>
 tNil l2 <|
 iteB (!b) (
 L8 s0 s0n s0c s5 s12 s90 s90n s90c s91 s92 H1 R) <|
 nilD p1 fun a2 =>
 ldPtr H1 a2 fun p2 =>
 nilD p2 fun a3 =>
 ldSl H1 (Addr.add a3 1) fun q qn qc =>
 callD Try.prog 80 [(.slice q qn qc)] H1 (panK R) fun v1 H2 =>
 tTup v1 fun l3 =>
 tCons l3 fun c2 l4 =>
 tMap c2 fun m =>
 tCons l4 fun c3 l5 =>
 tIf c3 fun i1 =>
 tCons l5 fun c4 l6 =>
 tIf c4 fun i2 =>
 tNil l6 <|
 ifNilD (IV.v i2) fun b1 =>
 iteB (!b1) (
 R (.returned (.tuple ⟨[(.map none), (IV.v s5), (IV.v i2)]⟩)) H2) <|
 nilD p1 fun a4 =>
 ldPtr H2 a4 fun p3 =>
 nilD p3 fun a5 =>
 ldSl H2 (Addr.add a5 2) fun q1 q1n q1c =>
 callD Try.prog 80 [(.slice q1 q1n q1c)] H2 (panK R) fun v2 H3 =>
 tTup v2 fun l7 =>
 tCons l7 fun c5 l8 =>
 tMap c5 fun m1 =>
 tCons l8 fun c6 l9 =>
 tIf c6 fun i3 =>
 tCons l9 fun c7 l10 =>
 tIf c7 fun i4 =>
 tNil l10 <|
 ifNilD (IV.v i4) fun b2 =>
 iteB (!b2) (
 R (.returned (.tuple ⟨[(.map none), (IV.v s5), (IV.v i4)]⟩)) H3) <|
 valD Try.prog (Instr.range 96 (.map m)) H3 (panK R) fun v3 H4 =>
 tPtr v3 fun p4 =>
 L5 s0 s0n s0c s5 s12 m i1 m1 i3 s90 s90n s90c s91 s92 p4 H4 R) <|
 L2 s5 s12 s0 s0n s0c ((s0n : Nat) : Int) (0 : Int) H R
theorem L1_step {s0 : OA} {s0n s0c : Nat} {s5 : IV} {s12 : Nat} {s90 : OA} {s90n s90c : Nat} {s91 s92 : Int} {H : Heap} {R : EH} (h : L1n s0 s0n s0c s5 s12 s90 s90n s90c s91 s92 H R) : L1 s0 s0n s0c s5 s12 s90 s90n s90c s91 s92 H R :=
 goL_of_den (an := an) (fuel := 100000) (X := L1n s0 s0n s0c s5 s12 s90 s90n s90c s91 s92 H R) mixed fn (by kernel_rfl) (fun ρ0 => by kernel_rfl) h
def L2n (s5 : IV) (s12 : Nat) (s215 : OA) (s215n s215c : Nat) (s216 s217 : Int) (H : Heap) (R : EH) : Prop :=
 iteB (decide (s217 < s216)) (
 idxD s215 s215n s217 fun a =>
 ldPtr H (Addr.add a (Int.toNat s217 * 1)) fun p =>
 nilD p fun a1 =>
 ldIf H a1 fun i =>
 valD Try.prog (Instr.typeAssert (IV.v i) 20 167 true) H (panK R) fun v H1 =>
 tTup v fun l =>
 tCons l fun c l1 =>
 tPtr c fun p1 =>
 tCons l1 fun c1 l2 =>
 tBool c1 fun b =>
 tNil l2 <|
 iteB (!b) (
 L4 s5 s12 s215 s215n s215c s216 s217 H1 R) <|
 nilD p1 fun a2 =>
 ldPtr H1 a2 fun p2 =>
 iteB (Option.isNone p2) (
 L4 s5 s12 s215 s215n s215c s216 s217 H1 R) <|
 L3 s5 s12 p1 s215 s215n s215c s216 s217 H1 R) <|
 R (.returned (.tuple ⟨[(.map (some s12)), (IV.v s5), .nilIface]⟩)) H
theorem L2_step {s5 : IV} {s12 : Nat} {s215 : OA} {s215n s215c : Nat} {s216 s217 : Int} {H : Heap} {R : EH} (h : L2n s5 s12 s215 s215n s215c s216 s217 H R) : L2 s5 s12 s215 s215n s215c s216 s217 H R :=
 goL_of_den (an := an) (fuel := 100000) (X := L2n s5 s12 s215 s215n s215c s216 s217 H R) mixed fn (by kernel_rfl) (fun ρ0 => by kernel_rfl) h
def L3n (s5 : IV) (s12 : Nat) (s32 s215 : OA) (s215n s215c : Nat) (s216 s217 : Int) (H : Heap) (R : EH) : Prop :=
 nilD s32 fun a =>
 ldPtr H a fun p =>
 nilD p fun a1 =>
 ldSl H a1 fun q qn qc =>
 bsD H q qn fun s =>
 valD Try.prog (Instr.lookup 96 (.map (some s12)) (.string s) true) H (panK R) fun v H1 =>
 tTup v fun l =>
 tCons l fun c l1 =>
 tAgg c fun l3 =>
 tNil l3 <|
 tCons l1 fun c1 l2 =>
 tBool c1 fun b =>
 tNil l2 <|
 newD H1 (.cells ⟨[]⟩ 198) fun r H2 =>
 iteB b (
 R (.returned (.tuple ⟨[(.map none), (IV.v s5), (.iface 176 (.string (ByteArray.mk #[101, 116, 99, 100, 115, 101, 114, 118, 101, 114, 58, 32, 100, 117, 112, 108, 105, 99, 97, 116, 101, 32, 107, 101, 121, 32, 103, 105, 118, 101, 110, 32, 105, 110, 32, 116, 120, 110, 32, 114, 101, 113, 117, 101, 115, 116])))]⟩)) H2) <|
 nilM Try.prog "Intersects" ⟨[(IV.v s5)]⟩ <|
 callD Try.prog 87 [(.string s)] H2 (panK R) fun v1 H3 =>
 tAgg v1 fun l4 =>
 tCons l4 fun c2 l5 =>
 tIf c2 fun i =>
 tCons l5 fun c3 l6 =>
 tIf c3 fun i1 =>
 tNil l6 <|
 callI Try.prog (IV.v s5) "Intersects" [(.agg ⟨[(IV.v i), (IV.v i1)]⟩)] H3 (panK R) fun v2 H4 =>
 tBool v2 fun b1 =>
 iteB b1 (
 R (.returned (.tuple ⟨[(.map none), (IV.v s5), (.iface 176 (.string (ByteArray.mk #[101, 116, 99, 100, 115, 101, 114, 118, 101, 114, 58, 32, 100, 117, 112, 108, 105, 99, 97, 116, 101, 32, 107, 101, 121, 32, 103, 105, 118, 101, 110, 32, 105, 110, 32, 116, 120, 110, 32, 114, 101, 113, 117, 101, 115, 116])))]⟩)) H4) <|
 uniD Try.prog (Instr.mapUpdate 96 (.map (some s12)) (.string s) (.agg ⟨[]⟩)) H4 (panK R) fun H5 =>
 L4 s5 s12 s215 s215n s215c s216 s217 H5 R
theorem L3_step {s5 : IV} {s12 : Nat} {s32 s215 : OA} {s215n s215c : Nat} {s216 s217 : Int} {H : Heap} {R : EH} (h : L3n s5 s12 s32 s215 s215n s215c s216 s217 H R) : L3 s5 s12 s32 s215 s215n s215c s216 s217 H R :=
 goL_of_den (an := an) (fuel := 100000) (X := L3n s5 s12 s32 s215 s215n s215c s216 s217 H R) mixed fn (by kernel_rfl) (fun ρ0 => by kernel_rfl) h
def L4n (s5 : IV) (s12 : Nat) (s215 : OA) (s215n s215c : Nat) (s216 s217 : Int) (H : Heap) (R : EH) : Prop :=
 L2 s5 s12 s215 s215n s215c s216 (IntKind.wrap .i64 (s217 + (1 : Int))) H R
theorem L4_step {s5 : IV} {s12 : Nat} {s215 : OA} {s215n s215c : Nat} {s216 s217 : Int} {H : Heap} {R : EH} (h : L4n s5 s12 s215 s215n s215c s216 s217 H R) : L4 s5 s12 s215 s215n s215c s216 s217 H R :=
 goL_of_den (an := an) (fuel := 100000) (X := L4n s5 s12 s215 s215n s215c s216 s217 H R) mixed fn (by kernel_rfl) (fun ρ0 => by kernel_rfl) h
def L5n (s0 : OA) (s0n s0c : Nat) (s5 : IV) (s12 : Nat) (s17 : Option Nat) (s18 : IV) (s20 : Option Nat) (s21 : IV) (s90 : OA) (s90n s90c : Nat) (s91 s92 : Int) (s139 : OA) (H : Heap) (R : EH) : Prop :=
 valD Try.prog (Instr.next (.pointer s139) false 0) H (panK R) fun v H1 =>
 tTup v fun l =>
 tCons l fun c l1 =>
 tBool c fun b =>
 iteB b (
 tCons l1 fun c1 l2 =>
 tStr c1 fun s =>
 tCons l2 fun c2 l3 =>
 tAgg c2 fun l4 =>
 tNil l4 <|
 tNil l3 <|
 valD Try.prog (Instr.entry (.pointer s139)) H1 (panK R) fun v1 H2 =>
 tTup v1 fun l5 =>
 tCons l5 fun c3 l6 =>
 tStr c3 fun s1 =>
 tCons l6 fun c4 l7 =>
 tAgg c4 fun l8 =>
 tNil l8 <|
 tNil l7 <|
 valD Try.prog (Instr.lookup 96 (.map (some s12)) (.string s1) true) H2 (panK R) fun v2 H3 =>
 tTup v2 fun l9 =>
 tCons l9 fun c5 l10 =>
 tAgg c5 fun l12 =>
 tNil l12 <|
 tCons l10 fun c6 l11 =>
 tBool c6 fun b1 =>
 tNil l11 <|
 newD H3 (.cells ⟨[]⟩ 198) fun r H4 =>
 iteB b1 (
 R (.returned (.tuple ⟨[(.map none), (IV.v s5), (.iface 176 (.string (ByteArray.mk #[101, 116, 99, 100, 115, 101, 114, 118, 101, 114, 58, 32, 100, 117, 112, 108, 105, 99, 97, 116, 101, 32, 107, 101, 121, 32, 103, 105, 118, 101, 110, 32, 105, 110, 32, 116, 120, 110, 32, 114, 101, 113, 117, 101, 115, 116])))]⟩)) H4) <|
 nilM Try.prog "Intersects" ⟨[(IV.v s5)]⟩ <|
 callD Try.prog 87 [(.string s1)] H4 (panK R) fun v3 H5 =>
 tAgg v3 fun l13 =>
 tCons l13 fun c7 l14 =>
 tIf c7 fun i =>
 tCons l14 fun c8 l15 =>
 tIf c8 fun i1 =>
 tNil l15 <|
 callI Try.prog (IV.v s5) "Intersects" [(.agg ⟨[(IV.v i), (IV.v i1)]⟩)] H5 (panK R) fun v4 H6 =>
 tBool v4 fun b2 =>
 iteB b2 (
 R (.returned (.tuple ⟨[(.map none), (IV.v s5), (.iface 176 (.string (ByteArray.mk #[101, 116, 99, 100, 115, 101, 114, 118, 101, 114, 58, 32, 100, 117, 112, 108, 105, 99, 97, 116, 101, 32, 107, 101, 121, 32, 103, 105, 118, 101, 110, 32, 105, 110, 32, 116, 120, 110, 32, 114, 101, 113, 117, 101, 115, 116])))]⟩)) H6) <|
 uniD Try.prog (Instr.mapUpdate 96 (.map (some s12)) (.string s1) (.agg ⟨[]⟩)) H6 (panK R) fun H7 =>
 L5 s0 s0n s0c s5 s12 s17 s18 s20 s21 s90 s90n s90c s91 s92 s139 H7 R) <|
 tNil l1 <|
 valD Try.prog (Instr.range 96 (.map s20)) H1 (panK R) fun v6 H8 =>
 tPtr v6 fun p =>
 L6 s0 s0n s0c s5 s12 s17 s18 s21 s90 s90n s90c s91 s92 p H8 R
theorem L5_step {s0 : OA} {s0n s0c : Nat} {s5 : IV} {s12 : Nat} {s17 : Option Nat} {s18 : IV} {s20 : Option Nat} {s21 : IV} {s90 : OA} {s90n s90c : Nat} {s91 s92 : Int} {s139 : OA} {H : Heap} {R : EH} (h : L5n s0 s0n s0c s5 s12 s17 s18 s20 s21 s90 s90n s90c s91 s92 s139 H R) : L5 s0 s0n s0c s5 s12 s17 s18 s20 s21 s90 s90n s90c s91 s92 s139 H R :=
 goL_of_den (an := an) (fuel := 100000) (X := L5n s0 s0n s0c s5 s12 s17 s18 s20 s21 s90 s90n s90c s91 s92 s139 H R) mixed fn (by kernel_rfl) (fun ρ0 => by kernel_rfl) h
def L6n (s0 : OA) (s0n s0c : Nat) (s5 : IV) (s12 : Nat) (s17 : Option Nat) (s18 s21 : IV) (s90 : OA) (s90n s90c : Nat) (s91 s92 : Int) (s166 : OA) (H : Heap) (R : EH) : Prop :=
 valD Try.prog (Instr.next (.pointer s166) false 0) H (panK R) fun v H1 =>
 tTup v fun l =>
 tCons l fun c l1 =>
 tBool c fun b =>
 iteB b (
 tCons l1 fun c1 l2 =>
 tStr c1 fun s =>
 tCons l2 fun c2 l3 =>
 tAgg c2 fun l4 =>
 tNil l4 <|
 tNil l3 <|
 valD Try.prog (Instr.entry (.pointer s166)) H1 (panK R) fun v1 H2 =>
 tTup v1 fun l5 =>
 tCons l5 fun c3 l6 =>
 tStr c3 fun s1 =>
 tCons l6 fun c4 l7 =>
 tAgg c4 fun l8 =>
 tNil l8 <|
 tNil l7 <|
 valD Try.prog (Instr.lookup 96 (.map (some s12)) (.string s1) true) H2 (panK R) fun v2 H3 =>
 tTup v2 fun l9 =>
 tCons l9 fun c5 l10 =>
 tAgg c5 fun l12 =>
 tNil l12 <|
 tCons l10 fun c6 l11 =>
 tBool c6 fun b1 =>
 tNil l11 <|
 newD H3 (.cells ⟨[]⟩ 198) fun r H4 =>
 iteB b1 (
 valD Try.prog (Instr.lookup 96 (.map s17) (.string s1) true) H4 (panK R) fun v3 H5 =>
 tTup v3 fun l13 =>
 tCons l13 fun c7 l14 =>
 tAgg c7 fun l16 =>
 tNil l16 <|
 tCons l14 fun c8 l15 =>
 tBool c8 fun b2 =>
 tNil l15 <|
 newD H5 (.cells ⟨[]⟩ 198) fun r1 H6 =>
 iteB (!b2) (
 R (.returned (.tuple ⟨[(.map none), (IV.v s5), (.iface 176 (.string (ByteArray.mk #[101, 116, 99, 100, 115, 101, 114, 118, 101, 114, 58, 32, 100, 117, 112, 108, 105, 99, 97, 116, 101, 32, 107, 101, 121, 32, 103, 105, 118, 101, 110, 32, 105, 110, 32, 116, 120, 110, 32, 114, 101, 113, 117, 101, 115, 116])))]⟩)) H6) <|
 L7 s0 s0n s0c s5 s12 s17 s18 s21 s1 s90 s90n s90c s91 s92 s166 H6 R) <|
 L7 s0 s0n s0c s5 s12 s17 s18 s21 s1 s90 s90n s90c s91 s92 s166 H4 R) <|
 tNil l1 <|
 nilM Try.prog "Union" ⟨[(IV.v s5)]⟩ <|
 callD Try.prog 50 [(.string (ByteArray.mk #[0])), (.string (ByteArray.mk #[]))] H1 (panK R) fun v4 H7 =>
 tAgg v4 fun l17 =>
 tCons l17 fun c9 l18 =>
 tIf c9 fun i =>
 tCons l18 fun c10 l19 =>
 tIf c10 fun i1 =>
 tNil l19 <|
 callI Try.prog (IV.v s5) "Union" [(IV.v s18), (.agg ⟨[(IV.v i), (IV.v i1)]⟩)] H7 (panK R) fun v5 H8 =>
 tTup v5 fun l20 =>
 tNil l20 <|
 nilM Try.prog "Union" ⟨[(IV.v s5)]⟩ <|
 callD Try.prog 50 [(.string (ByteArray.mk #[0])), (.string (ByteArray.mk #[]))] H8 (panK R) fun v6 H9 =>
 tAgg v6 fun l21 =>
 tCons l21 fun c11 l22 =>
 tIf c11 fun i2 =>
 tCons l22 fun c12 l23 =>
 tIf c12 fun i3 =>
 tNil l23 <|
 callI Try.prog (IV.v s5) "Union" [(IV.v s21), (.agg ⟨[(IV.v i2), (IV.v i3)]⟩)] H9 (panK R) fun v7 H10 =>
 tTup v7 fun l24 =>
 tNil l24 <|
 L8 s0 s0n s0c s5 s12 s90 s90n s90c s91 s92 H10 R
theorem L6_step {s0 : OA} {s0n s0c : Nat} {s5 : IV} {s12 : Nat} {s17 : Option Nat} {s18 s21 : IV} {s90 : OA} {s90n s90c : Nat} {s91 s92 : Int} {s166 : OA} {H : Heap} {R : EH} (h : L6n s0 s0n s0c s5 s12 s17 s18 s21 s90 s90n s90c s91 s92 s166 H R) : L6 s0 s0n s0c s5 s12 s17 s18 s21 s90 s90n s90c s91 s92 s166 H R :=
 goL_of_den (an := an) (fuel := 100000) (X := L6n s0 s0n s0c s5 s12 s17 s18 s21 s90 s90n s90c s91 s92 s166 H R) mixed fn (by kernel_rfl) (fun ρ0 => by kernel_rfl) h
def L7n (s0 : OA) (s0n s0c : Nat) (s5 : IV) (s12 : Nat) (s17 : Option Nat) (s18 s21 : IV) (s25 : ByteArray) (s90 : OA) (s90n s90c : Nat) (s91 s92 : Int) (s166 : OA) (H : Heap) (R : EH) : Prop :=
 nilM Try.prog "Intersects" ⟨[(IV.v s5)]⟩ <|
 callD Try.prog 87 [(.string s25)] H (panK R) fun v H1 =>
 tAgg v fun l =>
 tCons l fun c l1 =>
 tIf c fun i =>
 tCons l1 fun c1 l2 =>
 tIf c1 fun i1 =>
 tNil l2 <|
 callI Try.prog (IV.v s5) "Intersects" [(.agg ⟨[(IV.v i), (IV.v i1)]⟩)] H1 (panK R) fun v1 H2 =>
 tBool v1 fun b =>
 iteB b (
 R (.returned (.tuple ⟨[(.map none), (IV.v s5), (.iface 176 (.string (ByteArray.mk #[101, 116, 99, 100, 115, 101, 114, 118, 101, 114, 58, 32, 100, 117, 112, 108, 105, 99, 97, 116, 101, 32, 107, 101, 121, 32, 103, 105, 118, 101, 110, 32, 105, 110, 32, 116, 120, 110, 32, 114, 101, 113, 117, 101, 115, 116])))]⟩)) H2) <|
 uniD Try.prog (Instr.mapUpdate 96 (.map (some s12)) (.string s25) (.agg ⟨[]⟩)) H2 (panK R) fun H3 =>
 L6 s0 s0n s0c s5 s12 s17 s18 s21 s90 s90n s90c s91 s92 s166 H3 R
theorem L7_step {s0 : OA} {s0n s0c : Nat} {s5 : IV} {s12 : Nat} {s17 : Option Nat} {s18 s21 : IV} {s25 : ByteArray} {s90 : OA} {s90n s90c : Nat} {s91 s92 : Int} {s166 : OA} {H : Heap} {R : EH} (h : L7n s0 s0n s0c s5 s12 s17 s18 s21 s25 s90 s90n s90c s91 s92 s166 H R) : L7 s0 s0n s0c s5 s12 s17 s18 s21 s25 s90 s90n s90c s91 s92 s166 H R :=
 goL_of_den (an := an) (fuel := 100000) (X := L7n s0 s0n s0c s5 s12 s17 s18 s21 s25 s90 s90n s90c s91 s92 s166 H R) mixed fn (by kernel_rfl) (fun ρ0 => by kernel_rfl) h
def L8n (s0 : OA) (s0n s0c : Nat) (s5 : IV) (s12 : Nat) (s90 : OA) (s90n s90c : Nat) (s91 s92 : Int) (H : Heap) (R : EH) : Prop :=
 L1 s0 s0n s0c s5 s12 s90 s90n s90c s91 (IntKind.wrap .i64 (s92 + (1 : Int))) H R
theorem L8_step {s0 : OA} {s0n s0c : Nat} {s5 : IV} {s12 : Nat} {s90 : OA} {s90n s90c : Nat} {s91 s92 : Int} {H : Heap} {R : EH} (h : L8n s0 s0n s0c s5 s12 s90 s90n s90c s91 s92 H R) : L8 s0 s0n s0c s5 s12 s90 s90n s90c s91 s92 H R :=
 goL_of_den (an := an) (fuel := 100000) (X := L8n s0 s0n s0c s5 s12 s90 s90n s90c s91 s92 H R) mixed fn (by kernel_rfl) (fun ρ0 => by kernel_rfl) h
def L9n (s0 : OA) (s0n s0c : Nat) (s5 : IV) (s11 : Nat) (s38 : OA) (s38n s38c : Nat) (s39 s40 : Int) (H : Heap) (R : EH) : Prop :=
 ldIf H ⟨s11, 0, none⟩ fun i =>
 ldIf H ⟨s11, 1, none⟩ fun i1 =>
 callI Try.prog (IV.v s5) "Insert" [(.agg ⟨[(IV.v i), (IV.v i1)]⟩), (.iface 198 (.agg ⟨[]⟩))] H (panK R) fun v H1 =>
 tTup v fun l =>
 tNil l <|
 L10 s0 s0n s0c s5 s38 s38n s38c s39 s40 H1 R
theorem L9_step {s0 : OA} {s0n s0c : Nat} {s5 : IV} {s11 : Nat} {s38 : OA} {s38n s38c : Nat} {s39 s40 : Int} {H : Heap} {R : EH} (h : L9n s0 s0n s0c s5 s11 s38 s38n s38c s39 s40 H R) : L9 s0 s0n s0c s5 s11 s38 s38n s38c s39 s40 H R :=
 goL_of_den (an := an) (fuel := 100000) (X := L9n s0 s0n s0c s5 s11 s38 s38n s38c s39 s40 H R) mixed fn (by kernel_rfl) (fun ρ0 => by kernel_rfl) h
def L10n (s0 : OA) (s0n s0c : Nat) (s5 : IV) (s38 : OA) (s38n s38c : Nat) (s39 s40 : Int) (H : Heap) (R : EH) : Prop :=
 L0 s0 s0n s0c s5 s38 s38n s38c s39 (IntKind.wrap .i64 (s40 + (1 : Int))) H R
theorem L10_step {s0 : OA} {s0n s0c : Nat} {s5 : IV} {s38 : OA} {s38n s38c : Nat} {s39 s40 : Int} {H : Heap} {R : EH} (h : L10n s0 s0n s0c s5 s38 s38n s38c s39 s40 H R) : L10 s0 s0n s0c s5 s38 s38n s38c s39 s40 H R :=
 goL_of_den (an := an) (fuel := 100000) (X := L10n s0 s0n s0c s5 s38 s38n s38c s39 s40 H R) mixed fn (by kernel_rfl) (fun ρ0 => by kernel_rfl) h
def go (s0 : OA) (s0n s0c : Nat) (H : Heap) (R : EH) : Prop :=
 callD Try.prog 39 [] H (panK R) fun v H1 =>
 tIf v fun i =>
 L0 s0 s0n s0c i s0 s0n s0c ((s0n : Nat) : Int) (0 : Int) H1 R
theorem calls {s0 : OA} {s0n s0c : Nat} {H : Heap} {R : EH} (h : go s0 s0n s0c H R) : CallsH Try.prog 80 ⟨[(.slice s0 s0n s0c)]⟩ H R :=
 callsH_of_den (an := an) (fuel := 100000) (X := go s0 s0n s0c H R) (c := body) mixed fn (by kernel_rfl) (by kernel_rfl) (by kernel_rfl) ok (by kernel_rfl) h
end F80
end Go.Proofs.Ytobolifgehagfaa
