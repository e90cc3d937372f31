/- What functions of this seat do, each proved by a walk; no condition. -/
import Derived.Test.YtobolifgehagfaaJB
import Derived.KernelRfl
set_option linter.unusedVariables false
namespace Go.Proofs.Ytobolifgehagfaa
open Go Go.Den Go.Proofs
/-! ### 5 "pub-stadtholder/laws.FnTreeContains" -/
namespace F5
def an : Ann := { kinds := [], taus := [], pairs := [], lab := [(10000004, [0, 1, 5])] }
noncomputable def body : Code := (Try.f5.body).getD .skip
theorem fn : Try.prog.funcs[5]? = some Try.f5 := by kernel_rfl
theorem ok : codeOk an 38 body = true := by kernel_rfl
noncomputable def L0t : List Item := [.code (sub [1, 1] body)]
def L0 (order : Int) (l : Option Addr) (ln : Nat) (lc : Nat) (xin : Nat) (H : Heap) (R : Ending → Heap → Prop) : Prop :=
  GoL Try.prog 5 38 L0t [0, 1, 5] [(.int .i64 order), (.slice l ln lc), (.pointer (some ⟨xin, 0, none⟩))] H R
def L0n (order : Int) (l : Option Addr) (ln : Nat) (lc : Nat) (xin : Nat) (H : Heap) (R : Ending → Heap → Prop) : Prop :=
  ldStr H ⟨xin, 0, none⟩ fun s =>
  ldStr H ⟨xin, 1, none⟩ fun s1 =>
  ldBool H ⟨xin, 2, none⟩ fun b =>
  ldInt H ⟨xin, 3, none⟩ .i64 fun n =>
  ldInt H ⟨xin, 4, none⟩ .i64 fun n1 =>
  callD Try.prog 16 [(.int .i64 order), (.slice l ln lc), (.agg ⟨[(.int .i64 (7 : Int)), (.string s), (.string s1), (.bool b), (.int .i64 n), (.int .i64 n1), (.int .i64 (0 : Int)), (.int .i64 (0 : Int)), (.slice none 0 0), (.slice none 0 0)]⟩)] H (panK R) fun v H1 =>
  tTup v fun l1 =>
  tCons l1 fun c l2 =>
  tAgg c fun l3 =>
  tCons l3 fun c1 l4 =>
  tBool c1 fun b1 =>
  tCons l4 fun c2 l5 =>
  tInt c2 .i64 fun n2 =>
  tCons l5 fun c3 l6 =>
  tInt c3 .i64 fun n3 =>
  tCons l6 fun c4 l7 =>
  tSl c4 fun q qn qc =>
  tCons l7 fun c5 l8 =>
  tSl c5 fun q1 q1n q1c =>
  tNil l8 <|
  tCons l2 fun c6 l9 =>
  tAgg c6 fun l10 =>
  tCons l10 fun c7 l11 =>
  tBool c7 fun b2 =>
  tCons l11 fun c8 l12 =>
  tInt c8 .i64 fun n4 =>
  tCons l12 fun c9 l13 =>
  tInt c9 .i64 fun n5 =>
  tCons l13 fun c10 l14 =>
  tSl c10 fun q2 q2n q2c =>
  tCons l14 fun c11 l15 =>
  tSl c11 fun q3 q3n q3c =>
  tNil l15 <|
  tCons l9 fun c12 l16 =>
  tBool c12 fun b3 =>
  tNil l16 <|
  newD H1 (.cells ⟨[(.bool false), (.int .i64 (0 : Int)), (.int .i64 (0 : Int)), (.slice none 0 0), (.slice none 0 0)]⟩ 40) fun r H2 =>
  newD H2 (.cells ⟨[(.bool false), (.int .i64 (0 : Int)), (.int .i64 (0 : Int)), (.slice none 0 0), (.slice none 0 0)]⟩ 40) fun r1 H3 =>
  st1 H3 ⟨r, 0, none⟩ (.bool b1) fun H4 =>
  st1 H4 ⟨r, 1, none⟩ (.int .i64 n2) fun H5 =>
  st1 H5 ⟨r, 2, none⟩ (.int .i64 n3) fun H6 =>
  st1 H6 ⟨r, 3, none⟩ (.slice q qn qc) fun H7 =>
  st1 H7 ⟨r, 4, none⟩ (.slice q1 q1n q1c) fun H8 =>
  st1 H8 ⟨r1, 0, none⟩ (.bool b2) fun H9 =>
  st1 H9 ⟨r1, 1, none⟩ (.int .i64 n4) fun H10 =>
  st1 H10 ⟨r1, 2, none⟩ (.int .i64 n5) fun H11 =>
  st1 H11 ⟨r1, 3, none⟩ (.slice q2 q2n q2c) fun H12 =>
  st1 H12 ⟨r1, 4, none⟩ (.slice q3 q3n q3c) fun H13 =>
  iteB (!b3) (
    callD Try.prog 18 [] H13 (panK R) fun v1 H14 =>
    tBool v1 fun b4 =>
    R (.returned (.bool b4)) H14) <|
  ldBool H13 ⟨r, 0, none⟩ fun b5 =>
  ldInt H13 ⟨r, 1, none⟩ .i64 fun n6 =>
  ldInt H13 ⟨r, 2, none⟩ .i64 fun n7 =>
  ldSl H13 ⟨r, 3, none⟩ fun q4 q4n q4c =>
  ldSl H13 ⟨r, 4, none⟩ fun q5 q5n q5c =>
  ldBool H13 ⟨r1, 0, none⟩ fun b6 =>
  ldInt H13 ⟨r1, 1, none⟩ .i64 fun n8 =>
  ldInt H13 ⟨r1, 2, none⟩ .i64 fun n9 =>
  ldSl H13 ⟨r1, 3, none⟩ fun q6 q6n q6c =>
  ldSl H13 ⟨r1, 4, none⟩ fun q7 q7n q7c =>
  callD Try.prog 17 [(.int .i64 order), (.agg ⟨[(.bool b5), (.int .i64 n6), (.int .i64 n7), (.slice q4 q4n q4c), (.slice q5 q5n q5c)]⟩), (.agg ⟨[(.bool b6), (.int .i64 n8), (.int .i64 n9), (.slice q6 q6n q6c), (.slice q7 q7n q7c)]⟩)] H13 (panK R) fun v2 H15 =>
  tBool v2 fun b7 =>
  iteB b7 (
    callD Try.prog 18 [] H15 (panK R) fun v3 H16 =>
    tBool v3 fun b8 =>
    R (.returned (.bool b8)) H16) <|
  R (.returned (.bool false)) H15
theorem L0_step {order : Int} {l : Option Addr} {ln : Nat} {lc : Nat} {xin : Nat} {H : Heap} {R : Ending → Heap → Prop} (h : L0n order l ln lc xin H R) : L0 order l ln lc xin H R :=
  goL_of_den (an := an) (fuel := 100000) (X := L0n order l ln lc xin H R) mixed fn (by kernel_rfl) (fun ρ0 => by kernel_rfl) h
def go (order : Int) (l : Option Addr) (ln : Nat) (lc : Nat) (in_0 : ByteArray) (in_1 : ByteArray) (in_2 : Bool) (in_3 : Int) (in_4 : Int) (H : Heap) (R : Ending → Heap → Prop) : Prop :=
  newD H (.cells ⟨[(.string in_0), (.string in_1), (.bool in_2), (.int .i64 in_3), (.int .i64 in_4)]⟩ 35) fun r H1 =>
  callD Try.prog 14 [(.slice l ln lc)] H1 (panK R) fun v H2 =>
  tBool v fun b =>
  iteB (!b) (
    R (.returned (.bool true)) H2) <|
  ldStr H2 ⟨r, 0, none⟩ fun s =>
  ldStr H2 ⟨r, 1, none⟩ fun s1 =>
  ldBool H2 ⟨r, 2, none⟩ fun b1 =>
  ldInt H2 ⟨r, 3, none⟩ .i64 fun n =>
  ldInt H2 ⟨r, 4, none⟩ .i64 fun n1 =>
  callD Try.prog 15 [(.agg ⟨[(.string s), (.string s1), (.bool b1), (.int .i64 n), (.int .i64 n1)]⟩)] H2 (panK R) fun v1 H3 =>
  tBool v1 fun b2 =>
  iteB (!b2) (
    R (.returned (.bool true)) H3) <|
  L0 order l ln lc r H3 R
theorem calls {order : Int} {l : Option Addr} {ln : Nat} {lc : Nat} {in_0 : ByteArray} {in_1 : ByteArray} {in_2 : Bool} {in_3 : Int} {in_4 : Int} {H : Heap} {R : Ending → Heap → Prop} (h : go order l ln lc in_0 in_1 in_2 in_3 in_4 H R) : CallsH Try.prog 5 ⟨[(.int .i64 order), (.slice l ln lc), (.agg ⟨[(.string in_0), (.string in_1), (.bool in_2), (.int .i64 in_3), (.int .i64 in_4)]⟩)]⟩ H R :=
  callsH_of_den (an := an) (fuel := 100000) (X := go order l ln lc in_0 in_1 in_2 in_3 in_4 H R) (c := body) mixed fn (by kernel_rfl) (by kernel_rfl) (by kernel_rfl) ok (by kernel_rfl) h
end F5
/-! ### 6 "pub-stadtholder/laws.FnTreeHeight" -/
namespace F6
def an : Ann := { kinds := [], taus := [(7, [[0, 1, 2, 3, 4, 5, 6, 7, 8, 9, 10, 12, 13, 14, 11, 15, 16, 17, 18, 19, 20, 21, 22]])], pairs := [], lab := [] }
noncomputable def body : Code := (Try.f6.body).getD .skip
theorem fn : Try.prog.funcs[6]? = some Try.f6 := by kernel_rfl
theorem ok : codeOk an 50 body = true := by kernel_rfl
def go (order : Int) (l : Option Addr) (ln : Nat) (lc : Nat) (H : Heap) (R : Ending → Heap → Prop) : Prop :=
  callD Try.prog 14 [(.slice l ln lc)] H (panK R) fun v H1 =>
  tBool v fun b =>
  iteB (!b) (
    R (.returned (.bool true)) H1) <|
  callD Try.prog 19 [(.int .i64 order), (.slice l ln lc)] H1 (panK R) fun v1 H2 =>
  tTup v1 fun l1 =>
  tCons l1 fun c l2 =>
  tSl c fun q qn qc =>
  tCons l2 fun c1 l3 =>
  tPtr c1 fun p =>
  tCons l3 fun c2 l4 =>
  tBool c2 fun b1 =>
  tNil l4 <|
  iteB (!b1) (
    callD Try.prog 18 [] H2 (panK R) fun v2 H3 =>
    tBool v2 fun b2 =>
    R (.returned (.bool b2)) H3) <|
  newD H2 (.cells ⟨[(.int .i64 (9 : Int)), (.string (ByteArray.mk #[])), (.string (ByteArray.mk #[])), (.bool false), (.int .i64 (0 : Int)), (.int .i64 (0 : Int)), (.int .i64 (0 : Int)), (.int .i64 (0 : Int)), (.slice none 0 0), (.slice none 0 0)]⟩ 44) fun r H4 =>
  apD H4 10 128 [(.int .i64 (0 : Int)), (.string (ByteArray.mk #[])), (.string (ByteArray.mk #[])), (.bool false), (.int .i64 (0 : Int)), (.int .i64 (0 : Int)), (.int .i64 (0 : Int)), (.int .i64 (0 : Int)), (.slice none 0 0), (.slice none 0 0)] 44 q qn qc (some ⟨r, 0, none⟩) 1 fun q1 q1n q1c H5 =>
  callD Try.prog 20 [(.int .i64 order), (.slice q1 q1n q1c)] H5 (panK R) fun v3 H6 =>
  tSl v3 fun q2 q2n q2c =>
  iteB (((q2n : Nat) : Int) == (IntKind.wrap .i64 (((qn : Nat) : Int) + (1 : Int)))) (
    idxD q2 q2n ((qn : Nat) : Int) fun a =>
    nilD p fun a1 =>
    ldBool H6 (Addr.add a (Int.toNat ((qn : Nat) : Int) * 5)) fun b3 =>
    ldInt H6 (Addr.add (Addr.add a (Int.toNat ((qn : Nat) : Int) * 5)) 1) .i64 fun n =>
    ldInt H6 (Addr.add (Addr.add a (Int.toNat ((qn : Nat) : Int) * 5)) 2) .i64 fun n1 =>
    ldSl H6 (Addr.add (Addr.add a (Int.toNat ((qn : Nat) : Int) * 5)) 3) fun q3 q3n q3c =>
    ldSl H6 (Addr.add (Addr.add a (Int.toNat ((qn : Nat) : Int) * 5)) 4) fun q4 q4n q4c =>
    ldSl H6 (Addr.add a1 1) fun q5 q5n q5c =>
    callD Try.prog 21 [(.agg ⟨[(.bool b3), (.int .i64 n), (.int .i64 n1), (.slice q3 q3n q3c), (.slice q4 q4n q4c)]⟩), (.int .i64 ((q5n : Nat) : Int))] H6 (panK R) fun v4 H7 =>
    tBool v4 fun b4 =>
    iteB b4 (
      callD Try.prog 18 [] H7 (panK R) fun v5 H8 =>
      tBool v5 fun b5 =>
      R (.returned (.bool b5)) H8) <|
    R (.returned (.bool false)) H7) <|
  R (.returned (.bool false)) H6
theorem calls {order : Int} {l : Option Addr} {ln : Nat} {lc : Nat} {H : Heap} {R : Ending → Heap → Prop} (h : go order l ln lc H R) : CallsH Try.prog 6 ⟨[(.int .i64 order), (.slice l ln lc)]⟩ H R :=
  callsH_of_den (an := an) (fuel := 100000) (X := go order l ln lc H R) (c := body) mixed fn (by kernel_rfl) (by kernel_rfl) (by kernel_rfl) ok (by kernel_rfl) h
end F6
/-! ### 7 "pub-stadtholder/laws.FnTreeStab" -/
namespace F7
def an : Ann := { kinds := [], taus := [], pairs := [], lab := [(10000004, [0, 1, 5])] }
noncomputable def body : Code := (Try.f7.body).getD .skip
theorem fn : Try.prog.funcs[7]? = some Try.f7 := by kernel_rfl
theorem ok : codeOk an 38 body = true := by kernel_rfl
noncomputable def L0t : List Item := [.code (sub [1, 1] body)]
def L0 (order : Int) (l : Option Addr) (ln : Nat) (lc : Nat) (xin : Nat) (H : Heap) (R : Ending → Heap → Prop) : Prop :=
  GoL Try.prog 7 38 L0t [0, 1, 5] [(.int .i64 order), (.slice l ln lc), (.pointer (some ⟨xin, 0, none⟩))] H R
def L0n (order : Int) (l : Option Addr) (ln : Nat) (lc : Nat) (xin : Nat) (H : Heap) (R : Ending → Heap → Prop) : Prop :=
  ldStr H ⟨xin, 0, none⟩ fun s =>
  ldStr H ⟨xin, 1, none⟩ fun s1 =>
  ldBool H ⟨xin, 2, none⟩ fun b =>
  ldInt H ⟨xin, 3, none⟩ .i64 fun n =>
  ldInt H ⟨xin, 4, none⟩ .i64 fun n1 =>
  callD Try.prog 16 [(.int .i64 order), (.slice l ln lc), (.agg ⟨[(.int .i64 (4 : Int)), (.string s), (.string s1), (.bool b), (.int .i64 n), (.int .i64 n1), (.int .i64 (0 : Int)), (.int .i64 (0 : Int)), (.slice none 0 0), (.slice none 0 0)]⟩)] H (panK R) fun v H1 =>
  tTup v fun l1 =>
  tCons l1 fun c l2 =>
  tAgg c fun l3 =>
  tCons l3 fun c1 l4 =>
  tBool c1 fun b1 =>
  tCons l4 fun c2 l5 =>
  tInt c2 .i64 fun n2 =>
  tCons l5 fun c3 l6 =>
  tInt c3 .i64 fun n3 =>
  tCons l6 fun c4 l7 =>
  tSl c4 fun q qn qc =>
  tCons l7 fun c5 l8 =>
  tSl c5 fun q1 q1n q1c =>
  tNil l8 <|
  tCons l2 fun c6 l9 =>
  tAgg c6 fun l10 =>
  tCons l10 fun c7 l11 =>
  tBool c7 fun b2 =>
  tCons l11 fun c8 l12 =>
  tInt c8 .i64 fun n4 =>
  tCons l12 fun c9 l13 =>
  tInt c9 .i64 fun n5 =>
  tCons l13 fun c10 l14 =>
  tSl c10 fun q2 q2n q2c =>
  tCons l14 fun c11 l15 =>
  tSl c11 fun q3 q3n q3c =>
  tNil l15 <|
  tCons l9 fun c12 l16 =>
  tBool c12 fun b3 =>
  tNil l16 <|
  newD H1 (.cells ⟨[(.bool false), (.int .i64 (0 : Int)), (.int .i64 (0 : Int)), (.slice none 0 0), (.slice none 0 0)]⟩ 40) fun r H2 =>
  newD H2 (.cells ⟨[(.bool false), (.int .i64 (0 : Int)), (.int .i64 (0 : Int)), (.slice none 0 0), (.slice none 0 0)]⟩ 40) fun r1 H3 =>
  st1 H3 ⟨r, 0, none⟩ (.bool b1) fun H4 =>
  st1 H4 ⟨r, 1, none⟩ (.int .i64 n2) fun H5 =>
  st1 H5 ⟨r, 2, none⟩ (.int .i64 n3) fun H6 =>
  st1 H6 ⟨r, 3, none⟩ (.slice q qn qc) fun H7 =>
  st1 H7 ⟨r, 4, none⟩ (.slice q1 q1n q1c) fun H8 =>
  st1 H8 ⟨r1, 0, none⟩ (.bool b2) fun H9 =>
  st1 H9 ⟨r1, 1, none⟩ (.int .i64 n4) fun H10 =>
  st1 H10 ⟨r1, 2, none⟩ (.int .i64 n5) fun H11 =>
  st1 H11 ⟨r1, 3, none⟩ (.slice q2 q2n q2c) fun H12 =>
  st1 H12 ⟨r1, 4, none⟩ (.slice q3 q3n q3c) fun H13 =>
  iteB (!b3) (
    callD Try.prog 18 [] H13 (panK R) fun v1 H14 =>
    tBool v1 fun b4 =>
    R (.returned (.bool b4)) H14) <|
  ldBool H13 ⟨r, 0, none⟩ fun b5 =>
  ldInt H13 ⟨r, 1, none⟩ .i64 fun n6 =>
  ldInt H13 ⟨r, 2, none⟩ .i64 fun n7 =>
  ldSl H13 ⟨r, 3, none⟩ fun q4 q4n q4c =>
  ldSl H13 ⟨r, 4, none⟩ fun q5 q5n q5c =>
  ldBool H13 ⟨r1, 0, none⟩ fun b6 =>
  ldInt H13 ⟨r1, 1, none⟩ .i64 fun n8 =>
  ldInt H13 ⟨r1, 2, none⟩ .i64 fun n9 =>
  ldSl H13 ⟨r1, 3, none⟩ fun q6 q6n q6c =>
  ldSl H13 ⟨r1, 4, none⟩ fun q7 q7n q7c =>
  callD Try.prog 17 [(.int .i64 order), (.agg ⟨[(.bool b5), (.int .i64 n6), (.int .i64 n7), (.slice q4 q4n q4c), (.slice q5 q5n q5c)]⟩), (.agg ⟨[(.bool b6), (.int .i64 n8), (.int .i64 n9), (.slice q6 q6n q6c), (.slice q7 q7n q7c)]⟩)] H13 (panK R) fun v2 H15 =>
  tBool v2 fun b7 =>
  iteB b7 (
    callD Try.prog 18 [] H15 (panK R) fun v3 H16 =>
    tBool v3 fun b8 =>
    R (.returned (.bool b8)) H16) <|
  R (.returned (.bool false)) H15
theorem L0_step {order : Int} {l : Option Addr} {ln : Nat} {lc : Nat} {xin : Nat} {H : Heap} {R : Ending → Heap → Prop} (h : L0n order l ln lc xin H R) : L0 order l ln lc xin H R :=
  goL_of_den (an := an) (fuel := 100000) (X := L0n order l ln lc xin H R) mixed fn (by kernel_rfl) (fun ρ0 => by kernel_rfl) h
def go (order : Int) (l : Option Addr) (ln : Nat) (lc : Nat) (in_0 : ByteArray) (in_1 : ByteArray) (in_2 : Bool) (in_3 : Int) (in_4 : Int) (H : Heap) (R : Ending → Heap → Prop) : Prop :=
  newD H (.cells ⟨[(.string in_0), (.string in_1), (.bool in_2), (.int .i64 in_3), (.int .i64 in_4)]⟩ 35) fun r H1 =>
  callD Try.prog 14 [(.slice l ln lc)] H1 (panK R) fun v H2 =>
  tBool v fun b =>
  iteB (!b) (
    R (.returned (.bool true)) H2) <|
  ldStr H2 ⟨r, 0, none⟩ fun s =>
  ldStr H2 ⟨r, 1, none⟩ fun s1 =>
  ldBool H2 ⟨r, 2, none⟩ fun b1 =>
  ldInt H2 ⟨r, 3, none⟩ .i64 fun n =>
  ldInt H2 ⟨r, 4, none⟩ .i64 fun n1 =>
  callD Try.prog 15 [(.agg ⟨[(.string s), (.string s1), (.bool b1), (.int .i64 n), (.int .i64 n1)]⟩)] H2 (panK R) fun v1 H3 =>
  tBool v1 fun b2 =>
  iteB (!b2) (
    R (.returned (.bool true)) H3) <|
  L0 order l ln lc r H3 R
theorem calls {order : Int} {l : Option Addr} {ln : Nat} {lc : Nat} {in_0 : ByteArray} {in_1 : ByteArray} {in_2 : Bool} {in_3 : Int} {in_4 : Int} {H : Heap} {R : Ending → Heap → Prop} (h : go order l ln lc in_0 in_1 in_2 in_3 in_4 H R) : CallsH Try.prog 7 ⟨[(.int .i64 order), (.slice l ln lc), (.agg ⟨[(.string in_0), (.string in_1), (.bool in_2), (.int .i64 in_3), (.int .i64 in_4)]⟩)]⟩ H R :=
  callsH_of_den (an := an) (fuel := 100000) (X := go order l ln lc in_0 in_1 in_2 in_3 in_4 H R) (c := body) mixed fn (by kernel_rfl) (by kernel_rfl) (by kernel_rfl) ok (by kernel_rfl) h
end F7
/-! ### 14 "pub-stadtholder/laws.zzFits38" -/
namespace F14
def an : Ann := { kinds := [], taus := [], pairs := [], lab := [(40000005, [8, 9, 10])] }
noncomputable def body : Code := (Try.f14.body).getD .skip
theorem fn : Try.prog.funcs[14]? = some Try.f14 := by kernel_rfl
theorem ok : codeOk an 18 body = true := by kernel_rfl
noncomputable def L0t : List Item := [.code (sub [1, 1, 0, 1, 0, 0] body), .inLoop (sub [1, 1, 0, 1, 0, 0] body), .inBlock 0, .code (sub [1, 1, 1] body)]
def L0 (s8 : Option Addr) (s8n : Nat) (s8c : Nat) (s9 : Int) (s10 : Int) (H : Heap) (R : Ending → Heap → Prop) : Prop :=
  GoL Try.prog 14 18 L0t [8, 9, 10] [(.slice s8 s8n s8c), (.int .i64 s9), (.int .i64 s10)] H R
def L0n (s8 : Option Addr) (s8n : Nat) (s8c : Nat) (s9 : Int) (s10 : Int) (H : Heap) (R : Ending → Heap → Prop) : Prop :=
  iteB (decide (s10 < s9)) (
    idxD s8 s8n s10 fun a =>
    ldStr H (Addr.add a (Int.toNat s10 * 5)) fun s =>
    ldStr H (Addr.add (Addr.add a (Int.toNat s10 * 5)) 1) fun s1 =>
    ldBool H (Addr.add (Addr.add a (Int.toNat s10 * 5)) 2) fun b =>
    ldInt H (Addr.add (Addr.add a (Int.toNat s10 * 5)) 3) .i64 fun n =>
    ldInt H (Addr.add (Addr.add a (Int.toNat s10 * 5)) 4) .i64 fun n1 =>
    newD H (.cells ⟨[(.string (ByteArray.mk #[])), (.string (ByteArray.mk #[])), (.bool false), (.int .i64 (0 : Int)), (.int .i64 (0 : Int))]⟩ 35) fun r H1 =>
    st1 H1 ⟨r, 0, none⟩ (.string s) fun H2 =>
    st1 H2 ⟨r, 1, none⟩ (.string s1) fun H3 =>
    st1 H3 ⟨r, 2, none⟩ (.bool b) fun H4 =>
    st1 H4 ⟨r, 3, none⟩ (.int .i64 n) fun H5 =>
    st1 H5 ⟨r, 4, none⟩ (.int .i64 n1) fun H6 =>
    ldStr H6 ⟨r, 0, none⟩ fun s2 =>
    ldStr H6 ⟨r, 1, none⟩ fun s3 =>
    ldBool H6 ⟨r, 2, none⟩ fun b1 =>
    ldInt H6 ⟨r, 3, none⟩ .i64 fun n2 =>
    ldInt H6 ⟨r, 4, none⟩ .i64 fun n3 =>
    callD Try.prog 15 [(.agg ⟨[(.string s2), (.string s3), (.bool b1), (.int .i64 n2), (.int .i64 n3)]⟩)] H6 (panK R) fun v H7 =>
    tBool v fun b2 =>
    iteB (!b2) (
      R (.returned (.bool false)) H7) <|
    L0 s8 s8n s8c s9 (IntKind.wrap .i64 (s10 + (1 : Int))) H7 R) <|
  R (.returned (.bool true)) H
theorem L0_step {s8 : Option Addr} {s8n : Nat} {s8c : Nat} {s9 : Int} {s10 : Int} {H : Heap} {R : Ending → Heap → Prop} (h : L0n s8 s8n s8c s9 s10 H R) : L0 s8 s8n s8c s9 s10 H R :=
  goL_of_den (an := an) (fuel := 100000) (X := L0n s8 s8n s8c s9 s10 H R) mixed fn (by kernel_rfl) (fun ρ0 => by kernel_rfl) h
def go (x : Option Addr) (xn : Nat) (xc : Nat) (H : Heap) (R : Ending → Heap → Prop) : Prop :=
  iteB (decide (((xn : Nat) : Int) > (2147483647 : Int))) (
    R (.returned (.bool false)) H) <|
  L0 x xn xc ((xn : Nat) : Int) (0 : Int) H R
theorem calls {x : Option Addr} {xn : Nat} {xc : Nat} {H : Heap} {R : Ending → Heap → Prop} (h : go x xn xc H R) : CallsH Try.prog 14 ⟨[(.slice x xn xc)]⟩ H R :=
  callsH_of_den (an := an) (fuel := 100000) (X := go x xn xc H R) (c := body) mixed fn (by kernel_rfl) (by kernel_rfl) (by kernel_rfl) ok (by kernel_rfl) h
end F14
/-! ### 15 "pub-stadtholder/laws.zzFits36" -/
namespace F15
def an : Ann := { kinds := [], taus := [], pairs := [], lab := [] }
noncomputable def body : Code := (Try.f15.body).getD .skip
theorem fn : Try.prog.funcs[15]? = some Try.f15 := by kernel_rfl
theorem ok : codeOk an 7 body = true := by kernel_rfl
def go (x_0 : ByteArray) (x_1 : ByteArray) (x_2 : Bool) (x_3 : Int) (x_4 : Int) (H : Heap) (R : Ending → Heap → Prop) : Prop :=
  newD H (.cells ⟨[(.string x_0), (.string x_1), (.bool x_2), (.int .i64 x_3), (.int .i64 x_4)]⟩ 35) fun r H1 =>
  ldStr H1 ⟨r, 0, none⟩ fun s =>
  ldStr H1 ⟨r, 1, none⟩ fun s1 =>
  ldBool H1 ⟨r, 2, none⟩ fun b =>
  callD Try.prog 34 [(.agg ⟨[(.string s), (.string s1), (.bool b)]⟩)] H1 (panK R) fun v H2 =>
  tBool v fun b1 =>
  iteB (!b1) (
    R (.returned (.bool false)) H2) <|
  R (.returned (.bool true)) H2
theorem calls {x_0 : ByteArray} {x_1 : ByteArray} {x_2 : Bool} {x_3 : Int} {x_4 : Int} {H : Heap} {R : Ending → Heap → Prop} (h : go x_0 x_1 x_2 x_3 x_4 H R) : CallsH Try.prog 15 ⟨[(.agg ⟨[(.string x_0), (.string x_1), (.bool x_2), (.int .i64 x_3), (.int .i64 x_4)]⟩)]⟩ H R :=
  callsH_of_den (an := an) (fuel := 100000) (X := go x_0 x_1 x_2 x_3 x_4 H R) (c := body) mixed fn (by kernel_rfl) (by kernel_rfl) (by kernel_rfl) ok (by kernel_rfl) h
end F15
/-! ### 16 "pub-stadtholder/laws.trAsk" -/
namespace F16
def an : Ann := { kinds := [(7007, .grow)], taus := [(3, [[0, 1, 2, 3, 4], [0, 2, 1, 3, 4]]), (6, [[0, 1, 2, 3, 4], [0, 2, 1, 3, 4]]), (7, [[0, 1, 2, 3, 5, 4, 6, 7, 8, 9, 10]])], pairs := [(3, [(1, 2)]), (6, [(1, 2)])], lab := [(10000005, [0, 5, 6, 7, 9, 10])] }
noncomputable def body : Code := (Try.f16.body).getD .skip
theorem fn : Try.prog.funcs[16]? = some Try.f16 := by kernel_rfl
theorem ok : codeOk an 52 body = true := by kernel_rfl
noncomputable def L0t : List Item := [.code (sub [1, 1, 1] body)]
def L0 (order : Int) (o : Nat) (got : Nat) (want : Nat) (ops : Option Addr) (opsn : Nat) (opsc : Nat) (p : Option Addr) (H : Heap) (R : Ending → Heap → Prop) : Prop :=
  GoL Try.prog 16 52 L0t [0, 5, 6, 7, 9, 10] [(.int .i64 order), (.pointer (some ⟨o, 0, none⟩)), (.pointer (some ⟨got, 0, none⟩)), (.pointer (some ⟨want, 0, none⟩)), (.slice ops opsn opsc), (.pointer p)] H R
def L0n (order : Int) (o : Nat) (got : Nat) (want : Nat) (ops : Option Addr) (opsn : Nat) (opsc : Nat) (p : Option Addr) (H : Heap) (R : Ending → Heap → Prop) : Prop :=
  ldInt H ⟨o, 0, none⟩ .i64 fun n =>
  ldStr H ⟨o, 1, none⟩ fun s =>
  ldStr H ⟨o, 2, none⟩ fun s1 =>
  ldBool H ⟨o, 3, none⟩ fun b =>
  ldInt H ⟨o, 4, none⟩ .i64 fun n1 =>
  ldInt H ⟨o, 5, none⟩ .i64 fun n2 =>
  ldInt H ⟨o, 6, none⟩ .i64 fun n3 =>
  ldInt H ⟨o, 7, none⟩ .i64 fun n4 =>
  ldSl H ⟨o, 8, none⟩ fun q qn qc =>
  ldSl H ⟨o, 9, none⟩ fun q1 q1n q1c =>
  newD H (.cells ⟨[(.int .i64 n), (.string s), (.string s1), (.bool b), (.int .i64 n1), (.int .i64 n2), (.int .i64 n3), (.int .i64 n4), (.slice q qn qc), (.slice q1 q1n q1c)]⟩ 44) fun r H1 =>
  apD H1 10 128 [(.int .i64 (0 : Int)), (.string (ByteArray.mk #[])), (.string (ByteArray.mk #[])), (.bool false), (.int .i64 (0 : Int)), (.int .i64 (0 : Int)), (.int .i64 (0 : Int)), (.int .i64 (0 : Int)), (.slice none 0 0), (.slice none 0 0)] 44 ops opsn opsc (some ⟨r, 0, none⟩) 1 fun q2 q2n q2c H2 =>
  callD Try.prog 20 [(.int .i64 order), (.slice q2 q2n q2c)] H2 (panK R) fun v H3 =>
  tSl v fun q3 q3n q3c =>
  iteB (((q3n : Nat) : Int) != (IntKind.wrap .i64 (((opsn : Nat) : Int) + (1 : Int)))) (
    (
      ldBool H3 ⟨want, 0, none⟩ fun b1 =>
      ldInt H3 ⟨want, 1, none⟩ .i64 fun n5 =>
      ldInt H3 ⟨want, 2, none⟩ .i64 fun n6 =>
      ldSl H3 ⟨want, 3, none⟩ fun q4 q4n q4c =>
      ldSl H3 ⟨want, 4, none⟩ fun q5 q5n q5c =>
      st1 H3 ⟨got, 0, none⟩ (.bool false) fun H4 =>
      st1 H4 ⟨got, 1, none⟩ (.int .i64 (-1 : Int)) fun H5 =>
      st1 H5 ⟨got, 2, none⟩ (.int .i64 (0 : Int)) fun H6 =>
      st1 H6 ⟨got, 3, none⟩ (.slice none 0 0) fun H7 =>
      st1 H7 ⟨got, 4, none⟩ (.slice none 0 0) fun H8 =>
      st1 H8 ⟨want, 0, none⟩ (.bool b1) fun H9 =>
      st1 H9 ⟨want, 1, none⟩ (.int .i64 n5) fun H10 =>
      st1 H10 ⟨want, 2, none⟩ (.int .i64 n6) fun H11 =>
      st1 H11 ⟨want, 3, none⟩ (.slice q4 q4n q4c) fun H12 =>
      st1 H12 ⟨want, 4, none⟩ (.slice q5 q5n q5c) fun H13 =>
      ldBool H13 ⟨got, 0, none⟩ fun b2 =>
      ldInt H13 ⟨got, 1, none⟩ .i64 fun n7 =>
      ldInt H13 ⟨got, 2, none⟩ .i64 fun n8 =>
      ldSl H13 ⟨got, 3, none⟩ fun q6 q6n q6c =>
      ldSl H13 ⟨got, 4, none⟩ fun q7 q7n q7c =>
      ldBool H13 ⟨want, 0, none⟩ fun b3 =>
      ldInt H13 ⟨want, 1, none⟩ .i64 fun n9 =>
      ldInt H13 ⟨want, 2, none⟩ .i64 fun n10 =>
      ldSl H13 ⟨want, 3, none⟩ fun q8 q8n q8c =>
      ldSl H13 ⟨want, 4, none⟩ fun q9 q9n q9c =>
      R (.returned (.tuple ⟨[(.agg ⟨[(.bool b2), (.int .i64 n7), (.int .i64 n8), (.slice q6 q6n q6c), (.slice q7 q7n q7c)]⟩), (.agg ⟨[(.bool b3), (.int .i64 n9), (.int .i64 n10), (.slice q8 q8n q8c), (.slice q9 q9n q9c)]⟩), (.bool true)]⟩)) H13) ∧
    (
      st1 H3 ⟨got, 0, none⟩ (.bool false) fun H14 =>
      st1 H14 ⟨got, 1, none⟩ (.int .i64 (-1 : Int)) fun H15 =>
      st1 H15 ⟨got, 2, none⟩ (.int .i64 (0 : Int)) fun H16 =>
      st1 H16 ⟨got, 3, none⟩ (.slice none 0 0) fun H17 =>
      st1 H17 ⟨got, 4, none⟩ (.slice none 0 0) fun H18 =>
      ldBool H18 ⟨want, 0, none⟩ fun b4 =>
      ldInt H18 ⟨want, 1, none⟩ .i64 fun n11 =>
      ldInt H18 ⟨want, 2, none⟩ .i64 fun n12 =>
      ldSl H18 ⟨want, 3, none⟩ fun q10 q10n q10c =>
      ldSl H18 ⟨want, 4, none⟩ fun q11 q11n q11c =>
      st1 H18 ⟨want, 0, none⟩ (.bool b4) fun H19 =>
      st1 H19 ⟨want, 1, none⟩ (.int .i64 n11) fun H20 =>
      st1 H20 ⟨want, 2, none⟩ (.int .i64 n12) fun H21 =>
      st1 H21 ⟨want, 3, none⟩ (.slice q10 q10n q10c) fun H22 =>
      st1 H22 ⟨want, 4, none⟩ (.slice q11 q11n q11c) fun H23 =>
      ldBool H23 ⟨got, 0, none⟩ fun b5 =>
      ldInt H23 ⟨got, 1, none⟩ .i64 fun n13 =>
      ldInt H23 ⟨got, 2, none⟩ .i64 fun n14 =>
      ldSl H23 ⟨got, 3, none⟩ fun q12 q12n q12c =>
      ldSl H23 ⟨got, 4, none⟩ fun q13 q13n q13c =>
      ldBool H23 ⟨want, 0, none⟩ fun b6 =>
      ldInt H23 ⟨want, 1, none⟩ .i64 fun n15 =>
      ldInt H23 ⟨want, 2, none⟩ .i64 fun n16 =>
      ldSl H23 ⟨want, 3, none⟩ fun q14 q14n q14c =>
      ldSl H23 ⟨want, 4, none⟩ fun q15 q15n q15c =>
      R (.returned (.tuple ⟨[(.agg ⟨[(.bool b5), (.int .i64 n13), (.int .i64 n14), (.slice q12 q12n q12c), (.slice q13 q13n q13c)]⟩), (.agg ⟨[(.bool b6), (.int .i64 n15), (.int .i64 n16), (.slice q14 q14n q14c), (.slice q15 q15n q15c)]⟩), (.bool true)]⟩)) H23)) <|
  idxD q3 q3n ((opsn : Nat) : Int) fun a =>
  ldBool H3 (Addr.add a (Int.toNat ((opsn : Nat) : Int) * 5)) fun b7 =>
  ldInt H3 (Addr.add (Addr.add a (Int.toNat ((opsn : Nat) : Int) * 5)) 1) .i64 fun n17 =>
  ldInt H3 (Addr.add (Addr.add a (Int.toNat ((opsn : Nat) : Int) * 5)) 2) .i64 fun n18 =>
  ldSl H3 (Addr.add (Addr.add a (Int.toNat ((opsn : Nat) : Int) * 5)) 3) fun q16 q16n q16c =>
  ldSl H3 (Addr.add (Addr.add a (Int.toNat ((opsn : Nat) : Int) * 5)) 4) fun q17 q17n q17c =>
  ldInt H3 ⟨o, 0, none⟩ .i64 fun n19 =>
  ldStr H3 ⟨o, 1, none⟩ fun s2 =>
  ldStr H3 ⟨o, 2, none⟩ fun s3 =>
  ldBool H3 ⟨o, 3, none⟩ fun b8 =>
  ldInt H3 ⟨o, 4, none⟩ .i64 fun n20 =>
  ldInt H3 ⟨o, 5, none⟩ .i64 fun n21 =>
  ldInt H3 ⟨o, 6, none⟩ .i64 fun n22 =>
  ldInt H3 ⟨o, 7, none⟩ .i64 fun n23 =>
  ldSl H3 ⟨o, 8, none⟩ fun q18 q18n q18c =>
  ldSl H3 ⟨o, 9, none⟩ fun q19 q19n q19c =>
  callD Try.prog 36 [(.pointer p), (.agg ⟨[(.int .i64 n19), (.string s2), (.string s3), (.bool b8), (.int .i64 n20), (.int .i64 n21), (.int .i64 n22), (.int .i64 n23), (.slice q18 q18n q18c), (.slice q19 q19n q19c)]⟩)] H3 nope fun v1 H24 =>
  tAgg v1 fun l =>
  tCons l fun c l1 =>
  tBool c fun b9 =>
  tCons l1 fun c1 l2 =>
  tInt c1 .i64 fun n24 =>
  tCons l2 fun c2 l3 =>
  tInt c2 .i64 fun n25 =>
  tCons l3 fun c3 l4 =>
  tSl c3 fun q20 q20n q20c =>
  tCons l4 fun c4 l5 =>
  tSl c4 fun q21 q21n q21c =>
  tNil l5 <|
  andD (ExtH H3 H24) <|
  st1 H24 ⟨got, 0, none⟩ (.bool b7) fun H25 =>
  st1 H25 ⟨got, 1, none⟩ (.int .i64 n17) fun H26 =>
  st1 H26 ⟨got, 2, none⟩ (.int .i64 n18) fun H27 =>
  st1 H27 ⟨got, 3, none⟩ (.slice q16 q16n q16c) fun H28 =>
  st1 H28 ⟨got, 4, none⟩ (.slice q17 q17n q17c) fun H29 =>
  st1 H29 ⟨want, 0, none⟩ (.bool b9) fun H30 =>
  st1 H30 ⟨want, 1, none⟩ (.int .i64 n24) fun H31 =>
  st1 H31 ⟨want, 2, none⟩ (.int .i64 n25) fun H32 =>
  st1 H32 ⟨want, 3, none⟩ (.slice q20 q20n q20c) fun H33 =>
  st1 H33 ⟨want, 4, none⟩ (.slice q21 q21n q21c) fun H34 =>
  ldBool H34 ⟨got, 0, none⟩ fun b10 =>
  ldInt H34 ⟨got, 1, none⟩ .i64 fun n26 =>
  ldInt H34 ⟨got, 2, none⟩ .i64 fun n27 =>
  ldSl H34 ⟨got, 3, none⟩ fun q22 q22n q22c =>
  ldSl H34 ⟨got, 4, none⟩ fun q23 q23n q23c =>
  ldBool H34 ⟨want, 0, none⟩ fun b11 =>
  ldInt H34 ⟨want, 1, none⟩ .i64 fun n28 =>
  ldInt H34 ⟨want, 2, none⟩ .i64 fun n29 =>
  ldSl H34 ⟨want, 3, none⟩ fun q24 q24n q24c =>
  ldSl H34 ⟨want, 4, none⟩ fun q25 q25n q25c =>
  R (.returned (.tuple ⟨[(.agg ⟨[(.bool b10), (.int .i64 n26), (.int .i64 n27), (.slice q22 q22n q22c), (.slice q23 q23n q23c)]⟩), (.agg ⟨[(.bool b11), (.int .i64 n28), (.int .i64 n29), (.slice q24 q24n q24c), (.slice q25 q25n q25c)]⟩), (.bool true)]⟩)) H34
theorem L0_step {order : Int} {o : Nat} {got : Nat} {want : Nat} {ops : Option Addr} {opsn : Nat} {opsc : Nat} {p : Option Addr} {H : Heap} {R : Ending → Heap → Prop} (h : L0n order o got want ops opsn opsc p H R) : L0 order o got want ops opsn opsc p H R :=
  goL_of_den (an := an) (fuel := 100000) (X := L0n order o got want ops opsn opsc p H R) mixed fn (by kernel_rfl) (fun ρ0 => by kernel_rfl) h
def go (order : Int) (l : Option Addr) (ln : Nat) (lc : Nat) (o_0 : Int) (o_1 : ByteArray) (o_2 : ByteArray) (o_3 : Bool) (o_4 : Int) (o_5 : Int) (o_6 : Int) (o_7 : Int) (o_8 : Option Addr) (o_8n : Nat) (o_8c : Nat) (o_9 : Option Addr) (o_9n : Nat) (o_9c : Nat) (H : Heap) (R : Ending → Heap → Prop) : Prop :=
  newD H (.cells ⟨[(.int .i64 o_0), (.string o_1), (.string o_2), (.bool o_3), (.int .i64 o_4), (.int .i64 o_5), (.int .i64 o_6), (.int .i64 o_7), (.slice o_8 o_8n o_8c), (.slice o_9 o_9n o_9c)]⟩ 44) fun r H1 =>
  newD H1 (.cells ⟨[(.bool false), (.int .i64 (0 : Int)), (.int .i64 (0 : Int)), (.slice none 0 0), (.slice none 0 0)]⟩ 40) fun r1 H2 =>
  newD H2 (.cells ⟨[(.bool false), (.int .i64 (0 : Int)), (.int .i64 (0 : Int)), (.slice none 0 0), (.slice none 0 0)]⟩ 40) fun r2 H3 =>
  callD Try.prog 19 [(.int .i64 order), (.slice l ln lc)] H3 (panK R) fun v H4 =>
  tTup v fun l1 =>
  tCons l1 fun c l2 =>
  tSl c fun q qn qc =>
  tCons l2 fun c1 l3 =>
  tPtr c1 fun p =>
  tCons l3 fun c2 l4 =>
  tBool c2 fun b =>
  tNil l4 <|
  iteB (!b) (
    (
      ldBool H4 ⟨r1, 0, none⟩ fun b1 =>
      ldInt H4 ⟨r1, 1, none⟩ .i64 fun n =>
      ldInt H4 ⟨r1, 2, none⟩ .i64 fun n1 =>
      ldSl H4 ⟨r1, 3, none⟩ fun q1 q1n q1c =>
      ldSl H4 ⟨r1, 4, none⟩ fun q2 q2n q2c =>
      ldBool H4 ⟨r2, 0, none⟩ fun b2 =>
      ldInt H4 ⟨r2, 1, none⟩ .i64 fun n2 =>
      ldInt H4 ⟨r2, 2, none⟩ .i64 fun n3 =>
      ldSl H4 ⟨r2, 3, none⟩ fun q3 q3n q3c =>
      ldSl H4 ⟨r2, 4, none⟩ fun q4 q4n q4c =>
      st1 H4 ⟨r1, 0, none⟩ (.bool b1) fun H5 =>
      st1 H5 ⟨r1, 1, none⟩ (.int .i64 n) fun H6 =>
      st1 H6 ⟨r1, 2, none⟩ (.int .i64 n1) fun H7 =>
      st1 H7 ⟨r1, 3, none⟩ (.slice q1 q1n q1c) fun H8 =>
      st1 H8 ⟨r1, 4, none⟩ (.slice q2 q2n q2c) fun H9 =>
      st1 H9 ⟨r2, 0, none⟩ (.bool b2) fun H10 =>
      st1 H10 ⟨r2, 1, none⟩ (.int .i64 n2) fun H11 =>
      st1 H11 ⟨r2, 2, none⟩ (.int .i64 n3) fun H12 =>
      st1 H12 ⟨r2, 3, none⟩ (.slice q3 q3n q3c) fun H13 =>
      st1 H13 ⟨r2, 4, none⟩ (.slice q4 q4n q4c) fun H14 =>
      ldBool H14 ⟨r1, 0, none⟩ fun b3 =>
      ldInt H14 ⟨r1, 1, none⟩ .i64 fun n4 =>
      ldInt H14 ⟨r1, 2, none⟩ .i64 fun n5 =>
      ldSl H14 ⟨r1, 3, none⟩ fun q5 q5n q5c =>
      ldSl H14 ⟨r1, 4, none⟩ fun q6 q6n q6c =>
      ldBool H14 ⟨r2, 0, none⟩ fun b4 =>
      ldInt H14 ⟨r2, 1, none⟩ .i64 fun n6 =>
      ldInt H14 ⟨r2, 2, none⟩ .i64 fun n7 =>
      ldSl H14 ⟨r2, 3, none⟩ fun q7 q7n q7c =>
      ldSl H14 ⟨r2, 4, none⟩ fun q8 q8n q8c =>
      R (.returned (.tuple ⟨[(.agg ⟨[(.bool b3), (.int .i64 n4), (.int .i64 n5), (.slice q5 q5n q5c), (.slice q6 q6n q6c)]⟩), (.agg ⟨[(.bool b4), (.int .i64 n6), (.int .i64 n7), (.slice q7 q7n q7c), (.slice q8 q8n q8c)]⟩), (.bool false)]⟩)) H14) ∧
    (
      ldBool H4 ⟨r1, 0, none⟩ fun b5 =>
      ldInt H4 ⟨r1, 1, none⟩ .i64 fun n8 =>
      ldInt H4 ⟨r1, 2, none⟩ .i64 fun n9 =>
      ldSl H4 ⟨r1, 3, none⟩ fun q9 q9n q9c =>
      ldSl H4 ⟨r1, 4, none⟩ fun q10 q10n q10c =>
      st1 H4 ⟨r1, 0, none⟩ (.bool b5) fun H15 =>
      st1 H15 ⟨r1, 1, none⟩ (.int .i64 n8) fun H16 =>
      st1 H16 ⟨r1, 2, none⟩ (.int .i64 n9) fun H17 =>
      st1 H17 ⟨r1, 3, none⟩ (.slice q9 q9n q9c) fun H18 =>
      st1 H18 ⟨r1, 4, none⟩ (.slice q10 q10n q10c) fun H19 =>
      ldBool H19 ⟨r2, 0, none⟩ fun b6 =>
      ldInt H19 ⟨r2, 1, none⟩ .i64 fun n10 =>
      ldInt H19 ⟨r2, 2, none⟩ .i64 fun n11 =>
      ldSl H19 ⟨r2, 3, none⟩ fun q11 q11n q11c =>
      ldSl H19 ⟨r2, 4, none⟩ fun q12 q12n q12c =>
      st1 H19 ⟨r2, 0, none⟩ (.bool b6) fun H20 =>
      st1 H20 ⟨r2, 1, none⟩ (.int .i64 n10) fun H21 =>
      st1 H21 ⟨r2, 2, none⟩ (.int .i64 n11) fun H22 =>
      st1 H22 ⟨r2, 3, none⟩ (.slice q11 q11n q11c) fun H23 =>
      st1 H23 ⟨r2, 4, none⟩ (.slice q12 q12n q12c) fun H24 =>
      ldBool H24 ⟨r1, 0, none⟩ fun b7 =>
      ldInt H24 ⟨r1, 1, none⟩ .i64 fun n12 =>
      ldInt H24 ⟨r1, 2, none⟩ .i64 fun n13 =>
      ldSl H24 ⟨r1, 3, none⟩ fun q13 q13n q13c =>
      ldSl H24 ⟨r1, 4, none⟩ fun q14 q14n q14c =>
      ldBool H24 ⟨r2, 0, none⟩ fun b8 =>
      ldInt H24 ⟨r2, 1, none⟩ .i64 fun n14 =>
      ldInt H24 ⟨r2, 2, none⟩ .i64 fun n15 =>
      ldSl H24 ⟨r2, 3, none⟩ fun q15 q15n q15c =>
      ldSl H24 ⟨r2, 4, none⟩ fun q16 q16n q16c =>
      R (.returned (.tuple ⟨[(.agg ⟨[(.bool b7), (.int .i64 n12), (.int .i64 n13), (.slice q13 q13n q13c), (.slice q14 q14n q14c)]⟩), (.agg ⟨[(.bool b8), (.int .i64 n14), (.int .i64 n15), (.slice q15 q15n q15c), (.slice q16 q16n q16c)]⟩), (.bool false)]⟩)) H24)) <|
  ldInt H4 ⟨r, 0, none⟩ .i64 fun n16 =>
  ldStr H4 ⟨r, 1, none⟩ fun s =>
  ldStr H4 ⟨r, 2, none⟩ fun s1 =>
  ldBool H4 ⟨r, 3, none⟩ fun b9 =>
  ldInt H4 ⟨r, 4, none⟩ .i64 fun n17 =>
  ldInt H4 ⟨r, 5, none⟩ .i64 fun n18 =>
  ldInt H4 ⟨r, 6, none⟩ .i64 fun n19 =>
  ldInt H4 ⟨r, 7, none⟩ .i64 fun n20 =>
  ldSl H4 ⟨r, 8, none⟩ fun q17 q17n q17c =>
  ldSl H4 ⟨r, 9, none⟩ fun q18 q18n q18c =>
  callD Try.prog 35 [(.int .i64 order), (.agg ⟨[(.int .i64 n16), (.string s), (.string s1), (.bool b9), (.int .i64 n17), (.int .i64 n18), (.int .i64 n19), (.int .i64 n20), (.slice q17 q17n q17c), (.slice q18 q18n q18c)]⟩)] H4 (panK R) fun v1 H25 =>
  tBool v1 fun b10 =>
  iteB (!b10) (
    (
      ldBool H25 ⟨r1, 0, none⟩ fun b11 =>
      ldInt H25 ⟨r1, 1, none⟩ .i64 fun n21 =>
      ldInt H25 ⟨r1, 2, none⟩ .i64 fun n22 =>
      ldSl H25 ⟨r1, 3, none⟩ fun q19 q19n q19c =>
      ldSl H25 ⟨r1, 4, none⟩ fun q20 q20n q20c =>
      ldBool H25 ⟨r2, 0, none⟩ fun b12 =>
      ldInt H25 ⟨r2, 1, none⟩ .i64 fun n23 =>
      ldInt H25 ⟨r2, 2, none⟩ .i64 fun n24 =>
      ldSl H25 ⟨r2, 3, none⟩ fun q21 q21n q21c =>
      ldSl H25 ⟨r2, 4, none⟩ fun q22 q22n q22c =>
      st1 H25 ⟨r1, 0, none⟩ (.bool b11) fun H26 =>
      st1 H26 ⟨r1, 1, none⟩ (.int .i64 n21) fun H27 =>
      st1 H27 ⟨r1, 2, none⟩ (.int .i64 n22) fun H28 =>
      st1 H28 ⟨r1, 3, none⟩ (.slice q19 q19n q19c) fun H29 =>
      st1 H29 ⟨r1, 4, none⟩ (.slice q20 q20n q20c) fun H30 =>
      st1 H30 ⟨r2, 0, none⟩ (.bool b12) fun H31 =>
      st1 H31 ⟨r2, 1, none⟩ (.int .i64 n23) fun H32 =>
      st1 H32 ⟨r2, 2, none⟩ (.int .i64 n24) fun H33 =>
      st1 H33 ⟨r2, 3, none⟩ (.slice q21 q21n q21c) fun H34 =>
      st1 H34 ⟨r2, 4, none⟩ (.slice q22 q22n q22c) fun H35 =>
      ldBool H35 ⟨r1, 0, none⟩ fun b13 =>
      ldInt H35 ⟨r1, 1, none⟩ .i64 fun n25 =>
      ldInt H35 ⟨r1, 2, none⟩ .i64 fun n26 =>
      ldSl H35 ⟨r1, 3, none⟩ fun q23 q23n q23c =>
      ldSl H35 ⟨r1, 4, none⟩ fun q24 q24n q24c =>
      ldBool H35 ⟨r2, 0, none⟩ fun b14 =>
      ldInt H35 ⟨r2, 1, none⟩ .i64 fun n27 =>
      ldInt H35 ⟨r2, 2, none⟩ .i64 fun n28 =>
      ldSl H35 ⟨r2, 3, none⟩ fun q25 q25n q25c =>
      ldSl H35 ⟨r2, 4, none⟩ fun q26 q26n q26c =>
      R (.returned (.tuple ⟨[(.agg ⟨[(.bool b13), (.int .i64 n25), (.int .i64 n26), (.slice q23 q23n q23c), (.slice q24 q24n q24c)]⟩), (.agg ⟨[(.bool b14), (.int .i64 n27), (.int .i64 n28), (.slice q25 q25n q25c), (.slice q26 q26n q26c)]⟩), (.bool false)]⟩)) H35) ∧
    (
      ldBool H25 ⟨r1, 0, none⟩ fun b15 =>
      ldInt H25 ⟨r1, 1, none⟩ .i64 fun n29 =>
      ldInt H25 ⟨r1, 2, none⟩ .i64 fun n30 =>
      ldSl H25 ⟨r1, 3, none⟩ fun q27 q27n q27c =>
      ldSl H25 ⟨r1, 4, none⟩ fun q28 q28n q28c =>
      st1 H25 ⟨r1, 0, none⟩ (.bool b15) fun H36 =>
      st1 H36 ⟨r1, 1, none⟩ (.int .i64 n29) fun H37 =>
      st1 H37 ⟨r1, 2, none⟩ (.int .i64 n30) fun H38 =>
      st1 H38 ⟨r1, 3, none⟩ (.slice q27 q27n q27c) fun H39 =>
      st1 H39 ⟨r1, 4, none⟩ (.slice q28 q28n q28c) fun H40 =>
      ldBool H40 ⟨r2, 0, none⟩ fun b16 =>
      ldInt H40 ⟨r2, 1, none⟩ .i64 fun n31 =>
      ldInt H40 ⟨r2, 2, none⟩ .i64 fun n32 =>
      ldSl H40 ⟨r2, 3, none⟩ fun q29 q29n q29c =>
      ldSl H40 ⟨r2, 4, none⟩ fun q30 q30n q30c =>
      st1 H40 ⟨r2, 0, none⟩ (.bool b16) fun H41 =>
      st1 H41 ⟨r2, 1, none⟩ (.int .i64 n31) fun H42 =>
      st1 H42 ⟨r2, 2, none⟩ (.int .i64 n32) fun H43 =>
      st1 H43 ⟨r2, 3, none⟩ (.slice q29 q29n q29c) fun H44 =>
      st1 H44 ⟨r2, 4, none⟩ (.slice q30 q30n q30c) fun H45 =>
      ldBool H45 ⟨r1, 0, none⟩ fun b17 =>
      ldInt H45 ⟨r1, 1, none⟩ .i64 fun n33 =>
      ldInt H45 ⟨r1, 2, none⟩ .i64 fun n34 =>
      ldSl H45 ⟨r1, 3, none⟩ fun q31 q31n q31c =>
      ldSl H45 ⟨r1, 4, none⟩ fun q32 q32n q32c =>
      ldBool H45 ⟨r2, 0, none⟩ fun b18 =>
      ldInt H45 ⟨r2, 1, none⟩ .i64 fun n35 =>
      ldInt H45 ⟨r2, 2, none⟩ .i64 fun n36 =>
      ldSl H45 ⟨r2, 3, none⟩ fun q33 q33n q33c =>
      ldSl H45 ⟨r2, 4, none⟩ fun q34 q34n q34c =>
      R (.returned (.tuple ⟨[(.agg ⟨[(.bool b17), (.int .i64 n33), (.int .i64 n34), (.slice q31 q31n q31c), (.slice q32 q32n q32c)]⟩), (.agg ⟨[(.bool b18), (.int .i64 n35), (.int .i64 n36), (.slice q33 q33n q33c), (.slice q34 q34n q34c)]⟩), (.bool false)]⟩)) H45)) <|
  L0 order r r1 r2 q qn qc p H25 R
theorem calls {order : Int} {l : Option Addr} {ln : Nat} {lc : Nat} {o_0 : Int} {o_1 : ByteArray} {o_2 : ByteArray} {o_3 : Bool} {o_4 : Int} {o_5 : Int} {o_6 : Int} {o_7 : Int} {o_8 : Option Addr} {o_8n : Nat} {o_8c : Nat} {o_9 : Option Addr} {o_9n : Nat} {o_9c : Nat} {H : Heap} {R : Ending → Heap → Prop} (h : go order l ln lc o_0 o_1 o_2 o_3 o_4 o_5 o_6 o_7 o_8 o_8n o_8c o_9 o_9n o_9c H R) : CallsH Try.prog 16 ⟨[(.int .i64 order), (.slice l ln lc), (.agg ⟨[(.int .i64 o_0), (.string o_1), (.string o_2), (.bool o_3), (.int .i64 o_4), (.int .i64 o_5), (.int .i64 o_6), (.int .i64 o_7), (.slice o_8 o_8n o_8c), (.slice o_9 o_9n o_9c)]⟩)]⟩ H R :=
  callsH_of_den (an := an) (fuel := 100000) (X := go order l ln lc o_0 o_1 o_2 o_3 o_4 o_5 o_6 o_7 o_8 o_8n o_8c o_9 o_9n o_9c H R) (c := body) mixed fn (by kernel_rfl) (by kernel_rfl) (by kernel_rfl) ok (by kernel_rfl) h
end F16
/-! ### 17 "pub-stadtholder/laws.trSame" -/
namespace F17
def an : Ann := { kinds := [], taus := [(6, [[0, 2, 1, 3, 4, 5, 6, 7, 8, 9, 11, 14, 16, 10, 12, 13, 15, 17, 18, 19, 20, 21]]), (12, [[0, 2, 5, 7, 1, 3, 4, 6, 8, 9, 10]])], pairs := [], lab := [(10000004, [0, 4, 5]), (40000005, [0, 4, 5, 41, 42]), (40000011, [4, 5, 70, 71]), (40000009, [0, 4, 5, 41, 42])] }
noncomputable def body : Code := (Try.f17.body).getD .skip
theorem fn : Try.prog.funcs[17]? = some Try.f17 := by kernel_rfl
theorem ok : codeOk an 86 body = true := by kernel_rfl
noncomputable def L0t : List Item := [.code (sub [1, 1] body)]
def L0 (s0 : Int) (s4 : Nat) (s5 : Nat) (H : Heap) (R : Ending → Heap → Prop) : Prop :=
  GoL Try.prog 17 86 L0t [0, 4, 5] [(.int .i64 s0), (.pointer (some ⟨s4, 0, none⟩)), (.pointer (some ⟨s5, 0, none⟩))] H R
noncomputable def L1t : List Item := [.code (sub [1, 1, 0, 1, 0, 0] body), .inLoop (sub [1, 1, 0, 1, 0, 0] body), .inBlock 0, .code (sub [1, 1, 1] body)]
def L1 (s0 : Int) (s4 : Nat) (s5 : Nat) (s41 : Int) (s42 : Int) (H : Heap) (R : Ending → Heap → Prop) : Prop :=
  GoL Try.prog 17 86 L1t [0, 4, 5, 41, 42] [(.int .i64 s0), (.pointer (some ⟨s4, 0, none⟩)), (.pointer (some ⟨s5, 0, none⟩)), (.int .i64 s41), (.int .i64 s42)] H R
noncomputable def L2t : List Item := [.code (sub [1, 1, 1, 0, 1, 0, 0] body), .inLoop (sub [1, 1, 1, 0, 1, 0, 0] body), .inBlock 2, .code (sub [1, 1, 1, 1] body)]
def L2 (s4 : Nat) (s5 : Nat) (s70 : Int) (s71 : Int) (H : Heap) (R : Ending → Heap → Prop) : Prop :=
  GoL Try.prog 17 86 L2t [4, 5, 70, 71] [(.pointer (some ⟨s4, 0, none⟩)), (.pointer (some ⟨s5, 0, none⟩)), (.int .i64 s70), (.int .i64 s71)] H R
noncomputable def L3t : List Item := [.code (sub [1, 1, 0, 1, 0, 0, 1, 1, 1] body), .inLoop (sub [1, 1, 0, 1, 0, 0] body), .inBlock 0, .code (sub [1, 1, 1] body)]
def L3 (s0 : Int) (s4 : Nat) (s5 : Nat) (s41 : Int) (s42 : Int) (H : Heap) (R : Ending → Heap → Prop) : Prop :=
  GoL Try.prog 17 86 L3t [0, 4, 5, 41, 42] [(.int .i64 s0), (.pointer (some ⟨s4, 0, none⟩)), (.pointer (some ⟨s5, 0, none⟩)), (.int .i64 s41), (.int .i64 s42)] H R
def L0n (s0 : Int) (s4 : Nat) (s5 : Nat) (H : Heap) (R : Ending → Heap → Prop) : Prop :=
  ldSl H ⟨s4, 3, none⟩ fun q qn qc =>
  L1 s0 s4 s5 ((qn : Nat) : Int) (0 : Int) H R
theorem L0_step {s0 : Int} {s4 : Nat} {s5 : Nat} {H : Heap} {R : Ending → Heap → Prop} (h : L0n s0 s4 s5 H R) : L0 s0 s4 s5 H R :=
  goL_of_den (an := an) (fuel := 100000) (X := L0n s0 s4 s5 H R) mixed fn (by kernel_rfl) (fun ρ0 => by kernel_rfl) h
def L1n (s0 : Int) (s4 : Nat) (s5 : Nat) (s41 : Int) (s42 : Int) (H : Heap) (R : Ending → Heap → Prop) : Prop :=
  iteB (decide (s42 < s41)) (
    ldSl H ⟨s4, 3, none⟩ fun q qn qc =>
    idxD q qn s42 fun a =>
    ldBool H (Addr.add (Addr.add a (Int.toNat s42 * 5)) 2) fun b =>
    iteB b (
      R (.returned (.bool false)) H) <|
    ldSl H ⟨s4, 3, none⟩ fun q1 q1n q1c =>
    idxD q1 q1n s42 fun a1 =>
    ldStr H (Addr.add a1 (Int.toNat s42 * 5)) fun s =>
    ldStr H (Addr.add (Addr.add a1 (Int.toNat s42 * 5)) 1) fun s1 =>
    ldBool H (Addr.add (Addr.add a1 (Int.toNat s42 * 5)) 2) fun b1 =>
    ldInt H (Addr.add (Addr.add a1 (Int.toNat s42 * 5)) 3) .i64 fun n =>
    ldInt H (Addr.add (Addr.add a1 (Int.toNat s42 * 5)) 4) .i64 fun n1 =>
    ldSl H ⟨s5, 3, none⟩ fun q2 q2n q2c =>
    idxD q2 q2n s42 fun a2 =>
    ldStr H (Addr.add a2 (Int.toNat s42 * 5)) fun s2 =>
    ldStr H (Addr.add (Addr.add a2 (Int.toNat s42 * 5)) 1) fun s3 =>
    ldBool H (Addr.add (Addr.add a2 (Int.toNat s42 * 5)) 2) fun b2 =>
    ldInt H (Addr.add (Addr.add a2 (Int.toNat s42 * 5)) 3) .i64 fun n2 =>
    ldInt H (Addr.add (Addr.add a2 (Int.toNat s42 * 5)) 4) .i64 fun n3 =>
    callD Try.prog 29 [(.int .i64 s0), (.agg ⟨[(.string s), (.string s1), (.bool b1), (.int .i64 n), (.int .i64 n1)]⟩), (.agg ⟨[(.string s2), (.string s3), (.bool b2), (.int .i64 n2), (.int .i64 n3)]⟩)] H (panK R) fun v H1 =>
    tBool v fun b3 =>
    iteB (!b3) (
      R (.returned (.bool false)) H1) <|
    L3 s0 s4 s5 s41 s42 H1 R) <|
  ldSl H ⟨s4, 4, none⟩ fun q3 q3n q3c =>
  L2 s4 s5 ((q3n : Nat) : Int) (0 : Int) H R
theorem L1_step {s0 : Int} {s4 : Nat} {s5 : Nat} {s41 : Int} {s42 : Int} {H : Heap} {R : Ending → Heap → Prop} (h : L1n s0 s4 s5 s41 s42 H R) : L1 s0 s4 s5 s41 s42 H R :=
  goL_of_den (an := an) (fuel := 100000) (X := L1n s0 s4 s5 s41 s42 H R) mixed fn (by kernel_rfl) (fun ρ0 => by kernel_rfl) h
def L2n (s4 : Nat) (s5 : Nat) (s70 : Int) (s71 : Int) (H : Heap) (R : Ending → Heap → Prop) : Prop :=
  iteB (decide (s71 < s70)) (
    ldSl H ⟨s4, 4, none⟩ fun q qn qc =>
    idxD q qn s71 fun a =>
    ldInt H (Addr.add a (Int.toNat s71 * 1)) .i64 fun n =>
    ldSl H ⟨s5, 4, none⟩ fun q1 q1n q1c =>
    idxD q1 q1n s71 fun a1 =>
    ldInt H (Addr.add a1 (Int.toNat s71 * 1)) .i64 fun n1 =>
    iteB (n != n1) (
      R (.returned (.bool false)) H) <|
    L2 s4 s5 s70 (IntKind.wrap .i64 (s71 + (1 : Int))) H R) <|
  R (.returned (.bool true)) H
theorem L2_step {s4 : Nat} {s5 : Nat} {s70 : Int} {s71 : Int} {H : Heap} {R : Ending → Heap → Prop} (h : L2n s4 s5 s70 s71 H R) : L2 s4 s5 s70 s71 H R :=
  goL_of_den (an := an) (fuel := 100000) (X := L2n s4 s5 s70 s71 H R) mixed fn (by kernel_rfl) (fun ρ0 => by kernel_rfl) h
def L3n (s0 : Int) (s4 : Nat) (s5 : Nat) (s41 : Int) (s42 : Int) (H : Heap) (R : Ending → Heap → Prop) : Prop :=
  L1 s0 s4 s5 s41 (IntKind.wrap .i64 (s42 + (1 : Int))) H R
theorem L3_step {s0 : Int} {s4 : Nat} {s5 : Nat} {s41 : Int} {s42 : Int} {H : Heap} {R : Ending → Heap → Prop} (h : L3n s0 s4 s5 s41 s42 H R) : L3 s0 s4 s5 s41 s42 H R :=
  goL_of_den (an := an) (fuel := 100000) (X := L3n s0 s4 s5 s41 s42 H R) mixed fn (by kernel_rfl) (fun ρ0 => by kernel_rfl) h
def go (s0 : Int) (s1_0 : Bool) (s1_1 : Int) (s1_2 : Int) (s1_3 : Option Addr) (s1_3n : Nat) (s1_3c : Nat) (s1_4 : Option Addr) (s1_4n : Nat) (s1_4c : Nat) (s2_0 : Bool) (s2_1 : Int) (s2_2 : Int) (s2_3 : Option Addr) (s2_3n : Nat) (s2_3c : Nat) (s2_4 : Option Addr) (s2_4n : Nat) (s2_4c : Nat) (H : Heap) (R : Ending → Heap → Prop) : Prop :=
  newD H (.cells ⟨[(.bool s1_0), (.int .i64 s1_1), (.int .i64 s1_2), (.slice s1_3 s1_3n s1_3c), (.slice s1_4 s1_4n s1_4c)]⟩ 40) fun r H1 =>
  newD H1 (.cells ⟨[(.bool s2_0), (.int .i64 s2_1), (.int .i64 s2_2), (.slice s2_3 s2_3n s2_3c), (.slice s2_4 s2_4n s2_4c)]⟩ 40) fun r1 H2 =>
  ldBool H2 ⟨r, 0, none⟩ fun b =>
  ldBool H2 ⟨r1, 0, none⟩ fun b1 =>
  iteB (!(b == b1)) (
    R (.returned (.bool false)) H2) <|
  ldInt H2 ⟨r, 1, none⟩ .i64 fun n =>
  ldInt H2 ⟨r1, 1, none⟩ .i64 fun n1 =>
  iteB (n != n1) (
    R (.returned (.bool false)) H2) <|
  ldSl H2 ⟨r, 3, none⟩ fun q qn qc =>
  ldSl H2 ⟨r1, 3, none⟩ fun q1 q1n q1c =>
  iteB (((qn : Nat) : Int) != ((q1n : Nat) : Int)) (
    R (.returned (.bool false)) H2) <|
  ldSl H2 ⟨r, 4, none⟩ fun q2 q2n q2c =>
  ldSl H2 ⟨r1, 4, none⟩ fun q3 q3n q3c =>
  iteB (((q2n : Nat) : Int) != ((q3n : Nat) : Int)) (
    R (.returned (.bool false)) H2) <|
  L0 s0 r r1 H2 R
theorem calls {s0 : Int} {s1_0 : Bool} {s1_1 : Int} {s1_2 : Int} {s1_3 : Option Addr} {s1_3n : Nat} {s1_3c : Nat} {s1_4 : Option Addr} {s1_4n : Nat} {s1_4c : Nat} {s2_0 : Bool} {s2_1 : Int} {s2_2 : Int} {s2_3 : Option Addr} {s2_3n : Nat} {s2_3c : Nat} {s2_4 : Option Addr} {s2_4n : Nat} {s2_4c : Nat} {H : Heap} {R : Ending → Heap → Prop} (h : go s0 s1_0 s1_1 s1_2 s1_3 s1_3n s1_3c s1_4 s1_4n s1_4c s2_0 s2_1 s2_2 s2_3 s2_3n s2_3c s2_4 s2_4n s2_4c H R) : CallsH Try.prog 17 ⟨[(.int .i64 s0), (.agg ⟨[(.bool s1_0), (.int .i64 s1_1), (.int .i64 s1_2), (.slice s1_3 s1_3n s1_3c), (.slice s1_4 s1_4n s1_4c)]⟩), (.agg ⟨[(.bool s2_0), (.int .i64 s2_1), (.int .i64 s2_2), (.slice s2_3 s2_3n s2_3c), (.slice s2_4 s2_4n s2_4c)]⟩)]⟩ H R :=
  callsH_of_den (an := an) (fuel := 100000) (X := go s0 s1_0 s1_1 s1_2 s1_3 s1_3n s1_3c s1_4 s1_4n s1_4c s2_0 s2_1 s2_2 s2_3 s2_3n s2_3c s2_4 s2_4n s2_4c H R) (c := body) mixed fn (by kernel_rfl) (by kernel_rfl) (by kernel_rfl) ok (by kernel_rfl) h
end F17
/-! ### 18 "pub-stadtholder/laws.trLive" -/
namespace F18
def an : Ann := { kinds := [], taus := [], pairs := [], lab := [] }
noncomputable def body : Code := (Try.f18.body).getD .skip
theorem fn : Try.prog.funcs[18]? = some Try.f18 := by kernel_rfl
theorem ok : codeOk an 37 body = true := by kernel_rfl
def go  (H : Heap) (R : Ending → Heap → Prop) : Prop :=
  newD H (.cells ⟨[(.string (ByteArray.mk #[])), (.string (ByteArray.mk #[])), (.bool false), (.int .i64 (0 : Int)), (.int .i64 (0 : Int))]⟩ 35) fun r H1 =>
  st1 H1 ⟨r, 0, none⟩ (.string (ByteArray.mk #[97])) fun H2 =>
  st1 H2 ⟨r, 1, none⟩ (.string (ByteArray.mk #[99])) fun H3 =>
  st1 H3 ⟨r, 2, none⟩ (.bool false) fun H4 =>
  st1 H4 ⟨r, 3, none⟩ (.int .i64 (0 : Int)) fun H5 =>
  st1 H5 ⟨r, 4, none⟩ (.int .i64 (0 : Int)) fun H6 =>
  ldStr H6 ⟨r, 0, none⟩ fun s =>
  ldStr H6 ⟨r, 1, none⟩ fun s1 =>
  ldBool H6 ⟨r, 2, none⟩ fun b =>
  ldInt H6 ⟨r, 3, none⟩ .i64 fun n =>
  ldInt H6 ⟨r, 4, none⟩ .i64 fun n1 =>
  ldStr H6 ⟨r, 0, none⟩ fun s2 =>
  ldStr H6 ⟨r, 1, none⟩ fun s3 =>
  ldBool H6 ⟨r, 2, none⟩ fun b1 =>
  ldInt H6 ⟨r, 3, none⟩ .i64 fun n2 =>
  ldInt H6 ⟨r, 4, none⟩ .i64 fun n3 =>
  newD H6 (.cells ⟨[(.int .i64 (1 : Int)), (.string s), (.string s1), (.bool b), (.int .i64 n), (.int .i64 n1), (.int .i64 (4 : Int)), (.int .i64 (0 : Int)), (.slice none 0 0), (.slice none 0 0), (.int .i64 (3 : Int)), (.string s2), (.string s3), (.bool b1), (.int .i64 n2), (.int .i64 n3), (.int .i64 (0 : Int)), (.int .i64 (0 : Int)), (.slice none 0 0), (.slice none 0 0)]⟩ 44) fun r1 H7 =>
  callD Try.prog 20 [(.int .i64 (1 : Int)), (.slice (some ⟨r1, 0, none⟩) 2 2)] H7 (panK R) fun v H8 =>
  tSl v fun q qn qc =>
  iteB (((qn : Nat) : Int) == (2 : Int)) (
    idxD q qn (1 : Int) fun a =>
    ldBool H8 (Addr.add a (Int.toNat (1 : Int) * 5)) fun b2 =>
    iteB b2 (
      idxD q qn (1 : Int) fun a1 =>
      ldSl H8 (Addr.add (Addr.add a1 (Int.toNat (1 : Int) * 5)) 4) fun q1 q1n q1c =>
      iteB (((q1n : Nat) : Int) == (1 : Int)) (
        idxD q qn (1 : Int) fun a2 =>
        ldSl H8 (Addr.add (Addr.add a2 (Int.toNat (1 : Int) * 5)) 4) fun q2 q2n q2c =>
        idxD q2 q2n (0 : Int) fun a3 =>
        ldInt H8 (Addr.add a3 (Int.toNat (0 : Int) * 1)) .i64 fun n4 =>
        R (.returned (.bool (n4 == (4 : Int)))) H8) <|
      R (.returned (.bool false)) H8) <|
    R (.returned (.bool false)) H8) <|
  R (.returned (.bool false)) H8
theorem calls  {H : Heap} {R : Ending → Heap → Prop} (h : go  H R) : CallsH Try.prog 18 ⟨[]⟩ H R :=
  callsH_of_den (an := an) (fuel := 100000) (X := go  H R) (c := body) mixed fn (by kernel_rfl) (by kernel_rfl) (by kernel_rfl) ok (by kernel_rfl) h
end F18
/-! ### 19 "pub-stadtholder/laws.trFilled" -/
namespace F19
def an : Ann := { kinds := [], taus := [], pairs := [], lab := [(40000005, [0, 7, 8, 14, 15, 16]), (60000009, [0, 7, 8, 9, 10, 14, 15, 16]), (40000012, [0, 7, 8, 14, 15, 16])] }
noncomputable def body : Code := (Try.f19.body).getD .skip
theorem fn : Try.prog.funcs[19]? = some Try.f19 := by kernel_rfl
theorem ok : codeOk an 53 body = true := by kernel_rfl
noncomputable def L0t : List Item := [.code (sub [1, 1, 1, 0, 1, 0, 0] body), .inLoop (sub [1, 1, 1, 0, 1, 0, 0] body), .inBlock 0, .code (sub [1, 1, 1, 1] body)]
def L0 (order : Int) (p : Nat) (ops : Option Addr) (opsn : Nat) (opsc : Nat) (s14 : Option Addr) (s14n : Nat) (s14c : Nat) (s15 : Int) (s16 : Int) (H : Heap) (R : Ending → Heap → Prop) : Prop :=
  GoL Try.prog 19 53 L0t [0, 7, 8, 14, 15, 16] [(.int .i64 order), (.pointer (some ⟨p, 0, none⟩)), (.slice ops opsn opsc), (.slice s14 s14n s14c), (.int .i64 s15), (.int .i64 s16)] H R
noncomputable def L1t : List Item := [.code (sub [1, 1, 1, 0, 1, 0, 0, 1, 1, 0, 0, 1, 1] body), .inBlock 1, .code (sub [1, 1, 1, 0, 1, 0, 0, 1, 1, 1] body), .inLoop (sub [1, 1, 1, 0, 1, 0, 0] body), .inBlock 0, .code (sub [1, 1, 1, 1] body)]
def L1 (order : Int) (p : Nat) (ops : Option Addr) (opsn : Nat) (opsc : Nat) (i : Int) (s : Nat) (s14 : Option Addr) (s14n : Nat) (s14c : Nat) (s15 : Int) (s16 : Int) (H : Heap) (R : Ending → Heap → Prop) : Prop :=
  GoL Try.prog 19 53 L1t [0, 7, 8, 9, 10, 14, 15, 16] [(.int .i64 order), (.pointer (some ⟨p, 0, none⟩)), (.slice ops opsn opsc), (.int .i64 i), (.pointer (some ⟨s, 0, none⟩)), (.slice s14 s14n s14c), (.int .i64 s15), (.int .i64 s16)] H R
noncomputable def L2t : List Item := [.code (sub [1, 1, 1, 0, 1, 0, 0, 1, 1, 1] body), .inLoop (sub [1, 1, 1, 0, 1, 0, 0] body), .inBlock 0, .code (sub [1, 1, 1, 1] body)]
def L2 (order : Int) (p : Nat) (ops : Option Addr) (opsn : Nat) (opsc : Nat) (s14 : Option Addr) (s14n : Nat) (s14c : Nat) (s15 : Int) (s16 : Int) (H : Heap) (R : Ending → Heap → Prop) : Prop :=
  GoL Try.prog 19 53 L2t [0, 7, 8, 14, 15, 16] [(.int .i64 order), (.pointer (some ⟨p, 0, none⟩)), (.slice ops opsn opsc), (.slice s14 s14n s14c), (.int .i64 s15), (.int .i64 s16)] H R
def L0n (order : Int) (p : Nat) (ops : Option Addr) (opsn : Nat) (opsc : Nat) (s14 : Option Addr) (s14n : Nat) (s14c : Nat) (s15 : Int) (s16 : Int) (H : Heap) (R : Ending → Heap → Prop) : Prop :=
  iteB (decide (s16 < s15)) (
    idxD s14 s14n s16 fun a =>
    ldStr H (Addr.add a (Int.toNat s16 * 5)) fun s =>
    ldStr H (Addr.add (Addr.add a (Int.toNat s16 * 5)) 1) fun s1 =>
    ldBool H (Addr.add (Addr.add a (Int.toNat s16 * 5)) 2) fun b =>
    ldInt H (Addr.add (Addr.add a (Int.toNat s16 * 5)) 3) .i64 fun n =>
    ldInt H (Addr.add (Addr.add a (Int.toNat s16 * 5)) 4) .i64 fun n1 =>
    newD H (.cells ⟨[(.string (ByteArray.mk #[])), (.string (ByteArray.mk #[])), (.bool false), (.int .i64 (0 : Int)), (.int .i64 (0 : Int))]⟩ 35) fun r H1 =>
    st1 H1 ⟨r, 0, none⟩ (.string s) fun H2 =>
    st1 H2 ⟨r, 1, none⟩ (.string s1) fun H3 =>
    st1 H3 ⟨r, 2, none⟩ (.bool b) fun H4 =>
    st1 H4 ⟨r, 3, none⟩ (.int .i64 n) fun H5 =>
    st1 H5 ⟨r, 4, none⟩ (.int .i64 n1) fun H6 =>
    iteB (decide (s16 ≥ (200 : Int))) (
      R (.returned (.tuple ⟨[(.slice none 0 0), (.pointer none), (.bool false)]⟩)) H6) <|
    ldStr H6 ⟨r, 0, none⟩ fun s2 =>
    ldStr H6 ⟨r, 1, none⟩ fun s3 =>
    ldBool H6 ⟨r, 2, none⟩ fun b1 =>
    ldInt H6 ⟨r, 3, none⟩ .i64 fun n2 =>
    ldInt H6 ⟨r, 4, none⟩ .i64 fun n3 =>
    callD Try.prog 37 [(.int .i64 order), (.agg ⟨[(.string s2), (.string s3), (.bool b1), (.int .i64 n2), (.int .i64 n3)]⟩)] H6 (panK R) fun v H7 =>
    tBool v fun b2 =>
    iteB (!b2) (
      R (.returned (.tuple ⟨[(.slice none 0 0), (.pointer none), (.bool false)]⟩)) H7) <|
    L1 order p ops opsn opsc s16 r s14 s14n s14c s15 s16 H7 R) <|
  iteB (decide (order ≥ (0 : Int))) (
    R (.returned (.tuple ⟨[(.slice ops opsn opsc), (.pointer (some ⟨p, 0, none⟩)), (.bool (decide (order ≤ (3 : Int))))]⟩)) H) <|
  R (.returned (.tuple ⟨[(.slice ops opsn opsc), (.pointer (some ⟨p, 0, none⟩)), (.bool false)]⟩)) H
theorem L0_step {order : Int} {p : Nat} {ops : Option Addr} {opsn : Nat} {opsc : Nat} {s14 : Option Addr} {s14n : Nat} {s14c : Nat} {s15 : Int} {s16 : Int} {H : Heap} {R : Ending → Heap → Prop} (h : L0n order p ops opsn opsc s14 s14n s14c s15 s16 H R) : L0 order p ops opsn opsc s14 s14n s14c s15 s16 H R :=
  goL_of_den (an := an) (fuel := 100000) (X := L0n order p ops opsn opsc s14 s14n s14c s15 s16 H R) mixed fn (by kernel_rfl) (fun ρ0 => by kernel_rfl) h
def L1n (order : Int) (p : Nat) (ops : Option Addr) (opsn : Nat) (opsc : Nat) (i : Int) (s : Nat) (s14 : Option Addr) (s14n : Nat) (s14c : Nat) (s15 : Int) (s16 : Int) (H : Heap) (R : Ending → Heap → Prop) : Prop :=
  ldStr H ⟨s, 0, none⟩ fun s1 =>
  ldStr H ⟨s, 1, none⟩ fun s2 =>
  ldBool H ⟨s, 2, none⟩ fun b =>
  ldInt H ⟨s, 3, none⟩ .i64 fun n =>
  ldInt H ⟨s, 4, none⟩ .i64 fun n1 =>
  callD Try.prog 36 [(.pointer (some ⟨p, 0, none⟩)), (.agg ⟨[(.int .i64 (3 : Int)), (.string s1), (.string s2), (.bool b), (.int .i64 n), (.int .i64 n1), (.int .i64 (0 : Int)), (.int .i64 (0 : Int)), (.slice none 0 0), (.slice none 0 0)]⟩)] H (panK R) fun v H1 =>
  tAgg v fun l =>
  tCons l fun c l1 =>
  tBool c fun b1 =>
  tCons l1 fun c1 l2 =>
  tInt c1 .i64 fun n2 =>
  tCons l2 fun c2 l3 =>
  tInt c2 .i64 fun n3 =>
  tCons l3 fun c3 l4 =>
  tSl c3 fun q qn qc =>
  tCons l4 fun c4 l5 =>
  tSl c4 fun q1 q1n q1c =>
  tNil l5 <|
  iteB b1 (
    L2 order p ops opsn opsc s14 s14n s14c s15 s16 H1 R) <|
  ldStr H1 ⟨s, 0, none⟩ fun s3 =>
  ldStr H1 ⟨s, 1, none⟩ fun s4 =>
  ldBool H1 ⟨s, 2, none⟩ fun b2 =>
  ldInt H1 ⟨s, 3, none⟩ .i64 fun n4 =>
  ldInt H1 ⟨s, 4, none⟩ .i64 fun n5 =>
  newD H1 (.cells ⟨[(.int .i64 (1 : Int)), (.string s3), (.string s4), (.bool b2), (.int .i64 n4), (.int .i64 n5), (.int .i64 i), (.int .i64 (0 : Int)), (.slice none 0 0), (.slice none 0 0)]⟩ 44) fun r H2 =>
  apD H2 10 128 [(.int .i64 (0 : Int)), (.string (ByteArray.mk #[])), (.string (ByteArray.mk #[])), (.bool false), (.int .i64 (0 : Int)), (.int .i64 (0 : Int)), (.int .i64 (0 : Int)), (.int .i64 (0 : Int)), (.slice none 0 0), (.slice none 0 0)] 44 ops opsn opsc (some ⟨r, 0, none⟩) 1 fun q2 q2n q2c H3 =>
  ldStr H3 ⟨s, 0, none⟩ fun s5 =>
  ldStr H3 ⟨s, 1, none⟩ fun s6 =>
  ldBool H3 ⟨s, 2, none⟩ fun b3 =>
  ldInt H3 ⟨s, 3, none⟩ .i64 fun n6 =>
  ldInt H3 ⟨s, 4, none⟩ .i64 fun n7 =>
  callD Try.prog 38 [(.pointer (some ⟨p, 0, none⟩)), (.agg ⟨[(.string s5), (.string s6), (.bool b3), (.int .i64 n6), (.int .i64 n7)]⟩), (.int .i64 i)] H3 (panK R) fun v1 H4 =>
  tTup v1 fun l6 =>
  tNil l6 <|
  L2 order p q2 q2n q2c s14 s14n s14c s15 s16 H4 R
theorem L1_step {order : Int} {p : Nat} {ops : Option Addr} {opsn : Nat} {opsc : Nat} {i : Int} {s : Nat} {s14 : Option Addr} {s14n : Nat} {s14c : Nat} {s15 : Int} {s16 : Int} {H : Heap} {R : Ending → Heap → Prop} (h : L1n order p ops opsn opsc i s s14 s14n s14c s15 s16 H R) : L1 order p ops opsn opsc i s s14 s14n s14c s15 s16 H R :=
  goL_of_den (an := an) (fuel := 100000) (X := L1n order p ops opsn opsc i s s14 s14n s14c s15 s16 H R) mixed fn (by kernel_rfl) (fun ρ0 => by kernel_rfl) h
def L2n (order : Int) (p : Nat) (ops : Option Addr) (opsn : Nat) (opsc : Nat) (s14 : Option Addr) (s14n : Nat) (s14c : Nat) (s15 : Int) (s16 : Int) (H : Heap) (R : Ending → Heap → Prop) : Prop :=
  L0 order p ops opsn opsc s14 s14n s14c s15 (IntKind.wrap .i64 (s16 + (1 : Int))) H R
theorem L2_step {order : Int} {p : Nat} {ops : Option Addr} {opsn : Nat} {opsc : Nat} {s14 : Option Addr} {s14n : Nat} {s14c : Nat} {s15 : Int} {s16 : Int} {H : Heap} {R : Ending → Heap → Prop} (h : L2n order p ops opsn opsc s14 s14n s14c s15 s16 H R) : L2 order p ops opsn opsc s14 s14n s14c s15 s16 H R :=
  goL_of_den (an := an) (fuel := 100000) (X := L2n order p ops opsn opsc s14 s14n s14c s15 s16 H R) mixed fn (by kernel_rfl) (fun ρ0 => by kernel_rfl) h
def go (order : Int) (l : Option Addr) (ln : Nat) (lc : Nat) (H : Heap) (R : Ending → Heap → Prop) : Prop :=
  newD H (.cells ⟨[(.int .i64 order), (.slice none 0 0)]⟩ 57) fun r H1 =>
  L0 order r none 0 0 l ln lc ((ln : Nat) : Int) (0 : Int) H1 R
theorem calls {order : Int} {l : Option Addr} {ln : Nat} {lc : Nat} {H : Heap} {R : Ending → Heap → Prop} (h : go order l ln lc H R) : CallsH Try.prog 19 ⟨[(.int .i64 order), (.slice l ln lc)]⟩ H R :=
  callsH_of_den (an := an) (fuel := 100000) (X := go order l ln lc H R) (c := body) mixed fn (by kernel_rfl) (by kernel_rfl) (by kernel_rfl) ok (by kernel_rfl) h
end F19
/-! ### 20 "pub-stadtholder/impl.Tree" -/
namespace F20
def an : Ann := { kinds := [], taus := [], pairs := [], lab := [(40000005, [0, 1, 5, 6, 7])] }
noncomputable def body : Code := (Try.f20.body).getD .skip
theorem fn : Try.prog.funcs[20]? = some Try.f20 := by kernel_rfl
theorem ok : codeOk an 26 body = true := by kernel_rfl
noncomputable def L0t : List Item := [.code (sub [1, 1, 1, 0, 1, 0, 0] body), .inLoop (sub [1, 1, 1, 0, 1, 0, 0] body), .inBlock 0, .code (sub [1, 1, 1, 1] body)]
def L0 (order : Int) (ops : Option Addr) (opsn : Nat) (opsc : Nat) (t : IV) (out : Option Addr) (outn : Nat) (outc : Nat) (i : Int) (H : Heap) (R : Ending → Heap → Prop) : Prop :=
  GoL Try.prog 20 26 L0t [0, 1, 5, 6, 7] [(.int .i64 order), (.slice ops opsn opsc), (IV.v t), (.slice out outn outc), (.int .i64 i)] H R
def L0n (order : Int) (ops : Option Addr) (opsn : Nat) (opsc : Nat) (t : IV) (out : Option Addr) (outn : Nat) (outc : Nat) (i : Int) (H : Heap) (R : Ending → Heap → Prop) : Prop :=
  iteB (decide (i < ((opsn : Nat) : Int))) (
    idxD ops opsn i fun a =>
    ldInt H (Addr.add a (Int.toNat i * 10)) .i64 fun n =>
    ldStr H (Addr.add (Addr.add a (Int.toNat i * 10)) 1) fun s =>
    ldStr H (Addr.add (Addr.add a (Int.toNat i * 10)) 2) fun s1 =>
    ldBool H (Addr.add (Addr.add a (Int.toNat i * 10)) 3) fun b =>
    ldInt H (Addr.add (Addr.add a (Int.toNat i * 10)) 4) .i64 fun n1 =>
    ldInt H (Addr.add (Addr.add a (Int.toNat i * 10)) 5) .i64 fun n2 =>
    ldInt H (Addr.add (Addr.add a (Int.toNat i * 10)) 6) .i64 fun n3 =>
    ldInt H (Addr.add (Addr.add a (Int.toNat i * 10)) 7) .i64 fun n4 =>
    ldSl H (Addr.add (Addr.add a (Int.toNat i * 10)) 8) fun q qn qc =>
    ldSl H (Addr.add (Addr.add a (Int.toNat i * 10)) 9) fun q1 q1n q1c =>
    callD Try.prog 40 [(IV.v t), (.int .i64 order), (.agg ⟨[(.int .i64 n), (.string s), (.string s1), (.bool b), (.int .i64 n1), (.int .i64 n2), (.int .i64 n3), (.int .i64 n4), (.slice q qn qc), (.slice q1 q1n q1c)]⟩)] H (panK R) fun v H1 =>
    tAgg v fun l =>
    tCons l fun c l1 =>
    tBool c fun b1 =>
    tCons l1 fun c1 l2 =>
    tInt c1 .i64 fun n5 =>
    tCons l2 fun c2 l3 =>
    tInt c2 .i64 fun n6 =>
    tCons l3 fun c3 l4 =>
    tSl c3 fun q2 q2n q2c =>
    tCons l4 fun c4 l5 =>
    tSl c4 fun q3 q3n q3c =>
    tNil l5 <|
    newD H1 (.cells ⟨[(.bool b1), (.int .i64 n5), (.int .i64 n6), (.slice q2 q2n q2c), (.slice q3 q3n q3c)]⟩ 40) fun r H2 =>
    apD H2 5 72 [(.bool false), (.int .i64 (0 : Int)), (.int .i64 (0 : Int)), (.slice none 0 0), (.slice none 0 0)] 40 out outn outc (some ⟨r, 0, none⟩) 1 fun q4 q4n q4c H3 =>
    L0 order ops opsn opsc t q4 q4n q4c (IntKind.wrap .i64 (i + (1 : Int))) H3 R) <|
  R (.returned (.slice out outn outc)) H
theorem L0_step {order : Int} {ops : Option Addr} {opsn : Nat} {opsc : Nat} {t : IV} {out : Option Addr} {outn : Nat} {outc : Nat} {i : Int} {H : Heap} {R : Ending → Heap → Prop} (h : L0n order ops opsn opsc t out outn outc i H R) : L0 order ops opsn opsc t out outn outc i H R :=
  goL_of_den (an := an) (fuel := 100000) (X := L0n order ops opsn opsc t out outn outc i H R) mixed fn (by kernel_rfl) (fun ρ0 => by kernel_rfl) h
def go (order : Int) (ops : Option Addr) (opsn : Nat) (opsc : Nat) (H : Heap) (R : Ending → Heap → Prop) : Prop :=
  callD Try.prog 39 [] H (panK R) fun v H1 =>
  tIf v fun i =>
  L0 order ops opsn opsc i none 0 0 (0 : Int) H1 R
theorem calls {order : Int} {ops : Option Addr} {opsn : Nat} {opsc : Nat} {H : Heap} {R : Ending → Heap → Prop} (h : go order ops opsn opsc H R) : CallsH Try.prog 20 ⟨[(.int .i64 order), (.slice ops opsn opsc)]⟩ H R :=
  callsH_of_den (an := an) (fuel := 100000) (X := go order ops opsn opsc H R) (c := body) mixed fn (by kernel_rfl) (by kernel_rfl) (by kernel_rfl) ok (by kernel_rfl) h
end F20
/-! ### 21 "pub-stadtholder/laws.trHigh" -/
namespace F21
def an : Ann := { kinds := [], taus := [], pairs := [], lab := [(10000004, [1, 2])] }
noncomputable def body : Code := (Try.f21.body).getD .skip
theorem fn : Try.prog.funcs[21]? = some Try.f21 := by kernel_rfl
theorem ok : codeOk an 37 body = true := by kernel_rfl
noncomputable def L0t : List Item := [.code (sub [1, 1] body)]
def L0 (n : Int) (a : Nat) (H : Heap) (R : Ending → Heap → Prop) : Prop :=
  GoL Try.prog 21 37 L0t [1, 2] [(.int .i64 n), (.pointer (some ⟨a, 0, none⟩))] H R
def L0n (n : Int) (a : Nat) (H : Heap) (R : Ending → Heap → Prop) : Prop :=
  ldInt H ⟨a, 1, none⟩ .i64 fun n1 =>
  shD n1 <|
  iteB (decide ((shlZ .i64 (1 : Int) n1) ≥ (IntKind.wrap .i64 (n + (1 : Int))))) (
    ldInt H ⟨a, 1, none⟩ .i64 fun n2 =>
    shD n2 <|
    R (.returned (.bool (decide ((shlZ .i64 (1 : Int) n2) ≤ (IntKind.wrap .i64 ((IntKind.wrap .i64 (n + (1 : Int))) * (IntKind.wrap .i64 (n + (1 : Int))))))))) H) <|
  R (.returned (.bool false)) H
theorem L0_step {n : Int} {a : Nat} {H : Heap} {R : Ending → Heap → Prop} (h : L0n n a H R) : L0 n a H R :=
  goL_of_den (an := an) (fuel := 100000) (X := L0n n a H R) mixed fn (by kernel_rfl) (fun ρ0 => by kernel_rfl) h
def go (a_0 : Bool) (a_1 : Int) (a_2 : Int) (a_3 : Option Addr) (a_3n : Nat) (a_3c : Nat) (a_4 : Option Addr) (a_4n : Nat) (a_4c : Nat) (n : Int) (H : Heap) (R : Ending → Heap → Prop) : Prop :=
  newD H (.cells ⟨[(.bool a_0), (.int .i64 a_1), (.int .i64 a_2), (.slice a_3 a_3n a_3c), (.slice a_4 a_4n a_4c)]⟩ 40) fun r H1 =>
  ldInt H1 ⟨r, 1, none⟩ .i64 fun n1 =>
  iteB (decide (n1 < (0 : Int))) (
    R (.returned (.bool false)) H1) <|
  ldInt H1 ⟨r, 1, none⟩ .i64 fun n2 =>
  iteB (decide (n2 > (40 : Int))) (
    R (.returned (.bool false)) H1) <|
  ldInt H1 ⟨r, 1, none⟩ .i64 fun n3 =>
  ldInt H1 ⟨r, 2, none⟩ .i64 fun n4 =>
  iteB (decide (n3 > n4)) (
    R (.returned (.bool false)) H1) <|
  L0 n r H1 R
theorem calls {a_0 : Bool} {a_1 : Int} {a_2 : Int} {a_3 : Option Addr} {a_3n : Nat} {a_3c : Nat} {a_4 : Option Addr} {a_4n : Nat} {a_4c : Nat} {n : Int} {H : Heap} {R : Ending → Heap → Prop} (h : go a_0 a_1 a_2 a_3 a_3n a_3c a_4 a_4n a_4c n H R) : CallsH Try.prog 21 ⟨[(.agg ⟨[(.bool a_0), (.int .i64 a_1), (.int .i64 a_2), (.slice a_3 a_3n a_3c), (.slice a_4 a_4n a_4c)]⟩), (.int .i64 n)]⟩ H R :=
  callsH_of_den (an := an) (fuel := 100000) (X := go a_0 a_1 a_2 a_3 a_3n a_3c a_4 a_4n a_4c n H R) (c := body) mixed fn (by kernel_rfl) (by kernel_rfl) (by kernel_rfl) ok (by kernel_rfl) h
end F21
/-! ### 29 "pub-stadtholder/spec.SameSpan" -/
namespace F29
def an : Ann := { kinds := [], taus := [], pairs := [], lab := [] }
noncomputable def body : Code := (Try.f29.body).getD .skip
theorem fn : Try.prog.funcs[29]? = some Try.f29 := by kernel_rfl
theorem ok : codeOk an 19 body = true := by kernel_rfl
def go (order : Int) (s_0 : ByteArray) (s_1 : ByteArray) (s_2 : Bool) (s_3 : Int) (s_4 : Int) (t_0 : ByteArray) (t_1 : ByteArray) (t_2 : Bool) (t_3 : Int) (t_4 : Int) (H : Heap) (R : Ending → Heap → Prop) : Prop :=
  newD H (.cells ⟨[(.string s_0), (.string s_1), (.bool s_2), (.int .i64 s_3), (.int .i64 s_4)]⟩ 35) fun r H1 =>
  newD H1 (.cells ⟨[(.string t_0), (.string t_1), (.bool t_2), (.int .i64 t_3), (.int .i64 t_4)]⟩ 35) fun r1 H2 =>
  ldStr H2 ⟨r, 0, none⟩ fun s =>
  ldStr H2 ⟨r, 1, none⟩ fun s1 =>
  ldBool H2 ⟨r, 2, none⟩ fun b =>
  ldInt H2 ⟨r, 3, none⟩ .i64 fun n =>
  ldInt H2 ⟨r, 4, none⟩ .i64 fun n1 =>
  ldStr H2 ⟨r1, 0, none⟩ fun s2 =>
  ldStr H2 ⟨r1, 1, none⟩ fun s3 =>
  ldBool H2 ⟨r1, 2, none⟩ fun b1 =>
  ldInt H2 ⟨r1, 3, none⟩ .i64 fun n2 =>
  ldInt H2 ⟨r1, 4, none⟩ .i64 fun n3 =>
  callD Try.prog 57 [(.int .i64 order), (.agg ⟨[(.string s), (.string s1), (.bool b), (.int .i64 n), (.int .i64 n1)]⟩), (.agg ⟨[(.string s2), (.string s3), (.bool b1), (.int .i64 n2), (.int .i64 n3)]⟩)] H2 (panK R) fun v H3 =>
  tBool v fun b2 =>
  iteB (!b2) (
    ldStr H3 ⟨r1, 0, none⟩ fun s4 =>
    ldStr H3 ⟨r1, 1, none⟩ fun s5 =>
    ldBool H3 ⟨r1, 2, none⟩ fun b3 =>
    ldInt H3 ⟨r1, 3, none⟩ .i64 fun n4 =>
    ldInt H3 ⟨r1, 4, none⟩ .i64 fun n5 =>
    ldStr H3 ⟨r, 0, none⟩ fun s6 =>
    ldStr H3 ⟨r, 1, none⟩ fun s7 =>
    ldBool H3 ⟨r, 2, none⟩ fun b4 =>
    ldInt H3 ⟨r, 3, none⟩ .i64 fun n6 =>
    ldInt H3 ⟨r, 4, none⟩ .i64 fun n7 =>
    callD Try.prog 57 [(.int .i64 order), (.agg ⟨[(.string s4), (.string s5), (.bool b3), (.int .i64 n4), (.int .i64 n5)]⟩), (.agg ⟨[(.string s6), (.string s7), (.bool b4), (.int .i64 n6), (.int .i64 n7)]⟩)] H3 (panK R) fun v1 H4 =>
    tBool v1 fun b5 =>
    R (.returned (.bool (!b5))) H4) <|
  R (.returned (.bool false)) H3
theorem calls {order : Int} {s_0 : ByteArray} {s_1 : ByteArray} {s_2 : Bool} {s_3 : Int} {s_4 : Int} {t_0 : ByteArray} {t_1 : ByteArray} {t_2 : Bool} {t_3 : Int} {t_4 : Int} {H : Heap} {R : Ending → Heap → Prop} (h : go order s_0 s_1 s_2 s_3 s_4 t_0 t_1 t_2 t_3 t_4 H R) : CallsH Try.prog 29 ⟨[(.int .i64 order), (.agg ⟨[(.string s_0), (.string s_1), (.bool s_2), (.int .i64 s_3), (.int .i64 s_4)]⟩), (.agg ⟨[(.string t_0), (.string t_1), (.bool t_2), (.int .i64 t_3), (.int .i64 t_4)]⟩)]⟩ H R :=
  callsH_of_den (an := an) (fuel := 100000) (X := go order s_0 s_1 s_2 s_3 s_4 t_0 t_1 t_2 t_3 t_4 H R) (c := body) mixed fn (by kernel_rfl) (by kernel_rfl) (by kernel_rfl) ok (by kernel_rfl) h
end F29
/-! ### 34 "pub-stadtholder/laws.zzFits37" -/
namespace F34
def an : Ann := { kinds := [], taus := [], pairs := [], lab := [] }
noncomputable def body : Code := (Try.f34.body).getD .skip
theorem fn : Try.prog.funcs[34]? = some Try.f34 := by kernel_rfl
theorem ok : codeOk an 11 body = true := by kernel_rfl
def go (x_0 : ByteArray) (x_1 : ByteArray) (x_2 : Bool) (H : Heap) (R : Ending → Heap → Prop) : Prop :=
  newD H (.cells ⟨[(.string x_0), (.string x_1), (.bool x_2)]⟩ 33) fun r H1 =>
  ldStr H1 ⟨r, 0, none⟩ fun s =>
  iteB (decide (((ByteArray.size s : Nat) : Int) > (2147483647 : Int))) (
    R (.returned (.bool false)) H1) <|
  ldStr H1 ⟨r, 1, none⟩ fun s1 =>
  iteB (decide (((ByteArray.size s1 : Nat) : Int) > (2147483647 : Int))) (
    R (.returned (.bool false)) H1) <|
  R (.returned (.bool true)) H1
theorem calls {x_0 : ByteArray} {x_1 : ByteArray} {x_2 : Bool} {H : Heap} {R : Ending → Heap → Prop} (h : go x_0 x_1 x_2 H R) : CallsH Try.prog 34 ⟨[(.agg ⟨[(.string x_0), (.string x_1), (.bool x_2)]⟩)]⟩ H R :=
  callsH_of_den (an := an) (fuel := 100000) (X := go x_0 x_1 x_2 H R) (c := body) mixed fn (by kernel_rfl) (by kernel_rfl) (by kernel_rfl) ok (by kernel_rfl) h
end F34
/-! ### 35 "pub-stadtholder/laws.trProper" -/
namespace F35
def an : Ann := { kinds := [], taus := [], pairs := [], lab := [(10000004, [0, 3]), (10000006, [0, 3]), (40000007, [0, 33, 34, 35])] }
noncomputable def body : Code := (Try.f35.body).getD .skip
theorem fn : Try.prog.funcs[35]? = some Try.f35 := by kernel_rfl
theorem ok : codeOk an 44 body = true := by kernel_rfl
noncomputable def L0t : List Item := [.code (sub [1, 1] body)]
def L0 (order : Int) (o : Nat) (H : Heap) (R : Ending → Heap → Prop) : Prop :=
  GoL Try.prog 35 44 L0t [0, 3] [(.int .i64 order), (.pointer (some ⟨o, 0, none⟩))] H R
noncomputable def L1t : List Item := [.code (sub [1, 1, 1] body)]
def L1 (order : Int) (o : Nat) (H : Heap) (R : Ending → Heap → Prop) : Prop :=
  GoL Try.prog 35 44 L1t [0, 3] [(.int .i64 order), (.pointer (some ⟨o, 0, none⟩))] H R
noncomputable def L2t : List Item := [.code (sub [1, 1, 1, 0, 1, 0, 0] body), .inLoop (sub [1, 1, 1, 0, 1, 0, 0] body), .inBlock 0, .code (sub [1, 1, 1, 1] body)]
def L2 (order : Int) (s33 : Option Addr) (s33n : Nat) (s33c : Nat) (s34 : Int) (s35 : Int) (H : Heap) (R : Ending → Heap → Prop) : Prop :=
  GoL Try.prog 35 44 L2t [0, 33, 34, 35] [(.int .i64 order), (.slice s33 s33n s33c), (.int .i64 s34), (.int .i64 s35)] H R
def L0n (order : Int) (o : Nat) (H : Heap) (R : Ending → Heap → Prop) : Prop :=
  ldInt H ⟨o, 0, none⟩ .i64 fun n =>
  iteB (n == (8 : Int)) (
    R (.returned (.bool true)) H) <|
  ldInt H ⟨o, 0, none⟩ .i64 fun n1 =>
  iteB (n1 == (9 : Int)) (
    R (.returned (.bool true)) H) <|
  L1 order o H R
theorem L0_step {order : Int} {o : Nat} {H : Heap} {R : Ending → Heap → Prop} (h : L0n order o H R) : L0 order o H R :=
  goL_of_den (an := an) (fuel := 100000) (X := L0n order o H R) mixed fn (by kernel_rfl) (fun ρ0 => by kernel_rfl) h
def L1n (order : Int) (o : Nat) (H : Heap) (R : Ending → Heap → Prop) : Prop :=
  ldStr H ⟨o, 1, none⟩ fun s =>
  ldStr H ⟨o, 2, none⟩ fun s1 =>
  ldBool H ⟨o, 3, none⟩ fun b =>
  ldInt H ⟨o, 4, none⟩ .i64 fun n =>
  ldInt H ⟨o, 5, none⟩ .i64 fun n1 =>
  newD H (.cells ⟨[(.string s), (.string s1), (.bool b), (.int .i64 n), (.int .i64 n1)]⟩ 35) fun r H1 =>
  ldSl H1 ⟨o, 8, none⟩ fun q qn qc =>
  apD H1 5 56 [(.string (ByteArray.mk #[])), (.string (ByteArray.mk #[])), (.bool false), (.int .i64 (0 : Int)), (.int .i64 (0 : Int))] 35 (some ⟨r, 0, none⟩) 1 1 q qn fun q1 q1n q1c H2 =>
  L2 order q1 q1n q1c ((q1n : Nat) : Int) (0 : Int) H2 R
theorem L1_step {order : Int} {o : Nat} {H : Heap} {R : Ending → Heap → Prop} (h : L1n order o H R) : L1 order o H R :=
  goL_of_den (an := an) (fuel := 100000) (X := L1n order o H R) mixed fn (by kernel_rfl) (fun ρ0 => by kernel_rfl) h
def L2n (order : Int) (s33 : Option Addr) (s33n : Nat) (s33c : Nat) (s34 : Int) (s35 : Int) (H : Heap) (R : Ending → Heap → Prop) : Prop :=
  iteB (decide (s35 < s34)) (
    idxD s33 s33n s35 fun a =>
    ldStr H (Addr.add a (Int.toNat s35 * 5)) fun s =>
    ldStr H (Addr.add (Addr.add a (Int.toNat s35 * 5)) 1) fun s1 =>
    ldBool H (Addr.add (Addr.add a (Int.toNat s35 * 5)) 2) fun b =>
    ldInt H (Addr.add (Addr.add a (Int.toNat s35 * 5)) 3) .i64 fun n =>
    ldInt H (Addr.add (Addr.add a (Int.toNat s35 * 5)) 4) .i64 fun n1 =>
    newD H (.cells ⟨[(.string (ByteArray.mk #[])), (.string (ByteArray.mk #[])), (.bool false), (.int .i64 (0 : Int)), (.int .i64 (0 : Int))]⟩ 35) fun r H1 =>
    st1 H1 ⟨r, 0, none⟩ (.string s) fun H2 =>
    st1 H2 ⟨r, 1, none⟩ (.string s1) fun H3 =>
    st1 H3 ⟨r, 2, none⟩ (.bool b) fun H4 =>
    st1 H4 ⟨r, 3, none⟩ (.int .i64 n) fun H5 =>
    st1 H5 ⟨r, 4, none⟩ (.int .i64 n1) fun H6 =>
    ldStr H6 ⟨r, 0, none⟩ fun s2 =>
    ldStr H6 ⟨r, 1, none⟩ fun s3 =>
    ldBool H6 ⟨r, 2, none⟩ fun b1 =>
    ldInt H6 ⟨r, 3, none⟩ .i64 fun n2 =>
    ldInt H6 ⟨r, 4, none⟩ .i64 fun n3 =>
    callD Try.prog 37 [(.int .i64 order), (.agg ⟨[(.string s2), (.string s3), (.bool b1), (.int .i64 n2), (.int .i64 n3)]⟩)] H6 (panK R) fun v H7 =>
    tBool v fun b2 =>
    iteB (!b2) (
      R (.returned (.bool false)) H7) <|
    L2 order s33 s33n s33c s34 (IntKind.wrap .i64 (s35 + (1 : Int))) H7 R) <|
  R (.returned (.bool true)) H
theorem L2_step {order : Int} {s33 : Option Addr} {s33n : Nat} {s33c : Nat} {s34 : Int} {s35 : Int} {H : Heap} {R : Ending → Heap → Prop} (h : L2n order s33 s33n s33c s34 s35 H R) : L2 order s33 s33n s33c s34 s35 H R :=
  goL_of_den (an := an) (fuel := 100000) (X := L2n order s33 s33n s33c s34 s35 H R) mixed fn (by kernel_rfl) (fun ρ0 => by kernel_rfl) h
def go (order : Int) (o_0 : Int) (o_1 : ByteArray) (o_2 : ByteArray) (o_3 : Bool) (o_4 : Int) (o_5 : Int) (o_6 : Int) (o_7 : Int) (o_8 : Option Addr) (o_8n : Nat) (o_8c : Nat) (o_9 : Option Addr) (o_9n : Nat) (o_9c : Nat) (H : Heap) (R : Ending → Heap → Prop) : Prop :=
  newD H (.cells ⟨[(.int .i64 o_0), (.string o_1), (.string o_2), (.bool o_3), (.int .i64 o_4), (.int .i64 o_5), (.int .i64 o_6), (.int .i64 o_7), (.slice o_8 o_8n o_8c), (.slice o_9 o_9n o_9c)]⟩ 44) fun r H1 =>
  ldSl H1 ⟨r, 8, none⟩ fun q qn qc =>
  iteB (decide (((qn : Nat) : Int) > (200 : Int))) (
    R (.returned (.bool false)) H1) <|
  ldSl H1 ⟨r, 9, none⟩ fun q1 q1n q1c =>
  ldSl H1 ⟨r, 8, none⟩ fun q2 q2n q2c =>
  iteB (((q1n : Nat) : Int) != ((q2n : Nat) : Int)) (
    R (.returned (.bool false)) H1) <|
  L0 order r H1 R
theorem calls {order : Int} {o_0 : Int} {o_1 : ByteArray} {o_2 : ByteArray} {o_3 : Bool} {o_4 : Int} {o_5 : Int} {o_6 : Int} {o_7 : Int} {o_8 : Option Addr} {o_8n : Nat} {o_8c : Nat} {o_9 : Option Addr} {o_9n : Nat} {o_9c : Nat} {H : Heap} {R : Ending → Heap → Prop} (h : go order o_0 o_1 o_2 o_3 o_4 o_5 o_6 o_7 o_8 o_8n o_8c o_9 o_9n o_9c H R) : CallsH Try.prog 35 ⟨[(.int .i64 order), (.agg ⟨[(.int .i64 o_0), (.string o_1), (.string o_2), (.bool o_3), (.int .i64 o_4), (.int .i64 o_5), (.int .i64 o_6), (.int .i64 o_7), (.slice o_8 o_8n o_8c), (.slice o_9 o_9n o_9c)]⟩)]⟩ H R :=
  callsH_of_den (an := an) (fuel := 100000) (X := go order o_0 o_1 o_2 o_3 o_4 o_5 o_6 o_7 o_8 o_8n o_8c o_9 o_9n o_9c H R) (c := body) mixed fn (by kernel_rfl) (by kernel_rfl) (by kernel_rfl) ok (by kernel_rfl) h
end F35
/-! ### 36 "(*pub-stadtholder/spec.Pieces).Do" -/
namespace F36
def an : Ann := { kinds := [(8001, .grow), (8008, .grow), (12008, .grow), (12017, .grow), (16003, .grow)], taus := [(8, [[0, 2, 3, 4, 6, 9, 10, 11, 13, 14, 5, 7, 12, 15, 1, 8, 16, 17, 18, 19]]), (12, [[0, 1, 2, 4, 9, 10, 11, 13, 3, 5, 6, 7, 12, 14, 15, 16, 8, 17, 18, 19], [0, 1, 2, 4, 9, 10, 11, 13, 3, 5, 6, 7, 12, 14, 15, 16, 17, 8, 18, 19]]), (16, [[0, 1, 4, 2, 5, 3, 6, 7]]), (28, [[0, 2, 4, 1, 3, 5, 6, 7]])], pairs := [(12, [(8, 17)])], lab := [(60000027, [0, 3, 4, 6, 122, 123, 124]), (50000032, [0, 4, 141, 142, 143])] }
noncomputable def body : Code := (Try.f36.body).getD .skip
theorem fn : Try.prog.funcs[36]? = some Try.f36 := by kernel_rfl
theorem ok : codeOk an 155 body = true := by kernel_rfl
noncomputable def L0t : List Item := [.code (sub [1, 1, 0, 1, 0, 1, 1, 1, 1, 1, 1, 1, 1, 1, 1, 1, 1, 1, 1, 1, 1, 1, 0, 1, 0, 1, 0, 0] body), .inLoop (sub [1, 1, 0, 1, 0, 1, 1, 1, 1, 1, 1, 1, 1, 1, 1, 1, 1, 1, 1, 1, 1, 1, 0, 1, 0, 1, 0, 0] body), .inBlock 1, .code (sub [1, 1, 0, 1, 0, 1, 1, 1, 1, 1, 1, 1, 1, 1, 1, 1, 1, 1, 1, 1, 1, 1, 0, 1, 1] body), .inBlock 0, .code (sub [1, 1, 1] body)]
def L0 (s0 : Option Addr) (s3 : Nat) (s4 : Nat) (s6 : Nat) (s122 : Option Addr) (s122n : Nat) (s122c : Nat) (s123 : Int) (s124 : Int) (H : Heap) (R : Ending → Heap → Prop) : Prop :=
  GoL Try.prog 36 155 L0t [0, 3, 4, 6, 122, 123, 124] [(.pointer s0), (.pointer (some ⟨s3, 0, none⟩)), (.pointer (some ⟨s4, 0, none⟩)), (.pointer (some ⟨s6, 0, none⟩)), (.slice s122 s122n s122c), (.int .i64 s123), (.int .i64 s124)] H R
noncomputable def L1t : List Item := [.code (sub [1, 1, 0, 1, 0, 1, 1, 1, 1, 1, 1, 1, 1, 1, 1, 1, 1, 1, 1, 1, 1, 1, 0, 1, 1, 1, 0, 0] body), .inLoop (sub [1, 1, 0, 1, 0, 1, 1, 1, 1, 1, 1, 1, 1, 1, 1, 1, 1, 1, 1, 1, 1, 1, 0, 1, 1, 1, 0, 0] body), .inBlock 3, .inBlock 0, .code (sub [1, 1, 1] body)]
def L1 (s0 : Option Addr) (s4 : Nat) (s141 : Option Addr) (s141n : Nat) (s141c : Nat) (s142 : Int) (s143 : Int) (H : Heap) (R : Ending → Heap → Prop) : Prop :=
  GoL Try.prog 36 155 L1t [0, 4, 141, 142, 143] [(.pointer s0), (.pointer (some ⟨s4, 0, none⟩)), (.slice s141 s141n s141c), (.int .i64 s142), (.int .i64 s143)] H R
def L0n (s0 : Option Addr) (s3 : Nat) (s4 : Nat) (s6 : Nat) (s122 : Option Addr) (s122n : Nat) (s122c : Nat) (s123 : Int) (s124 : Int) (H : Heap) (R : Ending → Heap → Prop) : Prop :=
  iteB (decide (s124 < s123)) (
    idxD s122 s122n s124 fun a =>
    ldStr H (Addr.add a (Int.toNat s124 * 5)) fun s =>
    ldStr H (Addr.add (Addr.add a (Int.toNat s124 * 5)) 1) fun s1 =>
    ldBool H (Addr.add (Addr.add a (Int.toNat s124 * 5)) 2) fun b =>
    ldInt H (Addr.add (Addr.add a (Int.toNat s124 * 5)) 3) .i64 fun n =>
    ldInt H (Addr.add (Addr.add a (Int.toNat s124 * 5)) 4) .i64 fun n1 =>
    newD H (.cells ⟨[(.string (ByteArray.mk #[])), (.string (ByteArray.mk #[])), (.bool false), (.int .i64 (0 : Int)), (.int .i64 (0 : Int))]⟩ 35) fun r H1 =>
    st1 H1 ⟨r, 0, none⟩ (.string s) fun H2 =>
    st1 H2 ⟨r, 1, none⟩ (.string s1) fun H3 =>
    st1 H3 ⟨r, 2, none⟩ (.bool b) fun H4 =>
    st1 H4 ⟨r, 3, none⟩ (.int .i64 n) fun H5 =>
    st1 H5 ⟨r, 4, none⟩ (.int .i64 n1) fun H6 =>
    ldStr H6 ⟨r, 0, none⟩ fun s2 =>
    ldStr H6 ⟨r, 1, none⟩ fun s5 =>
    ldBool H6 ⟨r, 2, none⟩ fun b1 =>
    ldInt H6 ⟨r, 3, none⟩ .i64 fun n2 =>
    ldInt H6 ⟨r, 4, none⟩ .i64 fun n3 =>
    ldSl H6 ⟨s3, 9, none⟩ fun q qn qc =>
    idxD q qn s124 fun a1 =>
    ldInt H6 (Addr.add a1 (Int.toNat s124 * 1)) .i64 fun n4 =>
    callD Try.prog 38 [(.pointer (some ⟨s6, 0, none⟩)), (.agg ⟨[(.string s2), (.string s5), (.bool b1), (.int .i64 n2), (.int .i64 n3)]⟩), (.int .i64 n4)] H6 (panK R) fun v H7 =>
    tTup v fun l =>
    tNil l <|
    L0 s0 s3 s4 s6 s122 s122n s122c s123 (IntKind.wrap .i64 (s124 + (1 : Int))) H7 R) <|
  ldStr H ⟨s3, 1, none⟩ fun s7 =>
  ldStr H ⟨s3, 2, none⟩ fun s8 =>
  ldBool H ⟨s3, 3, none⟩ fun b2 =>
  ldInt H ⟨s3, 4, none⟩ .i64 fun n5 =>
  ldInt H ⟨s3, 5, none⟩ .i64 fun n6 =>
  callD Try.prog 64 [(.pointer (some ⟨s6, 0, none⟩)), (.agg ⟨[(.string s7), (.string s8), (.bool b2), (.int .i64 n5), (.int .i64 n6)]⟩)] H (panK R) fun v1 H8 =>
  tSl v1 fun q1 q1n q1c =>
  L1 s0 s4 q1 q1n q1c ((q1n : Nat) : Int) (0 : Int) H8 R
theorem L0_step {s0 : Option Addr} {s3 : Nat} {s4 : Nat} {s6 : Nat} {s122 : Option Addr} {s122n : Nat} {s122c : Nat} {s123 : Int} {s124 : Int} {H : Heap} {R : Ending → Heap → Prop} (h : L0n s0 s3 s4 s6 s122 s122n s122c s123 s124 H R) : L0 s0 s3 s4 s6 s122 s122n s122c s123 s124 H R :=
  goL_of_den (an := an) (fuel := 100000) (X := L0n s0 s3 s4 s6 s122 s122n s122c s123 s124 H R) mixed fn (by kernel_rfl) (fun ρ0 => by kernel_rfl) h
def L1n (s0 : Option Addr) (s4 : Nat) (s141 : Option Addr) (s141n : Nat) (s141c : Nat) (s142 : Int) (s143 : Int) (H : Heap) (R : Ending → Heap → Prop) : Prop :=
  iteB (decide (s143 < s142)) (
    idxD s141 s141n s143 fun a =>
    ldStr H (Addr.add a (Int.toNat s143 * 6)) fun s =>
    ldStr H (Addr.add (Addr.add a (Int.toNat s143 * 6)) 1) fun s1 =>
    ldBool H (Addr.add (Addr.add a (Int.toNat s143 * 6)) 2) fun b =>
    ldInt H (Addr.add (Addr.add a (Int.toNat s143 * 6)) 3) .i64 fun n =>
    ldInt H (Addr.add (Addr.add a (Int.toNat s143 * 6)) 4) .i64 fun n1 =>
    ldInt H (Addr.add (Addr.add a (Int.toNat s143 * 6)) 5) .i64 fun n2 =>
    newD H (.cells ⟨[(.string (ByteArray.mk #[])), (.string (ByteArray.mk #[])), (.bool false), (.int .i64 (0 : Int)), (.int .i64 (0 : Int)), (.int .i64 (0 : Int))]⟩ 71) fun r H1 =>
    st1 H1 ⟨r, 0, none⟩ (.string s) fun H2 =>
    st1 H2 ⟨r, 1, none⟩ (.string s1) fun H3 =>
    st1 H3 ⟨r, 2, none⟩ (.bool b) fun H4 =>
    st1 H4 ⟨r, 3, none⟩ (.int .i64 n) fun H5 =>
    st1 H5 ⟨r, 4, none⟩ (.int .i64 n1) fun H6 =>
    st1 H6 ⟨r, 5, none⟩ (.int .i64 n2) fun H7 =>
    ldStr H7 ⟨r, 0, none⟩ fun s2 =>
    ldStr H7 ⟨r, 1, none⟩ fun s3 =>
    ldBool H7 ⟨r, 2, none⟩ fun b1 =>
    ldInt H7 ⟨r, 3, none⟩ .i64 fun n3 =>
    ldInt H7 ⟨r, 4, none⟩ .i64 fun n4 =>
    ldInt H7 ⟨r, 5, none⟩ .i64 fun n5 =>
    callD Try.prog 38 [(.pointer s0), (.agg ⟨[(.string s2), (.string s3), (.bool b1), (.int .i64 n3), (.int .i64 n4)]⟩), (.int .i64 n5)] H7 (panK R) fun v H8 =>
    tTup v fun l =>
    tNil l <|
    L1 s0 s4 s141 s141n s141c s142 (IntKind.wrap .i64 (s143 + (1 : Int))) H8 R) <|
  st1 H ⟨s4, 0, none⟩ (.bool false) fun H9 =>
  st1 H9 ⟨s4, 1, none⟩ (.int .i64 (0 : Int)) fun H10 =>
  st1 H10 ⟨s4, 2, none⟩ (.int .i64 (0 : Int)) fun H11 =>
  st1 H11 ⟨s4, 3, none⟩ (.slice none 0 0) fun H12 =>
  st1 H12 ⟨s4, 4, none⟩ (.slice none 0 0) fun H13 =>
  ldBool H13 ⟨s4, 0, none⟩ fun b2 =>
  ldInt H13 ⟨s4, 1, none⟩ .i64 fun n6 =>
  ldInt H13 ⟨s4, 2, none⟩ .i64 fun n7 =>
  ldSl H13 ⟨s4, 3, none⟩ fun q qn qc =>
  ldSl H13 ⟨s4, 4, none⟩ fun q1 q1n q1c =>
  R (.returned (.agg ⟨[(.bool b2), (.int .i64 n6), (.int .i64 n7), (.slice q qn qc), (.slice q1 q1n q1c)]⟩)) H13
theorem L1_step {s0 : Option Addr} {s4 : Nat} {s141 : Option Addr} {s141n : Nat} {s141c : Nat} {s142 : Int} {s143 : Int} {H : Heap} {R : Ending → Heap → Prop} (h : L1n s0 s4 s141 s141n s141c s142 s143 H R) : L1 s0 s4 s141 s141n s141c s142 s143 H R :=
  goL_of_den (an := an) (fuel := 100000) (X := L1n s0 s4 s141 s141n s141c s142 s143 H R) mixed fn (by kernel_rfl) (fun ρ0 => by kernel_rfl) h
def go (s0 : Option Addr) (s1_0 : Int) (s1_1 : ByteArray) (s1_2 : ByteArray) (s1_3 : Bool) (s1_4 : Int) (s1_5 : Int) (s1_6 : Int) (s1_7 : Int) (s1_8 : Option Addr) (s1_8n : Nat) (s1_8c : Nat) (s1_9 : Option Addr) (s1_9n : Nat) (s1_9c : Nat) (H : Heap) (R : Ending → Heap → Prop) : Prop :=
  newD H (.cells ⟨[(.int .i64 s1_0), (.string s1_1), (.string s1_2), (.bool s1_3), (.int .i64 s1_4), (.int .i64 s1_5), (.int .i64 s1_6), (.int .i64 s1_7), (.slice s1_8 s1_8n s1_8c), (.slice s1_9 s1_9n s1_9c)]⟩ 44) fun r H1 =>
  newD H1 (.cells ⟨[(.bool false), (.int .i64 (0 : Int)), (.int .i64 (0 : Int)), (.slice none 0 0), (.slice none 0 0)]⟩ 40) fun r1 H2 =>
  ldStr H2 ⟨r, 1, none⟩ fun s =>
  ldStr H2 ⟨r, 2, none⟩ fun s1 =>
  ldBool H2 ⟨r, 3, none⟩ fun b =>
  ldInt H2 ⟨r, 4, none⟩ .i64 fun n =>
  ldInt H2 ⟨r, 5, none⟩ .i64 fun n1 =>
  callD Try.prog 62 [(.pointer s0), (.agg ⟨[(.string s), (.string s1), (.bool b), (.int .i64 n), (.int .i64 n1)]⟩)] H2 (panK R) fun v H3 =>
  tInt v .i64 fun n2 =>
  ldInt H3 ⟨r, 0, none⟩ .i64 fun n3 =>
  iteB (n3 == (1 : Int)) (
    ldStr H3 ⟨r, 1, none⟩ fun s2 =>
    ldStr H3 ⟨r, 2, none⟩ fun s3 =>
    ldBool H3 ⟨r, 3, none⟩ fun b1 =>
    ldInt H3 ⟨r, 4, none⟩ .i64 fun n4 =>
    ldInt H3 ⟨r, 5, none⟩ .i64 fun n5 =>
    ldInt H3 ⟨r, 6, none⟩ .i64 fun n6 =>
    callD Try.prog 38 [(.pointer s0), (.agg ⟨[(.string s2), (.string s3), (.bool b1), (.int .i64 n4), (.int .i64 n5)]⟩), (.int .i64 n6)] H3 (panK R) fun v1 H4 =>
    tTup v1 fun l =>
    tNil l <|
    st1 H4 ⟨r1, 0, none⟩ (.bool false) fun H5 =>
    st1 H5 ⟨r1, 1, none⟩ (.int .i64 (0 : Int)) fun H6 =>
    st1 H6 ⟨r1, 2, none⟩ (.int .i64 (0 : Int)) fun H7 =>
    st1 H7 ⟨r1, 3, none⟩ (.slice none 0 0) fun H8 =>
    st1 H8 ⟨r1, 4, none⟩ (.slice none 0 0) fun H9 =>
    ldBool H9 ⟨r1, 0, none⟩ fun b2 =>
    ldInt H9 ⟨r1, 1, none⟩ .i64 fun n7 =>
    ldInt H9 ⟨r1, 2, none⟩ .i64 fun n8 =>
    ldSl H9 ⟨r1, 3, none⟩ fun q qn qc =>
    ldSl H9 ⟨r1, 4, none⟩ fun q1 q1n q1c =>
    R (.returned (.agg ⟨[(.bool b2), (.int .i64 n7), (.int .i64 n8), (.slice q qn qc), (.slice q1 q1n q1c)]⟩)) H9) <|
  iteB (n3 == (2 : Int)) (
    iteB (decide (n2 < (0 : Int))) (
      st1 H3 ⟨r1, 0, none⟩ (.bool false) fun H10 =>
      st1 H10 ⟨r1, 1, none⟩ (.int .i64 (0 : Int)) fun H11 =>
      st1 H11 ⟨r1, 2, none⟩ (.int .i64 (0 : Int)) fun H12 =>
      st1 H12 ⟨r1, 3, none⟩ (.slice none 0 0) fun H13 =>
      st1 H13 ⟨r1, 4, none⟩ (.slice none 0 0) fun H14 =>
      ldBool H14 ⟨r1, 0, none⟩ fun b3 =>
      ldInt H14 ⟨r1, 1, none⟩ .i64 fun n9 =>
      ldInt H14 ⟨r1, 2, none⟩ .i64 fun n10 =>
      ldSl H14 ⟨r1, 3, none⟩ fun q2 q2n q2c =>
      ldSl H14 ⟨r1, 4, none⟩ fun q3 q3n q3c =>
      R (.returned (.agg ⟨[(.bool b3), (.int .i64 n9), (.int .i64 n10), (.slice q2 q2n q2c), (.slice q3 q3n q3c)]⟩)) H14) <|
    nilD s0 fun a =>
    nilD s0 fun a1 =>
    ldSl H3 (Addr.add a 1) fun q4 q4n q4c =>
    bndD n2 q4c fun k =>
    ldSl H3 (Addr.add a1 1) fun q5 q5n q5c =>
    bndD (IntKind.wrap .i64 (n2 + (1 : Int))) q5n fun k1 =>
    newD H3 (.cells ⟨[]⟩ 71) fun r2 H15 =>
    apD H15 6 64 [(.string (ByteArray.mk #[])), (.string (ByteArray.mk #[])), (.bool false), (.int .i64 (0 : Int)), (.int .i64 (0 : Int)), (.int .i64 (0 : Int))] 71 (some ⟨r2, 0, none⟩) 0 0 (slP q4 0 q4c 6) k fun q6 q6n q6c H16 =>
    andD (ExtH H15 H16) <|
    apD H16 6 64 [(.string (ByteArray.mk #[])), (.string (ByteArray.mk #[])), (.bool false), (.int .i64 (0 : Int)), (.int .i64 (0 : Int)), (.int .i64 (0 : Int))] 71 q6 q6n q6c (slP q5 k1 q5c 6) (q5n - k1) fun q7 q7n q7c H17 =>
    nilD s0 fun a2 =>
    st1 H17 (Addr.add a2 1) (.slice q7 q7n q7c) fun H18 =>
    st1 H18 ⟨r1, 0, none⟩ (.bool true) fun H19 =>
    st1 H19 ⟨r1, 1, none⟩ (.int .i64 (0 : Int)) fun H20 =>
    st1 H20 ⟨r1, 2, none⟩ (.int .i64 (0 : Int)) fun H21 =>
    st1 H21 ⟨r1, 3, none⟩ (.slice none 0 0) fun H22 =>
    st1 H22 ⟨r1, 4, none⟩ (.slice none 0 0) fun H23 =>
    ldBool H23 ⟨r1, 0, none⟩ fun b4 =>
    ldInt H23 ⟨r1, 1, none⟩ .i64 fun n11 =>
    ldInt H23 ⟨r1, 2, none⟩ .i64 fun n12 =>
    ldSl H23 ⟨r1, 3, none⟩ fun q8 q8n q8c =>
    ldSl H23 ⟨r1, 4, none⟩ fun q9 q9n q9c =>
    R (.returned (.agg ⟨[(.bool b4), (.int .i64 n11), (.int .i64 n12), (.slice q8 q8n q8c), (.slice q9 q9n q9c)]⟩)) H23) <|
  iteB (n3 == (3 : Int)) (
    iteB (decide (n2 ≥ (0 : Int))) (
      (
        nilD s0 fun a3 =>
        nilD s0 fun a4 =>
        ldSl H3 (Addr.add a3 1) fun q10 q10n q10c =>
        idxD q10 q10n n2 fun a5 =>
        ldStr H3 (Addr.add a5 (Int.toNat n2 * 6)) fun s4 =>
        ldStr H3 (Addr.add (Addr.add a5 (Int.toNat n2 * 6)) 1) fun s5 =>
        ldBool H3 (Addr.add (Addr.add a5 (Int.toNat n2 * 6)) 2) fun b5 =>
        ldInt H3 (Addr.add (Addr.add a5 (Int.toNat n2 * 6)) 3) .i64 fun n13 =>
        ldInt H3 (Addr.add (Addr.add a5 (Int.toNat n2 * 6)) 4) .i64 fun n14 =>
        ldSl H3 (Addr.add a4 1) fun q11 q11n q11c =>
        idxD q11 q11n n2 fun a6 =>
        ldInt H3 (Addr.add (Addr.add a6 (Int.toNat n2 * 6)) 5) .i64 fun n15 =>
        newD H3 (.cells ⟨[(.string s4), (.string s5), (.bool b5), (.int .i64 n13), (.int .i64 n14)]⟩ 35) fun r3 H24 =>
        newD H24 (.cells ⟨[(.int .i64 n15)]⟩ 3) fun r4 H25 =>
        st1 H25 ⟨r1, 0, none⟩ (.bool true) fun H26 =>
        st1 H26 ⟨r1, 1, none⟩ (.int .i64 (0 : Int)) fun H27 =>
        st1 H27 ⟨r1, 2, none⟩ (.int .i64 (0 : Int)) fun H28 =>
        st1 H28 ⟨r1, 3, none⟩ (.slice (some ⟨r3, 0, none⟩) 1 1) fun H29 =>
        st1 H29 ⟨r1, 4, none⟩ (.slice (some ⟨r4, 0, none⟩) 1 1) fun H30 =>
        ldBool H30 ⟨r1, 0, none⟩ fun b6 =>
        ldInt H30 ⟨r1, 1, none⟩ .i64 fun n16 =>
        ldInt H30 ⟨r1, 2, none⟩ .i64 fun n17 =>
        ldSl H30 ⟨r1, 3, none⟩ fun q12 q12n q12c =>
        ldSl H30 ⟨r1, 4, none⟩ fun q13 q13n q13c =>
        R (.returned (.agg ⟨[(.bool b6), (.int .i64 n16), (.int .i64 n17), (.slice q12 q12n q12c), (.slice q13 q13n q13c)]⟩)) H30) ∧
      (
        nilD s0 fun a7 =>
        nilD s0 fun a8 =>
        ldSl H3 (Addr.add a7 1) fun q14 q14n q14c =>
        idxD q14 q14n n2 fun a9 =>
        ldStr H3 (Addr.add a9 (Int.toNat n2 * 6)) fun s6 =>
        ldStr H3 (Addr.add (Addr.add a9 (Int.toNat n2 * 6)) 1) fun s7 =>
        ldBool H3 (Addr.add (Addr.add a9 (Int.toNat n2 * 6)) 2) fun b7 =>
        ldInt H3 (Addr.add (Addr.add a9 (Int.toNat n2 * 6)) 3) .i64 fun n18 =>
        ldInt H3 (Addr.add (Addr.add a9 (Int.toNat n2 * 6)) 4) .i64 fun n19 =>
        ldSl H3 (Addr.add a8 1) fun q15 q15n q15c =>
        idxD q15 q15n n2 fun a10 =>
        ldInt H3 (Addr.add (Addr.add a10 (Int.toNat n2 * 6)) 5) .i64 fun n20 =>
        newD H3 (.cells ⟨[(.int .i64 n20)]⟩ 3) fun r5 H31 =>
        newD H31 (.cells ⟨[(.string s6), (.string s7), (.bool b7), (.int .i64 n18), (.int .i64 n19)]⟩ 35) fun r6 H32 =>
        st1 H32 ⟨r1, 0, none⟩ (.bool true) fun H33 =>
        st1 H33 ⟨r1, 1, none⟩ (.int .i64 (0 : Int)) fun H34 =>
        st1 H34 ⟨r1, 2, none⟩ (.int .i64 (0 : Int)) fun H35 =>
        st1 H35 ⟨r1, 3, none⟩ (.slice (some ⟨r6, 0, none⟩) 1 1) fun H36 =>
        st1 H36 ⟨r1, 4, none⟩ (.slice (some ⟨r5, 0, none⟩) 1 1) fun H37 =>
        ldBool H37 ⟨r1, 0, none⟩ fun b8 =>
        ldInt H37 ⟨r1, 1, none⟩ .i64 fun n21 =>
        ldInt H37 ⟨r1, 2, none⟩ .i64 fun n22 =>
        ldSl H37 ⟨r1, 3, none⟩ fun q16 q16n q16c =>
        ldSl H37 ⟨r1, 4, none⟩ fun q17 q17n q17c =>
        R (.returned (.agg ⟨[(.bool b8), (.int .i64 n21), (.int .i64 n22), (.slice q16 q16n q16c), (.slice q17 q17n q17c)]⟩)) H37)) <|
    st1 H3 ⟨r1, 0, none⟩ (.bool false) fun H38 =>
    st1 H38 ⟨r1, 1, none⟩ (.int .i64 (0 : Int)) fun H39 =>
    st1 H39 ⟨r1, 2, none⟩ (.int .i64 (0 : Int)) fun H40 =>
    st1 H40 ⟨r1, 3, none⟩ (.slice none 0 0) fun H41 =>
    st1 H41 ⟨r1, 4, none⟩ (.slice none 0 0) fun H42 =>
    ldBool H42 ⟨r1, 0, none⟩ fun b9 =>
    ldInt H42 ⟨r1, 1, none⟩ .i64 fun n23 =>
    ldInt H42 ⟨r1, 2, none⟩ .i64 fun n24 =>
    ldSl H42 ⟨r1, 3, none⟩ fun q18 q18n q18c =>
    ldSl H42 ⟨r1, 4, none⟩ fun q19 q19n q19c =>
    R (.returned (.agg ⟨[(.bool b9), (.int .i64 n23), (.int .i64 n24), (.slice q18 q18n q18c), (.slice q19 q19n q19c)]⟩)) H42) <|
  iteB (n3 == (4 : Int)) (
    ldStr H3 ⟨r, 1, none⟩ fun s8 =>
    ldStr H3 ⟨r, 2, none⟩ fun s9 =>
    ldBool H3 ⟨r, 3, none⟩ fun b10 =>
    ldInt H3 ⟨r, 4, none⟩ .i64 fun n25 =>
    ldInt H3 ⟨r, 5, none⟩ .i64 fun n26 =>
    callD Try.prog 64 [(.pointer s0), (.agg ⟨[(.string s8), (.string s9), (.bool b10), (.int .i64 n25), (.int .i64 n26)]⟩)] H3 (panK R) fun v2 H43 =>
    tSl v2 fun q20 q20n q20c =>
    callD Try.prog 63 [(.slice q20 q20n q20c), (.int .i64 (0 : Int))] H43 (panK R) fun v3 H44 =>
    tAgg v3 fun l1 =>
    tCons l1 fun c l2 =>
    tBool c fun b11 =>
    tCons l2 fun c1 l3 =>
    tInt c1 .i64 fun n27 =>
    tCons l3 fun c2 l4 =>
    tInt c2 .i64 fun n28 =>
    tCons l4 fun c3 l5 =>
    tSl c3 fun q21 q21n q21c =>
    tCons l5 fun c4 l6 =>
    tSl c4 fun q22 q22n q22c =>
    tNil l6 <|
    st1 H44 ⟨r1, 0, none⟩ (.bool b11) fun H45 =>
    st1 H45 ⟨r1, 1, none⟩ (.int .i64 n27) fun H46 =>
    st1 H46 ⟨r1, 2, none⟩ (.int .i64 n28) fun H47 =>
    st1 H47 ⟨r1, 3, none⟩ (.slice q21 q21n q21c) fun H48 =>
    st1 H48 ⟨r1, 4, none⟩ (.slice q22 q22n q22c) fun H49 =>
    ldBool H49 ⟨r1, 0, none⟩ fun b12 =>
    ldInt H49 ⟨r1, 1, none⟩ .i64 fun n29 =>
    ldInt H49 ⟨r1, 2, none⟩ .i64 fun n30 =>
    ldSl H49 ⟨r1, 3, none⟩ fun q23 q23n q23c =>
    ldSl H49 ⟨r1, 4, none⟩ fun q24 q24n q24c =>
    R (.returned (.agg ⟨[(.bool b12), (.int .i64 n29), (.int .i64 n30), (.slice q23 q23n q23c), (.slice q24 q24n q24c)]⟩)) H49) <|
  iteB (n3 == (5 : Int)) (
    ldStr H3 ⟨r, 1, none⟩ fun s10 =>
    ldStr H3 ⟨r, 2, none⟩ fun s11 =>
    ldBool H3 ⟨r, 3, none⟩ fun b13 =>
    ldInt H3 ⟨r, 4, none⟩ .i64 fun n31 =>
    ldInt H3 ⟨r, 5, none⟩ .i64 fun n32 =>
    ldInt H3 ⟨r, 7, none⟩ .i64 fun n33 =>
    callD Try.prog 64 [(.pointer s0), (.agg ⟨[(.string s10), (.string s11), (.bool b13), (.int .i64 n31), (.int .i64 n32)]⟩)] H3 nope fun v4 H50 =>
    tSl v4 fun q25 q25n q25c =>
    andD (ExtH H3 H50) <|
    callD Try.prog 63 [(.slice q25 q25n q25c), (.int .i64 n33)] H50 (panK R) fun v5 H51 =>
    tAgg v5 fun l7 =>
    tCons l7 fun c5 l8 =>
    tBool c5 fun b14 =>
    tCons l8 fun c6 l9 =>
    tInt c6 .i64 fun n34 =>
    tCons l9 fun c7 l10 =>
    tInt c7 .i64 fun n35 =>
    tCons l10 fun c8 l11 =>
    tSl c8 fun q26 q26n q26c =>
    tCons l11 fun c9 l12 =>
    tSl c9 fun q27 q27n q27c =>
    tNil l12 <|
    st1 H51 ⟨r1, 0, none⟩ (.bool b14) fun H52 =>
    st1 H52 ⟨r1, 1, none⟩ (.int .i64 n34) fun H53 =>
    st1 H53 ⟨r1, 2, none⟩ (.int .i64 n35) fun H54 =>
    st1 H54 ⟨r1, 3, none⟩ (.slice q26 q26n q26c) fun H55 =>
    st1 H55 ⟨r1, 4, none⟩ (.slice q27 q27n q27c) fun H56 =>
    ldBool H56 ⟨r1, 0, none⟩ fun b15 =>
    ldInt H56 ⟨r1, 1, none⟩ .i64 fun n36 =>
    ldInt H56 ⟨r1, 2, none⟩ .i64 fun n37 =>
    ldSl H56 ⟨r1, 3, none⟩ fun q28 q28n q28c =>
    ldSl H56 ⟨r1, 4, none⟩ fun q29 q29n q29c =>
    R (.returned (.agg ⟨[(.bool b15), (.int .i64 n36), (.int .i64 n37), (.slice q28 q28n q28c), (.slice q29 q29n q29c)]⟩)) H56) <|
  iteB (n3 == (6 : Int)) (
    ldStr H3 ⟨r, 1, none⟩ fun s12 =>
    ldStr H3 ⟨r, 2, none⟩ fun s13 =>
    ldBool H3 ⟨r, 3, none⟩ fun b16 =>
    ldInt H3 ⟨r, 4, none⟩ .i64 fun n38 =>
    ldInt H3 ⟨r, 5, none⟩ .i64 fun n39 =>
    callD Try.prog 64 [(.pointer s0), (.agg ⟨[(.string s12), (.string s13), (.bool b16), (.int .i64 n38), (.int .i64 n39)]⟩)] H3 (panK R) fun v6 H57 =>
    tSl v6 fun q30 q30n q30c =>
    st1 H57 ⟨r1, 0, none⟩ (.bool (decide (((q30n : Nat) : Int) > (0 : Int)))) fun H58 =>
    st1 H58 ⟨r1, 1, none⟩ (.int .i64 (0 : Int)) fun H59 =>
    st1 H59 ⟨r1, 2, none⟩ (.int .i64 (0 : Int)) fun H60 =>
    st1 H60 ⟨r1, 3, none⟩ (.slice none 0 0) fun H61 =>
    st1 H61 ⟨r1, 4, none⟩ (.slice none 0 0) fun H62 =>
    ldBool H62 ⟨r1, 0, none⟩ fun b17 =>
    ldInt H62 ⟨r1, 1, none⟩ .i64 fun n40 =>
    ldInt H62 ⟨r1, 2, none⟩ .i64 fun n41 =>
    ldSl H62 ⟨r1, 3, none⟩ fun q31 q31n q31c =>
    ldSl H62 ⟨r1, 4, none⟩ fun q32 q32n q32c =>
    R (.returned (.agg ⟨[(.bool b17), (.int .i64 n40), (.int .i64 n41), (.slice q31 q31n q31c), (.slice q32 q32n q32c)]⟩)) H62) <|
  iteB (n3 == (7 : Int)) (
    ldStr H3 ⟨r, 1, none⟩ fun s14 =>
    ldStr H3 ⟨r, 2, none⟩ fun s15 =>
    ldBool H3 ⟨r, 3, none⟩ fun b18 =>
    ldInt H3 ⟨r, 4, none⟩ .i64 fun n42 =>
    ldInt H3 ⟨r, 5, none⟩ .i64 fun n43 =>
    callD Try.prog 65 [(.pointer s0), (.agg ⟨[(.string s14), (.string s15), (.bool b18), (.int .i64 n42), (.int .i64 n43)]⟩)] H3 (panK R) fun v7 H63 =>
    tBool v7 fun b19 =>
    st1 H63 ⟨r1, 0, none⟩ (.bool b19) fun H64 =>
    st1 H64 ⟨r1, 1, none⟩ (.int .i64 (0 : Int)) fun H65 =>
    st1 H65 ⟨r1, 2, none⟩ (.int .i64 (0 : Int)) fun H66 =>
    st1 H66 ⟨r1, 3, none⟩ (.slice none 0 0) fun H67 =>
    st1 H67 ⟨r1, 4, none⟩ (.slice none 0 0) fun H68 =>
    ldBool H68 ⟨r1, 0, none⟩ fun b20 =>
    ldInt H68 ⟨r1, 1, none⟩ .i64 fun n44 =>
    ldInt H68 ⟨r1, 2, none⟩ .i64 fun n45 =>
    ldSl H68 ⟨r1, 3, none⟩ fun q33 q33n q33c =>
    ldSl H68 ⟨r1, 4, none⟩ fun q34 q34n q34c =>
    R (.returned (.agg ⟨[(.bool b20), (.int .i64 n44), (.int .i64 n45), (.slice q33 q33n q33c), (.slice q34 q34n q34c)]⟩)) H68) <|
  iteB (n3 == (8 : Int)) (
    nilD s0 fun a11 =>
    ldSl H3 (Addr.add a11 1) fun q35 q35n q35c =>
    st1 H3 ⟨r1, 0, none⟩ (.bool false) fun H69 =>
    st1 H69 ⟨r1, 1, none⟩ (.int .i64 ((q35n : Nat) : Int)) fun H70 =>
    st1 H70 ⟨r1, 2, none⟩ (.int .i64 (0 : Int)) fun H71 =>
    st1 H71 ⟨r1, 3, none⟩ (.slice none 0 0) fun H72 =>
    st1 H72 ⟨r1, 4, none⟩ (.slice none 0 0) fun H73 =>
    ldBool H73 ⟨r1, 0, none⟩ fun b21 =>
    ldInt H73 ⟨r1, 1, none⟩ .i64 fun n46 =>
    ldInt H73 ⟨r1, 2, none⟩ .i64 fun n47 =>
    ldSl H73 ⟨r1, 3, none⟩ fun q36 q36n q36c =>
    ldSl H73 ⟨r1, 4, none⟩ fun q37 q37n q37c =>
    R (.returned (.agg ⟨[(.bool b21), (.int .i64 n46), (.int .i64 n47), (.slice q36 q36n q36c), (.slice q37 q37n q37c)]⟩)) H73) <|
  iteB (n3 == (10 : Int)) (
    nilD s0 fun a12 =>
    ldInt H3 a12 .i64 fun n48 =>
    newD H3 (.cells ⟨[(.int .i64 n48), (.slice none 0 0)]⟩ 57) fun r7 H74 =>
    ldSl H74 ⟨r, 8, none⟩ fun q38 q38n q38c =>
    L0 s0 r r1 r7 q38 q38n q38c ((q38n : Nat) : Int) (0 : Int) H74 R) <|
  st1 H3 ⟨r1, 0, none⟩ (.bool false) fun H75 =>
  st1 H75 ⟨r1, 1, none⟩ (.int .i64 (0 : Int)) fun H76 =>
  st1 H76 ⟨r1, 2, none⟩ (.int .i64 (0 : Int)) fun H77 =>
  st1 H77 ⟨r1, 3, none⟩ (.slice none 0 0) fun H78 =>
  st1 H78 ⟨r1, 4, none⟩ (.slice none 0 0) fun H79 =>
  ldBool H79 ⟨r1, 0, none⟩ fun b22 =>
  ldInt H79 ⟨r1, 1, none⟩ .i64 fun n49 =>
  ldInt H79 ⟨r1, 2, none⟩ .i64 fun n50 =>
  ldSl H79 ⟨r1, 3, none⟩ fun q39 q39n q39c =>
  ldSl H79 ⟨r1, 4, none⟩ fun q40 q40n q40c =>
  R (.returned (.agg ⟨[(.bool b22), (.int .i64 n49), (.int .i64 n50), (.slice q39 q39n q39c), (.slice q40 q40n q40c)]⟩)) H79
theorem calls {s0 : Option Addr} {s1_0 : Int} {s1_1 : ByteArray} {s1_2 : ByteArray} {s1_3 : Bool} {s1_4 : Int} {s1_5 : Int} {s1_6 : Int} {s1_7 : Int} {s1_8 : Option Addr} {s1_8n : Nat} {s1_8c : Nat} {s1_9 : Option Addr} {s1_9n : Nat} {s1_9c : Nat} {H : Heap} {R : Ending → Heap → Prop} (h : go s0 s1_0 s1_1 s1_2 s1_3 s1_4 s1_5 s1_6 s1_7 s1_8 s1_8n s1_8c s1_9 s1_9n s1_9c H R) : CallsH Try.prog 36 ⟨[(.pointer s0), (.agg ⟨[(.int .i64 s1_0), (.string s1_1), (.string s1_2), (.bool s1_3), (.int .i64 s1_4), (.int .i64 s1_5), (.int .i64 s1_6), (.int .i64 s1_7), (.slice s1_8 s1_8n s1_8c), (.slice s1_9 s1_9n s1_9c)]⟩)]⟩ H R :=
  callsH_of_den (an := an) (fuel := 100000) (X := go s0 s1_0 s1_1 s1_2 s1_3 s1_4 s1_5 s1_6 s1_7 s1_8 s1_8n s1_8c s1_9 s1_9n s1_9c H R) (c := body) mixed fn (by kernel_rfl) (by kernel_rfl) (by kernel_rfl) ok (by kernel_rfl) h
end F36
/-! ### 37 "pub-stadtholder/laws.trSpanOf" -/
namespace F37
def an : Ann := { kinds := [], taus := [], pairs := [], lab := [] }
noncomputable def body : Code := (Try.f37.body).getD .skip
theorem fn : Try.prog.funcs[37]? = some Try.f37 := by kernel_rfl
theorem ok : codeOk an 28 body = true := by kernel_rfl
def go (order : Int) (s_0 : ByteArray) (s_1 : ByteArray) (s_2 : Bool) (s_3 : Int) (s_4 : Int) (H : Heap) (R : Ending → Heap → Prop) : Prop :=
  newD H (.cells ⟨[(.string s_0), (.string s_1), (.bool s_2), (.int .i64 s_3), (.int .i64 s_4)]⟩ 35) fun r H1 =>
  ldStr H1 ⟨r, 0, none⟩ fun s =>
  ldStr H1 ⟨r, 1, none⟩ fun s1 =>
  ldBool H1 ⟨r, 2, none⟩ fun b =>
  ldInt H1 ⟨r, 3, none⟩ .i64 fun n =>
  ldInt H1 ⟨r, 4, none⟩ .i64 fun n1 =>
  callD Try.prog 66 [(.int .i64 order), (.agg ⟨[(.string s), (.string s1), (.bool b), (.int .i64 n), (.int .i64 n1)]⟩)] H1 (panK R) fun v H2 =>
  tBool v fun b1 =>
  iteB b1 (
    iteB (order != (3 : Int)) (
      R (.returned (.bool true)) H2) <|
    ldBool H2 ⟨r, 2, none⟩ fun b2 =>
    iteB (!b2) (
      ldInt H2 ⟨r, 3, none⟩ .i64 fun n2 =>
      iteB (decide (n2 ≥ (-2305843009213693952 : Int))) (
        ldInt H2 ⟨r, 4, none⟩ .i64 fun n3 =>
        R (.returned (.bool (decide (n3 ≤ (2305843009213693952 : Int))))) H2) <|
      R (.returned (.bool false)) H2) <|
    R (.returned (.bool false)) H2) <|
  R (.returned (.bool false)) H2
theorem calls {order : Int} {s_0 : ByteArray} {s_1 : ByteArray} {s_2 : Bool} {s_3 : Int} {s_4 : Int} {H : Heap} {R : Ending → Heap → Prop} (h : go order s_0 s_1 s_2 s_3 s_4 H R) : CallsH Try.prog 37 ⟨[(.int .i64 order), (.agg ⟨[(.string s_0), (.string s_1), (.bool s_2), (.int .i64 s_3), (.int .i64 s_4)]⟩)]⟩ H R :=
  callsH_of_den (an := an) (fuel := 100000) (X := go order s_0 s_1 s_2 s_3 s_4 H R) (c := body) mixed fn (by kernel_rfl) (by kernel_rfl) (by kernel_rfl) ok (by kernel_rfl) h
end F37
/-! ### 38 "(*pub-stadtholder/spec.Pieces).Put" -/
namespace F38
def an : Ann := { kinds := [(5006, .grow)], taus := [(2, [[0, 1, 2, 3, 4, 5, 6, 7, 8, 9, 10, 13, 14, 15, 17, 11, 12, 16, 18, 19, 20, 21, 22, 23]]), (5, [[0, 1, 4, 8, 9, 10, 12, 2, 11, 13, 3, 5, 6, 7, 14, 15, 16, 17], [0, 1, 4, 8, 9, 10, 12, 2, 3, 5, 11, 13, 6, 7, 14, 15, 16, 17], [0, 1, 4, 8, 9, 10, 12, 2, 3, 5, 6, 7, 11, 13, 14, 15, 16, 17]])], pairs := [(5, [(11, 3), (11, 7)])], lab := [(40000003, [0, 2, 4, 6]), (10000005, [0, 2, 4, 6]), (40000004, [0, 2, 4, 6])] }
noncomputable def body : Code := (Try.f38.body).getD .skip
theorem fn : Try.prog.funcs[38]? = some Try.f38 := by kernel_rfl
theorem ok : codeOk an 59 body = true := by kernel_rfl
noncomputable def L0t : List Item := [.code (sub [1, 1, 0, 0, 0] body), .inLoop (sub [1, 1, 0, 0, 0] body), .inBlock 0, .code (sub [1, 1, 1] body)]
def L0 (p : Option Addr) (val : Int) (s : Nat) (i : Int) (H : Heap) (R : Ending → Heap → Prop) : Prop :=
  GoL Try.prog 38 59 L0t [0, 2, 4, 6] [(.pointer p), (.int .i64 val), (.pointer (some ⟨s, 0, none⟩)), (.int .i64 i)] H R
noncomputable def L1t : List Item := [.code (sub [1, 1, 1] body)]
def L1 (p : Option Addr) (val : Int) (s : Nat) (i : Int) (H : Heap) (R : Ending → Heap → Prop) : Prop :=
  GoL Try.prog 38 59 L1t [0, 2, 4, 6] [(.pointer p), (.int .i64 val), (.pointer (some ⟨s, 0, none⟩)), (.int .i64 i)] H R
noncomputable def L2t : List Item := [.code (sub [1, 1, 0, 0, 0, 1] body), .inLoop (sub [1, 1, 0, 0, 0] body), .inBlock 0, .code (sub [1, 1, 1] body)]
def L2 (p : Option Addr) (val : Int) (s : Nat) (i : Int) (H : Heap) (R : Ending → Heap → Prop) : Prop :=
  GoL Try.prog 38 59 L2t [0, 2, 4, 6] [(.pointer p), (.int .i64 val), (.pointer (some ⟨s, 0, none⟩)), (.int .i64 i)] H R
def L0n (p : Option Addr) (val : Int) (s : Nat) (i : Int) (H : Heap) (R : Ending → Heap → Prop) : Prop :=
  nilD p fun a =>
  ldSl H (Addr.add a 1) fun q qn qc =>
  iteB (decide (i < ((qn : Nat) : Int))) (
    nilD p fun a1 =>
    nilD p fun a2 =>
    ldInt H a1 .i64 fun n =>
    ldStr H ⟨s, 0, none⟩ fun s1 =>
    ldStr H ⟨s, 1, none⟩ fun s2 =>
    ldBool H ⟨s, 2, none⟩ fun b =>
    ldInt H ⟨s, 3, none⟩ .i64 fun n1 =>
    ldInt H ⟨s, 4, none⟩ .i64 fun n2 =>
    ldSl H (Addr.add a2 1) fun q1 q1n q1c =>
    idxD q1 q1n i fun a3 =>
    ldStr H (Addr.add a3 (Int.toNat i * 6)) fun s3 =>
    ldStr H (Addr.add (Addr.add a3 (Int.toNat i * 6)) 1) fun s4 =>
    ldBool H (Addr.add (Addr.add a3 (Int.toNat i * 6)) 2) fun b1 =>
    ldInt H (Addr.add (Addr.add a3 (Int.toNat i * 6)) 3) .i64 fun n3 =>
    ldInt H (Addr.add (Addr.add a3 (Int.toNat i * 6)) 4) .i64 fun n4 =>
    callD Try.prog 57 [(.int .i64 n), (.agg ⟨[(.string s1), (.string s2), (.bool b), (.int .i64 n1), (.int .i64 n2)]⟩), (.agg ⟨[(.string s3), (.string s4), (.bool b1), (.int .i64 n3), (.int .i64 n4)]⟩)] H (panK R) fun v H1 =>
    tBool v fun b2 =>
    iteB (!b2) (
      L2 p val s i H1 R) <|
    L1 p val s i H1 R) <|
  L1 p val s i H R
theorem L0_step {p : Option Addr} {val : Int} {s : Nat} {i : Int} {H : Heap} {R : Ending → Heap → Prop} (h : L0n p val s i H R) : L0 p val s i H R :=
  goL_of_den (an := an) (fuel := 100000) (X := L0n p val s i H R) mixed fn (by kernel_rfl) (fun ρ0 => by kernel_rfl) h
def L1n (p : Option Addr) (val : Int) (s : Nat) (i : Int) (H : Heap) (R : Ending → Heap → Prop) : Prop :=
  newD H (.cells ⟨[]⟩ 71) fun r H1 =>
  nilD p fun a =>
  ldSl H1 (Addr.add a 1) fun q qn qc =>
  bndD i qc fun k =>
  apD H1 6 64 [(.string (ByteArray.mk #[])), (.string (ByteArray.mk #[])), (.bool false), (.int .i64 (0 : Int)), (.int .i64 (0 : Int)), (.int .i64 (0 : Int))] 71 (some ⟨r, 0, none⟩) 0 0 (slP q 0 qc 6) k fun q1 q1n q1c H2 =>
  (
    nilD p fun a1 =>
    ldStr H2 ⟨s, 0, none⟩ fun s1 =>
    ldStr H2 ⟨s, 1, none⟩ fun s2 =>
    ldBool H2 ⟨s, 2, none⟩ fun b =>
    ldInt H2 ⟨s, 3, none⟩ .i64 fun n =>
    ldInt H2 ⟨s, 4, none⟩ .i64 fun n1 =>
    ldSl H2 (Addr.add a1 1) fun q2 q2n q2c =>
    bndD i q2n fun k1 =>
    callD Try.prog 67 [(.agg ⟨[(.string s1), (.string s2), (.bool b), (.int .i64 n), (.int .i64 n1)]⟩)] H2 (panK R) fun v H3 =>
    tAgg v fun l =>
    tCons l fun c l1 =>
    tStr c fun s3 =>
    tCons l1 fun c1 l2 =>
    tStr c1 fun s4 =>
    tCons l2 fun c2 l3 =>
    tBool c2 fun b1 =>
    tCons l3 fun c3 l4 =>
    tInt c3 .i64 fun n2 =>
    tCons l4 fun c4 l5 =>
    tInt c4 .i64 fun n3 =>
    tNil l5 <|
    newD H3 (.cells ⟨[(.string s3), (.string s4), (.bool b1), (.int .i64 n2), (.int .i64 n3), (.int .i64 val)]⟩ 71) fun r1 H4 =>
    apD H4 6 64 [(.string (ByteArray.mk #[])), (.string (ByteArray.mk #[])), (.bool false), (.int .i64 (0 : Int)), (.int .i64 (0 : Int)), (.int .i64 (0 : Int))] 71 q1 q1n q1c (some ⟨r1, 0, none⟩) 1 fun q3 q3n q3c H5 =>
    apD H5 6 64 [(.string (ByteArray.mk #[])), (.string (ByteArray.mk #[])), (.bool false), (.int .i64 (0 : Int)), (.int .i64 (0 : Int)), (.int .i64 (0 : Int))] 71 q3 q3n q3c (slP q2 k1 q2c 6) (q2n - k1) fun q4 q4n q4c H6 =>
    nilD p fun a2 =>
    st1 H6 (Addr.add a2 1) (.slice q4 q4n q4c) fun H7 =>
    R (.returned (.tuple ⟨[]⟩)) H7) ∧
  (
    nilD p fun a3 =>
    ldStr H2 ⟨s, 0, none⟩ fun s5 =>
    ldStr H2 ⟨s, 1, none⟩ fun s6 =>
    ldBool H2 ⟨s, 2, none⟩ fun b2 =>
    ldInt H2 ⟨s, 3, none⟩ .i64 fun n4 =>
    ldInt H2 ⟨s, 4, none⟩ .i64 fun n5 =>
    callD Try.prog 67 [(.agg ⟨[(.string s5), (.string s6), (.bool b2), (.int .i64 n4), (.int .i64 n5)]⟩)] H2 (panK R) fun v1 H8 =>
    tAgg v1 fun l6 =>
    tCons l6 fun c5 l7 =>
    tStr c5 fun s7 =>
    tCons l7 fun c6 l8 =>
    tStr c6 fun s8 =>
    tCons l8 fun c7 l9 =>
    tBool c7 fun b3 =>
    tCons l9 fun c8 l10 =>
    tInt c8 .i64 fun n6 =>
    tCons l10 fun c9 l11 =>
    tInt c9 .i64 fun n7 =>
    tNil l11 <|
    ldSl H8 (Addr.add a3 1) fun q5 q5n q5c =>
    bndD i q5n fun k2 =>
    newD H8 (.cells ⟨[(.string s7), (.string s8), (.bool b3), (.int .i64 n6), (.int .i64 n7), (.int .i64 val)]⟩ 71) fun r2 H9 =>
    apD H9 6 64 [(.string (ByteArray.mk #[])), (.string (ByteArray.mk #[])), (.bool false), (.int .i64 (0 : Int)), (.int .i64 (0 : Int)), (.int .i64 (0 : Int))] 71 q1 q1n q1c (some ⟨r2, 0, none⟩) 1 fun q6 q6n q6c H10 =>
    apD H10 6 64 [(.string (ByteArray.mk #[])), (.string (ByteArray.mk #[])), (.bool false), (.int .i64 (0 : Int)), (.int .i64 (0 : Int)), (.int .i64 (0 : Int))] 71 q6 q6n q6c (slP q5 k2 q5c 6) (q5n - k2) fun q7 q7n q7c H11 =>
    nilD p fun a4 =>
    st1 H11 (Addr.add a4 1) (.slice q7 q7n q7c) fun H12 =>
    R (.returned (.tuple ⟨[]⟩)) H12) ∧
  (
    nilD p fun a5 =>
    ldStr H2 ⟨s, 0, none⟩ fun s9 =>
    ldStr H2 ⟨s, 1, none⟩ fun s10 =>
    ldBool H2 ⟨s, 2, none⟩ fun b4 =>
    ldInt H2 ⟨s, 3, none⟩ .i64 fun n8 =>
    ldInt H2 ⟨s, 4, none⟩ .i64 fun n9 =>
    callD Try.prog 67 [(.agg ⟨[(.string s9), (.string s10), (.bool b4), (.int .i64 n8), (.int .i64 n9)]⟩)] H2 (panK R) fun v2 H13 =>
    tAgg v2 fun l12 =>
    tCons l12 fun c10 l13 =>
    tStr c10 fun s11 =>
    tCons l13 fun c11 l14 =>
    tStr c11 fun s12 =>
    tCons l14 fun c12 l15 =>
    tBool c12 fun b5 =>
    tCons l15 fun c13 l16 =>
    tInt c13 .i64 fun n10 =>
    tCons l16 fun c14 l17 =>
    tInt c14 .i64 fun n11 =>
    tNil l17 <|
    newD H13 (.cells ⟨[(.string s11), (.string s12), (.bool b5), (.int .i64 n10), (.int .i64 n11), (.int .i64 val)]⟩ 71) fun r3 H14 =>
    apD H14 6 64 [(.string (ByteArray.mk #[])), (.string (ByteArray.mk #[])), (.bool false), (.int .i64 (0 : Int)), (.int .i64 (0 : Int)), (.int .i64 (0 : Int))] 71 q1 q1n q1c (some ⟨r3, 0, none⟩) 1 fun q8 q8n q8c H15 =>
    ldSl H15 (Addr.add a5 1) fun q9 q9n q9c =>
    bndD i q9n fun k3 =>
    apD H15 6 64 [(.string (ByteArray.mk #[])), (.string (ByteArray.mk #[])), (.bool false), (.int .i64 (0 : Int)), (.int .i64 (0 : Int)), (.int .i64 (0 : Int))] 71 q8 q8n q8c (slP q9 k3 q9c 6) (q9n - k3) fun q10 q10n q10c H16 =>
    nilD p fun a6 =>
    st1 H16 (Addr.add a6 1) (.slice q10 q10n q10c) fun H17 =>
    R (.returned (.tuple ⟨[]⟩)) H17)
theorem L1_step {p : Option Addr} {val : Int} {s : Nat} {i : Int} {H : Heap} {R : Ending → Heap → Prop} (h : L1n p val s i H R) : L1 p val s i H R :=
  goL_of_den (an := an) (fuel := 100000) (X := L1n p val s i H R) mixed fn (by kernel_rfl) (fun ρ0 => by kernel_rfl) h
def L2n (p : Option Addr) (val : Int) (s : Nat) (i : Int) (H : Heap) (R : Ending → Heap → Prop) : Prop :=
  L0 p val s (IntKind.wrap .i64 (i + (1 : Int))) H R
theorem L2_step {p : Option Addr} {val : Int} {s : Nat} {i : Int} {H : Heap} {R : Ending → Heap → Prop} (h : L2n p val s i H R) : L2 p val s i H R :=
  goL_of_den (an := an) (fuel := 100000) (X := L2n p val s i H R) mixed fn (by kernel_rfl) (fun ρ0 => by kernel_rfl) h
def go (p : Option Addr) (s_0 : ByteArray) (s_1 : ByteArray) (s_2 : Bool) (s_3 : Int) (s_4 : Int) (val : Int) (H : Heap) (R : Ending → Heap → Prop) : Prop :=
  newD H (.cells ⟨[(.string s_0), (.string s_1), (.bool s_2), (.int .i64 s_3), (.int .i64 s_4)]⟩ 35) fun r H1 =>
  L0 p val r (0 : Int) H1 R
theorem calls {p : Option Addr} {s_0 : ByteArray} {s_1 : ByteArray} {s_2 : Bool} {s_3 : Int} {s_4 : Int} {val : Int} {H : Heap} {R : Ending → Heap → Prop} (h : go p s_0 s_1 s_2 s_3 s_4 val H R) : CallsH Try.prog 38 ⟨[(.pointer p), (.agg ⟨[(.string s_0), (.string s_1), (.bool s_2), (.int .i64 s_3), (.int .i64 s_4)]⟩), (.int .i64 val)]⟩ H R :=
  callsH_of_den (an := an) (fuel := 100000) (X := go p s_0 s_1 s_2 s_3 s_4 val H R) (c := body) mixed fn (by kernel_rfl) (by kernel_rfl) (by kernel_rfl) ok (by kernel_rfl) h
end F38
/-! ### 40 "pub-stadtholder/impl.treed" -/
namespace F40
def an : Ann := { kinds := [], taus := [(39, [[0, 1, 2, 4, 8, 9, 10, 11, 12, 3, 5, 6, 7, 13]])], pairs := [], lab := [(60000035, [0, 1, 5, 6, 7, 8, 13, 14]), (80000040, [0, 1, 5, 6, 7, 8, 13, 14, 15]), (50000017, [6, 7, 9, 53, 54, 55])] }
noncomputable def body : Code := (Try.f40.body).getD .skip
theorem fn : Try.prog.funcs[40]? = some Try.f40 := by kernel_rfl
theorem ok : codeOk an 133 body = true := by kernel_rfl
noncomputable def L0t : List Item := [.code (sub [1, 1, 1, 1, 0, 1, 0, 1, 1, 1, 1, 1, 1, 1, 1, 1, 1, 1, 1, 1, 1, 1, 1, 1, 1, 1, 0, 1, 0, 1, 0, 0] body), .inLoop (sub [1, 1, 1, 1, 0, 1, 0, 1, 1, 1, 1, 1, 1, 1, 1, 1, 1, 1, 1, 1, 1, 1, 1, 1, 1, 1, 0, 1, 0, 1, 0, 0] body), .inBlock 3, .code (sub [1, 1, 1, 1, 0, 1, 0, 1, 1, 1, 1, 1, 1, 1, 1, 1, 1, 1, 1, 1, 1, 1, 1, 1, 1, 1, 0, 1, 1] body), .inBlock 0, .code (sub [1, 1, 1, 1, 1] body)]
def L0 (s0 : IV) (s1 : Int) (s5 : Nat) (s6 : Nat) (s7 : Nat) (s8 : Nat) (s13 : IV) (s14 : Int) (H : Heap) (R : Ending → Heap → Prop) : Prop :=
  GoL Try.prog 40 133 L0t [0, 1, 5, 6, 7, 8, 13, 14] [(IV.v s0), (.int .i64 s1), (.pointer (some ⟨s5, 0, none⟩)), (.pointer (some ⟨s6, 0, none⟩)), (.pointer (some ⟨s7, 0, none⟩)), (.pointer (some ⟨s8, 0, none⟩)), (IV.v s13), (.int .i64 s14)] H R
noncomputable def L1t : List Item := [.code (sub [1, 1, 1, 1, 0, 1, 0, 1, 1, 1, 1, 1, 1, 1, 1, 1, 1, 1, 1, 1, 1, 1, 1, 1, 1, 1, 0, 1, 0, 1, 0, 0, 1, 0, 0, 1, 1] body), .inBlock 4, .code (sub [1, 1, 1, 1, 0, 1, 0, 1, 1, 1, 1, 1, 1, 1, 1, 1, 1, 1, 1, 1, 1, 1, 1, 1, 1, 1, 0, 1, 0, 1, 0, 0, 1, 1] body), .inLoop (sub [1, 1, 1, 1, 0, 1, 0, 1, 1, 1, 1, 1, 1, 1, 1, 1, 1, 1, 1, 1, 1, 1, 1, 1, 1, 1, 0, 1, 0, 1, 0, 0] body), .inBlock 3, .code (sub [1, 1, 1, 1, 0, 1, 0, 1, 1, 1, 1, 1, 1, 1, 1, 1, 1, 1, 1, 1, 1, 1, 1, 1, 1, 1, 0, 1, 1] body), .inBlock 0, .code (sub [1, 1, 1, 1, 1] body)]
def L1 (s0 : IV) (s1 : Int) (s5 : Nat) (s6 : Nat) (s7 : Nat) (s8 : Nat) (s13 : IV) (s14 : Int) (s15 : Int) (H : Heap) (R : Ending → Heap → Prop) : Prop :=
  GoL Try.prog 40 133 L1t [0, 1, 5, 6, 7, 8, 13, 14, 15] [(IV.v s0), (.int .i64 s1), (.pointer (some ⟨s5, 0, none⟩)), (.pointer (some ⟨s6, 0, none⟩)), (.pointer (some ⟨s7, 0, none⟩)), (.pointer (some ⟨s8, 0, none⟩)), (IV.v s13), (.int .i64 s14), (.int .i64 s15)] H R
noncomputable def L2t : List Item := [.code (sub [1, 1, 1, 1, 0, 1, 0, 1, 1, 1, 1, 1, 1, 1, 0, 1, 0, 0] body), .inLoop (sub [1, 1, 1, 1, 0, 1, 0, 1, 1, 1, 1, 1, 1, 1, 0, 1, 0, 0] body), .inBlock 1, .inBlock 0, .code (sub [1, 1, 1, 1, 1] body)]
def L2 (s6 : Nat) (s7 : Nat) (s9 : Nat) (s53 : Option Addr) (s53n : Nat) (s53c : Nat) (s54 : Int) (s55 : Int) (H : Heap) (R : Ending → Heap → Prop) : Prop :=
  GoL Try.prog 40 133 L2t [6, 7, 9, 53, 54, 55] [(.pointer (some ⟨s6, 0, none⟩)), (.pointer (some ⟨s7, 0, none⟩)), (.pointer (some ⟨s9, 0, none⟩)), (.slice s53 s53n s53c), (.int .i64 s54), (.int .i64 s55)] H R
def L0n (s0 : IV) (s1 : Int) (s5 : Nat) (s6 : Nat) (s7 : Nat) (s8 : Nat) (s13 : IV) (s14 : Int) (H : Heap) (R : Ending → Heap → Prop) : Prop :=
  ldSl H ⟨s5, 8, none⟩ fun q qn qc =>
  iteB (decide (s14 < ((qn : Nat) : Int))) (
    ldSl H ⟨s5, 9, none⟩ fun q1 q1n q1c =>
    iteB (decide (s14 < ((q1n : Nat) : Int))) (
      ldSl H ⟨s5, 9, none⟩ fun q2 q2n q2c =>
      idxD q2 q2n s14 fun a =>
      ldInt H (Addr.add a (Int.toNat s14 * 1)) .i64 fun n =>
      L1 s0 s1 s5 s6 s7 s8 s13 s14 n H R) <|
    L1 s0 s1 s5 s6 s7 s8 s13 s14 (0 : Int) H R) <|
  ldIf H ⟨s8, 0, none⟩ fun i =>
  ldIf H ⟨s8, 1, none⟩ fun i1 =>
  callI Try.prog (IV.v s0) "Union" [(IV.v s13), (.agg ⟨[(IV.v i), (IV.v i1)]⟩)] H (panK R) fun v H1 =>
  tTup v fun l =>
  tNil l <|
  ldBool H1 ⟨s7, 0, none⟩ fun b =>
  ldInt H1 ⟨s7, 1, none⟩ .i64 fun n1 =>
  ldInt H1 ⟨s7, 2, none⟩ .i64 fun n2 =>
  ldSl H1 ⟨s7, 3, none⟩ fun q3 q3n q3c =>
  ldSl H1 ⟨s7, 4, none⟩ fun q4 q4n q4c =>
  st1 H1 ⟨s6, 0, none⟩ (.bool b) fun H2 =>
  st1 H2 ⟨s6, 1, none⟩ (.int .i64 n1) fun H3 =>
  st1 H3 ⟨s6, 2, none⟩ (.int .i64 n2) fun H4 =>
  st1 H4 ⟨s6, 3, none⟩ (.slice q3 q3n q3c) fun H5 =>
  st1 H5 ⟨s6, 4, none⟩ (.slice q4 q4n q4c) fun H6 =>
  ldBool H6 ⟨s6, 0, none⟩ fun b1 =>
  ldInt H6 ⟨s6, 1, none⟩ .i64 fun n3 =>
  ldInt H6 ⟨s6, 2, none⟩ .i64 fun n4 =>
  ldSl H6 ⟨s6, 3, none⟩ fun q5 q5n q5c =>
  ldSl H6 ⟨s6, 4, none⟩ fun q6 q6n q6c =>
  R (.returned (.agg ⟨[(.bool b1), (.int .i64 n3), (.int .i64 n4), (.slice q5 q5n q5c), (.slice q6 q6n q6c)]⟩)) H6
theorem L0_step {s0 : IV} {s1 : Int} {s5 : Nat} {s6 : Nat} {s7 : Nat} {s8 : Nat} {s13 : IV} {s14 : Int} {H : Heap} {R : Ending → Heap → Prop} (h : L0n s0 s1 s5 s6 s7 s8 s13 s14 H R) : L0 s0 s1 s5 s6 s7 s8 s13 s14 H R :=
  goL_of_den (an := an) (fuel := 100000) (X := L0n s0 s1 s5 s6 s7 s8 s13 s14 H R) mixed fn (by kernel_rfl) (fun ρ0 => by kernel_rfl) h
def L1n (s0 : IV) (s1 : Int) (s5 : Nat) (s6 : Nat) (s7 : Nat) (s8 : Nat) (s13 : IV) (s14 : Int) (s15 : Int) (H : Heap) (R : Ending → Heap → Prop) : Prop :=
  nilM Try.prog "Insert" ⟨[(IV.v s13)]⟩ <|
  ldSl H ⟨s5, 8, none⟩ fun q qn qc =>
  idxD q qn s14 fun a =>
  ldStr H (Addr.add a (Int.toNat s14 * 5)) fun s =>
  ldStr H (Addr.add (Addr.add a (Int.toNat s14 * 5)) 1) fun s2 =>
  ldBool H (Addr.add (Addr.add a (Int.toNat s14 * 5)) 2) fun b =>
  ldInt H (Addr.add (Addr.add a (Int.toNat s14 * 5)) 3) .i64 fun n =>
  ldInt H (Addr.add (Addr.add a (Int.toNat s14 * 5)) 4) .i64 fun n1 =>
  callD Try.prog 68 [(.int .i64 s1), (.agg ⟨[(.string s), (.string s2), (.bool b), (.int .i64 n), (.int .i64 n1)]⟩)] H (panK R) fun v H1 =>
  tAgg v fun l =>
  tCons l fun c l1 =>
  tIf c fun i =>
  tCons l1 fun c1 l2 =>
  tIf c1 fun i1 =>
  tNil l2 <|
  callI Try.prog (IV.v s13) "Insert" [(.agg ⟨[(IV.v i), (IV.v i1)]⟩), (.iface 3 (.int .i64 s15))] H1 (panK R) fun v1 H2 =>
  tTup v1 fun l3 =>
  tNil l3 <|
  L0 s0 s1 s5 s6 s7 s8 s13 (IntKind.wrap .i64 (s14 + (1 : Int))) H2 R
theorem L1_step {s0 : IV} {s1 : Int} {s5 : Nat} {s6 : Nat} {s7 : Nat} {s8 : Nat} {s13 : IV} {s14 : Int} {s15 : Int} {H : Heap} {R : Ending → Heap → Prop} (h : L1n s0 s1 s5 s6 s7 s8 s13 s14 s15 H R) : L1 s0 s1 s5 s6 s7 s8 s13 s14 s15 H R :=
  goL_of_den (an := an) (fuel := 100000) (X := L1n s0 s1 s5 s6 s7 s8 s13 s14 s15 H R) mixed fn (by kernel_rfl) (fun ρ0 => by kernel_rfl) h
def L2n (s6 : Nat) (s7 : Nat) (s9 : Nat) (s53 : Option Addr) (s53n : Nat) (s53c : Nat) (s54 : Int) (s55 : Int) (H : Heap) (R : Ending → Heap → Prop) : Prop :=
  iteB (decide (s55 < s54)) (
    idxD s53 s53n s55 fun a =>
    ldPtr H (Addr.add a (Int.toNat s55 * 1)) fun p =>
    ldFn H ⟨s9, 0, none⟩ fun f =>
    callV Try.prog (FV.v f) [(.pointer p)] H (panK R) fun v H1 =>
    tTup v fun l =>
    tNil l <|
    L2 s6 s7 s9 s53 s53n s53c s54 (IntKind.wrap .i64 (s55 + (1 : Int))) H1 R) <|
  ldBool H ⟨s7, 0, none⟩ fun b =>
  ldInt H ⟨s7, 1, none⟩ .i64 fun n =>
  ldInt H ⟨s7, 2, none⟩ .i64 fun n1 =>
  ldSl H ⟨s7, 3, none⟩ fun q qn qc =>
  ldSl H ⟨s7, 4, none⟩ fun q1 q1n q1c =>
  st1 H ⟨s6, 0, none⟩ (.bool b) fun H2 =>
  st1 H2 ⟨s6, 1, none⟩ (.int .i64 n) fun H3 =>
  st1 H3 ⟨s6, 2, none⟩ (.int .i64 n1) fun H4 =>
  st1 H4 ⟨s6, 3, none⟩ (.slice q qn qc) fun H5 =>
  st1 H5 ⟨s6, 4, none⟩ (.slice q1 q1n q1c) fun H6 =>
  ldBool H6 ⟨s6, 0, none⟩ fun b1 =>
  ldInt H6 ⟨s6, 1, none⟩ .i64 fun n2 =>
  ldInt H6 ⟨s6, 2, none⟩ .i64 fun n3 =>
  ldSl H6 ⟨s6, 3, none⟩ fun q2 q2n q2c =>
  ldSl H6 ⟨s6, 4, none⟩ fun q3 q3n q3c =>
  R (.returned (.agg ⟨[(.bool b1), (.int .i64 n2), (.int .i64 n3), (.slice q2 q2n q2c), (.slice q3 q3n q3c)]⟩)) H6
theorem L2_step {s6 : Nat} {s7 : Nat} {s9 : Nat} {s53 : Option Addr} {s53n : Nat} {s53c : Nat} {s54 : Int} {s55 : Int} {H : Heap} {R : Ending → Heap → Prop} (h : L2n s6 s7 s9 s53 s53n s53c s54 s55 H R) : L2 s6 s7 s9 s53 s53n s53c s54 s55 H R :=
  goL_of_den (an := an) (fuel := 100000) (X := L2n s6 s7 s9 s53 s53n s53c s54 s55 H R) mixed fn (by kernel_rfl) (fun ρ0 => by kernel_rfl) h
def go (s0 : IV) (s1 : Int) (s2_0 : Int) (s2_1 : ByteArray) (s2_2 : ByteArray) (s2_3 : Bool) (s2_4 : Int) (s2_5 : Int) (s2_6 : Int) (s2_7 : Int) (s2_8 : Option Addr) (s2_8n : Nat) (s2_8c : Nat) (s2_9 : Option Addr) (s2_9n : Nat) (s2_9c : Nat) (H : Heap) (R : Ending → Heap → Prop) : Prop :=
  newD H (.cells ⟨[(.int .i64 s2_0), (.string s2_1), (.string s2_2), (.bool s2_3), (.int .i64 s2_4), (.int .i64 s2_5), (.int .i64 s2_6), (.int .i64 s2_7), (.slice s2_8 s2_8n s2_8c), (.slice s2_9 s2_9n s2_9c)]⟩ 44) fun r H1 =>
  newD H1 (.cells ⟨[(.bool false), (.int .i64 (0 : Int)), (.int .i64 (0 : Int)), (.slice none 0 0), (.slice none 0 0)]⟩ 40) fun r1 H2 =>
  newD H2 (.cells ⟨[(.bool false), (.int .i64 (0 : Int)), (.int .i64 (0 : Int)), (.slice none 0 0), (.slice none 0 0)]⟩ 40) fun r2 H3 =>
  st1 H3 ⟨r2, 0, none⟩ (.bool false) fun H4 =>
  st1 H4 ⟨r2, 1, none⟩ (.int .i64 (0 : Int)) fun H5 =>
  st1 H5 ⟨r2, 2, none⟩ (.int .i64 (0 : Int)) fun H6 =>
  st1 H6 ⟨r2, 3, none⟩ (.slice none 0 0) fun H7 =>
  st1 H7 ⟨r2, 4, none⟩ (.slice none 0 0) fun H8 =>
  ldStr H8 ⟨r, 1, none⟩ fun s =>
  ldStr H8 ⟨r, 2, none⟩ fun s2 =>
  ldBool H8 ⟨r, 3, none⟩ fun b =>
  ldInt H8 ⟨r, 4, none⟩ .i64 fun n =>
  ldInt H8 ⟨r, 5, none⟩ .i64 fun n1 =>
  callD Try.prog 68 [(.int .i64 s1), (.agg ⟨[(.string s), (.string s2), (.bool b), (.int .i64 n), (.int .i64 n1)]⟩)] H8 (panK R) fun v H9 =>
  tAgg v fun l =>
  tCons l fun c l1 =>
  tIf c fun i =>
  tCons l1 fun c1 l2 =>
  tIf c1 fun i1 =>
  tNil l2 <|
  newD H9 (.cells ⟨[.nilIface, .nilIface]⟩ 109) fun r3 H10 =>
  st1 H10 ⟨r3, 0, none⟩ (IV.v i) fun H11 =>
  st1 H11 ⟨r3, 1, none⟩ (IV.v i1) fun H12 =>
  newD H12 (.cells ⟨[.nilFunc]⟩ 140) fun r4 H13 =>
  st1 H13 ⟨r4, 0, none⟩ (.func (.func 69) ⟨[]⟩ ⟨[(.pointer (some ⟨r2, 0, none⟩))]⟩) fun H14 =>
  ldInt H14 ⟨r, 0, none⟩ .i64 fun n2 =>
  iteB (n2 == (1 : Int)) (
    ldIf H14 ⟨r3, 0, none⟩ fun i2 =>
    ldIf H14 ⟨r3, 1, none⟩ fun i3 =>
    ldInt H14 ⟨r, 6, none⟩ .i64 fun n3 =>
    callI Try.prog (IV.v s0) "Insert" [(.agg ⟨[(IV.v i2), (IV.v i3)]⟩), (.iface 3 (.int .i64 n3))] H14 (panK R) fun v1 H15 =>
    tTup v1 fun l3 =>
    tNil l3 <|
    ldBool H15 ⟨r2, 0, none⟩ fun b1 =>
    ldInt H15 ⟨r2, 1, none⟩ .i64 fun n4 =>
    ldInt H15 ⟨r2, 2, none⟩ .i64 fun n5 =>
    ldSl H15 ⟨r2, 3, none⟩ fun q qn qc =>
    ldSl H15 ⟨r2, 4, none⟩ fun q1 q1n q1c =>
    st1 H15 ⟨r1, 0, none⟩ (.bool b1) fun H16 =>
    st1 H16 ⟨r1, 1, none⟩ (.int .i64 n4) fun H17 =>
    st1 H17 ⟨r1, 2, none⟩ (.int .i64 n5) fun H18 =>
    st1 H18 ⟨r1, 3, none⟩ (.slice q qn qc) fun H19 =>
    st1 H19 ⟨r1, 4, none⟩ (.slice q1 q1n q1c) fun H20 =>
    ldBool H20 ⟨r1, 0, none⟩ fun b2 =>
    ldInt H20 ⟨r1, 1, none⟩ .i64 fun n6 =>
    ldInt H20 ⟨r1, 2, none⟩ .i64 fun n7 =>
    ldSl H20 ⟨r1, 3, none⟩ fun q2 q2n q2c =>
    ldSl H20 ⟨r1, 4, none⟩ fun q3 q3n q3c =>
    R (.returned (.agg ⟨[(.bool b2), (.int .i64 n6), (.int .i64 n7), (.slice q2 q2n q2c), (.slice q3 q3n q3c)]⟩)) H20) <|
  iteB (n2 == (2 : Int)) (
    ldIf H14 ⟨r3, 0, none⟩ fun i4 =>
    ldIf H14 ⟨r3, 1, none⟩ fun i5 =>
    callI Try.prog (IV.v s0) "Delete" [(.agg ⟨[(IV.v i4), (IV.v i5)]⟩)] H14 (panK R) fun v2 H21 =>
    tBool v2 fun b3 =>
    st1 H21 ⟨r2, 0, none⟩ (.bool b3) fun H22 =>
    ldBool H22 ⟨r2, 0, none⟩ fun b4 =>
    ldInt H22 ⟨r2, 1, none⟩ .i64 fun n8 =>
    ldInt H22 ⟨r2, 2, none⟩ .i64 fun n9 =>
    ldSl H22 ⟨r2, 3, none⟩ fun q4 q4n q4c =>
    ldSl H22 ⟨r2, 4, none⟩ fun q5 q5n q5c =>
    st1 H22 ⟨r1, 0, none⟩ (.bool b4) fun H23 =>
    st1 H23 ⟨r1, 1, none⟩ (.int .i64 n8) fun H24 =>
    st1 H24 ⟨r1, 2, none⟩ (.int .i64 n9) fun H25 =>
    st1 H25 ⟨r1, 3, none⟩ (.slice q4 q4n q4c) fun H26 =>
    st1 H26 ⟨r1, 4, none⟩ (.slice q5 q5n q5c) fun H27 =>
    ldBool H27 ⟨r1, 0, none⟩ fun b5 =>
    ldInt H27 ⟨r1, 1, none⟩ .i64 fun n10 =>
    ldInt H27 ⟨r1, 2, none⟩ .i64 fun n11 =>
    ldSl H27 ⟨r1, 3, none⟩ fun q6 q6n q6c =>
    ldSl H27 ⟨r1, 4, none⟩ fun q7 q7n q7c =>
    R (.returned (.agg ⟨[(.bool b5), (.int .i64 n10), (.int .i64 n11), (.slice q6 q6n q6c), (.slice q7 q7n q7c)]⟩)) H27) <|
  iteB (n2 == (3 : Int)) (
    ldIf H14 ⟨r3, 0, none⟩ fun i6 =>
    ldIf H14 ⟨r3, 1, none⟩ fun i7 =>
    callI Try.prog (IV.v s0) "Find" [(.agg ⟨[(IV.v i6), (IV.v i7)]⟩)] H14 (panK R) fun v3 H28 =>
    tPtr v3 fun p =>
    iteB (!(Option.isNone p)) (
      st1 H28 ⟨r2, 0, none⟩ (.bool true) fun H29 =>
      ldFn H29 ⟨r4, 0, none⟩ fun f =>
      callV Try.prog (FV.v f) [(.pointer p)] H29 (panK R) fun v4 H30 =>
      tTup v4 fun l4 =>
      tNil l4 <|
      ldBool H30 ⟨r2, 0, none⟩ fun b6 =>
      ldInt H30 ⟨r2, 1, none⟩ .i64 fun n12 =>
      ldInt H30 ⟨r2, 2, none⟩ .i64 fun n13 =>
      ldSl H30 ⟨r2, 3, none⟩ fun q8 q8n q8c =>
      ldSl H30 ⟨r2, 4, none⟩ fun q9 q9n q9c =>
      st1 H30 ⟨r1, 0, none⟩ (.bool b6) fun H31 =>
      st1 H31 ⟨r1, 1, none⟩ (.int .i64 n12) fun H32 =>
      st1 H32 ⟨r1, 2, none⟩ (.int .i64 n13) fun H33 =>
      st1 H33 ⟨r1, 3, none⟩ (.slice q8 q8n q8c) fun H34 =>
      st1 H34 ⟨r1, 4, none⟩ (.slice q9 q9n q9c) fun H35 =>
      ldBool H35 ⟨r1, 0, none⟩ fun b7 =>
      ldInt H35 ⟨r1, 1, none⟩ .i64 fun n14 =>
      ldInt H35 ⟨r1, 2, none⟩ .i64 fun n15 =>
      ldSl H35 ⟨r1, 3, none⟩ fun q10 q10n q10c =>
      ldSl H35 ⟨r1, 4, none⟩ fun q11 q11n q11c =>
      R (.returned (.agg ⟨[(.bool b7), (.int .i64 n14), (.int .i64 n15), (.slice q10 q10n q10c), (.slice q11 q11n q11c)]⟩)) H35) <|
    ldBool H28 ⟨r2, 0, none⟩ fun b8 =>
    ldInt H28 ⟨r2, 1, none⟩ .i64 fun n16 =>
    ldInt H28 ⟨r2, 2, none⟩ .i64 fun n17 =>
    ldSl H28 ⟨r2, 3, none⟩ fun q12 q12n q12c =>
    ldSl H28 ⟨r2, 4, none⟩ fun q13 q13n q13c =>
    st1 H28 ⟨r1, 0, none⟩ (.bool b8) fun H36 =>
    st1 H36 ⟨r1, 1, none⟩ (.int .i64 n16) fun H37 =>
    st1 H37 ⟨r1, 2, none⟩ (.int .i64 n17) fun H38 =>
    st1 H38 ⟨r1, 3, none⟩ (.slice q12 q12n q12c) fun H39 =>
    st1 H39 ⟨r1, 4, none⟩ (.slice q13 q13n q13c) fun H40 =>
    ldBool H40 ⟨r1, 0, none⟩ fun b9 =>
    ldInt H40 ⟨r1, 1, none⟩ .i64 fun n18 =>
    ldInt H40 ⟨r1, 2, none⟩ .i64 fun n19 =>
    ldSl H40 ⟨r1, 3, none⟩ fun q14 q14n q14c =>
    ldSl H40 ⟨r1, 4, none⟩ fun q15 q15n q15c =>
    R (.returned (.agg ⟨[(.bool b9), (.int .i64 n18), (.int .i64 n19), (.slice q14 q14n q14c), (.slice q15 q15n q15c)]⟩)) H40) <|
  iteB (n2 == (4 : Int)) (
    ldIf H14 ⟨r3, 0, none⟩ fun i8 =>
    ldIf H14 ⟨r3, 1, none⟩ fun i9 =>
    callI Try.prog (IV.v s0) "Stab" [(.agg ⟨[(IV.v i8), (IV.v i9)]⟩)] H14 (panK R) fun v5 H41 =>
    tSl v5 fun q16 q16n q16c =>
    L2 r1 r2 r4 q16 q16n q16c ((q16n : Nat) : Int) (0 : Int) H41 R) <|
  iteB (n2 == (5 : Int)) (
    ldIf H14 ⟨r3, 0, none⟩ fun i10 =>
    ldIf H14 ⟨r3, 1, none⟩ fun i11 =>
    callI Try.prog (IV.v s0) "Visit" [(.agg ⟨[(IV.v i10), (IV.v i11)]⟩), (.func (.func 70) ⟨[]⟩ ⟨[(.pointer (some ⟨r4, 0, none⟩)), (.pointer (some ⟨r, 0, none⟩)), (.pointer (some ⟨r2, 0, none⟩))]⟩)] H14 (panK R) fun v6 H42 =>
    tTup v6 fun l5 =>
    tNil l5 <|
    ldBool H42 ⟨r2, 0, none⟩ fun b10 =>
    ldInt H42 ⟨r2, 1, none⟩ .i64 fun n20 =>
    ldInt H42 ⟨r2, 2, none⟩ .i64 fun n21 =>
    ldSl H42 ⟨r2, 3, none⟩ fun q17 q17n q17c =>
    ldSl H42 ⟨r2, 4, none⟩ fun q18 q18n q18c =>
    st1 H42 ⟨r1, 0, none⟩ (.bool b10) fun H43 =>
    st1 H43 ⟨r1, 1, none⟩ (.int .i64 n20) fun H44 =>
    st1 H44 ⟨r1, 2, none⟩ (.int .i64 n21) fun H45 =>
    st1 H45 ⟨r1, 3, none⟩ (.slice q17 q17n q17c) fun H46 =>
    st1 H46 ⟨r1, 4, none⟩ (.slice q18 q18n q18c) fun H47 =>
    ldBool H47 ⟨r1, 0, none⟩ fun b11 =>
    ldInt H47 ⟨r1, 1, none⟩ .i64 fun n22 =>
    ldInt H47 ⟨r1, 2, none⟩ .i64 fun n23 =>
    ldSl H47 ⟨r1, 3, none⟩ fun q19 q19n q19c =>
    ldSl H47 ⟨r1, 4, none⟩ fun q20 q20n q20c =>
    R (.returned (.agg ⟨[(.bool b11), (.int .i64 n22), (.int .i64 n23), (.slice q19 q19n q19c), (.slice q20 q20n q20c)]⟩)) H47) <|
  iteB (n2 == (6 : Int)) (
    ldIf H14 ⟨r3, 0, none⟩ fun i12 =>
    ldIf H14 ⟨r3, 1, none⟩ fun i13 =>
    callI Try.prog (IV.v s0) "Intersects" [(.agg ⟨[(IV.v i12), (IV.v i13)]⟩)] H14 (panK R) fun v7 H48 =>
    tBool v7 fun b12 =>
    st1 H48 ⟨r2, 0, none⟩ (.bool b12) fun H49 =>
    ldBool H49 ⟨r2, 0, none⟩ fun b13 =>
    ldInt H49 ⟨r2, 1, none⟩ .i64 fun n24 =>
    ldInt H49 ⟨r2, 2, none⟩ .i64 fun n25 =>
    ldSl H49 ⟨r2, 3, none⟩ fun q21 q21n q21c =>
    ldSl H49 ⟨r2, 4, none⟩ fun q22 q22n q22c =>
    st1 H49 ⟨r1, 0, none⟩ (.bool b13) fun H50 =>
    st1 H50 ⟨r1, 1, none⟩ (.int .i64 n24) fun H51 =>
    st1 H51 ⟨r1, 2, none⟩ (.int .i64 n25) fun H52 =>
    st1 H52 ⟨r1, 3, none⟩ (.slice q21 q21n q21c) fun H53 =>
    st1 H53 ⟨r1, 4, none⟩ (.slice q22 q22n q22c) fun H54 =>
    ldBool H54 ⟨r1, 0, none⟩ fun b14 =>
    ldInt H54 ⟨r1, 1, none⟩ .i64 fun n26 =>
    ldInt H54 ⟨r1, 2, none⟩ .i64 fun n27 =>
    ldSl H54 ⟨r1, 3, none⟩ fun q23 q23n q23c =>
    ldSl H54 ⟨r1, 4, none⟩ fun q24 q24n q24c =>
    R (.returned (.agg ⟨[(.bool b14), (.int .i64 n26), (.int .i64 n27), (.slice q23 q23n q23c), (.slice q24 q24n q24c)]⟩)) H54) <|
  iteB (n2 == (7 : Int)) (
    ldIf H14 ⟨r3, 0, none⟩ fun i14 =>
    ldIf H14 ⟨r3, 1, none⟩ fun i15 =>
    callI Try.prog (IV.v s0) "Contains" [(.agg ⟨[(IV.v i14), (IV.v i15)]⟩)] H14 (panK R) fun v8 H55 =>
    tBool v8 fun b15 =>
    st1 H55 ⟨r2, 0, none⟩ (.bool b15) fun H56 =>
    ldBool H56 ⟨r2, 0, none⟩ fun b16 =>
    ldInt H56 ⟨r2, 1, none⟩ .i64 fun n28 =>
    ldInt H56 ⟨r2, 2, none⟩ .i64 fun n29 =>
    ldSl H56 ⟨r2, 3, none⟩ fun q25 q25n q25c =>
    ldSl H56 ⟨r2, 4, none⟩ fun q26 q26n q26c =>
    st1 H56 ⟨r1, 0, none⟩ (.bool b16) fun H57 =>
    st1 H57 ⟨r1, 1, none⟩ (.int .i64 n28) fun H58 =>
    st1 H58 ⟨r1, 2, none⟩ (.int .i64 n29) fun H59 =>
    st1 H59 ⟨r1, 3, none⟩ (.slice q25 q25n q25c) fun H60 =>
    st1 H60 ⟨r1, 4, none⟩ (.slice q26 q26n q26c) fun H61 =>
    ldBool H61 ⟨r1, 0, none⟩ fun b17 =>
    ldInt H61 ⟨r1, 1, none⟩ .i64 fun n30 =>
    ldInt H61 ⟨r1, 2, none⟩ .i64 fun n31 =>
    ldSl H61 ⟨r1, 3, none⟩ fun q27 q27n q27c =>
    ldSl H61 ⟨r1, 4, none⟩ fun q28 q28n q28c =>
    R (.returned (.agg ⟨[(.bool b17), (.int .i64 n30), (.int .i64 n31), (.slice q27 q27n q27c), (.slice q28 q28n q28c)]⟩)) H61) <|
  iteB (n2 == (8 : Int)) (
    callI Try.prog (IV.v s0) "Len" [] H14 (panK R) fun v9 H62 =>
    tInt v9 .i64 fun n32 =>
    st1 H62 ⟨r2, 1, none⟩ (.int .i64 n32) fun H63 =>
    ldBool H63 ⟨r2, 0, none⟩ fun b18 =>
    ldInt H63 ⟨r2, 1, none⟩ .i64 fun n33 =>
    ldInt H63 ⟨r2, 2, none⟩ .i64 fun n34 =>
    ldSl H63 ⟨r2, 3, none⟩ fun q29 q29n q29c =>
    ldSl H63 ⟨r2, 4, none⟩ fun q30 q30n q30c =>
    st1 H63 ⟨r1, 0, none⟩ (.bool b18) fun H64 =>
    st1 H64 ⟨r1, 1, none⟩ (.int .i64 n33) fun H65 =>
    st1 H65 ⟨r1, 2, none⟩ (.int .i64 n34) fun H66 =>
    st1 H66 ⟨r1, 3, none⟩ (.slice q29 q29n q29c) fun H67 =>
    st1 H67 ⟨r1, 4, none⟩ (.slice q30 q30n q30c) fun H68 =>
    ldBool H68 ⟨r1, 0, none⟩ fun b19 =>
    ldInt H68 ⟨r1, 1, none⟩ .i64 fun n35 =>
    ldInt H68 ⟨r1, 2, none⟩ .i64 fun n36 =>
    ldSl H68 ⟨r1, 3, none⟩ fun q31 q31n q31c =>
    ldSl H68 ⟨r1, 4, none⟩ fun q32 q32n q32c =>
    R (.returned (.agg ⟨[(.bool b19), (.int .i64 n35), (.int .i64 n36), (.slice q31 q31n q31c), (.slice q32 q32n q32c)]⟩)) H68) <|
  iteB (n2 == (9 : Int)) (
    callI Try.prog (IV.v s0) "Height" [] H14 (panK R) fun v10 H69 =>
    tInt v10 .i64 fun n37 =>
    st1 H69 ⟨r2, 1, none⟩ (.int .i64 n37) fun H70 =>
    callI Try.prog (IV.v s0) "MaxHeight" [] H70 (panK R) fun v11 H71 =>
    tInt v11 .i64 fun n38 =>
    st1 H71 ⟨r2, 2, none⟩ (.int .i64 n38) fun H72 =>
    ldBool H72 ⟨r2, 0, none⟩ fun b20 =>
    ldInt H72 ⟨r2, 1, none⟩ .i64 fun n39 =>
    ldInt H72 ⟨r2, 2, none⟩ .i64 fun n40 =>
    ldSl H72 ⟨r2, 3, none⟩ fun q33 q33n q33c =>
    ldSl H72 ⟨r2, 4, none⟩ fun q34 q34n q34c =>
    st1 H72 ⟨r1, 0, none⟩ (.bool b20) fun H73 =>
    st1 H73 ⟨r1, 1, none⟩ (.int .i64 n39) fun H74 =>
    st1 H74 ⟨r1, 2, none⟩ (.int .i64 n40) fun H75 =>
    st1 H75 ⟨r1, 3, none⟩ (.slice q33 q33n q33c) fun H76 =>
    st1 H76 ⟨r1, 4, none⟩ (.slice q34 q34n q34c) fun H77 =>
    ldBool H77 ⟨r1, 0, none⟩ fun b21 =>
    ldInt H77 ⟨r1, 1, none⟩ .i64 fun n41 =>
    ldInt H77 ⟨r1, 2, none⟩ .i64 fun n42 =>
    ldSl H77 ⟨r1, 3, none⟩ fun q35 q35n q35c =>
    ldSl H77 ⟨r1, 4, none⟩ fun q36 q36n q36c =>
    R (.returned (.agg ⟨[(.bool b21), (.int .i64 n41), (.int .i64 n42), (.slice q35 q35n q35c), (.slice q36 q36n q36c)]⟩)) H77) <|
  iteB (n2 == (10 : Int)) (
    callD Try.prog 39 [] H14 (panK R) fun v12 H78 =>
    tIf v12 fun i16 =>
    L0 s0 s1 r r1 r2 r3 i16 (0 : Int) H78 R) <|
  ldBool H14 ⟨r2, 0, none⟩ fun b22 =>
  ldInt H14 ⟨r2, 1, none⟩ .i64 fun n43 =>
  ldInt H14 ⟨r2, 2, none⟩ .i64 fun n44 =>
  ldSl H14 ⟨r2, 3, none⟩ fun q37 q37n q37c =>
  ldSl H14 ⟨r2, 4, none⟩ fun q38 q38n q38c =>
  st1 H14 ⟨r1, 0, none⟩ (.bool b22) fun H79 =>
  st1 H79 ⟨r1, 1, none⟩ (.int .i64 n43) fun H80 =>
  st1 H80 ⟨r1, 2, none⟩ (.int .i64 n44) fun H81 =>
  st1 H81 ⟨r1, 3, none⟩ (.slice q37 q37n q37c) fun H82 =>
  st1 H82 ⟨r1, 4, none⟩ (.slice q38 q38n q38c) fun H83 =>
  ldBool H83 ⟨r1, 0, none⟩ fun b23 =>
  ldInt H83 ⟨r1, 1, none⟩ .i64 fun n45 =>
  ldInt H83 ⟨r1, 2, none⟩ .i64 fun n46 =>
  ldSl H83 ⟨r1, 3, none⟩ fun q39 q39n q39c =>
  ldSl H83 ⟨r1, 4, none⟩ fun q40 q40n q40c =>
  R (.returned (.agg ⟨[(.bool b23), (.int .i64 n45), (.int .i64 n46), (.slice q39 q39n q39c), (.slice q40 q40n q40c)]⟩)) H83
theorem calls {s0 : IV} {s1 : Int} {s2_0 : Int} {s2_1 : ByteArray} {s2_2 : ByteArray} {s2_3 : Bool} {s2_4 : Int} {s2_5 : Int} {s2_6 : Int} {s2_7 : Int} {s2_8 : Option Addr} {s2_8n : Nat} {s2_8c : Nat} {s2_9 : Option Addr} {s2_9n : Nat} {s2_9c : Nat} {H : Heap} {R : Ending → Heap → Prop} (h : go s0 s1 s2_0 s2_1 s2_2 s2_3 s2_4 s2_5 s2_6 s2_7 s2_8 s2_8n s2_8c s2_9 s2_9n s2_9c H R) : CallsH Try.prog 40 ⟨[(IV.v s0), (.int .i64 s1), (.agg ⟨[(.int .i64 s2_0), (.string s2_1), (.string s2_2), (.bool s2_3), (.int .i64 s2_4), (.int .i64 s2_5), (.int .i64 s2_6), (.int .i64 s2_7), (.slice s2_8 s2_8n s2_8c), (.slice s2_9 s2_9n s2_9c)]⟩)]⟩ H R :=
  callsH_of_den (an := an) (fuel := 100000) (X := go s0 s1 s2_0 s2_1 s2_2 s2_3 s2_4 s2_5 s2_6 s2_7 s2_8 s2_8n s2_8c s2_9 s2_9n s2_9c H R) (c := body) mixed fn (by kernel_rfl) (by kernel_rfl) (by kernel_rfl) ok (by kernel_rfl) h
end F40
/-! ### 43 "pub-stadtholder/spec.Meet" -/
namespace F43
def an : Ann := { kinds := [(1001, .grow), (1004, .grow), (1005, .grow)], taus := [(1, [[0, 2, 1, 4, 5, 3, 6, 7], [0, 2, 1, 4, 3, 5, 6, 7], [0, 2, 1, 3, 4, 5, 6, 7], [0, 2, 1, 5, 4, 3, 6, 7], [0, 2, 1, 5, 3, 4, 6, 7], [0, 2, 1, 3, 5, 4, 6, 7], [0, 2, 5, 1, 4, 3, 6, 7], [0, 2, 5, 1, 3, 4, 6, 7], [0, 2, 4, 1, 5, 3, 6, 7], [0, 2, 4, 1, 3, 5, 6, 7], [0, 2, 4, 5, 1, 3, 6, 7], [0, 2, 5, 4, 1, 3, 6, 7]])], pairs := [(1, [(1, 4), (1, 5), (4, 5), (4, 3), (5, 3)])], lab := [(10000003, [0, 7, 8])] }
noncomputable def body : Code := (Try.f43.body).getD .skip
theorem fn : Try.prog.funcs[43]? = some Try.f43 := by kernel_rfl
theorem ok : codeOk an 41 body = true := by kernel_rfl
noncomputable def L0t : List Item := [.code (sub [1, 1] body)]
def L0 (order : Int) (a : Nat) (b : Nat) (H : Heap) (R : Ending → Heap → Prop) : Prop :=
  GoL Try.prog 43 41 L0t [0, 7, 8] [(.int .i64 order), (.pointer (some ⟨a, 0, none⟩)), (.pointer (some ⟨b, 0, none⟩))] H R
def L0n (order : Int) (a : Nat) (b : Nat) (H : Heap) (R : Ending → Heap → Prop) : Prop :=
  ldStr H ⟨a, 0, none⟩ fun s =>
  ldStr H ⟨b, 1, none⟩ fun s1 =>
  ldInt H ⟨a, 3, none⟩ .i64 fun n =>
  ldInt H ⟨b, 4, none⟩ .i64 fun n1 =>
  callD Try.prog 71 [(.int .i64 order), (.string s), (.string s1), (.int .i64 n), (.int .i64 n1)] H (panK R) fun v H1 =>
  tInt v .i64 fun n2 =>
  iteB (decide (n2 < (0 : Int))) (
    ldStr H1 ⟨b, 0, none⟩ fun s2 =>
    ldStr H1 ⟨a, 1, none⟩ fun s3 =>
    ldInt H1 ⟨b, 3, none⟩ .i64 fun n3 =>
    ldInt H1 ⟨a, 4, none⟩ .i64 fun n4 =>
    callD Try.prog 71 [(.int .i64 order), (.string s2), (.string s3), (.int .i64 n3), (.int .i64 n4)] H1 (panK R) fun v1 H2 =>
    tInt v1 .i64 fun n5 =>
    R (.returned (.bool (decide (n5 < (0 : Int))))) H2) <|
  R (.returned (.bool false)) H1
theorem L0_step {order : Int} {a : Nat} {b : Nat} {H : Heap} {R : Ending → Heap → Prop} (h : L0n order a b H R) : L0 order a b H R :=
  goL_of_den (an := an) (fuel := 100000) (X := L0n order a b H R) mixed fn (by kernel_rfl) (fun ρ0 => by kernel_rfl) h
def go (order : Int) (s_0 : ByteArray) (s_1 : ByteArray) (s_2 : Bool) (s_3 : Int) (s_4 : Int) (t_0 : ByteArray) (t_1 : ByteArray) (t_2 : Bool) (t_3 : Int) (t_4 : Int) (H : Heap) (R : Ending → Heap → Prop) : Prop :=
  newD H (.cells ⟨[(.string s_0), (.string s_1), (.bool s_2), (.int .i64 s_3), (.int .i64 s_4)]⟩ 35) fun r H1 =>
  newD H1 (.cells ⟨[(.string t_0), (.string t_1), (.bool t_2), (.int .i64 t_3), (.int .i64 t_4)]⟩ 35) fun r1 H2 =>
  (
    ldStr H2 ⟨r, 0, none⟩ fun s =>
    ldStr H2 ⟨r, 1, none⟩ fun s1 =>
    ldBool H2 ⟨r, 2, none⟩ fun b =>
    ldInt H2 ⟨r, 3, none⟩ .i64 fun n =>
    ldInt H2 ⟨r, 4, none⟩ .i64 fun n1 =>
    ldStr H2 ⟨r1, 0, none⟩ fun s2 =>
    ldStr H2 ⟨r1, 1, none⟩ fun s3 =>
    ldBool H2 ⟨r1, 2, none⟩ fun b1 =>
    ldInt H2 ⟨r1, 3, none⟩ .i64 fun n2 =>
    ldInt H2 ⟨r1, 4, none⟩ .i64 fun n3 =>
    callD Try.prog 67 [(.agg ⟨[(.string s), (.string s1), (.bool b), (.int .i64 n), (.int .i64 n1)]⟩)] H2 nope fun v H3 =>
    tAgg v fun l =>
    tCons l fun c l1 =>
    tStr c fun s4 =>
    tCons l1 fun c1 l2 =>
    tStr c1 fun s5 =>
    tCons l2 fun c2 l3 =>
    tBool c2 fun b2 =>
    tCons l3 fun c3 l4 =>
    tInt c3 .i64 fun n4 =>
    tCons l4 fun c4 l5 =>
    tInt c4 .i64 fun n5 =>
    tNil l5 <|
    andD (ExtH H2 H3) <|
    newD H3 (.cells ⟨[(.string (ByteArray.mk #[])), (.string (ByteArray.mk #[])), (.bool false), (.int .i64 (0 : Int)), (.int .i64 (0 : Int))]⟩ 35) fun r2 H4 =>
    newD H4 (.cells ⟨[(.string (ByteArray.mk #[])), (.string (ByteArray.mk #[])), (.bool false), (.int .i64 (0 : Int)), (.int .i64 (0 : Int))]⟩ 35) fun r3 H5 =>
    callD Try.prog 67 [(.agg ⟨[(.string s2), (.string s3), (.bool b1), (.int .i64 n2), (.int .i64 n3)]⟩)] H5 (panK R) fun v1 H6 =>
    tAgg v1 fun l6 =>
    tCons l6 fun c5 l7 =>
    tStr c5 fun s6 =>
    tCons l7 fun c6 l8 =>
    tStr c6 fun s7 =>
    tCons l8 fun c7 l9 =>
    tBool c7 fun b3 =>
    tCons l9 fun c8 l10 =>
    tInt c8 .i64 fun n6 =>
    tCons l10 fun c9 l11 =>
    tInt c9 .i64 fun n7 =>
    tNil l11 <|
    st1 H6 ⟨r2, 0, none⟩ (.string s4) fun H7 =>
    st1 H7 ⟨r2, 1, none⟩ (.string s5) fun H8 =>
    st1 H8 ⟨r2, 2, none⟩ (.bool b2) fun H9 =>
    st1 H9 ⟨r2, 3, none⟩ (.int .i64 n4) fun H10 =>
    st1 H10 ⟨r2, 4, none⟩ (.int .i64 n5) fun H11 =>
    st1 H11 ⟨r3, 0, none⟩ (.string s6) fun H12 =>
    st1 H12 ⟨r3, 1, none⟩ (.string s7) fun H13 =>
    st1 H13 ⟨r3, 2, none⟩ (.bool b3) fun H14 =>
    st1 H14 ⟨r3, 3, none⟩ (.int .i64 n6) fun H15 =>
    st1 H15 ⟨r3, 4, none⟩ (.int .i64 n7) fun H16 =>
    L0 order r2 r3 H16 R) ∧
  (
    ldStr H2 ⟨r, 0, none⟩ fun s8 =>
    ldStr H2 ⟨r, 1, none⟩ fun s9 =>
    ldBool H2 ⟨r, 2, none⟩ fun b4 =>
    ldInt H2 ⟨r, 3, none⟩ .i64 fun n8 =>
    ldInt H2 ⟨r, 4, none⟩ .i64 fun n9 =>
    ldStr H2 ⟨r1, 0, none⟩ fun s10 =>
    ldStr H2 ⟨r1, 1, none⟩ fun s11 =>
    ldBool H2 ⟨r1, 2, none⟩ fun b5 =>
    ldInt H2 ⟨r1, 3, none⟩ .i64 fun n10 =>
    ldInt H2 ⟨r1, 4, none⟩ .i64 fun n11 =>
    callD Try.prog 67 [(.agg ⟨[(.string s8), (.string s9), (.bool b4), (.int .i64 n8), (.int .i64 n9)]⟩)] H2 nope fun v2 H17 =>
    tAgg v2 fun l12 =>
    tCons l12 fun c10 l13 =>
    tStr c10 fun s12 =>
    tCons l13 fun c11 l14 =>
    tStr c11 fun s13 =>
    tCons l14 fun c12 l15 =>
    tBool c12 fun b6 =>
    tCons l15 fun c13 l16 =>
    tInt c13 .i64 fun n12 =>
    tCons l16 fun c14 l17 =>
    tInt c14 .i64 fun n13 =>
    tNil l17 <|
    andD (ExtH H2 H17) <|
    newD H17 (.cells ⟨[(.string (ByteArray.mk #[])), (.string (ByteArray.mk #[])), (.bool false), (.int .i64 (0 : Int)), (.int .i64 (0 : Int))]⟩ 35) fun r4 H18 =>
    callD Try.prog 67 [(.agg ⟨[(.string s10), (.string s11), (.bool b5), (.int .i64 n10), (.int .i64 n11)]⟩)] H18 (panK R) fun v3 H19 =>
    tAgg v3 fun l18 =>
    tCons l18 fun c15 l19 =>
    tStr c15 fun s14 =>
    tCons l19 fun c16 l20 =>
    tStr c16 fun s15 =>
    tCons l20 fun c17 l21 =>
    tBool c17 fun b7 =>
    tCons l21 fun c18 l22 =>
    tInt c18 .i64 fun n14 =>
    tCons l22 fun c19 l23 =>
    tInt c19 .i64 fun n15 =>
    tNil l23 <|
    newD H19 (.cells ⟨[(.string (ByteArray.mk #[])), (.string (ByteArray.mk #[])), (.bool false), (.int .i64 (0 : Int)), (.int .i64 (0 : Int))]⟩ 35) fun r5 H20 =>
    st1 H20 ⟨r4, 0, none⟩ (.string s12) fun H21 =>
    st1 H21 ⟨r4, 1, none⟩ (.string s13) fun H22 =>
    st1 H22 ⟨r4, 2, none⟩ (.bool b6) fun H23 =>
    st1 H23 ⟨r4, 3, none⟩ (.int .i64 n12) fun H24 =>
    st1 H24 ⟨r4, 4, none⟩ (.int .i64 n13) fun H25 =>
    st1 H25 ⟨r5, 0, none⟩ (.string s14) fun H26 =>
    st1 H26 ⟨r5, 1, none⟩ (.string s15) fun H27 =>
    st1 H27 ⟨r5, 2, none⟩ (.bool b7) fun H28 =>
    st1 H28 ⟨r5, 3, none⟩ (.int .i64 n14) fun H29 =>
    st1 H29 ⟨r5, 4, none⟩ (.int .i64 n15) fun H30 =>
    L0 order r4 r5 H30 R) ∧
  (
    ldStr H2 ⟨r, 0, none⟩ fun s16 =>
    ldStr H2 ⟨r, 1, none⟩ fun s17 =>
    ldBool H2 ⟨r, 2, none⟩ fun b8 =>
    ldInt H2 ⟨r, 3, none⟩ .i64 fun n16 =>
    ldInt H2 ⟨r, 4, none⟩ .i64 fun n17 =>
    ldStr H2 ⟨r1, 0, none⟩ fun s18 =>
    ldStr H2 ⟨r1, 1, none⟩ fun s19 =>
    ldBool H2 ⟨r1, 2, none⟩ fun b9 =>
    ldInt H2 ⟨r1, 3, none⟩ .i64 fun n18 =>
    ldInt H2 ⟨r1, 4, none⟩ .i64 fun n19 =>
    callD Try.prog 67 [(.agg ⟨[(.string s16), (.string s17), (.bool b8), (.int .i64 n16), (.int .i64 n17)]⟩)] H2 nope fun v4 H31 =>
    tAgg v4 fun l24 =>
    tCons l24 fun c20 l25 =>
    tStr c20 fun s20 =>
    tCons l25 fun c21 l26 =>
    tStr c21 fun s21 =>
    tCons l26 fun c22 l27 =>
    tBool c22 fun b10 =>
    tCons l27 fun c23 l28 =>
    tInt c23 .i64 fun n20 =>
    tCons l28 fun c24 l29 =>
    tInt c24 .i64 fun n21 =>
    tNil l29 <|
    andD (ExtH H2 H31) <|
    callD Try.prog 67 [(.agg ⟨[(.string s18), (.string s19), (.bool b9), (.int .i64 n18), (.int .i64 n19)]⟩)] H31 (panK R) fun v5 H32 =>
    tAgg v5 fun l30 =>
    tCons l30 fun c25 l31 =>
    tStr c25 fun s22 =>
    tCons l31 fun c26 l32 =>
    tStr c26 fun s23 =>
    tCons l32 fun c27 l33 =>
    tBool c27 fun b11 =>
    tCons l33 fun c28 l34 =>
    tInt c28 .i64 fun n22 =>
    tCons l34 fun c29 l35 =>
    tInt c29 .i64 fun n23 =>
    tNil l35 <|
    newD H32 (.cells ⟨[(.string (ByteArray.mk #[])), (.string (ByteArray.mk #[])), (.bool false), (.int .i64 (0 : Int)), (.int .i64 (0 : Int))]⟩ 35) fun r6 H33 =>
    newD H33 (.cells ⟨[(.string (ByteArray.mk #[])), (.string (ByteArray.mk #[])), (.bool false), (.int .i64 (0 : Int)), (.int .i64 (0 : Int))]⟩ 35) fun r7 H34 =>
    st1 H34 ⟨r6, 0, none⟩ (.string s20) fun H35 =>
    st1 H35 ⟨r6, 1, none⟩ (.string s21) fun H36 =>
    st1 H36 ⟨r6, 2, none⟩ (.bool b10) fun H37 =>
    st1 H37 ⟨r6, 3, none⟩ (.int .i64 n20) fun H38 =>
    st1 H38 ⟨r6, 4, none⟩ (.int .i64 n21) fun H39 =>
    st1 H39 ⟨r7, 0, none⟩ (.string s22) fun H40 =>
    st1 H40 ⟨r7, 1, none⟩ (.string s23) fun H41 =>
    st1 H41 ⟨r7, 2, none⟩ (.bool b11) fun H42 =>
    st1 H42 ⟨r7, 3, none⟩ (.int .i64 n22) fun H43 =>
    st1 H43 ⟨r7, 4, none⟩ (.int .i64 n23) fun H44 =>
    L0 order r6 r7 H44 R) ∧
  (
    ldStr H2 ⟨r, 0, none⟩ fun s24 =>
    ldStr H2 ⟨r, 1, none⟩ fun s25 =>
    ldBool H2 ⟨r, 2, none⟩ fun b12 =>
    ldInt H2 ⟨r, 3, none⟩ .i64 fun n24 =>
    ldInt H2 ⟨r, 4, none⟩ .i64 fun n25 =>
    ldStr H2 ⟨r1, 0, none⟩ fun s26 =>
    ldStr H2 ⟨r1, 1, none⟩ fun s27 =>
    ldBool H2 ⟨r1, 2, none⟩ fun b13 =>
    ldInt H2 ⟨r1, 3, none⟩ .i64 fun n26 =>
    ldInt H2 ⟨r1, 4, none⟩ .i64 fun n27 =>
    callD Try.prog 67 [(.agg ⟨[(.string s24), (.string s25), (.bool b12), (.int .i64 n24), (.int .i64 n25)]⟩)] H2 nope fun v6 H45 =>
    tAgg v6 fun l36 =>
    tCons l36 fun c30 l37 =>
    tStr c30 fun s28 =>
    tCons l37 fun c31 l38 =>
    tStr c31 fun s29 =>
    tCons l38 fun c32 l39 =>
    tBool c32 fun b14 =>
    tCons l39 fun c33 l40 =>
    tInt c33 .i64 fun n28 =>
    tCons l40 fun c34 l41 =>
    tInt c34 .i64 fun n29 =>
    tNil l41 <|
    andD (ExtH H2 H45) <|
    newD H45 (.cells ⟨[(.string (ByteArray.mk #[])), (.string (ByteArray.mk #[])), (.bool false), (.int .i64 (0 : Int)), (.int .i64 (0 : Int))]⟩ 35) fun r8 H46 =>
    newD H46 (.cells ⟨[(.string (ByteArray.mk #[])), (.string (ByteArray.mk #[])), (.bool false), (.int .i64 (0 : Int)), (.int .i64 (0 : Int))]⟩ 35) fun r9 H47 =>
    callD Try.prog 67 [(.agg ⟨[(.string s26), (.string s27), (.bool b13), (.int .i64 n26), (.int .i64 n27)]⟩)] H47 (panK R) fun v7 H48 =>
    tAgg v7 fun l42 =>
    tCons l42 fun c35 l43 =>
    tStr c35 fun s30 =>
    tCons l43 fun c36 l44 =>
    tStr c36 fun s31 =>
    tCons l44 fun c37 l45 =>
    tBool c37 fun b15 =>
    tCons l45 fun c38 l46 =>
    tInt c38 .i64 fun n30 =>
    tCons l46 fun c39 l47 =>
    tInt c39 .i64 fun n31 =>
    tNil l47 <|
    st1 H48 ⟨r9, 0, none⟩ (.string s28) fun H49 =>
    st1 H49 ⟨r9, 1, none⟩ (.string s29) fun H50 =>
    st1 H50 ⟨r9, 2, none⟩ (.bool b14) fun H51 =>
    st1 H51 ⟨r9, 3, none⟩ (.int .i64 n28) fun H52 =>
    st1 H52 ⟨r9, 4, none⟩ (.int .i64 n29) fun H53 =>
    st1 H53 ⟨r8, 0, none⟩ (.string s30) fun H54 =>
    st1 H54 ⟨r8, 1, none⟩ (.string s31) fun H55 =>
    st1 H55 ⟨r8, 2, none⟩ (.bool b15) fun H56 =>
    st1 H56 ⟨r8, 3, none⟩ (.int .i64 n30) fun H57 =>
    st1 H57 ⟨r8, 4, none⟩ (.int .i64 n31) fun H58 =>
    L0 order r9 r8 H58 R) ∧
  (
    ldStr H2 ⟨r, 0, none⟩ fun s32 =>
    ldStr H2 ⟨r, 1, none⟩ fun s33 =>
    ldBool H2 ⟨r, 2, none⟩ fun b16 =>
    ldInt H2 ⟨r, 3, none⟩ .i64 fun n32 =>
    ldInt H2 ⟨r, 4, none⟩ .i64 fun n33 =>
    ldStr H2 ⟨r1, 0, none⟩ fun s34 =>
    ldStr H2 ⟨r1, 1, none⟩ fun s35 =>
    ldBool H2 ⟨r1, 2, none⟩ fun b17 =>
    ldInt H2 ⟨r1, 3, none⟩ .i64 fun n34 =>
    ldInt H2 ⟨r1, 4, none⟩ .i64 fun n35 =>
    callD Try.prog 67 [(.agg ⟨[(.string s32), (.string s33), (.bool b16), (.int .i64 n32), (.int .i64 n33)]⟩)] H2 nope fun v8 H59 =>
    tAgg v8 fun l48 =>
    tCons l48 fun c40 l49 =>
    tStr c40 fun s36 =>
    tCons l49 fun c41 l50 =>
    tStr c41 fun s37 =>
    tCons l50 fun c42 l51 =>
    tBool c42 fun b18 =>
    tCons l51 fun c43 l52 =>
    tInt c43 .i64 fun n36 =>
    tCons l52 fun c44 l53 =>
    tInt c44 .i64 fun n37 =>
    tNil l53 <|
    andD (ExtH H2 H59) <|
    newD H59 (.cells ⟨[(.string (ByteArray.mk #[])), (.string (ByteArray.mk #[])), (.bool false), (.int .i64 (0 : Int)), (.int .i64 (0 : Int))]⟩ 35) fun r10 H60 =>
    callD Try.prog 67 [(.agg ⟨[(.string s34), (.string s35), (.bool b17), (.int .i64 n34), (.int .i64 n35)]⟩)] H60 (panK R) fun v9 H61 =>
    tAgg v9 fun l54 =>
    tCons l54 fun c45 l55 =>
    tStr c45 fun s38 =>
    tCons l55 fun c46 l56 =>
    tStr c46 fun s39 =>
    tCons l56 fun c47 l57 =>
    tBool c47 fun b19 =>
    tCons l57 fun c48 l58 =>
    tInt c48 .i64 fun n38 =>
    tCons l58 fun c49 l59 =>
    tInt c49 .i64 fun n39 =>
    tNil l59 <|
    newD H61 (.cells ⟨[(.string (ByteArray.mk #[])), (.string (ByteArray.mk #[])), (.bool false), (.int .i64 (0 : Int)), (.int .i64 (0 : Int))]⟩ 35) fun r11 H62 =>
    st1 H62 ⟨r11, 0, none⟩ (.string s36) fun H63 =>
    st1 H63 ⟨r11, 1, none⟩ (.string s37) fun H64 =>
    st1 H64 ⟨r11, 2, none⟩ (.bool b18) fun H65 =>
    st1 H65 ⟨r11, 3, none⟩ (.int .i64 n36) fun H66 =>
    st1 H66 ⟨r11, 4, none⟩ (.int .i64 n37) fun H67 =>
    st1 H67 ⟨r10, 0, none⟩ (.string s38) fun H68 =>
    st1 H68 ⟨r10, 1, none⟩ (.string s39) fun H69 =>
    st1 H69 ⟨r10, 2, none⟩ (.bool b19) fun H70 =>
    st1 H70 ⟨r10, 3, none⟩ (.int .i64 n38) fun H71 =>
    st1 H71 ⟨r10, 4, none⟩ (.int .i64 n39) fun H72 =>
    L0 order r11 r10 H72 R) ∧
  (
    ldStr H2 ⟨r, 0, none⟩ fun s40 =>
    ldStr H2 ⟨r, 1, none⟩ fun s41 =>
    ldBool H2 ⟨r, 2, none⟩ fun b20 =>
    ldInt H2 ⟨r, 3, none⟩ .i64 fun n40 =>
    ldInt H2 ⟨r, 4, none⟩ .i64 fun n41 =>
    ldStr H2 ⟨r1, 0, none⟩ fun s42 =>
    ldStr H2 ⟨r1, 1, none⟩ fun s43 =>
    ldBool H2 ⟨r1, 2, none⟩ fun b21 =>
    ldInt H2 ⟨r1, 3, none⟩ .i64 fun n42 =>
    ldInt H2 ⟨r1, 4, none⟩ .i64 fun n43 =>
    callD Try.prog 67 [(.agg ⟨[(.string s40), (.string s41), (.bool b20), (.int .i64 n40), (.int .i64 n41)]⟩)] H2 nope fun v10 H73 =>
    tAgg v10 fun l60 =>
    tCons l60 fun c50 l61 =>
    tStr c50 fun s44 =>
    tCons l61 fun c51 l62 =>
    tStr c51 fun s45 =>
    tCons l62 fun c52 l63 =>
    tBool c52 fun b22 =>
    tCons l63 fun c53 l64 =>
    tInt c53 .i64 fun n44 =>
    tCons l64 fun c54 l65 =>
    tInt c54 .i64 fun n45 =>
    tNil l65 <|
    andD (ExtH H2 H73) <|
    callD Try.prog 67 [(.agg ⟨[(.string s42), (.string s43), (.bool b21), (.int .i64 n42), (.int .i64 n43)]⟩)] H73 (panK R) fun v11 H74 =>
    tAgg v11 fun l66 =>
    tCons l66 fun c55 l67 =>
    tStr c55 fun s46 =>
    tCons l67 fun c56 l68 =>
    tStr c56 fun s47 =>
    tCons l68 fun c57 l69 =>
    tBool c57 fun b23 =>
    tCons l69 fun c58 l70 =>
    tInt c58 .i64 fun n46 =>
    tCons l70 fun c59 l71 =>
    tInt c59 .i64 fun n47 =>
    tNil l71 <|
    newD H74 (.cells ⟨[(.string (ByteArray.mk #[])), (.string (ByteArray.mk #[])), (.bool false), (.int .i64 (0 : Int)), (.int .i64 (0 : Int))]⟩ 35) fun r12 H75 =>
    newD H75 (.cells ⟨[(.string (ByteArray.mk #[])), (.string (ByteArray.mk #[])), (.bool false), (.int .i64 (0 : Int)), (.int .i64 (0 : Int))]⟩ 35) fun r13 H76 =>
    st1 H76 ⟨r13, 0, none⟩ (.string s44) fun H77 =>
    st1 H77 ⟨r13, 1, none⟩ (.string s45) fun H78 =>
    st1 H78 ⟨r13, 2, none⟩ (.bool b22) fun H79 =>
    st1 H79 ⟨r13, 3, none⟩ (.int .i64 n44) fun H80 =>
    st1 H80 ⟨r13, 4, none⟩ (.int .i64 n45) fun H81 =>
    st1 H81 ⟨r12, 0, none⟩ (.string s46) fun H82 =>
    st1 H82 ⟨r12, 1, none⟩ (.string s47) fun H83 =>
    st1 H83 ⟨r12, 2, none⟩ (.bool b23) fun H84 =>
    st1 H84 ⟨r12, 3, none⟩ (.int .i64 n46) fun H85 =>
    st1 H85 ⟨r12, 4, none⟩ (.int .i64 n47) fun H86 =>
    L0 order r13 r12 H86 R) ∧
  (
    ldStr H2 ⟨r, 0, none⟩ fun s48 =>
    ldStr H2 ⟨r, 1, none⟩ fun s49 =>
    ldBool H2 ⟨r, 2, none⟩ fun b24 =>
    ldInt H2 ⟨r, 3, none⟩ .i64 fun n48 =>
    ldInt H2 ⟨r, 4, none⟩ .i64 fun n49 =>
    ldStr H2 ⟨r1, 0, none⟩ fun s50 =>
    ldStr H2 ⟨r1, 1, none⟩ fun s51 =>
    ldBool H2 ⟨r1, 2, none⟩ fun b25 =>
    ldInt H2 ⟨r1, 3, none⟩ .i64 fun n50 =>
    ldInt H2 ⟨r1, 4, none⟩ .i64 fun n51 =>
    newD H2 (.cells ⟨[(.string (ByteArray.mk #[])), (.string (ByteArray.mk #[])), (.bool false), (.int .i64 (0 : Int)), (.int .i64 (0 : Int))]⟩ 35) fun r14 H87 =>
    callD Try.prog 67 [(.agg ⟨[(.string s48), (.string s49), (.bool b24), (.int .i64 n48), (.int .i64 n49)]⟩)] H87 nope fun v12 H88 =>
    tAgg v12 fun l72 =>
    tCons l72 fun c60 l73 =>
    tStr c60 fun s52 =>
    tCons l73 fun c61 l74 =>
    tStr c61 fun s53 =>
    tCons l74 fun c62 l75 =>
    tBool c62 fun b26 =>
    tCons l75 fun c63 l76 =>
    tInt c63 .i64 fun n52 =>
    tCons l76 fun c64 l77 =>
    tInt c64 .i64 fun n53 =>
    tNil l77 <|
    andD (ExtH H87 H88) <|
    newD H88 (.cells ⟨[(.string (ByteArray.mk #[])), (.string (ByteArray.mk #[])), (.bool false), (.int .i64 (0 : Int)), (.int .i64 (0 : Int))]⟩ 35) fun r15 H89 =>
    callD Try.prog 67 [(.agg ⟨[(.string s50), (.string s51), (.bool b25), (.int .i64 n50), (.int .i64 n51)]⟩)] H89 (panK R) fun v13 H90 =>
    tAgg v13 fun l78 =>
    tCons l78 fun c65 l79 =>
    tStr c65 fun s54 =>
    tCons l79 fun c66 l80 =>
    tStr c66 fun s55 =>
    tCons l80 fun c67 l81 =>
    tBool c67 fun b27 =>
    tCons l81 fun c68 l82 =>
    tInt c68 .i64 fun n54 =>
    tCons l82 fun c69 l83 =>
    tInt c69 .i64 fun n55 =>
    tNil l83 <|
    st1 H90 ⟨r15, 0, none⟩ (.string s52) fun H91 =>
    st1 H91 ⟨r15, 1, none⟩ (.string s53) fun H92 =>
    st1 H92 ⟨r15, 2, none⟩ (.bool b26) fun H93 =>
    st1 H93 ⟨r15, 3, none⟩ (.int .i64 n52) fun H94 =>
    st1 H94 ⟨r15, 4, none⟩ (.int .i64 n53) fun H95 =>
    st1 H95 ⟨r14, 0, none⟩ (.string s54) fun H96 =>
    st1 H96 ⟨r14, 1, none⟩ (.string s55) fun H97 =>
    st1 H97 ⟨r14, 2, none⟩ (.bool b27) fun H98 =>
    st1 H98 ⟨r14, 3, none⟩ (.int .i64 n54) fun H99 =>
    st1 H99 ⟨r14, 4, none⟩ (.int .i64 n55) fun H100 =>
    L0 order r15 r14 H100 R) ∧
  (
    ldStr H2 ⟨r, 0, none⟩ fun s56 =>
    ldStr H2 ⟨r, 1, none⟩ fun s57 =>
    ldBool H2 ⟨r, 2, none⟩ fun b28 =>
    ldInt H2 ⟨r, 3, none⟩ .i64 fun n56 =>
    ldInt H2 ⟨r, 4, none⟩ .i64 fun n57 =>
    ldStr H2 ⟨r1, 0, none⟩ fun s58 =>
    ldStr H2 ⟨r1, 1, none⟩ fun s59 =>
    ldBool H2 ⟨r1, 2, none⟩ fun b29 =>
    ldInt H2 ⟨r1, 3, none⟩ .i64 fun n58 =>
    ldInt H2 ⟨r1, 4, none⟩ .i64 fun n59 =>
    newD H2 (.cells ⟨[(.string (ByteArray.mk #[])), (.string (ByteArray.mk #[])), (.bool false), (.int .i64 (0 : Int)), (.int .i64 (0 : Int))]⟩ 35) fun r16 H101 =>
    callD Try.prog 67 [(.agg ⟨[(.string s56), (.string s57), (.bool b28), (.int .i64 n56), (.int .i64 n57)]⟩)] H101 nope fun v14 H102 =>
    tAgg v14 fun l84 =>
    tCons l84 fun c70 l85 =>
    tStr c70 fun s60 =>
    tCons l85 fun c71 l86 =>
    tStr c71 fun s61 =>
    tCons l86 fun c72 l87 =>
    tBool c72 fun b30 =>
    tCons l87 fun c73 l88 =>
    tInt c73 .i64 fun n60 =>
    tCons l88 fun c74 l89 =>
    tInt c74 .i64 fun n61 =>
    tNil l89 <|
    andD (ExtH H101 H102) <|
    callD Try.prog 67 [(.agg ⟨[(.string s58), (.string s59), (.bool b29), (.int .i64 n58), (.int .i64 n59)]⟩)] H102 (panK R) fun v15 H103 =>
    tAgg v15 fun l90 =>
    tCons l90 fun c75 l91 =>
    tStr c75 fun s62 =>
    tCons l91 fun c76 l92 =>
    tStr c76 fun s63 =>
    tCons l92 fun c77 l93 =>
    tBool c77 fun b31 =>
    tCons l93 fun c78 l94 =>
    tInt c78 .i64 fun n62 =>
    tCons l94 fun c79 l95 =>
    tInt c79 .i64 fun n63 =>
    tNil l95 <|
    newD H103 (.cells ⟨[(.string (ByteArray.mk #[])), (.string (ByteArray.mk #[])), (.bool false), (.int .i64 (0 : Int)), (.int .i64 (0 : Int))]⟩ 35) fun r17 H104 =>
    st1 H104 ⟨r17, 0, none⟩ (.string s60) fun H105 =>
    st1 H105 ⟨r17, 1, none⟩ (.string s61) fun H106 =>
    st1 H106 ⟨r17, 2, none⟩ (.bool b30) fun H107 =>
    st1 H107 ⟨r17, 3, none⟩ (.int .i64 n60) fun H108 =>
    st1 H108 ⟨r17, 4, none⟩ (.int .i64 n61) fun H109 =>
    st1 H109 ⟨r16, 0, none⟩ (.string s62) fun H110 =>
    st1 H110 ⟨r16, 1, none⟩ (.string s63) fun H111 =>
    st1 H111 ⟨r16, 2, none⟩ (.bool b31) fun H112 =>
    st1 H112 ⟨r16, 3, none⟩ (.int .i64 n62) fun H113 =>
    st1 H113 ⟨r16, 4, none⟩ (.int .i64 n63) fun H114 =>
    L0 order r17 r16 H114 R) ∧
  (
    ldStr H2 ⟨r, 0, none⟩ fun s64 =>
    ldStr H2 ⟨r, 1, none⟩ fun s65 =>
    ldBool H2 ⟨r, 2, none⟩ fun b32 =>
    ldInt H2 ⟨r, 3, none⟩ .i64 fun n64 =>
    ldInt H2 ⟨r, 4, none⟩ .i64 fun n65 =>
    ldStr H2 ⟨r1, 0, none⟩ fun s66 =>
    ldStr H2 ⟨r1, 1, none⟩ fun s67 =>
    ldBool H2 ⟨r1, 2, none⟩ fun b33 =>
    ldInt H2 ⟨r1, 3, none⟩ .i64 fun n66 =>
    ldInt H2 ⟨r1, 4, none⟩ .i64 fun n67 =>
    newD H2 (.cells ⟨[(.string (ByteArray.mk #[])), (.string (ByteArray.mk #[])), (.bool false), (.int .i64 (0 : Int)), (.int .i64 (0 : Int))]⟩ 35) fun r18 H115 =>
    callD Try.prog 67 [(.agg ⟨[(.string s64), (.string s65), (.bool b32), (.int .i64 n64), (.int .i64 n65)]⟩)] H115 nope fun v16 H116 =>
    tAgg v16 fun l96 =>
    tCons l96 fun c80 l97 =>
    tStr c80 fun s68 =>
    tCons l97 fun c81 l98 =>
    tStr c81 fun s69 =>
    tCons l98 fun c82 l99 =>
    tBool c82 fun b34 =>
    tCons l99 fun c83 l100 =>
    tInt c83 .i64 fun n68 =>
    tCons l100 fun c84 l101 =>
    tInt c84 .i64 fun n69 =>
    tNil l101 <|
    andD (ExtH H115 H116) <|
    newD H116 (.cells ⟨[(.string (ByteArray.mk #[])), (.string (ByteArray.mk #[])), (.bool false), (.int .i64 (0 : Int)), (.int .i64 (0 : Int))]⟩ 35) fun r19 H117 =>
    callD Try.prog 67 [(.agg ⟨[(.string s66), (.string s67), (.bool b33), (.int .i64 n66), (.int .i64 n67)]⟩)] H117 (panK R) fun v17 H118 =>
    tAgg v17 fun l102 =>
    tCons l102 fun c85 l103 =>
    tStr c85 fun s70 =>
    tCons l103 fun c86 l104 =>
    tStr c86 fun s71 =>
    tCons l104 fun c87 l105 =>
    tBool c87 fun b35 =>
    tCons l105 fun c88 l106 =>
    tInt c88 .i64 fun n70 =>
    tCons l106 fun c89 l107 =>
    tInt c89 .i64 fun n71 =>
    tNil l107 <|
    st1 H118 ⟨r18, 0, none⟩ (.string s68) fun H119 =>
    st1 H119 ⟨r18, 1, none⟩ (.string s69) fun H120 =>
    st1 H120 ⟨r18, 2, none⟩ (.bool b34) fun H121 =>
    st1 H121 ⟨r18, 3, none⟩ (.int .i64 n68) fun H122 =>
    st1 H122 ⟨r18, 4, none⟩ (.int .i64 n69) fun H123 =>
    st1 H123 ⟨r19, 0, none⟩ (.string s70) fun H124 =>
    st1 H124 ⟨r19, 1, none⟩ (.string s71) fun H125 =>
    st1 H125 ⟨r19, 2, none⟩ (.bool b35) fun H126 =>
    st1 H126 ⟨r19, 3, none⟩ (.int .i64 n70) fun H127 =>
    st1 H127 ⟨r19, 4, none⟩ (.int .i64 n71) fun H128 =>
    L0 order r18 r19 H128 R) ∧
  (
    ldStr H2 ⟨r, 0, none⟩ fun s72 =>
    ldStr H2 ⟨r, 1, none⟩ fun s73 =>
    ldBool H2 ⟨r, 2, none⟩ fun b36 =>
    ldInt H2 ⟨r, 3, none⟩ .i64 fun n72 =>
    ldInt H2 ⟨r, 4, none⟩ .i64 fun n73 =>
    ldStr H2 ⟨r1, 0, none⟩ fun s74 =>
    ldStr H2 ⟨r1, 1, none⟩ fun s75 =>
    ldBool H2 ⟨r1, 2, none⟩ fun b37 =>
    ldInt H2 ⟨r1, 3, none⟩ .i64 fun n74 =>
    ldInt H2 ⟨r1, 4, none⟩ .i64 fun n75 =>
    newD H2 (.cells ⟨[(.string (ByteArray.mk #[])), (.string (ByteArray.mk #[])), (.bool false), (.int .i64 (0 : Int)), (.int .i64 (0 : Int))]⟩ 35) fun r20 H129 =>
    callD Try.prog 67 [(.agg ⟨[(.string s72), (.string s73), (.bool b36), (.int .i64 n72), (.int .i64 n73)]⟩)] H129 nope fun v18 H130 =>
    tAgg v18 fun l108 =>
    tCons l108 fun c90 l109 =>
    tStr c90 fun s76 =>
    tCons l109 fun c91 l110 =>
    tStr c91 fun s77 =>
    tCons l110 fun c92 l111 =>
    tBool c92 fun b38 =>
    tCons l111 fun c93 l112 =>
    tInt c93 .i64 fun n76 =>
    tCons l112 fun c94 l113 =>
    tInt c94 .i64 fun n77 =>
    tNil l113 <|
    andD (ExtH H129 H130) <|
    callD Try.prog 67 [(.agg ⟨[(.string s74), (.string s75), (.bool b37), (.int .i64 n74), (.int .i64 n75)]⟩)] H130 (panK R) fun v19 H131 =>
    tAgg v19 fun l114 =>
    tCons l114 fun c95 l115 =>
    tStr c95 fun s78 =>
    tCons l115 fun c96 l116 =>
    tStr c96 fun s79 =>
    tCons l116 fun c97 l117 =>
    tBool c97 fun b39 =>
    tCons l117 fun c98 l118 =>
    tInt c98 .i64 fun n78 =>
    tCons l118 fun c99 l119 =>
    tInt c99 .i64 fun n79 =>
    tNil l119 <|
    newD H131 (.cells ⟨[(.string (ByteArray.mk #[])), (.string (ByteArray.mk #[])), (.bool false), (.int .i64 (0 : Int)), (.int .i64 (0 : Int))]⟩ 35) fun r21 H132 =>
    st1 H132 ⟨r20, 0, none⟩ (.string s76) fun H133 =>
    st1 H133 ⟨r20, 1, none⟩ (.string s77) fun H134 =>
    st1 H134 ⟨r20, 2, none⟩ (.bool b38) fun H135 =>
    st1 H135 ⟨r20, 3, none⟩ (.int .i64 n76) fun H136 =>
    st1 H136 ⟨r20, 4, none⟩ (.int .i64 n77) fun H137 =>
    st1 H137 ⟨r21, 0, none⟩ (.string s78) fun H138 =>
    st1 H138 ⟨r21, 1, none⟩ (.string s79) fun H139 =>
    st1 H139 ⟨r21, 2, none⟩ (.bool b39) fun H140 =>
    st1 H140 ⟨r21, 3, none⟩ (.int .i64 n78) fun H141 =>
    st1 H141 ⟨r21, 4, none⟩ (.int .i64 n79) fun H142 =>
    L0 order r20 r21 H142 R) ∧
  (
    ldStr H2 ⟨r, 0, none⟩ fun s80 =>
    ldStr H2 ⟨r, 1, none⟩ fun s81 =>
    ldBool H2 ⟨r, 2, none⟩ fun b40 =>
    ldInt H2 ⟨r, 3, none⟩ .i64 fun n80 =>
    ldInt H2 ⟨r, 4, none⟩ .i64 fun n81 =>
    ldStr H2 ⟨r1, 0, none⟩ fun s82 =>
    ldStr H2 ⟨r1, 1, none⟩ fun s83 =>
    ldBool H2 ⟨r1, 2, none⟩ fun b41 =>
    ldInt H2 ⟨r1, 3, none⟩ .i64 fun n82 =>
    ldInt H2 ⟨r1, 4, none⟩ .i64 fun n83 =>
    newD H2 (.cells ⟨[(.string (ByteArray.mk #[])), (.string (ByteArray.mk #[])), (.bool false), (.int .i64 (0 : Int)), (.int .i64 (0 : Int))]⟩ 35) fun r22 H143 =>
    newD H143 (.cells ⟨[(.string (ByteArray.mk #[])), (.string (ByteArray.mk #[])), (.bool false), (.int .i64 (0 : Int)), (.int .i64 (0 : Int))]⟩ 35) fun r23 H144 =>
    callD Try.prog 67 [(.agg ⟨[(.string s80), (.string s81), (.bool b40), (.int .i64 n80), (.int .i64 n81)]⟩)] H144 nope fun v20 H145 =>
    tAgg v20 fun l120 =>
    tCons l120 fun c100 l121 =>
    tStr c100 fun s84 =>
    tCons l121 fun c101 l122 =>
    tStr c101 fun s85 =>
    tCons l122 fun c102 l123 =>
    tBool c102 fun b42 =>
    tCons l123 fun c103 l124 =>
    tInt c103 .i64 fun n84 =>
    tCons l124 fun c104 l125 =>
    tInt c104 .i64 fun n85 =>
    tNil l125 <|
    andD (ExtH H144 H145) <|
    callD Try.prog 67 [(.agg ⟨[(.string s82), (.string s83), (.bool b41), (.int .i64 n82), (.int .i64 n83)]⟩)] H145 (panK R) fun v21 H146 =>
    tAgg v21 fun l126 =>
    tCons l126 fun c105 l127 =>
    tStr c105 fun s86 =>
    tCons l127 fun c106 l128 =>
    tStr c106 fun s87 =>
    tCons l128 fun c107 l129 =>
    tBool c107 fun b43 =>
    tCons l129 fun c108 l130 =>
    tInt c108 .i64 fun n86 =>
    tCons l130 fun c109 l131 =>
    tInt c109 .i64 fun n87 =>
    tNil l131 <|
    st1 H146 ⟨r22, 0, none⟩ (.string s84) fun H147 =>
    st1 H147 ⟨r22, 1, none⟩ (.string s85) fun H148 =>
    st1 H148 ⟨r22, 2, none⟩ (.bool b42) fun H149 =>
    st1 H149 ⟨r22, 3, none⟩ (.int .i64 n84) fun H150 =>
    st1 H150 ⟨r22, 4, none⟩ (.int .i64 n85) fun H151 =>
    st1 H151 ⟨r23, 0, none⟩ (.string s86) fun H152 =>
    st1 H152 ⟨r23, 1, none⟩ (.string s87) fun H153 =>
    st1 H153 ⟨r23, 2, none⟩ (.bool b43) fun H154 =>
    st1 H154 ⟨r23, 3, none⟩ (.int .i64 n86) fun H155 =>
    st1 H155 ⟨r23, 4, none⟩ (.int .i64 n87) fun H156 =>
    L0 order r22 r23 H156 R) ∧
  (
    ldStr H2 ⟨r, 0, none⟩ fun s88 =>
    ldStr H2 ⟨r, 1, none⟩ fun s89 =>
    ldBool H2 ⟨r, 2, none⟩ fun b44 =>
    ldInt H2 ⟨r, 3, none⟩ .i64 fun n88 =>
    ldInt H2 ⟨r, 4, none⟩ .i64 fun n89 =>
    ldStr H2 ⟨r1, 0, none⟩ fun s90 =>
    ldStr H2 ⟨r1, 1, none⟩ fun s91 =>
    ldBool H2 ⟨r1, 2, none⟩ fun b45 =>
    ldInt H2 ⟨r1, 3, none⟩ .i64 fun n90 =>
    ldInt H2 ⟨r1, 4, none⟩ .i64 fun n91 =>
    newD H2 (.cells ⟨[(.string (ByteArray.mk #[])), (.string (ByteArray.mk #[])), (.bool false), (.int .i64 (0 : Int)), (.int .i64 (0 : Int))]⟩ 35) fun r24 H157 =>
    newD H157 (.cells ⟨[(.string (ByteArray.mk #[])), (.string (ByteArray.mk #[])), (.bool false), (.int .i64 (0 : Int)), (.int .i64 (0 : Int))]⟩ 35) fun r25 H158 =>
    callD Try.prog 67 [(.agg ⟨[(.string s88), (.string s89), (.bool b44), (.int .i64 n88), (.int .i64 n89)]⟩)] H158 nope fun v22 H159 =>
    tAgg v22 fun l132 =>
    tCons l132 fun c110 l133 =>
    tStr c110 fun s92 =>
    tCons l133 fun c111 l134 =>
    tStr c111 fun s93 =>
    tCons l134 fun c112 l135 =>
    tBool c112 fun b46 =>
    tCons l135 fun c113 l136 =>
    tInt c113 .i64 fun n92 =>
    tCons l136 fun c114 l137 =>
    tInt c114 .i64 fun n93 =>
    tNil l137 <|
    andD (ExtH H158 H159) <|
    callD Try.prog 67 [(.agg ⟨[(.string s90), (.string s91), (.bool b45), (.int .i64 n90), (.int .i64 n91)]⟩)] H159 (panK R) fun v23 H160 =>
    tAgg v23 fun l138 =>
    tCons l138 fun c115 l139 =>
    tStr c115 fun s94 =>
    tCons l139 fun c116 l140 =>
    tStr c116 fun s95 =>
    tCons l140 fun c117 l141 =>
    tBool c117 fun b47 =>
    tCons l141 fun c118 l142 =>
    tInt c118 .i64 fun n94 =>
    tCons l142 fun c119 l143 =>
    tInt c119 .i64 fun n95 =>
    tNil l143 <|
    st1 H160 ⟨r25, 0, none⟩ (.string s92) fun H161 =>
    st1 H161 ⟨r25, 1, none⟩ (.string s93) fun H162 =>
    st1 H162 ⟨r25, 2, none⟩ (.bool b46) fun H163 =>
    st1 H163 ⟨r25, 3, none⟩ (.int .i64 n92) fun H164 =>
    st1 H164 ⟨r25, 4, none⟩ (.int .i64 n93) fun H165 =>
    st1 H165 ⟨r24, 0, none⟩ (.string s94) fun H166 =>
    st1 H166 ⟨r24, 1, none⟩ (.string s95) fun H167 =>
    st1 H167 ⟨r24, 2, none⟩ (.bool b47) fun H168 =>
    st1 H168 ⟨r24, 3, none⟩ (.int .i64 n94) fun H169 =>
    st1 H169 ⟨r24, 4, none⟩ (.int .i64 n95) fun H170 =>
    L0 order r25 r24 H170 R)
theorem calls {order : Int} {s_0 : ByteArray} {s_1 : ByteArray} {s_2 : Bool} {s_3 : Int} {s_4 : Int} {t_0 : ByteArray} {t_1 : ByteArray} {t_2 : Bool} {t_3 : Int} {t_4 : Int} {H : Heap} {R : Ending → Heap → Prop} (h : go order s_0 s_1 s_2 s_3 s_4 t_0 t_1 t_2 t_3 t_4 H R) : CallsH Try.prog 43 ⟨[(.int .i64 order), (.agg ⟨[(.string s_0), (.string s_1), (.bool s_2), (.int .i64 s_3), (.int .i64 s_4)]⟩), (.agg ⟨[(.string t_0), (.string t_1), (.bool t_2), (.int .i64 t_3), (.int .i64 t_4)]⟩)]⟩ H R :=
  callsH_of_den (an := an) (fuel := 100000) (X := go order s_0 s_1 s_2 s_3 s_4 t_0 t_1 t_2 t_3 t_4 H R) (c := body) mixed fn (by kernel_rfl) (by kernel_rfl) (by kernel_rfl) ok (by kernel_rfl) h
end F43
/-! ### 57 "pub-stadtholder/spec.Ahead" -/
namespace F57
def an : Ann := { kinds := [(1001, .grow), (1004, .grow), (1005, .grow)], taus := [(1, [[0, 2, 1, 4, 5, 3, 6, 7], [0, 2, 1, 4, 3, 5, 6, 7], [0, 2, 1, 3, 4, 5, 6, 7], [0, 2, 1, 5, 4, 3, 6, 7], [0, 2, 1, 5, 3, 4, 6, 7], [0, 2, 1, 3, 5, 4, 6, 7], [0, 2, 5, 1, 4, 3, 6, 7], [0, 2, 5, 1, 3, 4, 6, 7], [0, 2, 4, 1, 5, 3, 6, 7], [0, 2, 4, 1, 3, 5, 6, 7], [0, 2, 4, 5, 1, 3, 6, 7], [0, 2, 5, 4, 1, 3, 6, 7]])], pairs := [(1, [(1, 4), (1, 5), (4, 5), (4, 3), (5, 3)])], lab := [(10000003, [0, 7, 8])] }
noncomputable def body : Code := (Try.f57.body).getD .skip
theorem fn : Try.prog.funcs[57]? = some Try.f57 := by kernel_rfl
theorem ok : codeOk an 47 body = true := by kernel_rfl
noncomputable def L0t : List Item := [.code (sub [1, 1] body)]
def L0 (order : Int) (a : Nat) (b : Nat) (H : Heap) (R : Ending → Heap → Prop) : Prop :=
  GoL Try.prog 57 47 L0t [0, 7, 8] [(.int .i64 order), (.pointer (some ⟨a, 0, none⟩)), (.pointer (some ⟨b, 0, none⟩))] H R
def L0n (order : Int) (a : Nat) (b : Nat) (H : Heap) (R : Ending → Heap → Prop) : Prop :=
  ldStr H ⟨a, 0, none⟩ fun s =>
  ldStr H ⟨b, 0, none⟩ fun s1 =>
  ldInt H ⟨a, 3, none⟩ .i64 fun n =>
  ldInt H ⟨b, 3, none⟩ .i64 fun n1 =>
  callD Try.prog 71 [(.int .i64 order), (.string s), (.string s1), (.int .i64 n), (.int .i64 n1)] H (panK R) fun v H1 =>
  tInt v .i64 fun n2 =>
  iteB (decide (n2 < (0 : Int))) (
    R (.returned (.bool true)) H1) <|
  iteB (n2 == (0 : Int)) (
    ldStr H1 ⟨a, 1, none⟩ fun s2 =>
    ldStr H1 ⟨b, 1, none⟩ fun s3 =>
    ldInt H1 ⟨a, 4, none⟩ .i64 fun n3 =>
    ldInt H1 ⟨b, 4, none⟩ .i64 fun n4 =>
    callD Try.prog 71 [(.int .i64 order), (.string s2), (.string s3), (.int .i64 n3), (.int .i64 n4)] H1 (panK R) fun v1 H2 =>
    tInt v1 .i64 fun n5 =>
    R (.returned (.bool (decide (n5 < (0 : Int))))) H2) <|
  R (.returned (.bool false)) H1
theorem L0_step {order : Int} {a : Nat} {b : Nat} {H : Heap} {R : Ending → Heap → Prop} (h : L0n order a b H R) : L0 order a b H R :=
  goL_of_den (an := an) (fuel := 100000) (X := L0n order a b H R) mixed fn (by kernel_rfl) (fun ρ0 => by kernel_rfl) h
def go (order : Int) (s_0 : ByteArray) (s_1 : ByteArray) (s_2 : Bool) (s_3 : Int) (s_4 : Int) (t_0 : ByteArray) (t_1 : ByteArray) (t_2 : Bool) (t_3 : Int) (t_4 : Int) (H : Heap) (R : Ending → Heap → Prop) : Prop :=
  newD H (.cells ⟨[(.string s_0), (.string s_1), (.bool s_2), (.int .i64 s_3), (.int .i64 s_4)]⟩ 35) fun r H1 =>
  newD H1 (.cells ⟨[(.string t_0), (.string t_1), (.bool t_2), (.int .i64 t_3), (.int .i64 t_4)]⟩ 35) fun r1 H2 =>
  (
    ldStr H2 ⟨r, 0, none⟩ fun s =>
    ldStr H2 ⟨r, 1, none⟩ fun s1 =>
    ldBool H2 ⟨r, 2, none⟩ fun b =>
    ldInt H2 ⟨r, 3, none⟩ .i64 fun n =>
    ldInt H2 ⟨r, 4, none⟩ .i64 fun n1 =>
    ldStr H2 ⟨r1, 0, none⟩ fun s2 =>
    ldStr H2 ⟨r1, 1, none⟩ fun s3 =>
    ldBool H2 ⟨r1, 2, none⟩ fun b1 =>
    ldInt H2 ⟨r1, 3, none⟩ .i64 fun n2 =>
    ldInt H2 ⟨r1, 4, none⟩ .i64 fun n3 =>
    callD Try.prog 67 [(.agg ⟨[(.string s), (.string s1), (.bool b), (.int .i64 n), (.int .i64 n1)]⟩)] H2 nope fun v H3 =>
    tAgg v fun l =>
    tCons l fun c l1 =>
    tStr c fun s4 =>
    tCons l1 fun c1 l2 =>
    tStr c1 fun s5 =>
    tCons l2 fun c2 l3 =>
    tBool c2 fun b2 =>
    tCons l3 fun c3 l4 =>
    tInt c3 .i64 fun n4 =>
    tCons l4 fun c4 l5 =>
    tInt c4 .i64 fun n5 =>
    tNil l5 <|
    andD (ExtH H2 H3) <|
    newD H3 (.cells ⟨[(.string (ByteArray.mk #[])), (.string (ByteArray.mk #[])), (.bool false), (.int .i64 (0 : Int)), (.int .i64 (0 : Int))]⟩ 35) fun r2 H4 =>
    newD H4 (.cells ⟨[(.string (ByteArray.mk #[])), (.string (ByteArray.mk #[])), (.bool false), (.int .i64 (0 : Int)), (.int .i64 (0 : Int))]⟩ 35) fun r3 H5 =>
    callD Try.prog 67 [(.agg ⟨[(.string s2), (.string s3), (.bool b1), (.int .i64 n2), (.int .i64 n3)]⟩)] H5 (panK R) fun v1 H6 =>
    tAgg v1 fun l6 =>
    tCons l6 fun c5 l7 =>
    tStr c5 fun s6 =>
    tCons l7 fun c6 l8 =>
    tStr c6 fun s7 =>
    tCons l8 fun c7 l9 =>
    tBool c7 fun b3 =>
    tCons l9 fun c8 l10 =>
    tInt c8 .i64 fun n6 =>
    tCons l10 fun c9 l11 =>
    tInt c9 .i64 fun n7 =>
    tNil l11 <|
    st1 H6 ⟨r2, 0, none⟩ (.string s4) fun H7 =>
    st1 H7 ⟨r2, 1, none⟩ (.string s5) fun H8 =>
    st1 H8 ⟨r2, 2, none⟩ (.bool b2) fun H9 =>
    st1 H9 ⟨r2, 3, none⟩ (.int .i64 n4) fun H10 =>
    st1 H10 ⟨r2, 4, none⟩ (.int .i64 n5) fun H11 =>
    st1 H11 ⟨r3, 0, none⟩ (.string s6) fun H12 =>
    st1 H12 ⟨r3, 1, none⟩ (.string s7) fun H13 =>
    st1 H13 ⟨r3, 2, none⟩ (.bool b3) fun H14 =>
    st1 H14 ⟨r3, 3, none⟩ (.int .i64 n6) fun H15 =>
    st1 H15 ⟨r3, 4, none⟩ (.int .i64 n7) fun H16 =>
    L0 order r2 r3 H16 R) ∧
  (
    ldStr H2 ⟨r, 0, none⟩ fun s8 =>
    ldStr H2 ⟨r, 1, none⟩ fun s9 =>
    ldBool H2 ⟨r, 2, none⟩ fun b4 =>
    ldInt H2 ⟨r, 3, none⟩ .i64 fun n8 =>
    ldInt H2 ⟨r, 4, none⟩ .i64 fun n9 =>
    ldStr H2 ⟨r1, 0, none⟩ fun s10 =>
    ldStr H2 ⟨r1, 1, none⟩ fun s11 =>
    ldBool H2 ⟨r1, 2, none⟩ fun b5 =>
    ldInt H2 ⟨r1, 3, none⟩ .i64 fun n10 =>
    ldInt H2 ⟨r1, 4, none⟩ .i64 fun n11 =>
    callD Try.prog 67 [(.agg ⟨[(.string s8), (.string s9), (.bool b4), (.int .i64 n8), (.int .i64 n9)]⟩)] H2 nope fun v2 H17 =>
    tAgg v2 fun l12 =>
    tCons l12 fun c10 l13 =>
    tStr c10 fun s12 =>
    tCons l13 fun c11 l14 =>
    tStr c11 fun s13 =>
    tCons l14 fun c12 l15 =>
    tBool c12 fun b6 =>
    tCons l15 fun c13 l16 =>
    tInt c13 .i64 fun n12 =>
    tCons l16 fun c14 l17 =>
    tInt c14 .i64 fun n13 =>
    tNil l17 <|
    andD (ExtH H2 H17) <|
    newD H17 (.cells ⟨[(.string (ByteArray.mk #[])), (.string (ByteArray.mk #[])), (.bool false), (.int .i64 (0 : Int)), (.int .i64 (0 : Int))]⟩ 35) fun r4 H18 =>
    callD Try.prog 67 [(.agg ⟨[(.string s10), (.string s11), (.bool b5), (.int .i64 n10), (.int .i64 n11)]⟩)] H18 (panK R) fun v3 H19 =>
    tAgg v3 fun l18 =>
    tCons l18 fun c15 l19 =>
    tStr c15 fun s14 =>
    tCons l19 fun c16 l20 =>
    tStr c16 fun s15 =>
    tCons l20 fun c17 l21 =>
    tBool c17 fun b7 =>
    tCons l21 fun c18 l22 =>
    tInt c18 .i64 fun n14 =>
    tCons l22 fun c19 l23 =>
    tInt c19 .i64 fun n15 =>
    tNil l23 <|
    newD H19 (.cells ⟨[(.string (ByteArray.mk #[])), (.string (ByteArray.mk #[])), (.bool false), (.int .i64 (0 : Int)), (.int .i64 (0 : Int))]⟩ 35) fun r5 H20 =>
    st1 H20 ⟨r4, 0, none⟩ (.string s12) fun H21 =>
    st1 H21 ⟨r4, 1, none⟩ (.string s13) fun H22 =>
    st1 H22 ⟨r4, 2, none⟩ (.bool b6) fun H23 =>
    st1 H23 ⟨r4, 3, none⟩ (.int .i64 n12) fun H24 =>
    st1 H24 ⟨r4, 4, none⟩ (.int .i64 n13) fun H25 =>
    st1 H25 ⟨r5, 0, none⟩ (.string s14) fun H26 =>
    st1 H26 ⟨r5, 1, none⟩ (.string s15) fun H27 =>
    st1 H27 ⟨r5, 2, none⟩ (.bool b7) fun H28 =>
    st1 H28 ⟨r5, 3, none⟩ (.int .i64 n14) fun H29 =>
    st1 H29 ⟨r5, 4, none⟩ (.int .i64 n15) fun H30 =>
    L0 order r4 r5 H30 R) ∧
  (
    ldStr H2 ⟨r, 0, none⟩ fun s16 =>
    ldStr H2 ⟨r, 1, none⟩ fun s17 =>
    ldBool H2 ⟨r, 2, none⟩ fun b8 =>
    ldInt H2 ⟨r, 3, none⟩ .i64 fun n16 =>
    ldInt H2 ⟨r, 4, none⟩ .i64 fun n17 =>
    ldStr H2 ⟨r1, 0, none⟩ fun s18 =>
    ldStr H2 ⟨r1, 1, none⟩ fun s19 =>
    ldBool H2 ⟨r1, 2, none⟩ fun b9 =>
    ldInt H2 ⟨r1, 3, none⟩ .i64 fun n18 =>
    ldInt H2 ⟨r1, 4, none⟩ .i64 fun n19 =>
    callD Try.prog 67 [(.agg ⟨[(.string s16), (.string s17), (.bool b8), (.int .i64 n16), (.int .i64 n17)]⟩)] H2 nope fun v4 H31 =>
    tAgg v4 fun l24 =>
    tCons l24 fun c20 l25 =>
    tStr c20 fun s20 =>
    tCons l25 fun c21 l26 =>
    tStr c21 fun s21 =>
    tCons l26 fun c22 l27 =>
    tBool c22 fun b10 =>
    tCons l27 fun c23 l28 =>
    tInt c23 .i64 fun n20 =>
    tCons l28 fun c24 l29 =>
    tInt c24 .i64 fun n21 =>
    tNil l29 <|
    andD (ExtH H2 H31) <|
    callD Try.prog 67 [(.agg ⟨[(.string s18), (.string s19), (.bool b9), (.int .i64 n18), (.int .i64 n19)]⟩)] H31 (panK R) fun v5 H32 =>
    tAgg v5 fun l30 =>
    tCons l30 fun c25 l31 =>
    tStr c25 fun s22 =>
    tCons l31 fun c26 l32 =>
    tStr c26 fun s23 =>
    tCons l32 fun c27 l33 =>
    tBool c27 fun b11 =>
    tCons l33 fun c28 l34 =>
    tInt c28 .i64 fun n22 =>
    tCons l34 fun c29 l35 =>
    tInt c29 .i64 fun n23 =>
    tNil l35 <|
    newD H32 (.cells ⟨[(.string (ByteArray.mk #[])), (.string (ByteArray.mk #[])), (.bool false), (.int .i64 (0 : Int)), (.int .i64 (0 : Int))]⟩ 35) fun r6 H33 =>
    newD H33 (.cells ⟨[(.string (ByteArray.mk #[])), (.string (ByteArray.mk #[])), (.bool false), (.int .i64 (0 : Int)), (.int .i64 (0 : Int))]⟩ 35) fun r7 H34 =>
    st1 H34 ⟨r6, 0, none⟩ (.string s20) fun H35 =>
    st1 H35 ⟨r6, 1, none⟩ (.string s21) fun H36 =>
    st1 H36 ⟨r6, 2, none⟩ (.bool b10) fun H37 =>
    st1 H37 ⟨r6, 3, none⟩ (.int .i64 n20) fun H38 =>
    st1 H38 ⟨r6, 4, none⟩ (.int .i64 n21) fun H39 =>
    st1 H39 ⟨r7, 0, none⟩ (.string s22) fun H40 =>
    st1 H40 ⟨r7, 1, none⟩ (.string s23) fun H41 =>
    st1 H41 ⟨r7, 2, none⟩ (.bool b11) fun H42 =>
    st1 H42 ⟨r7, 3, none⟩ (.int .i64 n22) fun H43 =>
    st1 H43 ⟨r7, 4, none⟩ (.int .i64 n23) fun H44 =>
    L0 order r6 r7 H44 R) ∧
  (
    ldStr H2 ⟨r, 0, none⟩ fun s24 =>
    ldStr H2 ⟨r, 1, none⟩ fun s25 =>
    ldBool H2 ⟨r, 2, none⟩ fun b12 =>
    ldInt H2 ⟨r, 3, none⟩ .i64 fun n24 =>
    ldInt H2 ⟨r, 4, none⟩ .i64 fun n25 =>
    ldStr H2 ⟨r1, 0, none⟩ fun s26 =>
    ldStr H2 ⟨r1, 1, none⟩ fun s27 =>
    ldBool H2 ⟨r1, 2, none⟩ fun b13 =>
    ldInt H2 ⟨r1, 3, none⟩ .i64 fun n26 =>
    ldInt H2 ⟨r1, 4, none⟩ .i64 fun n27 =>
    callD Try.prog 67 [(.agg ⟨[(.string s24), (.string s25), (.bool b12), (.int .i64 n24), (.int .i64 n25)]⟩)] H2 nope fun v6 H45 =>
    tAgg v6 fun l36 =>
    tCons l36 fun c30 l37 =>
    tStr c30 fun s28 =>
    tCons l37 fun c31 l38 =>
    tStr c31 fun s29 =>
    tCons l38 fun c32 l39 =>
    tBool c32 fun b14 =>
    tCons l39 fun c33 l40 =>
    tInt c33 .i64 fun n28 =>
    tCons l40 fun c34 l41 =>
    tInt c34 .i64 fun n29 =>
    tNil l41 <|
    andD (ExtH H2 H45) <|
    newD H45 (.cells ⟨[(.string (ByteArray.mk #[])), (.string (ByteArray.mk #[])), (.bool false), (.int .i64 (0 : Int)), (.int .i64 (0 : Int))]⟩ 35) fun r8 H46 =>
    newD H46 (.cells ⟨[(.string (ByteArray.mk #[])), (.string (ByteArray.mk #[])), (.bool false), (.int .i64 (0 : Int)), (.int .i64 (0 : Int))]⟩ 35) fun r9 H47 =>
    callD Try.prog 67 [(.agg ⟨[(.string s26), (.string s27), (.bool b13), (.int .i64 n26), (.int .i64 n27)]⟩)] H47 (panK R) fun v7 H48 =>
    tAgg v7 fun l42 =>
    tCons l42 fun c35 l43 =>
    tStr c35 fun s30 =>
    tCons l43 fun c36 l44 =>
    tStr c36 fun s31 =>
    tCons l44 fun c37 l45 =>
    tBool c37 fun b15 =>
    tCons l45 fun c38 l46 =>
    tInt c38 .i64 fun n30 =>
    tCons l46 fun c39 l47 =>
    tInt c39 .i64 fun n31 =>
    tNil l47 <|
    st1 H48 ⟨r9, 0, none⟩ (.string s28) fun H49 =>
    st1 H49 ⟨r9, 1, none⟩ (.string s29) fun H50 =>
    st1 H50 ⟨r9, 2, none⟩ (.bool b14) fun H51 =>
    st1 H51 ⟨r9, 3, none⟩ (.int .i64 n28) fun H52 =>
    st1 H52 ⟨r9, 4, none⟩ (.int .i64 n29) fun H53 =>
    st1 H53 ⟨r8, 0, none⟩ (.string s30) fun H54 =>
    st1 H54 ⟨r8, 1, none⟩ (.string s31) fun H55 =>
    st1 H55 ⟨r8, 2, none⟩ (.bool b15) fun H56 =>
    st1 H56 ⟨r8, 3, none⟩ (.int .i64 n30) fun H57 =>
    st1 H57 ⟨r8, 4, none⟩ (.int .i64 n31) fun H58 =>
    L0 order r9 r8 H58 R) ∧
  (
    ldStr H2 ⟨r, 0, none⟩ fun s32 =>
    ldStr H2 ⟨r, 1, none⟩ fun s33 =>
    ldBool H2 ⟨r, 2, none⟩ fun b16 =>
    ldInt H2 ⟨r, 3, none⟩ .i64 fun n32 =>
    ldInt H2 ⟨r, 4, none⟩ .i64 fun n33 =>
    ldStr H2 ⟨r1, 0, none⟩ fun s34 =>
    ldStr H2 ⟨r1, 1, none⟩ fun s35 =>
    ldBool H2 ⟨r1, 2, none⟩ fun b17 =>
    ldInt H2 ⟨r1, 3, none⟩ .i64 fun n34 =>
    ldInt H2 ⟨r1, 4, none⟩ .i64 fun n35 =>
    callD Try.prog 67 [(.agg ⟨[(.string s32), (.string s33), (.bool b16), (.int .i64 n32), (.int .i64 n33)]⟩)] H2 nope fun v8 H59 =>
    tAgg v8 fun l48 =>
    tCons l48 fun c40 l49 =>
    tStr c40 fun s36 =>
    tCons l49 fun c41 l50 =>
    tStr c41 fun s37 =>
    tCons l50 fun c42 l51 =>
    tBool c42 fun b18 =>
    tCons l51 fun c43 l52 =>
    tInt c43 .i64 fun n36 =>
    tCons l52 fun c44 l53 =>
    tInt c44 .i64 fun n37 =>
    tNil l53 <|
    andD (ExtH H2 H59) <|
    newD H59 (.cells ⟨[(.string (ByteArray.mk #[])), (.string (ByteArray.mk #[])), (.bool false), (.int .i64 (0 : Int)), (.int .i64 (0 : Int))]⟩ 35) fun r10 H60 =>
    callD Try.prog 67 [(.agg ⟨[(.string s34), (.string s35), (.bool b17), (.int .i64 n34), (.int .i64 n35)]⟩)] H60 (panK R) fun v9 H61 =>
    tAgg v9 fun l54 =>
    tCons l54 fun c45 l55 =>
    tStr c45 fun s38 =>
    tCons l55 fun c46 l56 =>
    tStr c46 fun s39 =>
    tCons l56 fun c47 l57 =>
    tBool c47 fun b19 =>
    tCons l57 fun c48 l58 =>
    tInt c48 .i64 fun n38 =>
    tCons l58 fun c49 l59 =>
    tInt c49 .i64 fun n39 =>
    tNil l59 <|
    newD H61 (.cells ⟨[(.string (ByteArray.mk #[])), (.string (ByteArray.mk #[])), (.bool false), (.int .i64 (0 : Int)), (.int .i64 (0 : Int))]⟩ 35) fun r11 H62 =>
    st1 H62 ⟨r11, 0, none⟩ (.string s36) fun H63 =>
    st1 H63 ⟨r11, 1, none⟩ (.string s37) fun H64 =>
    st1 H64 ⟨r11, 2, none⟩ (.bool b18) fun H65 =>
    st1 H65 ⟨r11, 3, none⟩ (.int .i64 n36) fun H66 =>
    st1 H66 ⟨r11, 4, none⟩ (.int .i64 n37) fun H67 =>
    st1 H67 ⟨r10, 0, none⟩ (.string s38) fun H68 =>
    st1 H68 ⟨r10, 1, none⟩ (.string s39) fun H69 =>
    st1 H69 ⟨r10, 2, none⟩ (.bool b19) fun H70 =>
    st1 H70 ⟨r10, 3, none⟩ (.int .i64 n38) fun H71 =>
    st1 H71 ⟨r10, 4, none⟩ (.int .i64 n39) fun H72 =>
    L0 order r11 r10 H72 R) ∧
  (
    ldStr H2 ⟨r, 0, none⟩ fun s40 =>
    ldStr H2 ⟨r, 1, none⟩ fun s41 =>
    ldBool H2 ⟨r, 2, none⟩ fun b20 =>
    ldInt H2 ⟨r, 3, none⟩ .i64 fun n40 =>
    ldInt H2 ⟨r, 4, none⟩ .i64 fun n41 =>
    ldStr H2 ⟨r1, 0, none⟩ fun s42 =>
    ldStr H2 ⟨r1, 1, none⟩ fun s43 =>
    ldBool H2 ⟨r1, 2, none⟩ fun b21 =>
    ldInt H2 ⟨r1, 3, none⟩ .i64 fun n42 =>
    ldInt H2 ⟨r1, 4, none⟩ .i64 fun n43 =>
    callD Try.prog 67 [(.agg ⟨[(.string s40), (.string s41), (.bool b20), (.int .i64 n40), (.int .i64 n41)]⟩)] H2 nope fun v10 H73 =>
    tAgg v10 fun l60 =>
    tCons l60 fun c50 l61 =>
    tStr c50 fun s44 =>
    tCons l61 fun c51 l62 =>
    tStr c51 fun s45 =>
    tCons l62 fun c52 l63 =>
    tBool c52 fun b22 =>
    tCons l63 fun c53 l64 =>
    tInt c53 .i64 fun n44 =>
    tCons l64 fun c54 l65 =>
    tInt c54 .i64 fun n45 =>
    tNil l65 <|
    andD (ExtH H2 H73) <|
    callD Try.prog 67 [(.agg ⟨[(.string s42), (.string s43), (.bool b21), (.int .i64 n42), (.int .i64 n43)]⟩)] H73 (panK R) fun v11 H74 =>
    tAgg v11 fun l66 =>
    tCons l66 fun c55 l67 =>
    tStr c55 fun s46 =>
    tCons l67 fun c56 l68 =>
    tStr c56 fun s47 =>
    tCons l68 fun c57 l69 =>
    tBool c57 fun b23 =>
    tCons l69 fun c58 l70 =>
    tInt c58 .i64 fun n46 =>
    tCons l70 fun c59 l71 =>
    tInt c59 .i64 fun n47 =>
    tNil l71 <|
    newD H74 (.cells ⟨[(.string (ByteArray.mk #[])), (.string (ByteArray.mk #[])), (.bool false), (.int .i64 (0 : Int)), (.int .i64 (0 : Int))]⟩ 35) fun r12 H75 =>
    newD H75 (.cells ⟨[(.string (ByteArray.mk #[])), (.string (ByteArray.mk #[])), (.bool false), (.int .i64 (0 : Int)), (.int .i64 (0 : Int))]⟩ 35) fun r13 H76 =>
    st1 H76 ⟨r13, 0, none⟩ (.string s44) fun H77 =>
    st1 H77 ⟨r13, 1, none⟩ (.string s45) fun H78 =>
    st1 H78 ⟨r13, 2, none⟩ (.bool b22) fun H79 =>
    st1 H79 ⟨r13, 3, none⟩ (.int .i64 n44) fun H80 =>
    st1 H80 ⟨r13, 4, none⟩ (.int .i64 n45) fun H81 =>
    st1 H81 ⟨r12, 0, none⟩ (.string s46) fun H82 =>
    st1 H82 ⟨r12, 1, none⟩ (.string s47) fun H83 =>
    st1 H83 ⟨r12, 2, none⟩ (.bool b23) fun H84 =>
    st1 H84 ⟨r12, 3, none⟩ (.int .i64 n46) fun H85 =>
    st1 H85 ⟨r12, 4, none⟩ (.int .i64 n47) fun H86 =>
    L0 order r13 r12 H86 R) ∧
  (
    ldStr H2 ⟨r, 0, none⟩ fun s48 =>
    ldStr H2 ⟨r, 1, none⟩ fun s49 =>
    ldBool H2 ⟨r, 2, none⟩ fun b24 =>
    ldInt H2 ⟨r, 3, none⟩ .i64 fun n48 =>
    ldInt H2 ⟨r, 4, none⟩ .i64 fun n49 =>
    ldStr H2 ⟨r1, 0, none⟩ fun s50 =>
    ldStr H2 ⟨r1, 1, none⟩ fun s51 =>
    ldBool H2 ⟨r1, 2, none⟩ fun b25 =>
    ldInt H2 ⟨r1, 3, none⟩ .i64 fun n50 =>
    ldInt H2 ⟨r1, 4, none⟩ .i64 fun n51 =>
    newD H2 (.cells ⟨[(.string (ByteArray.mk #[])), (.string (ByteArray.mk #[])), (.bool false), (.int .i64 (0 : Int)), (.int .i64 (0 : Int))]⟩ 35) fun r14 H87 =>
    callD Try.prog 67 [(.agg ⟨[(.string s48), (.string s49), (.bool b24), (.int .i64 n48), (.int .i64 n49)]⟩)] H87 nope fun v12 H88 =>
    tAgg v12 fun l72 =>
    tCons l72 fun c60 l73 =>
    tStr c60 fun s52 =>
    tCons l73 fun c61 l74 =>
    tStr c61 fun s53 =>
    tCons l74 fun c62 l75 =>
    tBool c62 fun b26 =>
    tCons l75 fun c63 l76 =>
    tInt c63 .i64 fun n52 =>
    tCons l76 fun c64 l77 =>
    tInt c64 .i64 fun n53 =>
    tNil l77 <|
    andD (ExtH H87 H88) <|
    newD H88 (.cells ⟨[(.string (ByteArray.mk #[])), (.string (ByteArray.mk #[])), (.bool false), (.int .i64 (0 : Int)), (.int .i64 (0 : Int))]⟩ 35) fun r15 H89 =>
    callD Try.prog 67 [(.agg ⟨[(.string s50), (.string s51), (.bool b25), (.int .i64 n50), (.int .i64 n51)]⟩)] H89 (panK R) fun v13 H90 =>
    tAgg v13 fun l78 =>
    tCons l78 fun c65 l79 =>
    tStr c65 fun s54 =>
    tCons l79 fun c66 l80 =>
    tStr c66 fun s55 =>
    tCons l80 fun c67 l81 =>
    tBool c67 fun b27 =>
    tCons l81 fun c68 l82 =>
    tInt c68 .i64 fun n54 =>
    tCons l82 fun c69 l83 =>
    tInt c69 .i64 fun n55 =>
    tNil l83 <|
    st1 H90 ⟨r15, 0, none⟩ (.string s52) fun H91 =>
    st1 H91 ⟨r15, 1, none⟩ (.string s53) fun H92 =>
    st1 H92 ⟨r15, 2, none⟩ (.bool b26) fun H93 =>
    st1 H93 ⟨r15, 3, none⟩ (.int .i64 n52) fun H94 =>
    st1 H94 ⟨r15, 4, none⟩ (.int .i64 n53) fun H95 =>
    st1 H95 ⟨r14, 0, none⟩ (.string s54) fun H96 =>
    st1 H96 ⟨r14, 1, none⟩ (.string s55) fun H97 =>
    st1 H97 ⟨r14, 2, none⟩ (.bool b27) fun H98 =>
    st1 H98 ⟨r14, 3, none⟩ (.int .i64 n54) fun H99 =>
    st1 H99 ⟨r14, 4, none⟩ (.int .i64 n55) fun H100 =>
    L0 order r15 r14 H100 R) ∧
  (
    ldStr H2 ⟨r, 0, none⟩ fun s56 =>
    ldStr H2 ⟨r, 1, none⟩ fun s57 =>
    ldBool H2 ⟨r, 2, none⟩ fun b28 =>
    ldInt H2 ⟨r, 3, none⟩ .i64 fun n56 =>
    ldInt H2 ⟨r, 4, none⟩ .i64 fun n57 =>
    ldStr H2 ⟨r1, 0, none⟩ fun s58 =>
    ldStr H2 ⟨r1, 1, none⟩ fun s59 =>
    ldBool H2 ⟨r1, 2, none⟩ fun b29 =>
    ldInt H2 ⟨r1, 3, none⟩ .i64 fun n58 =>
    ldInt H2 ⟨r1, 4, none⟩ .i64 fun n59 =>
    newD H2 (.cells ⟨[(.string (ByteArray.mk #[])), (.string (ByteArray.mk #[])), (.bool false), (.int .i64 (0 : Int)), (.int .i64 (0 : Int))]⟩ 35) fun r16 H101 =>
    callD Try.prog 67 [(.agg ⟨[(.string s56), (.string s57), (.bool b28), (.int .i64 n56), (.int .i64 n57)]⟩)] H101 nope fun v14 H102 =>
    tAgg v14 fun l84 =>
    tCons l84 fun c70 l85 =>
    tStr c70 fun s60 =>
    tCons l85 fun c71 l86 =>
    tStr c71 fun s61 =>
    tCons l86 fun c72 l87 =>
    tBool c72 fun b30 =>
    tCons l87 fun c73 l88 =>
    tInt c73 .i64 fun n60 =>
    tCons l88 fun c74 l89 =>
    tInt c74 .i64 fun n61 =>
    tNil l89 <|
    andD (ExtH H101 H102) <|
    callD Try.prog 67 [(.agg ⟨[(.string s58), (.string s59), (.bool b29), (.int .i64 n58), (.int .i64 n59)]⟩)] H102 (panK R) fun v15 H103 =>
    tAgg v15 fun l90 =>
    tCons l90 fun c75 l91 =>
    tStr c75 fun s62 =>
    tCons l91 fun c76 l92 =>
    tStr c76 fun s63 =>
    tCons l92 fun c77 l93 =>
    tBool c77 fun b31 =>
    tCons l93 fun c78 l94 =>
    tInt c78 .i64 fun n62 =>
    tCons l94 fun c79 l95 =>
    tInt c79 .i64 fun n63 =>
    tNil l95 <|
    newD H103 (.cells ⟨[(.string (ByteArray.mk #[])), (.string (ByteArray.mk #[])), (.bool false), (.int .i64 (0 : Int)), (.int .i64 (0 : Int))]⟩ 35) fun r17 H104 =>
    st1 H104 ⟨r17, 0, none⟩ (.string s60) fun H105 =>
    st1 H105 ⟨r17, 1, none⟩ (.string s61) fun H106 =>
    st1 H106 ⟨r17, 2, none⟩ (.bool b30) fun H107 =>
    st1 H107 ⟨r17, 3, none⟩ (.int .i64 n60) fun H108 =>
    st1 H108 ⟨r17, 4, none⟩ (.int .i64 n61) fun H109 =>
    st1 H109 ⟨r16, 0, none⟩ (.string s62) fun H110 =>
    st1 H110 ⟨r16, 1, none⟩ (.string s63) fun H111 =>
    st1 H111 ⟨r16, 2, none⟩ (.bool b31) fun H112 =>
    st1 H112 ⟨r16, 3, none⟩ (.int .i64 n62) fun H113 =>
    st1 H113 ⟨r16, 4, none⟩ (.int .i64 n63) fun H114 =>
    L0 order r17 r16 H114 R) ∧
  (
    ldStr H2 ⟨r, 0, none⟩ fun s64 =>
    ldStr H2 ⟨r, 1, none⟩ fun s65 =>
    ldBool H2 ⟨r, 2, none⟩ fun b32 =>
    ldInt H2 ⟨r, 3, none⟩ .i64 fun n64 =>
    ldInt H2 ⟨r, 4, none⟩ .i64 fun n65 =>
    ldStr H2 ⟨r1, 0, none⟩ fun s66 =>
    ldStr H2 ⟨r1, 1, none⟩ fun s67 =>
    ldBool H2 ⟨r1, 2, none⟩ fun b33 =>
    ldInt H2 ⟨r1, 3, none⟩ .i64 fun n66 =>
    ldInt H2 ⟨r1, 4, none⟩ .i64 fun n67 =>
    newD H2 (.cells ⟨[(.string (ByteArray.mk #[])), (.string (ByteArray.mk #[])), (.bool false), (.int .i64 (0 : Int)), (.int .i64 (0 : Int))]⟩ 35) fun r18 H115 =>
    callD Try.prog 67 [(.agg ⟨[(.string s64), (.string s65), (.bool b32), (.int .i64 n64), (.int .i64 n65)]⟩)] H115 nope fun v16 H116 =>
    tAgg v16 fun l96 =>
    tCons l96 fun c80 l97 =>
    tStr c80 fun s68 =>
    tCons l97 fun c81 l98 =>
    tStr c81 fun s69 =>
    tCons l98 fun c82 l99 =>
    tBool c82 fun b34 =>
    tCons l99 fun c83 l100 =>
    tInt c83 .i64 fun n68 =>
    tCons l100 fun c84 l101 =>
    tInt c84 .i64 fun n69 =>
    tNil l101 <|
    andD (ExtH H115 H116) <|
    newD H116 (.cells ⟨[(.string (ByteArray.mk #[])), (.string (ByteArray.mk #[])), (.bool false), (.int .i64 (0 : Int)), (.int .i64 (0 : Int))]⟩ 35) fun r19 H117 =>
    callD Try.prog 67 [(.agg ⟨[(.string s66), (.string s67), (.bool b33), (.int .i64 n66), (.int .i64 n67)]⟩)] H117 (panK R) fun v17 H118 =>
    tAgg v17 fun l102 =>
    tCons l102 fun c85 l103 =>
    tStr c85 fun s70 =>
    tCons l103 fun c86 l104 =>
    tStr c86 fun s71 =>
    tCons l104 fun c87 l105 =>
    tBool c87 fun b35 =>
    tCons l105 fun c88 l106 =>
    tInt c88 .i64 fun n70 =>
    tCons l106 fun c89 l107 =>
    tInt c89 .i64 fun n71 =>
    tNil l107 <|
    st1 H118 ⟨r18, 0, none⟩ (.string s68) fun H119 =>
    st1 H119 ⟨r18, 1, none⟩ (.string s69) fun H120 =>
    st1 H120 ⟨r18, 2, none⟩ (.bool b34) fun H121 =>
    st1 H121 ⟨r18, 3, none⟩ (.int .i64 n68) fun H122 =>
    st1 H122 ⟨r18, 4, none⟩ (.int .i64 n69) fun H123 =>
    st1 H123 ⟨r19, 0, none⟩ (.string s70) fun H124 =>
    st1 H124 ⟨r19, 1, none⟩ (.string s71) fun H125 =>
    st1 H125 ⟨r19, 2, none⟩ (.bool b35) fun H126 =>
    st1 H126 ⟨r19, 3, none⟩ (.int .i64 n70) fun H127 =>
    st1 H127 ⟨r19, 4, none⟩ (.int .i64 n71) fun H128 =>
    L0 order r18 r19 H128 R) ∧
  (
    ldStr H2 ⟨r, 0, none⟩ fun s72 =>
    ldStr H2 ⟨r, 1, none⟩ fun s73 =>
    ldBool H2 ⟨r, 2, none⟩ fun b36 =>
    ldInt H2 ⟨r, 3, none⟩ .i64 fun n72 =>
    ldInt H2 ⟨r, 4, none⟩ .i64 fun n73 =>
    ldStr H2 ⟨r1, 0, none⟩ fun s74 =>
    ldStr H2 ⟨r1, 1, none⟩ fun s75 =>
    ldBool H2 ⟨r1, 2, none⟩ fun b37 =>
    ldInt H2 ⟨r1, 3, none⟩ .i64 fun n74 =>
    ldInt H2 ⟨r1, 4, none⟩ .i64 fun n75 =>
    newD H2 (.cells ⟨[(.string (ByteArray.mk #[])), (.string (ByteArray.mk #[])), (.bool false), (.int .i64 (0 : Int)), (.int .i64 (0 : Int))]⟩ 35) fun r20 H129 =>
    callD Try.prog 67 [(.agg ⟨[(.string s72), (.string s73), (.bool b36), (.int .i64 n72), (.int .i64 n73)]⟩)] H129 nope fun v18 H130 =>
    tAgg v18 fun l108 =>
    tCons l108 fun c90 l109 =>
    tStr c90 fun s76 =>
    tCons l109 fun c91 l110 =>
    tStr c91 fun s77 =>
    tCons l110 fun c92 l111 =>
    tBool c92 fun b38 =>
    tCons l111 fun c93 l112 =>
    tInt c93 .i64 fun n76 =>
    tCons l112 fun c94 l113 =>
    tInt c94 .i64 fun n77 =>
    tNil l113 <|
    andD (ExtH H129 H130) <|
    callD Try.prog 67 [(.agg ⟨[(.string s74), (.string s75), (.bool b37), (.int .i64 n74), (.int .i64 n75)]⟩)] H130 (panK R) fun v19 H131 =>
    tAgg v19 fun l114 =>
    tCons l114 fun c95 l115 =>
    tStr c95 fun s78 =>
    tCons l115 fun c96 l116 =>
    tStr c96 fun s79 =>
    tCons l116 fun c97 l117 =>
    tBool c97 fun b39 =>
    tCons l117 fun c98 l118 =>
    tInt c98 .i64 fun n78 =>
    tCons l118 fun c99 l119 =>
    tInt c99 .i64 fun n79 =>
    tNil l119 <|
    newD H131 (.cells ⟨[(.string (ByteArray.mk #[])), (.string (ByteArray.mk #[])), (.bool false), (.int .i64 (0 : Int)), (.int .i64 (0 : Int))]⟩ 35) fun r21 H132 =>
    st1 H132 ⟨r20, 0, none⟩ (.string s76) fun H133 =>
    st1 H133 ⟨r20, 1, none⟩ (.string s77) fun H134 =>
    st1 H134 ⟨r20, 2, none⟩ (.bool b38) fun H135 =>
    st1 H135 ⟨r20, 3, none⟩ (.int .i64 n76) fun H136 =>
    st1 H136 ⟨r20, 4, none⟩ (.int .i64 n77) fun H137 =>
    st1 H137 ⟨r21, 0, none⟩ (.string s78) fun H138 =>
    st1 H138 ⟨r21, 1, none⟩ (.string s79) fun H139 =>
    st1 H139 ⟨r21, 2, none⟩ (.bool b39) fun H140 =>
    st1 H140 ⟨r21, 3, none⟩ (.int .i64 n78) fun H141 =>
    st1 H141 ⟨r21, 4, none⟩ (.int .i64 n79) fun H142 =>
    L0 order r20 r21 H142 R) ∧
  (
    ldStr H2 ⟨r, 0, none⟩ fun s80 =>
    ldStr H2 ⟨r, 1, none⟩ fun s81 =>
    ldBool H2 ⟨r, 2, none⟩ fun b40 =>
    ldInt H2 ⟨r, 3, none⟩ .i64 fun n80 =>
    ldInt H2 ⟨r, 4, none⟩ .i64 fun n81 =>
    ldStr H2 ⟨r1, 0, none⟩ fun s82 =>
    ldStr H2 ⟨r1, 1, none⟩ fun s83 =>
    ldBool H2 ⟨r1, 2, none⟩ fun b41 =>
    ldInt H2 ⟨r1, 3, none⟩ .i64 fun n82 =>
    ldInt H2 ⟨r1, 4, none⟩ .i64 fun n83 =>
    newD H2 (.cells ⟨[(.string (ByteArray.mk #[])), (.string (ByteArray.mk #[])), (.bool false), (.int .i64 (0 : Int)), (.int .i64 (0 : Int))]⟩ 35) fun r22 H143 =>
    newD H143 (.cells ⟨[(.string (ByteArray.mk #[])), (.string (ByteArray.mk #[])), (.bool false), (.int .i64 (0 : Int)), (.int .i64 (0 : Int))]⟩ 35) fun r23 H144 =>
    callD Try.prog 67 [(.agg ⟨[(.string s80), (.string s81), (.bool b40), (.int .i64 n80), (.int .i64 n81)]⟩)] H144 nope fun v20 H145 =>
    tAgg v20 fun l120 =>
    tCons l120 fun c100 l121 =>
    tStr c100 fun s84 =>
    tCons l121 fun c101 l122 =>
    tStr c101 fun s85 =>
    tCons l122 fun c102 l123 =>
    tBool c102 fun b42 =>
    tCons l123 fun c103 l124 =>
    tInt c103 .i64 fun n84 =>
    tCons l124 fun c104 l125 =>
    tInt c104 .i64 fun n85 =>
    tNil l125 <|
    andD (ExtH H144 H145) <|
    callD Try.prog 67 [(.agg ⟨[(.string s82), (.string s83), (.bool b41), (.int .i64 n82), (.int .i64 n83)]⟩)] H145 (panK R) fun v21 H146 =>
    tAgg v21 fun l126 =>
    tCons l126 fun c105 l127 =>
    tStr c105 fun s86 =>
    tCons l127 fun c106 l128 =>
    tStr c106 fun s87 =>
    tCons l128 fun c107 l129 =>
    tBool c107 fun b43 =>
    tCons l129 fun c108 l130 =>
    tInt c108 .i64 fun n86 =>
    tCons l130 fun c109 l131 =>
    tInt c109 .i64 fun n87 =>
    tNil l131 <|
    st1 H146 ⟨r22, 0, none⟩ (.string s84) fun H147 =>
    st1 H147 ⟨r22, 1, none⟩ (.string s85) fun H148 =>
    st1 H148 ⟨r22, 2, none⟩ (.bool b42) fun H149 =>
    st1 H149 ⟨r22, 3, none⟩ (.int .i64 n84) fun H150 =>
    st1 H150 ⟨r22, 4, none⟩ (.int .i64 n85) fun H151 =>
    st1 H151 ⟨r23, 0, none⟩ (.string s86) fun H152 =>
    st1 H152 ⟨r23, 1, none⟩ (.string s87) fun H153 =>
    st1 H153 ⟨r23, 2, none⟩ (.bool b43) fun H154 =>
    st1 H154 ⟨r23, 3, none⟩ (.int .i64 n86) fun H155 =>
    st1 H155 ⟨r23, 4, none⟩ (.int .i64 n87) fun H156 =>
    L0 order r22 r23 H156 R) ∧
  (
    ldStr H2 ⟨r, 0, none⟩ fun s88 =>
    ldStr H2 ⟨r, 1, none⟩ fun s89 =>
    ldBool H2 ⟨r, 2, none⟩ fun b44 =>
    ldInt H2 ⟨r, 3, none⟩ .i64 fun n88 =>
    ldInt H2 ⟨r, 4, none⟩ .i64 fun n89 =>
    ldStr H2 ⟨r1, 0, none⟩ fun s90 =>
    ldStr H2 ⟨r1, 1, none⟩ fun s91 =>
    ldBool H2 ⟨r1, 2, none⟩ fun b45 =>
    ldInt H2 ⟨r1, 3, none⟩ .i64 fun n90 =>
    ldInt H2 ⟨r1, 4, none⟩ .i64 fun n91 =>
    newD H2 (.cells ⟨[(.string (ByteArray.mk #[])), (.string (ByteArray.mk #[])), (.bool false), (.int .i64 (0 : Int)), (.int .i64 (0 : Int))]⟩ 35) fun r24 H157 =>
    newD H157 (.cells ⟨[(.string (ByteArray.mk #[])), (.string (ByteArray.mk #[])), (.bool false), (.int .i64 (0 : Int)), (.int .i64 (0 : Int))]⟩ 35) fun r25 H158 =>
    callD Try.prog 67 [(.agg ⟨[(.string s88), (.string s89), (.bool b44), (.int .i64 n88), (.int .i64 n89)]⟩)] H158 nope fun v22 H159 =>
    tAgg v22 fun l132 =>
    tCons l132 fun c110 l133 =>
    tStr c110 fun s92 =>
    tCons l133 fun c111 l134 =>
    tStr c111 fun s93 =>
    tCons l134 fun c112 l135 =>
    tBool c112 fun b46 =>
    tCons l135 fun c113 l136 =>
    tInt c113 .i64 fun n92 =>
    tCons l136 fun c114 l137 =>
    tInt c114 .i64 fun n93 =>
    tNil l137 <|
    andD (ExtH H158 H159) <|
    callD Try.prog 67 [(.agg ⟨[(.string s90), (.string s91), (.bool b45), (.int .i64 n90), (.int .i64 n91)]⟩)] H159 (panK R) fun v23 H160 =>
    tAgg v23 fun l138 =>
    tCons l138 fun c115 l139 =>
    tStr c115 fun s94 =>
    tCons l139 fun c116 l140 =>
    tStr c116 fun s95 =>
    tCons l140 fun c117 l141 =>
    tBool c117 fun b47 =>
    tCons l141 fun c118 l142 =>
    tInt c118 .i64 fun n94 =>
    tCons l142 fun c119 l143 =>
    tInt c119 .i64 fun n95 =>
    tNil l143 <|
    st1 H160 ⟨r25, 0, none⟩ (.string s92) fun H161 =>
    st1 H161 ⟨r25, 1, none⟩ (.string s93) fun H162 =>
    st1 H162 ⟨r25, 2, none⟩ (.bool b46) fun H163 =>
    st1 H163 ⟨r25, 3, none⟩ (.int .i64 n92) fun H164 =>
    st1 H164 ⟨r25, 4, none⟩ (.int .i64 n93) fun H165 =>
    st1 H165 ⟨r24, 0, none⟩ (.string s94) fun H166 =>
    st1 H166 ⟨r24, 1, none⟩ (.string s95) fun H167 =>
    st1 H167 ⟨r24, 2, none⟩ (.bool b47) fun H168 =>
    st1 H168 ⟨r24, 3, none⟩ (.int .i64 n94) fun H169 =>
    st1 H169 ⟨r24, 4, none⟩ (.int .i64 n95) fun H170 =>
    L0 order r25 r24 H170 R)
theorem calls {order : Int} {s_0 : ByteArray} {s_1 : ByteArray} {s_2 : Bool} {s_3 : Int} {s_4 : Int} {t_0 : ByteArray} {t_1 : ByteArray} {t_2 : Bool} {t_3 : Int} {t_4 : Int} {H : Heap} {R : Ending → Heap → Prop} (h : go order s_0 s_1 s_2 s_3 s_4 t_0 t_1 t_2 t_3 t_4 H R) : CallsH Try.prog 57 ⟨[(.int .i64 order), (.agg ⟨[(.string s_0), (.string s_1), (.bool s_2), (.int .i64 s_3), (.int .i64 s_4)]⟩), (.agg ⟨[(.string t_0), (.string t_1), (.bool t_2), (.int .i64 t_3), (.int .i64 t_4)]⟩)]⟩ H R :=
  callsH_of_den (an := an) (fuel := 100000) (X := go order s_0 s_1 s_2 s_3 s_4 t_0 t_1 t_2 t_3 t_4 H R) (c := body) mixed fn (by kernel_rfl) (by kernel_rfl) (by kernel_rfl) ok (by kernel_rfl) h
end F57
/-! ### 62 "(*pub-stadtholder/spec.Pieces).find" -/
namespace F62
def an : Ann := { kinds := [], taus := [(4, [[0, 1, 2, 4, 3, 5, 6, 7]])], pairs := [], lab := [(40000003, [0, 3, 10, 11, 12])] }
noncomputable def body : Code := (Try.f62.body).getD .skip
theorem fn : Try.prog.funcs[62]? = some Try.f62 := by kernel_rfl
theorem ok : codeOk an 27 body = true := by kernel_rfl
noncomputable def L0t : List Item := [.code (sub [1, 0, 1, 0, 0] body), .inLoop (sub [1, 0, 1, 0, 0] body), .inBlock 0, .code (sub [1, 1] body)]
def L0 (p : Option Addr) (s : Nat) (s10 : Option Addr) (s10n : Nat) (s10c : Nat) (s11 : Int) (s12 : Int) (H : Heap) (R : Ending → Heap → Prop) : Prop :=
  GoL Try.prog 62 27 L0t [0, 3, 10, 11, 12] [(.pointer p), (.pointer (some ⟨s, 0, none⟩)), (.slice s10 s10n s10c), (.int .i64 s11), (.int .i64 s12)] H R
def L0n (p : Option Addr) (s : Nat) (s10 : Option Addr) (s10n : Nat) (s10c : Nat) (s11 : Int) (s12 : Int) (H : Heap) (R : Ending → Heap → Prop) : Prop :=
  iteB (decide (s12 < s11)) (
    idxD s10 s10n s12 fun a =>
    ldStr H (Addr.add a (Int.toNat s12 * 6)) fun s1 =>
    ldStr H (Addr.add (Addr.add a (Int.toNat s12 * 6)) 1) fun s2 =>
    ldBool H (Addr.add (Addr.add a (Int.toNat s12 * 6)) 2) fun b =>
    ldInt H (Addr.add (Addr.add a (Int.toNat s12 * 6)) 3) .i64 fun n =>
    ldInt H (Addr.add (Addr.add a (Int.toNat s12 * 6)) 4) .i64 fun n1 =>
    ldInt H (Addr.add (Addr.add a (Int.toNat s12 * 6)) 5) .i64 fun n2 =>
    newD H (.cells ⟨[(.string (ByteArray.mk #[])), (.string (ByteArray.mk #[])), (.bool false), (.int .i64 (0 : Int)), (.int .i64 (0 : Int)), (.int .i64 (0 : Int))]⟩ 71) fun r H1 =>
    st1 H1 ⟨r, 0, none⟩ (.string s1) fun H2 =>
    st1 H2 ⟨r, 1, none⟩ (.string s2) fun H3 =>
    st1 H3 ⟨r, 2, none⟩ (.bool b) fun H4 =>
    st1 H4 ⟨r, 3, none⟩ (.int .i64 n) fun H5 =>
    st1 H5 ⟨r, 4, none⟩ (.int .i64 n1) fun H6 =>
    st1 H6 ⟨r, 5, none⟩ (.int .i64 n2) fun H7 =>
    nilD p fun a1 =>
    ldInt H7 a1 .i64 fun n3 =>
    ldStr H7 ⟨r, 0, none⟩ fun s3 =>
    ldStr H7 ⟨r, 1, none⟩ fun s4 =>
    ldBool H7 ⟨r, 2, none⟩ fun b1 =>
    ldInt H7 ⟨r, 3, none⟩ .i64 fun n4 =>
    ldInt H7 ⟨r, 4, none⟩ .i64 fun n5 =>
    ldStr H7 ⟨s, 0, none⟩ fun s5 =>
    ldStr H7 ⟨s, 1, none⟩ fun s6 =>
    ldBool H7 ⟨s, 2, none⟩ fun b2 =>
    ldInt H7 ⟨s, 3, none⟩ .i64 fun n6 =>
    ldInt H7 ⟨s, 4, none⟩ .i64 fun n7 =>
    callD Try.prog 29 [(.int .i64 n3), (.agg ⟨[(.string s3), (.string s4), (.bool b1), (.int .i64 n4), (.int .i64 n5)]⟩), (.agg ⟨[(.string s5), (.string s6), (.bool b2), (.int .i64 n6), (.int .i64 n7)]⟩)] H7 (panK R) fun v H8 =>
    tBool v fun b3 =>
    iteB b3 (
      R (.returned (.int .i64 s12)) H8) <|
    L0 p s s10 s10n s10c s11 (IntKind.wrap .i64 (s12 + (1 : Int))) H8 R) <|
  R (.returned (.int .i64 (-1 : Int))) H
theorem L0_step {p : Option Addr} {s : Nat} {s10 : Option Addr} {s10n : Nat} {s10c : Nat} {s11 : Int} {s12 : Int} {H : Heap} {R : Ending → Heap → Prop} (h : L0n p s s10 s10n s10c s11 s12 H R) : L0 p s s10 s10n s10c s11 s12 H R :=
  goL_of_den (an := an) (fuel := 100000) (X := L0n p s s10 s10n s10c s11 s12 H R) mixed fn (by kernel_rfl) (fun ρ0 => by kernel_rfl) h
def go (p : Option Addr) (s_0 : ByteArray) (s_1 : ByteArray) (s_2 : Bool) (s_3 : Int) (s_4 : Int) (H : Heap) (R : Ending → Heap → Prop) : Prop :=
  newD H (.cells ⟨[(.string s_0), (.string s_1), (.bool s_2), (.int .i64 s_3), (.int .i64 s_4)]⟩ 35) fun r H1 =>
  nilD p fun a =>
  ldSl H1 (Addr.add a 1) fun q qn qc =>
  L0 p r q qn qc ((qn : Nat) : Int) (0 : Int) H1 R
theorem calls {p : Option Addr} {s_0 : ByteArray} {s_1 : ByteArray} {s_2 : Bool} {s_3 : Int} {s_4 : Int} {H : Heap} {R : Ending → Heap → Prop} (h : go p s_0 s_1 s_2 s_3 s_4 H R) : CallsH Try.prog 62 ⟨[(.pointer p), (.agg ⟨[(.string s_0), (.string s_1), (.bool s_2), (.int .i64 s_3), (.int .i64 s_4)]⟩)]⟩ H R :=
  callsH_of_den (an := an) (fuel := 100000) (X := go p s_0 s_1 s_2 s_3 s_4 H R) (c := body) mixed fn (by kernel_rfl) (by kernel_rfl) (by kernel_rfl) ok (by kernel_rfl) h
end F62
/-! ### 63 "pub-stadtholder/spec.listed" -/
namespace F63
def an : Ann := { kinds := [(6004, .grow), (6010, .grow)], taus := [(6, [[0, 2, 6, 8, 1, 3, 7, 9, 4, 10, 5, 12, 11, 13, 14, 15], [0, 2, 6, 8, 1, 3, 7, 9, 4, 5, 12, 10, 11, 13, 14, 15], [0, 2, 6, 8, 1, 3, 7, 9, 10, 4, 5, 12, 11, 13, 14, 15], [0, 2, 6, 8, 1, 3, 7, 4, 5, 12, 9, 10, 11, 13, 14, 15], [0, 2, 6, 8, 1, 3, 9, 4, 10, 5, 7, 12, 11, 13, 14, 15], [0, 2, 6, 8, 1, 3, 9, 4, 5, 7, 12, 10, 11, 13, 14, 15], [0, 2, 6, 8, 1, 3, 9, 10, 4, 5, 7, 12, 11, 13, 14, 15], [0, 2, 6, 8, 1, 3, 4, 5, 7, 12, 9, 10, 11, 13, 14, 15]])], pairs := [(6, [(7, 5), (9, 5), (4, 10), (10, 5)])], lab := [(40000004, [1, 4, 5, 8, 9, 10]), (60000007, [1, 4, 5, 7, 8, 9, 10]), (40000008, [1, 4, 5, 8, 9, 10])] }
noncomputable def body : Code := (Try.f63.body).getD .skip
theorem fn : Try.prog.funcs[63]? = some Try.f63 := by kernel_rfl
theorem ok : codeOk an 38 body = true := by kernel_rfl
noncomputable def L0t : List Item := [.code (sub [1, 1, 0, 1, 0, 0] body), .inLoop (sub [1, 1, 0, 1, 0, 0] body), .inBlock 0, .code (sub [1, 1, 1] body)]
def L0 (most : Int) (s4 : Nat) (a : Nat) (s8 : Option Addr) (s8n : Nat) (s8c : Nat) (s9 : Int) (s10 : Int) (H : Heap) (R : Ending → Heap → Prop) : Prop :=
  GoL Try.prog 63 38 L0t [1, 4, 5, 8, 9, 10] [(.int .i64 most), (.pointer (some ⟨s4, 0, none⟩)), (.pointer (some ⟨a, 0, none⟩)), (.slice s8 s8n s8c), (.int .i64 s9), (.int .i64 s10)] H R
noncomputable def L1t : List Item := [.code (sub [1, 1, 0, 1, 0, 0, 1, 1, 0, 0, 1, 1] body), .inBlock 1, .code (sub [1, 1, 0, 1, 0, 0, 1, 1, 1] body), .inLoop (sub [1, 1, 0, 1, 0, 0] body), .inBlock 0, .code (sub [1, 1, 1] body)]
def L1 (most : Int) (s4 : Nat) (a : Nat) (x : Nat) (s8 : Option Addr) (s8n : Nat) (s8c : Nat) (s9 : Int) (s10 : Int) (H : Heap) (R : Ending → Heap → Prop) : Prop :=
  GoL Try.prog 63 38 L1t [1, 4, 5, 7, 8, 9, 10] [(.int .i64 most), (.pointer (some ⟨s4, 0, none⟩)), (.pointer (some ⟨a, 0, none⟩)), (.pointer (some ⟨x, 0, none⟩)), (.slice s8 s8n s8c), (.int .i64 s9), (.int .i64 s10)] H R
noncomputable def L2t : List Item := [.code (sub [1, 1, 0, 1, 0, 0, 1, 1, 1] body), .inLoop (sub [1, 1, 0, 1, 0, 0] body), .inBlock 0, .code (sub [1, 1, 1] body)]
def L2 (most : Int) (s4 : Nat) (a : Nat) (s8 : Option Addr) (s8n : Nat) (s8c : Nat) (s9 : Int) (s10 : Int) (H : Heap) (R : Ending → Heap → Prop) : Prop :=
  GoL Try.prog 63 38 L2t [1, 4, 5, 8, 9, 10] [(.int .i64 most), (.pointer (some ⟨s4, 0, none⟩)), (.pointer (some ⟨a, 0, none⟩)), (.slice s8 s8n s8c), (.int .i64 s9), (.int .i64 s10)] H R
def L0n (most : Int) (s4 : Nat) (a : Nat) (s8 : Option Addr) (s8n : Nat) (s8c : Nat) (s9 : Int) (s10 : Int) (H : Heap) (R : Ending → Heap → Prop) : Prop :=
  iteB (decide (s10 < s9)) (
    idxD s8 s8n s10 fun a1 =>
    ldStr H (Addr.add a1 (Int.toNat s10 * 6)) fun s =>
    ldStr H (Addr.add (Addr.add a1 (Int.toNat s10 * 6)) 1) fun s1 =>
    ldBool H (Addr.add (Addr.add a1 (Int.toNat s10 * 6)) 2) fun b =>
    ldInt H (Addr.add (Addr.add a1 (Int.toNat s10 * 6)) 3) .i64 fun n =>
    ldInt H (Addr.add (Addr.add a1 (Int.toNat s10 * 6)) 4) .i64 fun n1 =>
    ldInt H (Addr.add (Addr.add a1 (Int.toNat s10 * 6)) 5) .i64 fun n2 =>
    newD H (.cells ⟨[(.string (ByteArray.mk #[])), (.string (ByteArray.mk #[])), (.bool false), (.int .i64 (0 : Int)), (.int .i64 (0 : Int)), (.int .i64 (0 : Int))]⟩ 71) fun r H1 =>
    st1 H1 ⟨r, 0, none⟩ (.string s) fun H2 =>
    st1 H2 ⟨r, 1, none⟩ (.string s1) fun H3 =>
    st1 H3 ⟨r, 2, none⟩ (.bool b) fun H4 =>
    st1 H4 ⟨r, 3, none⟩ (.int .i64 n) fun H5 =>
    st1 H5 ⟨r, 4, none⟩ (.int .i64 n1) fun H6 =>
    st1 H6 ⟨r, 5, none⟩ (.int .i64 n2) fun H7 =>
    iteB (decide (most > (0 : Int))) (
      iteB (decide (s10 ≥ most)) (
        ldBool H7 ⟨a, 0, none⟩ fun b1 =>
        ldInt H7 ⟨a, 1, none⟩ .i64 fun n3 =>
        ldInt H7 ⟨a, 2, none⟩ .i64 fun n4 =>
        ldSl H7 ⟨a, 3, none⟩ fun q qn qc =>
        ldSl H7 ⟨a, 4, none⟩ fun q1 q1n q1c =>
        st1 H7 ⟨s4, 0, none⟩ (.bool b1) fun H8 =>
        st1 H8 ⟨s4, 1, none⟩ (.int .i64 n3) fun H9 =>
        st1 H9 ⟨s4, 2, none⟩ (.int .i64 n4) fun H10 =>
        st1 H10 ⟨s4, 3, none⟩ (.slice q qn qc) fun H11 =>
        st1 H11 ⟨s4, 4, none⟩ (.slice q1 q1n q1c) fun H12 =>
        ldBool H12 ⟨s4, 0, none⟩ fun b2 =>
        ldInt H12 ⟨s4, 1, none⟩ .i64 fun n5 =>
        ldInt H12 ⟨s4, 2, none⟩ .i64 fun n6 =>
        ldSl H12 ⟨s4, 3, none⟩ fun q2 q2n q2c =>
        ldSl H12 ⟨s4, 4, none⟩ fun q3 q3n q3c =>
        R (.returned (.agg ⟨[(.bool b2), (.int .i64 n5), (.int .i64 n6), (.slice q2 q2n q2c), (.slice q3 q3n q3c)]⟩)) H12) <|
      L1 most s4 a r s8 s8n s8c s9 s10 H7 R) <|
    L1 most s4 a r s8 s8n s8c s9 s10 H7 R) <|
  ldBool H ⟨a, 0, none⟩ fun b3 =>
  ldInt H ⟨a, 1, none⟩ .i64 fun n7 =>
  ldInt H ⟨a, 2, none⟩ .i64 fun n8 =>
  ldSl H ⟨a, 3, none⟩ fun q4 q4n q4c =>
  ldSl H ⟨a, 4, none⟩ fun q5 q5n q5c =>
  st1 H ⟨s4, 0, none⟩ (.bool b3) fun H13 =>
  st1 H13 ⟨s4, 1, none⟩ (.int .i64 n7) fun H14 =>
  st1 H14 ⟨s4, 2, none⟩ (.int .i64 n8) fun H15 =>
  st1 H15 ⟨s4, 3, none⟩ (.slice q4 q4n q4c) fun H16 =>
  st1 H16 ⟨s4, 4, none⟩ (.slice q5 q5n q5c) fun H17 =>
  ldBool H17 ⟨s4, 0, none⟩ fun b4 =>
  ldInt H17 ⟨s4, 1, none⟩ .i64 fun n9 =>
  ldInt H17 ⟨s4, 2, none⟩ .i64 fun n10 =>
  ldSl H17 ⟨s4, 3, none⟩ fun q6 q6n q6c =>
  ldSl H17 ⟨s4, 4, none⟩ fun q7 q7n q7c =>
  R (.returned (.agg ⟨[(.bool b4), (.int .i64 n9), (.int .i64 n10), (.slice q6 q6n q6c), (.slice q7 q7n q7c)]⟩)) H17
theorem L0_step {most : Int} {s4 : Nat} {a : Nat} {s8 : Option Addr} {s8n : Nat} {s8c : Nat} {s9 : Int} {s10 : Int} {H : Heap} {R : Ending → Heap → Prop} (h : L0n most s4 a s8 s8n s8c s9 s10 H R) : L0 most s4 a s8 s8n s8c s9 s10 H R :=
  goL_of_den (an := an) (fuel := 100000) (X := L0n most s4 a s8 s8n s8c s9 s10 H R) mixed fn (by kernel_rfl) (fun ρ0 => by kernel_rfl) h
def L1n (most : Int) (s4 : Nat) (a : Nat) (x : Nat) (s8 : Option Addr) (s8n : Nat) (s8c : Nat) (s9 : Int) (s10 : Int) (H : Heap) (R : Ending → Heap → Prop) : Prop :=
  (
    ldSl H ⟨a, 3, none⟩ fun q qn qc =>
    ldStr H ⟨x, 0, none⟩ fun s =>
    ldStr H ⟨x, 1, none⟩ fun s1 =>
    ldBool H ⟨x, 2, none⟩ fun b =>
    ldInt H ⟨x, 3, none⟩ .i64 fun n =>
    ldInt H ⟨x, 4, none⟩ .i64 fun n1 =>
    ldSl H ⟨a, 4, none⟩ fun q1 q1n q1c =>
    ldInt H ⟨x, 5, none⟩ .i64 fun n2 =>
    newD H (.cells ⟨[(.string s), (.string s1), (.bool b), (.int .i64 n), (.int .i64 n1)]⟩ 35) fun r H1 =>
    newD H1 (.cells ⟨[(.int .i64 n2)]⟩ 3) fun r1 H2 =>
    apD H2 5 56 [(.string (ByteArray.mk #[])), (.string (ByteArray.mk #[])), (.bool false), (.int .i64 (0 : Int)), (.int .i64 (0 : Int))] 35 q qn qc (some ⟨r, 0, none⟩) 1 fun q2 q2n q2c H3 =>
    apD H3 1 8 [(.int .i64 (0 : Int))] 3 q1 q1n q1c (some ⟨r1, 0, none⟩) 1 fun q3 q3n q3c H4 =>
    st1 H4 ⟨a, 3, none⟩ (.slice q2 q2n q2c) fun H5 =>
    st1 H5 ⟨a, 4, none⟩ (.slice q3 q3n q3c) fun H6 =>
    L2 most s4 a s8 s8n s8c s9 s10 H6 R) ∧
  (
    ldSl H ⟨a, 3, none⟩ fun q4 q4n q4c =>
    ldStr H ⟨x, 0, none⟩ fun s2 =>
    ldStr H ⟨x, 1, none⟩ fun s3 =>
    ldBool H ⟨x, 2, none⟩ fun b1 =>
    ldInt H ⟨x, 3, none⟩ .i64 fun n3 =>
    ldInt H ⟨x, 4, none⟩ .i64 fun n4 =>
    ldSl H ⟨a, 4, none⟩ fun q5 q5n q5c =>
    ldInt H ⟨x, 5, none⟩ .i64 fun n5 =>
    newD H (.cells ⟨[(.string s2), (.string s3), (.bool b1), (.int .i64 n3), (.int .i64 n4)]⟩ 35) fun r2 H7 =>
    apD H7 5 56 [(.string (ByteArray.mk #[])), (.string (ByteArray.mk #[])), (.bool false), (.int .i64 (0 : Int)), (.int .i64 (0 : Int))] 35 q4 q4n q4c (some ⟨r2, 0, none⟩) 1 fun q6 q6n q6c H8 =>
    newD H8 (.cells ⟨[(.int .i64 n5)]⟩ 3) fun r3 H9 =>
    apD H9 1 8 [(.int .i64 (0 : Int))] 3 q5 q5n q5c (some ⟨r3, 0, none⟩) 1 fun q7 q7n q7c H10 =>
    st1 H10 ⟨a, 3, none⟩ (.slice q6 q6n q6c) fun H11 =>
    st1 H11 ⟨a, 4, none⟩ (.slice q7 q7n q7c) fun H12 =>
    L2 most s4 a s8 s8n s8c s9 s10 H12 R) ∧
  (
    ldSl H ⟨a, 3, none⟩ fun q8 q8n q8c =>
    ldStr H ⟨x, 0, none⟩ fun s5 =>
    ldStr H ⟨x, 1, none⟩ fun s6 =>
    ldBool H ⟨x, 2, none⟩ fun b2 =>
    ldInt H ⟨x, 3, none⟩ .i64 fun n6 =>
    ldInt H ⟨x, 4, none⟩ .i64 fun n7 =>
    ldSl H ⟨a, 4, none⟩ fun q9 q9n q9c =>
    ldInt H ⟨x, 5, none⟩ .i64 fun n8 =>
    newD H (.cells ⟨[(.int .i64 n8)]⟩ 3) fun r4 H13 =>
    newD H13 (.cells ⟨[(.string s5), (.string s6), (.bool b2), (.int .i64 n6), (.int .i64 n7)]⟩ 35) fun r5 H14 =>
    apD H14 5 56 [(.string (ByteArray.mk #[])), (.string (ByteArray.mk #[])), (.bool false), (.int .i64 (0 : Int)), (.int .i64 (0 : Int))] 35 q8 q8n q8c (some ⟨r5, 0, none⟩) 1 fun q10 q10n q10c H15 =>
    apD H15 1 8 [(.int .i64 (0 : Int))] 3 q9 q9n q9c (some ⟨r4, 0, none⟩) 1 fun q11 q11n q11c H16 =>
    st1 H16 ⟨a, 3, none⟩ (.slice q10 q10n q10c) fun H17 =>
    st1 H17 ⟨a, 4, none⟩ (.slice q11 q11n q11c) fun H18 =>
    L2 most s4 a s8 s8n s8c s9 s10 H18 R) ∧
  (
    ldSl H ⟨a, 3, none⟩ fun q12 q12n q12c =>
    ldStr H ⟨x, 0, none⟩ fun s7 =>
    ldStr H ⟨x, 1, none⟩ fun s11 =>
    ldBool H ⟨x, 2, none⟩ fun b3 =>
    ldInt H ⟨x, 3, none⟩ .i64 fun n9 =>
    ldInt H ⟨x, 4, none⟩ .i64 fun n10 =>
    ldSl H ⟨a, 4, none⟩ fun q13 q13n q13c =>
    newD H (.cells ⟨[(.string s7), (.string s11), (.bool b3), (.int .i64 n9), (.int .i64 n10)]⟩ 35) fun r6 H19 =>
    apD H19 5 56 [(.string (ByteArray.mk #[])), (.string (ByteArray.mk #[])), (.bool false), (.int .i64 (0 : Int)), (.int .i64 (0 : Int))] 35 q12 q12n q12c (some ⟨r6, 0, none⟩) 1 fun q14 q14n q14c H20 =>
    ldInt H20 ⟨x, 5, none⟩ .i64 fun n11 =>
    newD H20 (.cells ⟨[(.int .i64 n11)]⟩ 3) fun r7 H21 =>
    apD H21 1 8 [(.int .i64 (0 : Int))] 3 q13 q13n q13c (some ⟨r7, 0, none⟩) 1 fun q15 q15n q15c H22 =>
    st1 H22 ⟨a, 3, none⟩ (.slice q14 q14n q14c) fun H23 =>
    st1 H23 ⟨a, 4, none⟩ (.slice q15 q15n q15c) fun H24 =>
    L2 most s4 a s8 s8n s8c s9 s10 H24 R) ∧
  (
    ldSl H ⟨a, 3, none⟩ fun q16 q16n q16c =>
    ldStr H ⟨x, 0, none⟩ fun s12 =>
    ldStr H ⟨x, 1, none⟩ fun s13 =>
    ldBool H ⟨x, 2, none⟩ fun b4 =>
    ldInt H ⟨x, 3, none⟩ .i64 fun n12 =>
    ldInt H ⟨x, 4, none⟩ .i64 fun n13 =>
    ldInt H ⟨x, 5, none⟩ .i64 fun n14 =>
    newD H (.cells ⟨[(.string s12), (.string s13), (.bool b4), (.int .i64 n12), (.int .i64 n13)]⟩ 35) fun r8 H25 =>
    newD H25 (.cells ⟨[(.int .i64 n14)]⟩ 3) fun r9 H26 =>
    apD H26 5 56 [(.string (ByteArray.mk #[])), (.string (ByteArray.mk #[])), (.bool false), (.int .i64 (0 : Int)), (.int .i64 (0 : Int))] 35 q16 q16n q16c (some ⟨r8, 0, none⟩) 1 fun q17 q17n q17c H27 =>
    ldSl H27 ⟨a, 4, none⟩ fun q18 q18n q18c =>
    apD H27 1 8 [(.int .i64 (0 : Int))] 3 q18 q18n q18c (some ⟨r9, 0, none⟩) 1 fun q19 q19n q19c H28 =>
    st1 H28 ⟨a, 3, none⟩ (.slice q17 q17n q17c) fun H29 =>
    st1 H29 ⟨a, 4, none⟩ (.slice q19 q19n q19c) fun H30 =>
    L2 most s4 a s8 s8n s8c s9 s10 H30 R) ∧
  (
    ldSl H ⟨a, 3, none⟩ fun q20 q20n q20c =>
    ldStr H ⟨x, 0, none⟩ fun s14 =>
    ldStr H ⟨x, 1, none⟩ fun s15 =>
    ldBool H ⟨x, 2, none⟩ fun b5 =>
    ldInt H ⟨x, 3, none⟩ .i64 fun n15 =>
    ldInt H ⟨x, 4, none⟩ .i64 fun n16 =>
    ldInt H ⟨x, 5, none⟩ .i64 fun n17 =>
    newD H (.cells ⟨[(.string s14), (.string s15), (.bool b5), (.int .i64 n15), (.int .i64 n16)]⟩ 35) fun r10 H31 =>
    apD H31 5 56 [(.string (ByteArray.mk #[])), (.string (ByteArray.mk #[])), (.bool false), (.int .i64 (0 : Int)), (.int .i64 (0 : Int))] 35 q20 q20n q20c (some ⟨r10, 0, none⟩) 1 fun q21 q21n q21c H32 =>
    ldSl H32 ⟨a, 4, none⟩ fun q22 q22n q22c =>
    newD H32 (.cells ⟨[(.int .i64 n17)]⟩ 3) fun r11 H33 =>
    apD H33 1 8 [(.int .i64 (0 : Int))] 3 q22 q22n q22c (some ⟨r11, 0, none⟩) 1 fun q23 q23n q23c H34 =>
    st1 H34 ⟨a, 3, none⟩ (.slice q21 q21n q21c) fun H35 =>
    st1 H35 ⟨a, 4, none⟩ (.slice q23 q23n q23c) fun H36 =>
    L2 most s4 a s8 s8n s8c s9 s10 H36 R) ∧
  (
    ldSl H ⟨a, 3, none⟩ fun q24 q24n q24c =>
    ldStr H ⟨x, 0, none⟩ fun s16 =>
    ldStr H ⟨x, 1, none⟩ fun s17 =>
    ldBool H ⟨x, 2, none⟩ fun b6 =>
    ldInt H ⟨x, 3, none⟩ .i64 fun n18 =>
    ldInt H ⟨x, 4, none⟩ .i64 fun n19 =>
    ldInt H ⟨x, 5, none⟩ .i64 fun n20 =>
    newD H (.cells ⟨[(.int .i64 n20)]⟩ 3) fun r12 H37 =>
    newD H37 (.cells ⟨[(.string s16), (.string s17), (.bool b6), (.int .i64 n18), (.int .i64 n19)]⟩ 35) fun r13 H38 =>
    apD H38 5 56 [(.string (ByteArray.mk #[])), (.string (ByteArray.mk #[])), (.bool false), (.int .i64 (0 : Int)), (.int .i64 (0 : Int))] 35 q24 q24n q24c (some ⟨r13, 0, none⟩) 1 fun q25 q25n q25c H39 =>
    ldSl H39 ⟨a, 4, none⟩ fun q26 q26n q26c =>
    apD H39 1 8 [(.int .i64 (0 : Int))] 3 q26 q26n q26c (some ⟨r12, 0, none⟩) 1 fun q27 q27n q27c H40 =>
    st1 H40 ⟨a, 3, none⟩ (.slice q25 q25n q25c) fun H41 =>
    st1 H41 ⟨a, 4, none⟩ (.slice q27 q27n q27c) fun H42 =>
    L2 most s4 a s8 s8n s8c s9 s10 H42 R) ∧
  (
    ldSl H ⟨a, 3, none⟩ fun q28 q28n q28c =>
    ldStr H ⟨x, 0, none⟩ fun s18 =>
    ldStr H ⟨x, 1, none⟩ fun s19 =>
    ldBool H ⟨x, 2, none⟩ fun b7 =>
    ldInt H ⟨x, 3, none⟩ .i64 fun n21 =>
    ldInt H ⟨x, 4, none⟩ .i64 fun n22 =>
    newD H (.cells ⟨[(.string s18), (.string s19), (.bool b7), (.int .i64 n21), (.int .i64 n22)]⟩ 35) fun r14 H43 =>
    apD H43 5 56 [(.string (ByteArray.mk #[])), (.string (ByteArray.mk #[])), (.bool false), (.int .i64 (0 : Int)), (.int .i64 (0 : Int))] 35 q28 q28n q28c (some ⟨r14, 0, none⟩) 1 fun q29 q29n q29c H44 =>
    ldSl H44 ⟨a, 4, none⟩ fun q30 q30n q30c =>
    ldInt H44 ⟨x, 5, none⟩ .i64 fun n23 =>
    newD H44 (.cells ⟨[(.int .i64 n23)]⟩ 3) fun r15 H45 =>
    apD H45 1 8 [(.int .i64 (0 : Int))] 3 q30 q30n q30c (some ⟨r15, 0, none⟩) 1 fun q31 q31n q31c H46 =>
    st1 H46 ⟨a, 3, none⟩ (.slice q29 q29n q29c) fun H47 =>
    st1 H47 ⟨a, 4, none⟩ (.slice q31 q31n q31c) fun H48 =>
    L2 most s4 a s8 s8n s8c s9 s10 H48 R)
theorem L1_step {most : Int} {s4 : Nat} {a : Nat} {x : Nat} {s8 : Option Addr} {s8n : Nat} {s8c : Nat} {s9 : Int} {s10 : Int} {H : Heap} {R : Ending → Heap → Prop} (h : L1n most s4 a x s8 s8n s8c s9 s10 H R) : L1 most s4 a x s8 s8n s8c s9 s10 H R :=
  goL_of_den (an := an) (fuel := 100000) (X := L1n most s4 a x s8 s8n s8c s9 s10 H R) mixed fn (by kernel_rfl) (fun ρ0 => by kernel_rfl) h
def L2n (most : Int) (s4 : Nat) (a : Nat) (s8 : Option Addr) (s8n : Nat) (s8c : Nat) (s9 : Int) (s10 : Int) (H : Heap) (R : Ending → Heap → Prop) : Prop :=
  L0 most s4 a s8 s8n s8c s9 (IntKind.wrap .i64 (s10 + (1 : Int))) H R
theorem L2_step {most : Int} {s4 : Nat} {a : Nat} {s8 : Option Addr} {s8n : Nat} {s8c : Nat} {s9 : Int} {s10 : Int} {H : Heap} {R : Ending → Heap → Prop} (h : L2n most s4 a s8 s8n s8c s9 s10 H R) : L2 most s4 a s8 s8n s8c s9 s10 H R :=
  goL_of_den (an := an) (fuel := 100000) (X := L2n most s4 a s8 s8n s8c s9 s10 H R) mixed fn (by kernel_rfl) (fun ρ0 => by kernel_rfl) h
def go (l : Option Addr) (ln : Nat) (lc : Nat) (most : Int) (H : Heap) (R : Ending → Heap → Prop) : Prop :=
  newD H (.cells ⟨[(.bool false), (.int .i64 (0 : Int)), (.int .i64 (0 : Int)), (.slice none 0 0), (.slice none 0 0)]⟩ 40) fun r H1 =>
  newD H1 (.cells ⟨[(.bool false), (.int .i64 (0 : Int)), (.int .i64 (0 : Int)), (.slice none 0 0), (.slice none 0 0)]⟩ 40) fun r1 H2 =>
  L0 most r r1 l ln lc ((ln : Nat) : Int) (0 : Int) H2 R
theorem calls {l : Option Addr} {ln : Nat} {lc : Nat} {most : Int} {H : Heap} {R : Ending → Heap → Prop} (h : go l ln lc most H R) : CallsH Try.prog 63 ⟨[(.slice l ln lc), (.int .i64 most)]⟩ H R :=
  callsH_of_den (an := an) (fuel := 100000) (X := go l ln lc most H R) (c := body) mixed fn (by kernel_rfl) (by kernel_rfl) (by kernel_rfl) ok (by kernel_rfl) h
end F63
/-! ### 64 "(*pub-stadtholder/spec.Pieces).Meeting" -/
namespace F64
def an : Ann := { kinds := [], taus := [(5, [[0, 1, 2, 4, 3, 5, 6, 7]])], pairs := [], lab := [(40000004, [0, 3, 5, 11, 12, 13]), (40000008, [0, 3, 5, 11, 12, 13])] }
noncomputable def body : Code := (Try.f64.body).getD .skip
theorem fn : Try.prog.funcs[64]? = some Try.f64 := by kernel_rfl
theorem ok : codeOk an 31 body = true := by kernel_rfl
noncomputable def L0t : List Item := [.code (sub [1, 1, 0, 1, 0, 0] body), .inLoop (sub [1, 1, 0, 1, 0, 0] body), .inBlock 0, .code (sub [1, 1, 1] body)]
def L0 (p : Option Addr) (s : Nat) (out : Option Addr) (outn : Nat) (outc : Nat) (s11 : Option Addr) (s11n : Nat) (s11c : Nat) (s12 : Int) (s13 : Int) (H : Heap) (R : Ending → Heap → Prop) : Prop :=
  GoL Try.prog 64 31 L0t [0, 3, 5, 11, 12, 13] [(.pointer p), (.pointer (some ⟨s, 0, none⟩)), (.slice out outn outc), (.slice s11 s11n s11c), (.int .i64 s12), (.int .i64 s13)] H R
noncomputable def L1t : List Item := [.code (sub [1, 1, 0, 1, 0, 0, 1, 1, 1] body), .inLoop (sub [1, 1, 0, 1, 0, 0] body), .inBlock 0, .code (sub [1, 1, 1] body)]
def L1 (p : Option Addr) (s : Nat) (out : Option Addr) (outn : Nat) (outc : Nat) (s11 : Option Addr) (s11n : Nat) (s11c : Nat) (s12 : Int) (s13 : Int) (H : Heap) (R : Ending → Heap → Prop) : Prop :=
  GoL Try.prog 64 31 L1t [0, 3, 5, 11, 12, 13] [(.pointer p), (.pointer (some ⟨s, 0, none⟩)), (.slice out outn outc), (.slice s11 s11n s11c), (.int .i64 s12), (.int .i64 s13)] H R
def L0n (p : Option Addr) (s : Nat) (out : Option Addr) (outn : Nat) (outc : Nat) (s11 : Option Addr) (s11n : Nat) (s11c : Nat) (s12 : Int) (s13 : Int) (H : Heap) (R : Ending → Heap → Prop) : Prop :=
  iteB (decide (s13 < s12)) (
    idxD s11 s11n s13 fun a =>
    ldStr H (Addr.add a (Int.toNat s13 * 6)) fun s1 =>
    ldStr H (Addr.add (Addr.add a (Int.toNat s13 * 6)) 1) fun s2 =>
    ldBool H (Addr.add (Addr.add a (Int.toNat s13 * 6)) 2) fun b =>
    ldInt H (Addr.add (Addr.add a (Int.toNat s13 * 6)) 3) .i64 fun n =>
    ldInt H (Addr.add (Addr.add a (Int.toNat s13 * 6)) 4) .i64 fun n1 =>
    ldInt H (Addr.add (Addr.add a (Int.toNat s13 * 6)) 5) .i64 fun n2 =>
    newD H (.cells ⟨[(.string (ByteArray.mk #[])), (.string (ByteArray.mk #[])), (.bool false), (.int .i64 (0 : Int)), (.int .i64 (0 : Int)), (.int .i64 (0 : Int))]⟩ 71) fun r H1 =>
    st1 H1 ⟨r, 0, none⟩ (.string s1) fun H2 =>
    st1 H2 ⟨r, 1, none⟩ (.string s2) fun H3 =>
    st1 H3 ⟨r, 2, none⟩ (.bool b) fun H4 =>
    st1 H4 ⟨r, 3, none⟩ (.int .i64 n) fun H5 =>
    st1 H5 ⟨r, 4, none⟩ (.int .i64 n1) fun H6 =>
    st1 H6 ⟨r, 5, none⟩ (.int .i64 n2) fun H7 =>
    nilD p fun a1 =>
    ldInt H7 a1 .i64 fun n3 =>
    ldStr H7 ⟨r, 0, none⟩ fun s3 =>
    ldStr H7 ⟨r, 1, none⟩ fun s4 =>
    ldBool H7 ⟨r, 2, none⟩ fun b1 =>
    ldInt H7 ⟨r, 3, none⟩ .i64 fun n4 =>
    ldInt H7 ⟨r, 4, none⟩ .i64 fun n5 =>
    ldStr H7 ⟨s, 0, none⟩ fun s5 =>
    ldStr H7 ⟨s, 1, none⟩ fun s6 =>
    ldBool H7 ⟨s, 2, none⟩ fun b2 =>
    ldInt H7 ⟨s, 3, none⟩ .i64 fun n6 =>
    ldInt H7 ⟨s, 4, none⟩ .i64 fun n7 =>
    callD Try.prog 43 [(.int .i64 n3), (.agg ⟨[(.string s3), (.string s4), (.bool b1), (.int .i64 n4), (.int .i64 n5)]⟩), (.agg ⟨[(.string s5), (.string s6), (.bool b2), (.int .i64 n6), (.int .i64 n7)]⟩)] H7 (panK R) fun v H8 =>
    tBool v fun b3 =>
    iteB b3 (
      ldStr H8 ⟨r, 0, none⟩ fun s7 =>
      ldStr H8 ⟨r, 1, none⟩ fun s8 =>
      ldBool H8 ⟨r, 2, none⟩ fun b4 =>
      ldInt H8 ⟨r, 3, none⟩ .i64 fun n8 =>
      ldInt H8 ⟨r, 4, none⟩ .i64 fun n9 =>
      ldInt H8 ⟨r, 5, none⟩ .i64 fun n10 =>
      newD H8 (.cells ⟨[(.string s7), (.string s8), (.bool b4), (.int .i64 n8), (.int .i64 n9), (.int .i64 n10)]⟩ 71) fun r1 H9 =>
      apD H9 6 64 [(.string (ByteArray.mk #[])), (.string (ByteArray.mk #[])), (.bool false), (.int .i64 (0 : Int)), (.int .i64 (0 : Int)), (.int .i64 (0 : Int))] 71 out outn outc (some ⟨r1, 0, none⟩) 1 fun q qn qc H10 =>
      L1 p s q qn qc s11 s11n s11c s12 s13 H10 R) <|
    L1 p s out outn outc s11 s11n s11c s12 s13 H8 R) <|
  R (.returned (.slice out outn outc)) H
theorem L0_step {p : Option Addr} {s : Nat} {out : Option Addr} {outn : Nat} {outc : Nat} {s11 : Option Addr} {s11n : Nat} {s11c : Nat} {s12 : Int} {s13 : Int} {H : Heap} {R : Ending → Heap → Prop} (h : L0n p s out outn outc s11 s11n s11c s12 s13 H R) : L0 p s out outn outc s11 s11n s11c s12 s13 H R :=
  goL_of_den (an := an) (fuel := 100000) (X := L0n p s out outn outc s11 s11n s11c s12 s13 H R) mixed fn (by kernel_rfl) (fun ρ0 => by kernel_rfl) h
def L1n (p : Option Addr) (s : Nat) (out : Option Addr) (outn : Nat) (outc : Nat) (s11 : Option Addr) (s11n : Nat) (s11c : Nat) (s12 : Int) (s13 : Int) (H : Heap) (R : Ending → Heap → Prop) : Prop :=
  L0 p s out outn outc s11 s11n s11c s12 (IntKind.wrap .i64 (s13 + (1 : Int))) H R
theorem L1_step {p : Option Addr} {s : Nat} {out : Option Addr} {outn : Nat} {outc : Nat} {s11 : Option Addr} {s11n : Nat} {s11c : Nat} {s12 : Int} {s13 : Int} {H : Heap} {R : Ending → Heap → Prop} (h : L1n p s out outn outc s11 s11n s11c s12 s13 H R) : L1 p s out outn outc s11 s11n s11c s12 s13 H R :=
  goL_of_den (an := an) (fuel := 100000) (X := L1n p s out outn outc s11 s11n s11c s12 s13 H R) mixed fn (by kernel_rfl) (fun ρ0 => by kernel_rfl) h
def go (p : Option Addr) (s_0 : ByteArray) (s_1 : ByteArray) (s_2 : Bool) (s_3 : Int) (s_4 : Int) (H : Heap) (R : Ending → Heap → Prop) : Prop :=
  newD H (.cells ⟨[(.string s_0), (.string s_1), (.bool s_2), (.int .i64 s_3), (.int .i64 s_4)]⟩ 35) fun r H1 =>
  nilD p fun a =>
  ldSl H1 (Addr.add a 1) fun q qn qc =>
  L0 p r none 0 0 q qn qc ((qn : Nat) : Int) (0 : Int) H1 R
theorem calls {p : Option Addr} {s_0 : ByteArray} {s_1 : ByteArray} {s_2 : Bool} {s_3 : Int} {s_4 : Int} {H : Heap} {R : Ending → Heap → Prop} (h : go p s_0 s_1 s_2 s_3 s_4 H R) : CallsH Try.prog 64 ⟨[(.pointer p), (.agg ⟨[(.string s_0), (.string s_1), (.bool s_2), (.int .i64 s_3), (.int .i64 s_4)]⟩)]⟩ H R :=
  callsH_of_den (an := an) (fuel := 100000) (X := go p s_0 s_1 s_2 s_3 s_4 H R) (c := body) mixed fn (by kernel_rfl) (by kernel_rfl) (by kernel_rfl) ok (by kernel_rfl) h
end F64
/-! ### 65 "(*pub-stadtholder/spec.Pieces).Covers" -/
namespace F65
def an : Ann := { kinds := [], taus := [(7, [[0, 1, 2, 4, 5, 7, 8, 9, 11, 13, 14, 3, 6, 10, 12, 15, 16, 17, 18, 19, 20, 21, 23, 24, 25, 27, 28, 30, 31, 33, 22, 26, 29, 32, 34, 35, 36, 37, 38]])], pairs := [], lab := [(40000006, [0, 5, 22, 23, 24]), (60000009, [0, 5, 7, 8, 22, 23, 24]), (40000011, [0, 5, 22, 23, 24])] }
noncomputable def body : Code := (Try.f65.body).getD .skip
theorem fn : Try.prog.funcs[65]? = some Try.f65 := by kernel_rfl
theorem ok : codeOk an 80 body = true := by kernel_rfl
noncomputable def L0t : List Item := [.code (sub [1, 1, 1, 0, 1, 0, 0] body), .inLoop (sub [1, 1, 1, 0, 1, 0, 0] body), .inBlock 0, .code (sub [1, 1, 1, 1] body)]
def L0 (s0 : Option Addr) (s5 : Nat) (s22 : Option Addr) (s22n : Nat) (s22c : Nat) (s23 : Int) (s24 : Int) (H : Heap) (R : Ending → Heap → Prop) : Prop :=
  GoL Try.prog 65 80 L0t [0, 5, 22, 23, 24] [(.pointer s0), (.pointer (some ⟨s5, 0, none⟩)), (.slice s22 s22n s22c), (.int .i64 s23), (.int .i64 s24)] H R
noncomputable def L1t : List Item := [.code (sub [1, 1, 1, 0, 1, 0, 0, 1, 1, 0, 0, 1, 1] body), .inBlock 1, .code (sub [1, 1, 1, 0, 1, 0, 0, 1, 1, 1] body), .inLoop (sub [1, 1, 1, 0, 1, 0, 0] body), .inBlock 0, .code (sub [1, 1, 1, 1] body)]
def L1 (s0 : Option Addr) (s5 : Nat) (s7 : Nat) (s8 : Bool) (s22 : Option Addr) (s22n : Nat) (s22c : Nat) (s23 : Int) (s24 : Int) (H : Heap) (R : Ending → Heap → Prop) : Prop :=
  GoL Try.prog 65 80 L1t [0, 5, 7, 8, 22, 23, 24] [(.pointer s0), (.pointer (some ⟨s5, 0, none⟩)), (.pointer (some ⟨s7, 0, none⟩)), (.bool s8), (.slice s22 s22n s22c), (.int .i64 s23), (.int .i64 s24)] H R
noncomputable def L2t : List Item := [.code (sub [1, 1, 1, 0, 1, 0, 0, 1, 1, 1] body), .inLoop (sub [1, 1, 1, 0, 1, 0, 0] body), .inBlock 0, .code (sub [1, 1, 1, 1] body)]
def L2 (s0 : Option Addr) (s5 : Nat) (s22 : Option Addr) (s22n : Nat) (s22c : Nat) (s23 : Int) (s24 : Int) (H : Heap) (R : Ending → Heap → Prop) : Prop :=
  GoL Try.prog 65 80 L2t [0, 5, 22, 23, 24] [(.pointer s0), (.pointer (some ⟨s5, 0, none⟩)), (.slice s22 s22n s22c), (.int .i64 s23), (.int .i64 s24)] H R
def L0n (s0 : Option Addr) (s5 : Nat) (s22 : Option Addr) (s22n : Nat) (s22c : Nat) (s23 : Int) (s24 : Int) (H : Heap) (R : Ending → Heap → Prop) : Prop :=
  iteB (decide (s24 < s23)) (
    idxD s22 s22n s24 fun a =>
    ldStr H (Addr.add a (Int.toNat s24 * 6)) fun s =>
    ldStr H (Addr.add (Addr.add a (Int.toNat s24 * 6)) 1) fun s1 =>
    ldBool H (Addr.add (Addr.add a (Int.toNat s24 * 6)) 2) fun b =>
    ldInt H (Addr.add (Addr.add a (Int.toNat s24 * 6)) 3) .i64 fun n =>
    ldInt H (Addr.add (Addr.add a (Int.toNat s24 * 6)) 4) .i64 fun n1 =>
    ldInt H (Addr.add (Addr.add a (Int.toNat s24 * 6)) 5) .i64 fun n2 =>
    newD H (.cells ⟨[(.string (ByteArray.mk #[])), (.string (ByteArray.mk #[])), (.bool false), (.int .i64 (0 : Int)), (.int .i64 (0 : Int)), (.int .i64 (0 : Int))]⟩ 71) fun r H1 =>
    st1 H1 ⟨r, 0, none⟩ (.string s) fun H2 =>
    st1 H2 ⟨r, 1, none⟩ (.string s1) fun H3 =>
    st1 H3 ⟨r, 2, none⟩ (.bool b) fun H4 =>
    st1 H4 ⟨r, 3, none⟩ (.int .i64 n) fun H5 =>
    st1 H5 ⟨r, 4, none⟩ (.int .i64 n1) fun H6 =>
    st1 H6 ⟨r, 5, none⟩ (.int .i64 n2) fun H7 =>
    nilD s0 fun a1 =>
    ldInt H7 a1 .i64 fun n3 =>
    ldStr H7 ⟨s5, 0, none⟩ fun s2 =>
    ldStr H7 ⟨r, 1, none⟩ fun s3 =>
    ldInt H7 ⟨s5, 3, none⟩ .i64 fun n4 =>
    ldInt H7 ⟨r, 4, none⟩ .i64 fun n5 =>
    callD Try.prog 71 [(.int .i64 n3), (.string s2), (.string s3), (.int .i64 n4), (.int .i64 n5)] H7 (panK R) fun v H8 =>
    tInt v .i64 fun n6 =>
    iteB (decide (n6 ≤ (0 : Int))) (
      nilD s0 fun a2 =>
      ldInt H8 a2 .i64 fun n7 =>
      ldStr H8 ⟨r, 1, none⟩ fun s4 =>
      ldStr H8 ⟨s5, 1, none⟩ fun s6 =>
      ldInt H8 ⟨r, 4, none⟩ .i64 fun n8 =>
      ldInt H8 ⟨s5, 4, none⟩ .i64 fun n9 =>
      callD Try.prog 71 [(.int .i64 n7), (.string s4), (.string s6), (.int .i64 n8), (.int .i64 n9)] H8 (panK R) fun v1 H9 =>
      tInt v1 .i64 fun n10 =>
      L1 s0 s5 r (decide (n10 < (0 : Int))) s22 s22n s22c s23 s24 H9 R) <|
    L1 s0 s5 r false s22 s22n s22c s23 s24 H8 R) <|
  R (.returned (.bool true)) H
theorem L0_step {s0 : Option Addr} {s5 : Nat} {s22 : Option Addr} {s22n : Nat} {s22c : Nat} {s23 : Int} {s24 : Int} {H : Heap} {R : Ending → Heap → Prop} (h : L0n s0 s5 s22 s22n s22c s23 s24 H R) : L0 s0 s5 s22 s22n s22c s23 s24 H R :=
  goL_of_den (an := an) (fuel := 100000) (X := L0n s0 s5 s22 s22n s22c s23 s24 H R) mixed fn (by kernel_rfl) (fun ρ0 => by kernel_rfl) h
def L1n (s0 : Option Addr) (s5 : Nat) (s7 : Nat) (s8 : Bool) (s22 : Option Addr) (s22n : Nat) (s22c : Nat) (s23 : Int) (s24 : Int) (H : Heap) (R : Ending → Heap → Prop) : Prop :=
  iteB s8 (
    ldStr H ⟨s7, 1, none⟩ fun s =>
    ldInt H ⟨s7, 4, none⟩ .i64 fun n =>
    callD Try.prog 86 [(.pointer s0), (.string s), (.int .i64 n)] H (panK R) fun v H1 =>
    tBool v fun b =>
    iteB (!b) (
      R (.returned (.bool false)) H1) <|
    L2 s0 s5 s22 s22n s22c s23 s24 H1 R) <|
  L2 s0 s5 s22 s22n s22c s23 s24 H R
theorem L1_step {s0 : Option Addr} {s5 : Nat} {s7 : Nat} {s8 : Bool} {s22 : Option Addr} {s22n : Nat} {s22c : Nat} {s23 : Int} {s24 : Int} {H : Heap} {R : Ending → Heap → Prop} (h : L1n s0 s5 s7 s8 s22 s22n s22c s23 s24 H R) : L1 s0 s5 s7 s8 s22 s22n s22c s23 s24 H R :=
  goL_of_den (an := an) (fuel := 100000) (X := L1n s0 s5 s7 s8 s22 s22n s22c s23 s24 H R) mixed fn (by kernel_rfl) (fun ρ0 => by kernel_rfl) h
def L2n (s0 : Option Addr) (s5 : Nat) (s22 : Option Addr) (s22n : Nat) (s22c : Nat) (s23 : Int) (s24 : Int) (H : Heap) (R : Ending → Heap → Prop) : Prop :=
  L0 s0 s5 s22 s22n s22c s23 (IntKind.wrap .i64 (s24 + (1 : Int))) H R
theorem L2_step {s0 : Option Addr} {s5 : Nat} {s22 : Option Addr} {s22n : Nat} {s22c : Nat} {s23 : Int} {s24 : Int} {H : Heap} {R : Ending → Heap → Prop} (h : L2n s0 s5 s22 s22n s22c s23 s24 H R) : L2 s0 s5 s22 s22n s22c s23 s24 H R :=
  goL_of_den (an := an) (fuel := 100000) (X := L2n s0 s5 s22 s22n s22c s23 s24 H R) mixed fn (by kernel_rfl) (fun ρ0 => by kernel_rfl) h
def go (s0 : Option Addr) (s1_0 : ByteArray) (s1_1 : ByteArray) (s1_2 : Bool) (s1_3 : Int) (s1_4 : Int) (H : Heap) (R : Ending → Heap → Prop) : Prop :=
  newD H (.cells ⟨[(.string s1_0), (.string s1_1), (.bool s1_2), (.int .i64 s1_3), (.int .i64 s1_4)]⟩ 35) fun r H1 =>
  ldStr H1 ⟨r, 0, none⟩ fun s =>
  ldStr H1 ⟨r, 1, none⟩ fun s1 =>
  ldBool H1 ⟨r, 2, none⟩ fun b =>
  ldInt H1 ⟨r, 3, none⟩ .i64 fun n =>
  ldInt H1 ⟨r, 4, none⟩ .i64 fun n1 =>
  callD Try.prog 67 [(.agg ⟨[(.string s), (.string s1), (.bool b), (.int .i64 n), (.int .i64 n1)]⟩)] H1 (panK R) fun v H2 =>
  tAgg v fun l =>
  tCons l fun c l1 =>
  tStr c fun s2 =>
  tCons l1 fun c1 l2 =>
  tStr c1 fun s3 =>
  tCons l2 fun c2 l3 =>
  tBool c2 fun b1 =>
  tCons l3 fun c3 l4 =>
  tInt c3 .i64 fun n2 =>
  tCons l4 fun c4 l5 =>
  tInt c4 .i64 fun n3 =>
  tNil l5 <|
  newD H2 (.cells ⟨[(.string (ByteArray.mk #[])), (.string (ByteArray.mk #[])), (.bool false), (.int .i64 (0 : Int)), (.int .i64 (0 : Int))]⟩ 35) fun r1 H3 =>
  st1 H3 ⟨r1, 0, none⟩ (.string s2) fun H4 =>
  st1 H4 ⟨r1, 1, none⟩ (.string s3) fun H5 =>
  st1 H5 ⟨r1, 2, none⟩ (.bool b1) fun H6 =>
  st1 H6 ⟨r1, 3, none⟩ (.int .i64 n2) fun H7 =>
  st1 H7 ⟨r1, 4, none⟩ (.int .i64 n3) fun H8 =>
  ldStr H8 ⟨r1, 0, none⟩ fun s4 =>
  ldInt H8 ⟨r1, 3, none⟩ .i64 fun n4 =>
  callD Try.prog 86 [(.pointer s0), (.string s4), (.int .i64 n4)] H8 (panK R) fun v1 H9 =>
  tBool v1 fun b2 =>
  iteB (!b2) (
    R (.returned (.bool false)) H9) <|
  nilD s0 fun a =>
  ldSl H9 (Addr.add a 1) fun q qn qc =>
  L0 s0 r1 q qn qc ((qn : Nat) : Int) (0 : Int) H9 R
theorem calls {s0 : Option Addr} {s1_0 : ByteArray} {s1_1 : ByteArray} {s1_2 : Bool} {s1_3 : Int} {s1_4 : Int} {H : Heap} {R : Ending → Heap → Prop} (h : go s0 s1_0 s1_1 s1_2 s1_3 s1_4 H R) : CallsH Try.prog 65 ⟨[(.pointer s0), (.agg ⟨[(.string s1_0), (.string s1_1), (.bool s1_2), (.int .i64 s1_3), (.int .i64 s1_4)]⟩)]⟩ H R :=
  callsH_of_den (an := an) (fuel := 100000) (X := go s0 s1_0 s1_1 s1_2 s1_3 s1_4 H R) (c := body) mixed fn (by kernel_rfl) (by kernel_rfl) (by kernel_rfl) ok (by kernel_rfl) h
end F65
/-! ### 66 "pub-stadtholder/spec.Proper" -/
namespace F66
def an : Ann := { kinds := [], taus := [], pairs := [], lab := [] }
noncomputable def body : Code := (Try.f66.body).getD .skip
theorem fn : Try.prog.funcs[66]? = some Try.f66 := by kernel_rfl
theorem ok : codeOk an 21 body = true := by kernel_rfl
def go (order : Int) (s_0 : ByteArray) (s_1 : ByteArray) (s_2 : Bool) (s_3 : Int) (s_4 : Int) (H : Heap) (R : Ending → Heap → Prop) : Prop :=
  newD H (.cells ⟨[(.string s_0), (.string s_1), (.bool s_2), (.int .i64 s_3), (.int .i64 s_4)]⟩ 35) fun r H1 =>
  ldStr H1 ⟨r, 0, none⟩ fun s =>
  ldStr H1 ⟨r, 1, none⟩ fun s1 =>
  ldBool H1 ⟨r, 2, none⟩ fun b =>
  ldInt H1 ⟨r, 3, none⟩ .i64 fun n =>
  ldInt H1 ⟨r, 4, none⟩ .i64 fun n1 =>
  callD Try.prog 67 [(.agg ⟨[(.string s), (.string s1), (.bool b), (.int .i64 n), (.int .i64 n1)]⟩)] H1 (panK R) fun v H2 =>
  tAgg v fun l =>
  tCons l fun c l1 =>
  tStr c fun s2 =>
  tCons l1 fun c1 l2 =>
  tStr c1 fun s3 =>
  tCons l2 fun c2 l3 =>
  tBool c2 fun b1 =>
  tCons l3 fun c3 l4 =>
  tInt c3 .i64 fun n2 =>
  tCons l4 fun c4 l5 =>
  tInt c4 .i64 fun n3 =>
  tNil l5 <|
  newD H2 (.cells ⟨[(.string (ByteArray.mk #[])), (.string (ByteArray.mk #[])), (.bool false), (.int .i64 (0 : Int)), (.int .i64 (0 : Int))]⟩ 35) fun r1 H3 =>
  st1 H3 ⟨r1, 0, none⟩ (.string s2) fun H4 =>
  st1 H4 ⟨r1, 1, none⟩ (.string s3) fun H5 =>
  st1 H5 ⟨r1, 2, none⟩ (.bool b1) fun H6 =>
  st1 H6 ⟨r1, 3, none⟩ (.int .i64 n2) fun H7 =>
  st1 H7 ⟨r1, 4, none⟩ (.int .i64 n3) fun H8 =>
  ldStr H8 ⟨r1, 0, none⟩ fun s4 =>
  ldStr H8 ⟨r1, 1, none⟩ fun s5 =>
  ldInt H8 ⟨r1, 3, none⟩ .i64 fun n4 =>
  ldInt H8 ⟨r1, 4, none⟩ .i64 fun n5 =>
  callD Try.prog 71 [(.int .i64 order), (.string s4), (.string s5), (.int .i64 n4), (.int .i64 n5)] H8 (panK R) fun v1 H9 =>
  tInt v1 .i64 fun n6 =>
  R (.returned (.bool (decide (n6 < (0 : Int))))) H9
theorem calls {order : Int} {s_0 : ByteArray} {s_1 : ByteArray} {s_2 : Bool} {s_3 : Int} {s_4 : Int} {H : Heap} {R : Ending → Heap → Prop} (h : go order s_0 s_1 s_2 s_3 s_4 H R) : CallsH Try.prog 66 ⟨[(.int .i64 order), (.agg ⟨[(.string s_0), (.string s_1), (.bool s_2), (.int .i64 s_3), (.int .i64 s_4)]⟩)]⟩ H R :=
  callsH_of_den (an := an) (fuel := 100000) (X := go order s_0 s_1 s_2 s_3 s_4 H R) (c := body) mixed fn (by kernel_rfl) (by kernel_rfl) (by kernel_rfl) ok (by kernel_rfl) h
end F66
/-! ### 67 "pub-stadtholder/spec.Plain" -/
namespace F67
def an : Ann := { kinds := [], taus := [], pairs := [], lab := [] }
noncomputable def body : Code := (Try.f67.body).getD .skip
theorem fn : Try.prog.funcs[67]? = some Try.f67 := by kernel_rfl
theorem ok : codeOk an 16 body = true := by kernel_rfl
def go (s_0 : ByteArray) (s_1 : ByteArray) (s_2 : Bool) (s_3 : Int) (s_4 : Int) (H : Heap) (R : Ending → Heap → Prop) : Prop :=
  newD H (.cells ⟨[(.string s_0), (.string s_1), (.bool s_2), (.int .i64 s_3), (.int .i64 s_4)]⟩ 35) fun r H1 =>
  newD H1 (.cells ⟨[(.string (ByteArray.mk #[])), (.string (ByteArray.mk #[])), (.bool false), (.int .i64 (0 : Int)), (.int .i64 (0 : Int))]⟩ 35) fun r1 H2 =>
  ldBool H2 ⟨r, 2, none⟩ fun b =>
  iteB b (
    ldStr H2 ⟨r, 0, none⟩ fun s =>
    ldStr H2 ⟨r, 0, none⟩ fun s1 =>
    catD s1 (ByteArray.mk #[0]) fun s2 =>
    st1 H2 ⟨r, 0, none⟩ (.string s) fun H3 =>
    st1 H3 ⟨r, 1, none⟩ (.string s2) fun H4 =>
    st1 H4 ⟨r, 2, none⟩ (.bool false) fun H5 =>
    ldStr H5 ⟨r, 0, none⟩ fun s3 =>
    ldStr H5 ⟨r, 1, none⟩ fun s4 =>
    ldBool H5 ⟨r, 2, none⟩ fun b1 =>
    ldInt H5 ⟨r, 3, none⟩ .i64 fun n =>
    ldInt H5 ⟨r, 4, none⟩ .i64 fun n1 =>
    st1 H5 ⟨r1, 0, none⟩ (.string s3) fun H6 =>
    st1 H6 ⟨r1, 1, none⟩ (.string s4) fun H7 =>
    st1 H7 ⟨r1, 2, none⟩ (.bool b1) fun H8 =>
    st1 H8 ⟨r1, 3, none⟩ (.int .i64 n) fun H9 =>
    st1 H9 ⟨r1, 4, none⟩ (.int .i64 n1) fun H10 =>
    ldStr H10 ⟨r1, 0, none⟩ fun s5 =>
    ldStr H10 ⟨r1, 1, none⟩ fun s6 =>
    ldBool H10 ⟨r1, 2, none⟩ fun b2 =>
    ldInt H10 ⟨r1, 3, none⟩ .i64 fun n2 =>
    ldInt H10 ⟨r1, 4, none⟩ .i64 fun n3 =>
    R (.returned (.agg ⟨[(.string s5), (.string s6), (.bool b2), (.int .i64 n2), (.int .i64 n3)]⟩)) H10) <|
  ldStr H2 ⟨r, 0, none⟩ fun s7 =>
  ldStr H2 ⟨r, 1, none⟩ fun s8 =>
  ldBool H2 ⟨r, 2, none⟩ fun b3 =>
  ldInt H2 ⟨r, 3, none⟩ .i64 fun n4 =>
  ldInt H2 ⟨r, 4, none⟩ .i64 fun n5 =>
  st1 H2 ⟨r1, 0, none⟩ (.string s7) fun H11 =>
  st1 H11 ⟨r1, 1, none⟩ (.string s8) fun H12 =>
  st1 H12 ⟨r1, 2, none⟩ (.bool b3) fun H13 =>
  st1 H13 ⟨r1, 3, none⟩ (.int .i64 n4) fun H14 =>
  st1 H14 ⟨r1, 4, none⟩ (.int .i64 n5) fun H15 =>
  ldStr H15 ⟨r1, 0, none⟩ fun s9 =>
  ldStr H15 ⟨r1, 1, none⟩ fun s10 =>
  ldBool H15 ⟨r1, 2, none⟩ fun b4 =>
  ldInt H15 ⟨r1, 3, none⟩ .i64 fun n6 =>
  ldInt H15 ⟨r1, 4, none⟩ .i64 fun n7 =>
  R (.returned (.agg ⟨[(.string s9), (.string s10), (.bool b4), (.int .i64 n6), (.int .i64 n7)]⟩)) H15
theorem calls {s_0 : ByteArray} {s_1 : ByteArray} {s_2 : Bool} {s_3 : Int} {s_4 : Int} {H : Heap} {R : Ending → Heap → Prop} (h : go s_0 s_1 s_2 s_3 s_4 H R) : CallsH Try.prog 67 ⟨[(.agg ⟨[(.string s_0), (.string s_1), (.bool s_2), (.int .i64 s_3), (.int .i64 s_4)]⟩)]⟩ H R :=
  callsH_of_den (an := an) (fuel := 100000) (X := go s_0 s_1 s_2 s_3 s_4 H R) (c := body) mixed fn (by kernel_rfl) (by kernel_rfl) (by kernel_rfl) ok (by kernel_rfl) h
end F67
/-! ### 69 "pub-stadtholder/impl.treed$1" -/
namespace F69
def an : Ann := { kinds := [(6, .grow), (7, .grow), (1006, .heavy 0), (1007, .grow)], taus := [(0, [[0, 2, 3, 4, 1, 5, 6, 7, 8, 9, 10]]), (1, [[0, 2, 3, 4, 1, 5, 6, 7, 8, 9, 10], [0, 2, 3, 4, 5, 6, 1, 7, 8, 9, 10]])], pairs := [(1, [(1, 6)])], lab := [] }
noncomputable def body : Code := (Try.f69.body).getD .skip
theorem fn : Try.prog.funcs[69]? = some Try.f69 := by kernel_rfl
theorem ok : codeOk an 23 body = true := by kernel_rfl
def go (n : Option Addr) (s1 : Addr) (H : Heap) (R : Ending → Heap → Prop) : Prop :=
  nilD n fun a =>
  ldSl H (Addr.add s1 3) fun q qn qc =>
  ldIf H a fun i =>
  ldIf H (Addr.add a 1) fun i1 =>
  callD Try.prog 52 [(.agg ⟨[(IV.v i), (IV.v i1)]⟩)] H nope fun v H1 =>
  tAgg v fun l =>
  tCons l fun c l1 =>
  tStr c fun s =>
  tCons l1 fun c1 l2 =>
  tStr c1 fun s2 =>
  tCons l2 fun c2 l3 =>
  tBool c2 fun b =>
  tCons l3 fun c3 l4 =>
  tInt c3 .i64 fun n1 =>
  tCons l4 fun c4 l5 =>
  tInt c4 .i64 fun n2 =>
  tNil l5 <|
  andD (ExtH H H1) <|
  newD H1 (.cells ⟨[(.string s), (.string s2), (.bool b), (.int .i64 n1), (.int .i64 n2)]⟩ 35) fun r H2 =>
  apD H2 5 56 [(.string (ByteArray.mk #[])), (.string (ByteArray.mk #[])), (.bool false), (.int .i64 (0 : Int)), (.int .i64 (0 : Int))] 35 q qn qc (some ⟨r, 0, none⟩) 1 fun q1 q1n q1c H3 =>
  st1 H3 (Addr.add s1 3) (.slice q1 q1n q1c) fun H4 =>
  (
    nilD n fun a1 =>
    ldSl H4 (Addr.add s1 4) fun q2 q2n q2c =>
    ldIf H4 (Addr.add a1 2) fun i2 =>
    valD Try.prog (Instr.typeAssert (IV.v i2) 20 3 false) H4 (panK R) fun v1 H5 =>
    tInt v1 .i64 fun n3 =>
    newD H5 (.cells ⟨[(.int .i64 n3)]⟩ 3) fun r1 H6 =>
    apD H6 1 8 [(.int .i64 (0 : Int))] 3 q2 q2n q2c (some ⟨r1, 0, none⟩) 1 fun q3 q3n q3c H7 =>
    st1 H7 (Addr.add s1 4) (.slice q3 q3n q3c) fun H8 =>
    R (.returned (.tuple ⟨[]⟩)) H8) ∧
  (
    nilD n fun a2 =>
    ldIf H4 (Addr.add a2 2) fun i3 =>
    valD Try.prog (Instr.typeAssert (IV.v i3) 20 3 false) H4 (panK R) fun v2 H9 =>
    tInt v2 .i64 fun n4 =>
    ldSl H9 (Addr.add s1 4) fun q4 q4n q4c =>
    newD H9 (.cells ⟨[(.int .i64 n4)]⟩ 3) fun r2 H10 =>
    apD H10 1 8 [(.int .i64 (0 : Int))] 3 q4 q4n q4c (some ⟨r2, 0, none⟩) 1 fun q5 q5n q5c H11 =>
    st1 H11 (Addr.add s1 4) (.slice q5 q5n q5c) fun H12 =>
    R (.returned (.tuple ⟨[]⟩)) H12)
theorem calls {n : Option Addr} {s1 : Addr} {H : Heap} {R : Ending → Heap → Prop} (h : go n s1 H R) : CallsH Try.prog 69 ⟨[(.pointer n), (.pointer (some s1))]⟩ H R :=
  callsH_of_den (an := an) (fuel := 100000) (X := go n s1 H R) (c := body) mixed fn (by kernel_rfl) (by kernel_rfl) (by kernel_rfl) ok (by kernel_rfl) h
end F69
/-! ### 70 "pub-stadtholder/impl.treed$2" -/
namespace F70
def an : Ann := { kinds := [], taus := [], pairs := [], lab := [] }
noncomputable def body : Code := (Try.f70.body).getD .skip
theorem fn : Try.prog.funcs[70]? = some Try.f70 := by kernel_rfl
theorem ok : codeOk an 20 body = true := by kernel_rfl
def go (n : Option Addr) (s1 : Addr) (s2 : Addr) (s3 : Addr) (H : Heap) (R : Ending → Heap → Prop) : Prop :=
  ldFn H s1 fun f =>
  callV Try.prog (FV.v f) [(.pointer n)] H (panK R) fun v H1 =>
  tTup v fun l =>
  tNil l <|
  ldInt H1 (Addr.add s2 7) .i64 fun n1 =>
  iteB (decide (n1 ≤ (0 : Int))) (
    R (.returned (.bool true)) H1) <|
  ldSl H1 (Addr.add s3 4) fun q qn qc =>
  ldInt H1 (Addr.add s2 7) .i64 fun n2 =>
  R (.returned (.bool (decide (((qn : Nat) : Int) < n2)))) H1
theorem calls {n : Option Addr} {s1 : Addr} {s2 : Addr} {s3 : Addr} {H : Heap} {R : Ending → Heap → Prop} (h : go n s1 s2 s3 H R) : CallsH Try.prog 70 ⟨[(.pointer n), (.pointer (some s1)), (.pointer (some s2)), (.pointer (some s3))]⟩ H R :=
  callsH_of_den (an := an) (fuel := 100000) (X := go n s1 s2 s3 H R) (c := body) mixed fn (by kernel_rfl) (by kernel_rfl) (by kernel_rfl) ok (by kernel_rfl) h
end F70
/-! ### 71 "pub-stadtholder/spec.Ends" -/
namespace F71
def an : Ann := { kinds := [], taus := [], pairs := [], lab := [(30000006, [1, 2]), (10000007, [11, 12])] }
noncomputable def body : Code := (Try.f71.body).getD .skip
theorem fn : Try.prog.funcs[71]? = some Try.f71 := by kernel_rfl
theorem ok : codeOk an 46 body = true := by kernel_rfl
noncomputable def L0t : List Item := [.code (sub [1, 1, 0, 0, 1, 1, 1, 0] body), .inBlock 0, .code (sub [1, 1, 1] body)]
def L0 (s : ByteArray) (t : ByteArray) (H : Heap) (R : Ending → Heap → Prop) : Prop :=
  GoL Try.prog 71 46 L0t [1, 2] [(.string s), (.string t)] H R
noncomputable def L1t : List Item := [.code (sub [1, 1, 1] body)]
def L1 (less : Bool) (more : Bool) (H : Heap) (R : Ending → Heap → Prop) : Prop :=
  GoL Try.prog 71 46 L1t [11, 12] [(.bool less), (.bool more)] H R
def L0n (s : ByteArray) (t : ByteArray) (H : Heap) (R : Ending → Heap → Prop) : Prop :=
  L1 (eqS t (ByteArray.mk #[])) (eqS s (ByteArray.mk #[])) H R
theorem L0_step {s : ByteArray} {t : ByteArray} {H : Heap} {R : Ending → Heap → Prop} (h : L0n s t H R) : L0 s t H R :=
  goL_of_den (an := an) (fuel := 100000) (X := L0n s t H R) mixed fn (by kernel_rfl) (fun ρ0 => by kernel_rfl) h
def L1n (less : Bool) (more : Bool) (H : Heap) (R : Ending → Heap → Prop) : Prop :=
  iteB less (
    R (.returned (.int .i64 (-1 : Int))) H) <|
  iteB more (
    R (.returned (.int .i64 (1 : Int))) H) <|
  R (.returned (.int .i64 (0 : Int))) H
theorem L1_step {less : Bool} {more : Bool} {H : Heap} {R : Ending → Heap → Prop} (h : L1n less more H R) : L1 less more H R :=
  goL_of_den (an := an) (fuel := 100000) (X := L1n less more H R) mixed fn (by kernel_rfl) (fun ρ0 => by kernel_rfl) h
def go (order : Int) (s : ByteArray) (t : ByteArray) (a : Int) (b : Int) (H : Heap) (R : Ending → Heap → Prop) : Prop :=
  iteB (order == (3 : Int)) (
    L1 (decide (a < b)) (decide (a > b)) H R) <|
  iteB (order != (0 : Int)) (
    iteB (!((eqS s (ByteArray.mk #[])) == (eqS t (ByteArray.mk #[])))) (
      L0 s t H R) <|
    L1 (ltS s t) (!(ltS s t || eqS s t)) H R) <|
  L1 (ltS s t) (!(ltS s t || eqS s t)) H R
theorem calls {order : Int} {s : ByteArray} {t : ByteArray} {a : Int} {b : Int} {H : Heap} {R : Ending → Heap → Prop} (h : go order s t a b H R) : CallsH Try.prog 71 ⟨[(.int .i64 order), (.string s), (.string t), (.int .i64 a), (.int .i64 b)]⟩ H R :=
  callsH_of_den (an := an) (fuel := 100000) (X := go order s t a b H R) (c := body) mixed fn (by kernel_rfl) (by kernel_rfl) (by kernel_rfl) ok (by kernel_rfl) h
end F71
/-! ### 86 "(*pub-stadtholder/spec.Pieces).has" -/
namespace F86
def an : Ann := { kinds := [], taus := [(4, [[0, 1, 2, 4, 5, 6, 8, 9, 10, 12, 3, 7, 11, 13, 14, 15, 16, 17, 18, 20, 21, 22, 23, 25, 26, 27, 19, 24, 28, 29, 30, 31]])], pairs := [], lab := [(40000003, [0, 1, 2, 12, 13, 14]), (40000007, [0, 1, 2, 12, 13, 14])] }
noncomputable def body : Code := (Try.f86.body).getD .skip
theorem fn : Try.prog.funcs[86]? = some Try.f86 := by kernel_rfl
theorem ok : codeOk an 51 body = true := by kernel_rfl
noncomputable def L0t : List Item := [.code (sub [1, 0, 1, 0, 0] body), .inLoop (sub [1, 0, 1, 0, 0] body), .inBlock 0, .code (sub [1, 1] body)]
def L0 (p : Option Addr) (text : ByteArray) (n : Int) (s12 : Option Addr) (s12n : Nat) (s12c : Nat) (s13 : Int) (s14 : Int) (H : Heap) (R : Ending → Heap → Prop) : Prop :=
  GoL Try.prog 86 51 L0t [0, 1, 2, 12, 13, 14] [(.pointer p), (.string text), (.int .i64 n), (.slice s12 s12n s12c), (.int .i64 s13), (.int .i64 s14)] H R
noncomputable def L1t : List Item := [.code (sub [1, 0, 1, 0, 0, 1, 1, 1] body), .inLoop (sub [1, 0, 1, 0, 0] body), .inBlock 0, .code (sub [1, 1] body)]
def L1 (p : Option Addr) (text : ByteArray) (n : Int) (s12 : Option Addr) (s12n : Nat) (s12c : Nat) (s13 : Int) (s14 : Int) (H : Heap) (R : Ending → Heap → Prop) : Prop :=
  GoL Try.prog 86 51 L1t [0, 1, 2, 12, 13, 14] [(.pointer p), (.string text), (.int .i64 n), (.slice s12 s12n s12c), (.int .i64 s13), (.int .i64 s14)] H R
def L0n (p : Option Addr) (text : ByteArray) (n : Int) (s12 : Option Addr) (s12n : Nat) (s12c : Nat) (s13 : Int) (s14 : Int) (H : Heap) (R : Ending → Heap → Prop) : Prop :=
  iteB (decide (s14 < s13)) (
    idxD s12 s12n s14 fun a =>
    ldStr H (Addr.add a (Int.toNat s14 * 6)) fun s =>
    ldStr H (Addr.add (Addr.add a (Int.toNat s14 * 6)) 1) fun s1 =>
    ldBool H (Addr.add (Addr.add a (Int.toNat s14 * 6)) 2) fun b =>
    ldInt H (Addr.add (Addr.add a (Int.toNat s14 * 6)) 3) .i64 fun n1 =>
    ldInt H (Addr.add (Addr.add a (Int.toNat s14 * 6)) 4) .i64 fun n2 =>
    ldInt H (Addr.add (Addr.add a (Int.toNat s14 * 6)) 5) .i64 fun n3 =>
    newD H (.cells ⟨[(.string (ByteArray.mk #[])), (.string (ByteArray.mk #[])), (.bool false), (.int .i64 (0 : Int)), (.int .i64 (0 : Int)), (.int .i64 (0 : Int))]⟩ 71) fun r H1 =>
    st1 H1 ⟨r, 0, none⟩ (.string s) fun H2 =>
    st1 H2 ⟨r, 1, none⟩ (.string s1) fun H3 =>
    st1 H3 ⟨r, 2, none⟩ (.bool b) fun H4 =>
    st1 H4 ⟨r, 3, none⟩ (.int .i64 n1) fun H5 =>
    st1 H5 ⟨r, 4, none⟩ (.int .i64 n2) fun H6 =>
    st1 H6 ⟨r, 5, none⟩ (.int .i64 n3) fun H7 =>
    nilD p fun a1 =>
    ldInt H7 a1 .i64 fun n4 =>
    ldStr H7 ⟨r, 0, none⟩ fun s2 =>
    ldInt H7 ⟨r, 3, none⟩ .i64 fun n5 =>
    callD Try.prog 71 [(.int .i64 n4), (.string s2), (.string text), (.int .i64 n5), (.int .i64 n)] H7 (panK R) fun v H8 =>
    tInt v .i64 fun n6 =>
    iteB (decide (n6 ≤ (0 : Int))) (
      nilD p fun a2 =>
      ldInt H8 a2 .i64 fun n7 =>
      ldStr H8 ⟨r, 1, none⟩ fun s3 =>
      ldInt H8 ⟨r, 4, none⟩ .i64 fun n8 =>
      callD Try.prog 71 [(.int .i64 n7), (.string text), (.string s3), (.int .i64 n), (.int .i64 n8)] H8 (panK R) fun v1 H9 =>
      tInt v1 .i64 fun n9 =>
      iteB (decide (n9 < (0 : Int))) (
        R (.returned (.bool true)) H9) <|
      L1 p text n s12 s12n s12c s13 s14 H9 R) <|
    L1 p text n s12 s12n s12c s13 s14 H8 R) <|
  R (.returned (.bool false)) H
theorem L0_step {p : Option Addr} {text : ByteArray} {n : Int} {s12 : Option Addr} {s12n : Nat} {s12c : Nat} {s13 : Int} {s14 : Int} {H : Heap} {R : Ending → Heap → Prop} (h : L0n p text n s12 s12n s12c s13 s14 H R) : L0 p text n s12 s12n s12c s13 s14 H R :=
  goL_of_den (an := an) (fuel := 100000) (X := L0n p text n s12 s12n s12c s13 s14 H R) mixed fn (by kernel_rfl) (fun ρ0 => by kernel_rfl) h
def L1n (p : Option Addr) (text : ByteArray) (n : Int) (s12 : Option Addr) (s12n : Nat) (s12c : Nat) (s13 : Int) (s14 : Int) (H : Heap) (R : Ending → Heap → Prop) : Prop :=
  L0 p text n s12 s12n s12c s13 (IntKind.wrap .i64 (s14 + (1 : Int))) H R
theorem L1_step {p : Option Addr} {text : ByteArray} {n : Int} {s12 : Option Addr} {s12n : Nat} {s12c : Nat} {s13 : Int} {s14 : Int} {H : Heap} {R : Ending → Heap → Prop} (h : L1n p text n s12 s12n s12c s13 s14 H R) : L1 p text n s12 s12n s12c s13 s14 H R :=
  goL_of_den (an := an) (fuel := 100000) (X := L1n p text n s12 s12n s12c s13 s14 H R) mixed fn (by kernel_rfl) (fun ρ0 => by kernel_rfl) h
def go (p : Option Addr) (text : ByteArray) (n : Int) (H : Heap) (R : Ending → Heap → Prop) : Prop :=
  nilD p fun a =>
  ldSl H (Addr.add a 1) fun q qn qc =>
  L0 p text n q qn qc ((qn : Nat) : Int) (0 : Int) H R
theorem calls {p : Option Addr} {text : ByteArray} {n : Int} {H : Heap} {R : Ending → Heap → Prop} (h : go p text n H R) : CallsH Try.prog 86 ⟨[(.pointer p), (.string text), (.int .i64 n)]⟩ H R :=
  callsH_of_den (an := an) (fuel := 100000) (X := go p text n H R) (c := body) mixed fn (by kernel_rfl) (by kernel_rfl) (by kernel_rfl) ok (by kernel_rfl) h
end F86
end Go.Proofs.Ytobolifgehagfaa
