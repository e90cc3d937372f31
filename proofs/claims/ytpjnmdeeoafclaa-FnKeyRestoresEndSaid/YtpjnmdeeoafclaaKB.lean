/- What functions of this seat do, each proved by a walk; no condition. -/
import Derived.Test.YtpjnmdeeoafclaaDenL
import Derived.Test.YtpjnmdeeoafclaaProg
import Derived.KernelRfl
set_option linter.unusedVariables false
namespace Go.Proofs.Ytpjnmdeeoafclaa
open Go Go.Den Go.Proofs
theorem mixed : Try.prog.follows .mixedOrders = true := by kernel_rfl
/-! ### 3 "pub-stadtholder/laws.FnKeyAnswers" -/
namespace F3
def an : Ann := { kinds := [], taus := [], pairs := [], lab := [(10000004, [0, 1])] }
noncomputable def body : Code := (Try.f3.body).getD .skip
theorem fn : Try.prog.funcs[3]? = some Try.f3 := by kernel_rfl
theorem ok : codeOk an 43 body = true := by kernel_rfl
noncomputable def L0t : List Item := [.code (sub [1, 1] body)]
def L0 (key : ByteArray) (ops : Option Addr) (opsn : Nat) (opsc : Nat) (H : Heap) (R : Ending → Heap → Prop) : Prop :=
  GoL Try.prog 3 43 L0t [0, 1] [(.string key), (.slice ops opsn opsc)] H R
def L0n (key : ByteArray) (ops : Option Addr) (opsn : Nat) (opsc : Nat) (H : Heap) (R : Ending → Heap → Prop) : Prop :=
  callD Try.prog 7 [(.slice none 0 0), (.slice ops opsn opsc)] H (panK R) fun v H1 =>
  tTup v fun l =>
  tCons l fun c l1 =>
  tSl c fun q qn qc =>
  tCons l1 fun c1 l2 =>
  tSl c1 fun q1 q1n q1c =>
  tCons l2 fun c2 l3 =>
  tBool c2 fun b =>
  tNil l3 <|
  iteB (!b) (
    callD Try.prog 8 [] H1 (panK R) fun v1 H2 =>
    tBool v1 fun b1 =>
    R (.returned (.bool b1)) H2) <|
  callD Try.prog 9 [(.string key), (.agg ⟨[(.int .i64 (0 : Int)), (.int .i64 (0 : Int)), (.slice none 0 0)]⟩), (.slice ops opsn opsc)] H1 (panK R) fun v2 H3 =>
  tTup v2 fun l4 =>
  tCons l4 fun c3 l5 =>
  tSl c3 fun q2 q2n q2c =>
  tCons l5 fun c4 l6 =>
  tBool c4 fun b2 =>
  tNil l6 <|
  iteB b2 (
    callD Try.prog 10 [(.slice q2 q2n q2c), (.slice q1 q1n q1c)] H3 (panK R) fun v3 H4 =>
    tBool v3 fun b3 =>
    iteB b3 (
      callD Try.prog 8 [] H4 (panK R) fun v4 H5 =>
      tBool v4 fun b4 =>
      R (.returned (.bool b4)) H5) <|
    R (.returned (.bool false)) H4) <|
  R (.returned (.bool false)) H3
theorem L0_step {key : ByteArray} {ops : Option Addr} {opsn : Nat} {opsc : Nat} {H : Heap} {R : Ending → Heap → Prop} (h : L0n key ops opsn opsc H R) : L0 key ops opsn opsc H R :=
  goL_of_den (an := an) (fuel := 100000) (X := L0n key ops opsn opsc H R) mixed fn (by kernel_rfl) (fun ρ0 => by kernel_rfl) h
def go (key : ByteArray) (ops : Option Addr) (opsn : Nat) (opsc : Nat) (H : Heap) (R : Ending → Heap → Prop) : Prop :=
  iteB (decide (((ByteArray.size key : Nat) : Int) > (2147483647 : Int))) (
    R (.returned (.bool true)) H) <|
  iteB (decide (((opsn : Nat) : Int) > (2147483647 : Int))) (
    R (.returned (.bool true)) H) <|
  L0 key ops opsn opsc H R
theorem calls {key : ByteArray} {ops : Option Addr} {opsn : Nat} {opsc : Nat} {H : Heap} {R : Ending → Heap → Prop} (h : go key ops opsn opsc H R) : CallsH Try.prog 3 ⟨[(.string key), (.slice ops opsn opsc)]⟩ H R :=
  callsH_of_den (an := an) (fuel := 100000) (X := go key ops opsn opsc H R) (c := body) mixed fn (by kernel_rfl) (by kernel_rfl) (by kernel_rfl) ok (by kernel_rfl) h
end F3
/-! ### 4 "pub-stadtholder/laws.FnKeyEmpty" -/
namespace F4
def an : Ann := { kinds := [(7020, .grow)], taus := [(7, [[0, 1, 2, 3, 4, 5, 6, 7, 8, 9, 10, 11, 12, 13, 14, 15, 16, 18, 19, 17, 20, 21, 22, 23, 24, 25, 26, 27, 28]])], pairs := [], lab := [(10000007, [1, 5])] }
noncomputable def body : Code := (Try.f4.body).getD .skip
theorem fn : Try.prog.funcs[4]? = some Try.f4 := by kernel_rfl
theorem ok : codeOk an 66 body = true := by kernel_rfl
noncomputable def L0t : List Item := [.code (sub [1, 1, 1, 1] body)]
def L0 (s1 : Int) (s5 : Option Addr) (s5n : Nat) (s5c : Nat) (H : Heap) (R : Ending → Heap → Prop) : Prop :=
  GoL Try.prog 4 66 L0t [1, 5] [(.int .i64 s1), (.slice s5 s5n s5c)] H R
def L0n (s1 : Int) (s5 : Option Addr) (s5n : Nat) (s5c : Nat) (H : Heap) (R : Ending → Heap → Prop) : Prop :=
  callD Try.prog 11 [(.slice s5 s5n s5c)] H (panK R) fun v H1 =>
  tAgg v fun l =>
  tCons l fun c l1 =>
  tInt c .i64 fun n =>
  tCons l1 fun c1 l2 =>
  tInt c1 .i64 fun n1 =>
  tCons l2 fun c2 l3 =>
  tSl c2 fun q qn qc =>
  tNil l3 <|
  newD H1 (.cells ⟨[(.int .i64 (9 : Int)), (.int .i64 (0 : Int)), (.int .i64 (0 : Int)), (.int .i64 (0 : Int)), (.int .i64 (0 : Int)), (.int .i64 (0 : Int)), (.int .i64 (0 : Int)), (.int .i64 (7 : Int)), (.int .i64 (0 : Int)), (.int .i64 (0 : Int)), (.int .i64 (0 : Int)), (.int .i64 (0 : Int)), (.int .i64 (0 : Int)), (.int .i64 s1), (.int .i64 (9 : Int)), (.int .i64 (0 : Int)), (.int .i64 (0 : Int)), (.int .i64 (0 : Int)), (.int .i64 (0 : Int)), (.int .i64 (0 : Int)), (.int .i64 (0 : Int))]⟩ 39) fun r H2 =>
  callD Try.prog 9 [(.string (ByteArray.mk #[107])), (.agg ⟨[(.int .i64 n), (.int .i64 n1), (.slice q qn qc)]⟩), (.slice (some ⟨r, 0, none⟩) 3 3)] H2 (panK R) fun v1 H3 =>
  tTup v1 fun l4 =>
  tCons l4 fun c3 l5 =>
  tSl c3 fun q1 q1n q1c =>
  tCons l5 fun c4 l6 =>
  tBool c4 fun b =>
  tNil l6 <|
  iteB b (
    iteB (((q1n : Nat) : Int) == (3 : Int)) (
      idxD q1 q1n (0 : Int) fun a =>
      ldBool H3 (Addr.add a (Int.toNat (0 : Int) * 10)) fun b1 =>
      iteB (!b1) (
        idxD q1 q1n (2 : Int) fun a1 =>
        ldBool H3 (Addr.add a1 (Int.toNat (2 : Int) * 10)) fun b2 =>
        callD Try.prog 12 [(.slice s5 s5n s5c), (.int .i64 s1)] H3 nope fun v2 H4 =>
        tSl v2 fun q2 q2n q2c =>
        andD (ExtH H3 H4) <|
        iteB (b2 == (((q2n : Nat) : Int) == (0 : Int))) (
          callD Try.prog 8 [] H4 (panK R) fun v3 H5 =>
          tBool v3 fun b3 =>
          R (.returned (.bool b3)) H5) <|
        R (.returned (.bool false)) H4) <|
      R (.returned (.bool false)) H3) <|
    R (.returned (.bool false)) H3) <|
  R (.returned (.bool false)) H3
theorem L0_step {s1 : Int} {s5 : Option Addr} {s5n : Nat} {s5c : Nat} {H : Heap} {R : Ending → Heap → Prop} (h : L0n s1 s5 s5n s5c H R) : L0 s1 s5 s5n s5c H R :=
  goL_of_den (an := an) (fuel := 100000) (X := L0n s1 s5 s5n s5c H R) mixed fn (by kernel_rfl) (fun ρ0 => by kernel_rfl) h
def go (s0 : Option Addr) (s0n : Nat) (s0c : Nat) (s1 : Int) (H : Heap) (R : Ending → Heap → Prop) : Prop :=
  iteB (decide (((s0n : Nat) : Int) > (2147483647 : Int))) (
    R (.returned (.bool true)) H) <|
  callD Try.prog 7 [(.slice none 0 0), (.slice s0 s0n s0c)] H (panK R) fun v H1 =>
  tTup v fun l =>
  tCons l fun c l1 =>
  tSl c fun q qn qc =>
  tCons l1 fun c1 l2 =>
  tSl c1 fun q1 q1n q1c =>
  tCons l2 fun c2 l3 =>
  tBool c2 fun b =>
  tNil l3 <|
  iteB (!b) (
    callD Try.prog 8 [] H1 (panK R) fun v1 H2 =>
    tBool v1 fun b1 =>
    R (.returned (.bool b1)) H2) <|
  iteB (((qn : Nat) : Int) == (0 : Int)) (
    callD Try.prog 8 [] H1 (panK R) fun v2 H3 =>
    tBool v2 fun b2 =>
    R (.returned (.bool b2)) H3) <|
  L0 s1 q qn qc H1 R
theorem calls {s0 : Option Addr} {s0n : Nat} {s0c : Nat} {s1 : Int} {H : Heap} {R : Ending → Heap → Prop} (h : go s0 s0n s0c s1 H R) : CallsH Try.prog 4 ⟨[(.slice s0 s0n s0c), (.int .i64 s1)]⟩ H R :=
  callsH_of_den (an := an) (fuel := 100000) (X := go s0 s0n s0c s1 H R) (c := body) mixed fn (by kernel_rfl) (by kernel_rfl) (by kernel_rfl) ok (by kernel_rfl) h
end F4
/-! ### 5 "pub-stadtholder/laws.FnKeyRestoresEnd" -/
namespace F5
def an : Ann := { kinds := [], taus := [], pairs := [], lab := [(10000004, [0, 2, 4]), (10000008, [0, 2, 4, 9])] }
noncomputable def body : Code := (Try.f5.body).getD .skip
theorem fn : Try.prog.funcs[5]? = some Try.f5 := by kernel_rfl
theorem ok : codeOk an 68 body = true := by kernel_rfl
noncomputable def L0t : List Item := [.code (sub [1, 1] body)]
def L0 (s0 : ByteArray) (s2 : Option Addr) (s2n : Nat) (s2c : Nat) (s4 : Nat) (H : Heap) (R : Ending → Heap → Prop) : Prop :=
  GoL Try.prog 5 68 L0t [0, 2, 4] [(.string s0), (.slice s2 s2n s2c), (.pointer (some ⟨s4, 0, none⟩))] H R
noncomputable def L1t : List Item := [.code (sub [1, 1, 1, 1, 1] body)]
def L1 (s0 : ByteArray) (s2 : Option Addr) (s2n : Nat) (s2c : Nat) (s4 : Nat) (s9 : Option Addr) (s9n : Nat) (s9c : Nat) (H : Heap) (R : Ending → Heap → Prop) : Prop :=
  GoL Try.prog 5 68 L1t [0, 2, 4, 9] [(.string s0), (.slice s2 s2n s2c), (.pointer (some ⟨s4, 0, none⟩)), (.slice s9 s9n s9c)] H R
def L0n (s0 : ByteArray) (s2 : Option Addr) (s2n : Nat) (s2c : Nat) (s4 : Nat) (H : Heap) (R : Ending → Heap → Prop) : Prop :=
  ldInt H ⟨s4, 0, none⟩ .i64 fun n =>
  ldInt H ⟨s4, 1, none⟩ .i64 fun n1 =>
  newD H (.cells ⟨[(.int .i64 n), (.int .i64 n1), (.int .i64 (0 : Int)), (.int .i64 (0 : Int)), (.int .i64 (1 : Int)), (.bool true)]⟩ 46) fun r H1 =>
  callD Try.prog 7 [(.slice (some ⟨r, 0, none⟩) 1 1), (.slice s2 s2n s2c)] H1 (panK R) fun v H2 =>
  tTup v fun l =>
  tCons l fun c l1 =>
  tSl c fun q qn qc =>
  tCons l1 fun c1 l2 =>
  tSl c1 fun q1 q1n q1c =>
  tCons l2 fun c2 l3 =>
  tBool c2 fun b =>
  tNil l3 <|
  iteB (!b) (
    callD Try.prog 8 [] H2 (panK R) fun v1 H3 =>
    tBool v1 fun b1 =>
    R (.returned (.bool b1)) H3) <|
  ldInt H2 ⟨s4, 0, none⟩ .i64 fun n2 =>
  ldInt H2 ⟨s4, 1, none⟩ .i64 fun n3 =>
  callD Try.prog 13 [(.agg ⟨[(.int .i64 n2), (.int .i64 n3)]⟩)] H2 (panK R) fun v2 H4 =>
  tBool v2 fun b2 =>
  iteB (!b2) (
    callD Try.prog 8 [] H4 (panK R) fun v3 H5 =>
    tBool v3 fun b3 =>
    R (.returned (.bool b3)) H5) <|
  L1 s0 s2 s2n s2c s4 q1 q1n q1c H4 R
theorem L0_step {s0 : ByteArray} {s2 : Option Addr} {s2n : Nat} {s2c : Nat} {s4 : Nat} {H : Heap} {R : Ending → Heap → Prop} (h : L0n s0 s2 s2n s2c s4 H R) : L0 s0 s2 s2n s2c s4 H R :=
  goL_of_den (an := an) (fuel := 100000) (X := L0n s0 s2 s2n s2c s4 H R) mixed fn (by kernel_rfl) (fun ρ0 => by kernel_rfl) h
def L1n (s0 : ByteArray) (s2 : Option Addr) (s2n : Nat) (s2c : Nat) (s4 : Nat) (s9 : Option Addr) (s9n : Nat) (s9c : Nat) (H : Heap) (R : Ending → Heap → Prop) : Prop :=
  ldInt H ⟨s4, 0, none⟩ .i64 fun n =>
  ldInt H ⟨s4, 1, none⟩ .i64 fun n1 =>
  newD H (.cells ⟨[(.int .i64 (4 : Int)), (.int .i64 n), (.int .i64 n1), (.int .i64 (0 : Int)), (.int .i64 (0 : Int)), (.int .i64 (0 : Int)), (.int .i64 (0 : Int))]⟩ 39) fun r H1 =>
  apD H1 7 56 [(.int .i64 (0 : Int)), (.int .i64 (0 : Int)), (.int .i64 (0 : Int)), (.int .i64 (0 : Int)), (.int .i64 (0 : Int)), (.int .i64 (0 : Int)), (.int .i64 (0 : Int))] 39 (some ⟨r, 0, none⟩) 1 1 s2 s2n fun q qn qc H2 =>
  callD Try.prog 9 [(.string s0), (.agg ⟨[(.int .i64 (0 : Int)), (.int .i64 (0 : Int)), (.slice none 0 0)]⟩), (.slice q qn qc)] H2 (panK R) fun v H3 =>
  tTup v fun l =>
  tCons l fun c l1 =>
  tSl c fun q1 q1n q1c =>
  tCons l1 fun c1 l2 =>
  tBool c1 fun b =>
  tNil l2 <|
  iteB b (
    iteB (((q1n : Nat) : Int) == (IntKind.wrap .i64 (((s2n : Nat) : Int) + (1 : Int)))) (
      bndD (1 : Int) q1n fun k =>
      callD Try.prog 10 [(.slice (slP q1 k q1c 10) (q1n - k) (q1c - k)), (.slice s9 s9n s9c)] H3 (panK R) fun v1 H4 =>
      tBool v1 fun b1 =>
      iteB b1 (
        callD Try.prog 8 [] H4 (panK R) fun v2 H5 =>
        tBool v2 fun b2 =>
        R (.returned (.bool b2)) H5) <|
      R (.returned (.bool false)) H4) <|
    R (.returned (.bool false)) H3) <|
  R (.returned (.bool false)) H3
theorem L1_step {s0 : ByteArray} {s2 : Option Addr} {s2n : Nat} {s2c : Nat} {s4 : Nat} {s9 : Option Addr} {s9n : Nat} {s9c : Nat} {H : Heap} {R : Ending → Heap → Prop} (h : L1n s0 s2 s2n s2c s4 s9 s9n s9c H R) : L1 s0 s2 s2n s2c s4 s9 s9n s9c H R :=
  goL_of_den (an := an) (fuel := 100000) (X := L1n s0 s2 s2n s2c s4 s9 s9n s9c H R) mixed fn (by kernel_rfl) (fun ρ0 => by kernel_rfl) h
def go (s0 : ByteArray) (s1_0 : Int) (s1_1 : Int) (s2 : Option Addr) (s2n : Nat) (s2c : Nat) (H : Heap) (R : Ending → Heap → Prop) : Prop :=
  newD H (.cells ⟨[(.int .i64 s1_0), (.int .i64 s1_1)]⟩ 31) fun r H1 =>
  iteB (decide (((ByteArray.size s0 : Nat) : Int) > (2147483647 : Int))) (
    R (.returned (.bool true)) H1) <|
  iteB (decide (((s2n : Nat) : Int) > (2147483647 : Int))) (
    R (.returned (.bool true)) H1) <|
  L0 s0 s2 s2n s2c r H1 R
theorem calls {s0 : ByteArray} {s1_0 : Int} {s1_1 : Int} {s2 : Option Addr} {s2n : Nat} {s2c : Nat} {H : Heap} {R : Ending → Heap → Prop} (h : go s0 s1_0 s1_1 s2 s2n s2c H R) : CallsH Try.prog 5 ⟨[(.string s0), (.agg ⟨[(.int .i64 s1_0), (.int .i64 s1_1)]⟩), (.slice s2 s2n s2c)]⟩ H R :=
  callsH_of_den (an := an) (fuel := 100000) (X := go s0 s1_0 s1_1 s2 s2n s2c H R) (c := body) mixed fn (by kernel_rfl) (by kernel_rfl) (by kernel_rfl) ok (by kernel_rfl) h
end F5
/-! ### 6 "pub-stadtholder/laws.FnWalk" -/
namespace F6
def an : Ann := { kinds := [], taus := [], pairs := [], lab := [(40000008, [0, 1, 5, 15, 16, 17]), (40000012, [0, 1, 5, 15, 16, 17])] }
noncomputable def body : Code := (Try.f6.body).getD .skip
theorem fn : Try.prog.funcs[6]? = some Try.f6 := by kernel_rfl
theorem ok : codeOk an 36 body = true := by kernel_rfl
noncomputable def L0t : List Item := [.code (sub [1, 1, 1, 1, 0, 1, 0, 0] body), .inLoop (sub [1, 1, 1, 1, 0, 1, 0, 0] body), .inBlock 0, .code (sub [1, 1, 1, 1, 1] body)]
def L0 (revs : Option Addr) (revsn : Nat) (revsc : Nat) (xat : Int) (want : Int) (s15 : Option Addr) (s15n : Nat) (s15c : Nat) (s16 : Int) (s17 : Int) (H : Heap) (R : Ending → Heap → Prop) : Prop :=
  GoL Try.prog 6 36 L0t [0, 1, 5, 15, 16, 17] [(.slice revs revsn revsc), (.int .i64 xat), (.int .i64 want), (.slice s15 s15n s15c), (.int .i64 s16), (.int .i64 s17)] H R
noncomputable def L1t : List Item := [.code (sub [1, 1, 1, 1, 0, 1, 0, 0, 1, 1, 1] body), .inLoop (sub [1, 1, 1, 1, 0, 1, 0, 0] body), .inBlock 0, .code (sub [1, 1, 1, 1, 1] body)]
def L1 (revs : Option Addr) (revsn : Nat) (revsc : Nat) (xat : Int) (want : Int) (s15 : Option Addr) (s15n : Nat) (s15c : Nat) (s16 : Int) (s17 : Int) (H : Heap) (R : Ending → Heap → Prop) : Prop :=
  GoL Try.prog 6 36 L1t [0, 1, 5, 15, 16, 17] [(.slice revs revsn revsc), (.int .i64 xat), (.int .i64 want), (.slice s15 s15n s15c), (.int .i64 s16), (.int .i64 s17)] H R
def L0n (revs : Option Addr) (revsn : Nat) (revsc : Nat) (xat : Int) (want : Int) (s15 : Option Addr) (s15n : Nat) (s15c : Nat) (s16 : Int) (s17 : Int) (H : Heap) (R : Ending → Heap → Prop) : Prop :=
  iteB (decide (s17 < s16)) (
    idxD s15 s15n s17 fun a =>
    ldInt H (Addr.add a (Int.toNat s17 * 2)) .i64 fun n =>
    ldInt H (Addr.add (Addr.add a (Int.toNat s17 * 2)) 1) .i64 fun n1 =>
    newD H (.cells ⟨[(.int .i64 (0 : Int)), (.int .i64 (0 : Int))]⟩ 31) fun r H1 =>
    st1 H1 ⟨r, 0, none⟩ (.int .i64 n) fun H2 =>
    st1 H2 ⟨r, 1, none⟩ (.int .i64 n1) fun H3 =>
    ldInt H3 ⟨r, 0, none⟩ .i64 fun n2 =>
    iteB (decide (n2 ≤ xat)) (
      L1 revs revsn revsc xat s17 s15 s15n s15c s16 s17 H3 R) <|
    L1 revs revsn revsc xat want s15 s15n s15c s16 s17 H3 R) <|
  callD Try.prog 14 [(.slice revs revsn revsc), (.int .i64 xat)] H (panK R) fun v H4 =>
  tInt v .i64 fun n3 =>
  iteB (n3 == want) (
    callD Try.prog 8 [] H4 (panK R) fun v1 H5 =>
    tBool v1 fun b =>
    R (.returned (.bool b)) H5) <|
  R (.returned (.bool false)) H4
theorem L0_step {revs : Option Addr} {revsn : Nat} {revsc : Nat} {xat : Int} {want : Int} {s15 : Option Addr} {s15n : Nat} {s15c : Nat} {s16 : Int} {s17 : Int} {H : Heap} {R : Ending → Heap → Prop} (h : L0n revs revsn revsc xat want s15 s15n s15c s16 s17 H R) : L0 revs revsn revsc xat want s15 s15n s15c s16 s17 H R :=
  goL_of_den (an := an) (fuel := 100000) (X := L0n revs revsn revsc xat want s15 s15n s15c s16 s17 H R) mixed fn (by kernel_rfl) (fun ρ0 => by kernel_rfl) h
def L1n (revs : Option Addr) (revsn : Nat) (revsc : Nat) (xat : Int) (want : Int) (s15 : Option Addr) (s15n : Nat) (s15c : Nat) (s16 : Int) (s17 : Int) (H : Heap) (R : Ending → Heap → Prop) : Prop :=
  L0 revs revsn revsc xat want s15 s15n s15c s16 (IntKind.wrap .i64 (s17 + (1 : Int))) H R
theorem L1_step {revs : Option Addr} {revsn : Nat} {revsc : Nat} {xat : Int} {want : Int} {s15 : Option Addr} {s15n : Nat} {s15c : Nat} {s16 : Int} {s17 : Int} {H : Heap} {R : Ending → Heap → Prop} (h : L1n revs revsn revsc xat want s15 s15n s15c s16 s17 H R) : L1 revs revsn revsc xat want s15 s15n s15c s16 s17 H R :=
  goL_of_den (an := an) (fuel := 100000) (X := L1n revs revsn revsc xat want s15 s15n s15c s16 s17 H R) mixed fn (by kernel_rfl) (fun ρ0 => by kernel_rfl) h
def go (revs : Option Addr) (revsn : Nat) (revsc : Nat) (xat : Int) (H : Heap) (R : Ending → Heap → Prop) : Prop :=
  iteB (decide (((revsn : Nat) : Int) > (2147483647 : Int))) (
    R (.returned (.bool true)) H) <|
  iteB (decide (((revsn : Nat) : Int) > (300 : Int))) (
    callD Try.prog 8 [] H (panK R) fun v H1 =>
    tBool v fun b =>
    R (.returned (.bool b)) H1) <|
  L0 revs revsn revsc xat (-1 : Int) revs revsn revsc ((revsn : Nat) : Int) (0 : Int) H R
theorem calls {revs : Option Addr} {revsn : Nat} {revsc : Nat} {xat : Int} {H : Heap} {R : Ending → Heap → Prop} (h : go revs revsn revsc xat H R) : CallsH Try.prog 6 ⟨[(.slice revs revsn revsc), (.int .i64 xat)]⟩ H R :=
  callsH_of_den (an := an) (fuel := 100000) (X := go revs revsn revsc xat H R) (c := body) mixed fn (by kernel_rfl) (by kernel_rfl) (by kernel_rfl) ok (by kernel_rfl) h
end F6
/-! ### 7 "pub-stadtholder/laws.kyLife" -/
namespace F7
def an : Ann := { kinds := [(11015, .grow)], taus := [(11, [[0, 1, 2, 3, 4, 5, 6, 7, 8, 9, 10, 11, 12, 13, 14, 17, 18, 19, 15, 16, 20, 21]])], pairs := [], lab := [(40000006, [0, 7, 16, 17, 18]), (60000010, [0, 7, 8, 9, 16, 17, 18]), (60000012, [0, 7, 9, 16, 17, 18]), (60000014, [0, 7, 9, 16, 17, 18]), (60000017, [7, 10, 11, 16, 17, 18])] }
noncomputable def body : Code := (Try.f7.body).getD .skip
theorem fn : Try.prog.funcs[7]? = some Try.f7 := by kernel_rfl
theorem ok : codeOk an 116 body = true := by kernel_rfl
noncomputable def L0t : List Item := [.code (sub [1, 1, 1, 0, 1, 0, 0] body), .inLoop (sub [1, 1, 1, 0, 1, 0, 0] body), .inBlock 0, .code (sub [1, 1, 1, 1] body)]
def L0 (s0 : Option Addr) (s0n : Nat) (s0c : Nat) (s7 : Option Addr) (s7n : Nat) (s7c : Nat) (s16 : Option Addr) (s16n : Nat) (s16c : Nat) (s17 : Int) (s18 : Int) (H : Heap) (R : Ending → Heap → Prop) : Prop :=
  GoL Try.prog 7 116 L0t [0, 7, 16, 17, 18] [(.slice s0 s0n s0c), (.slice s7 s7n s7c), (.slice s16 s16n s16c), (.int .i64 s17), (.int .i64 s18)] H R
noncomputable def L1t : List Item := [.code (sub [1, 1, 1, 0, 1, 0, 0, 1, 1, 0, 0, 1, 1] body), .inBlock 1, .code (sub [1, 1, 1, 0, 1, 0, 0, 1, 1, 1] body), .inLoop (sub [1, 1, 1, 0, 1, 0, 0] body), .inBlock 0, .code (sub [1, 1, 1, 1] body)]
def L1 (s0 : Option Addr) (s0n : Nat) (s0c : Nat) (s7 : Option Addr) (s7n : Nat) (s7c : Nat) (s8 : Int) (s9 : Nat) (s16 : Option Addr) (s16n : Nat) (s16c : Nat) (s17 : Int) (s18 : Int) (H : Heap) (R : Ending → Heap → Prop) : Prop :=
  GoL Try.prog 7 116 L1t [0, 7, 8, 9, 16, 17, 18] [(.slice s0 s0n s0c), (.slice s7 s7n s7c), (.int .i64 s8), (.pointer (some ⟨s9, 0, none⟩)), (.slice s16 s16n s16c), (.int .i64 s17), (.int .i64 s18)] H R
noncomputable def L2t : List Item := [.code (sub [1, 1, 1, 0, 1, 0, 0, 1, 1, 0, 0, 1, 1, 1] body), .inBlock 1, .code (sub [1, 1, 1, 0, 1, 0, 0, 1, 1, 1] body), .inLoop (sub [1, 1, 1, 0, 1, 0, 0] body), .inBlock 0, .code (sub [1, 1, 1, 1] body)]
def L2 (s0 : Option Addr) (s0n : Nat) (s0c : Nat) (s7 : Option Addr) (s7n : Nat) (s7c : Nat) (s9 : Nat) (s16 : Option Addr) (s16n : Nat) (s16c : Nat) (s17 : Int) (s18 : Int) (H : Heap) (R : Ending → Heap → Prop) : Prop :=
  GoL Try.prog 7 116 L2t [0, 7, 9, 16, 17, 18] [(.slice s0 s0n s0c), (.slice s7 s7n s7c), (.pointer (some ⟨s9, 0, none⟩)), (.slice s16 s16n s16c), (.int .i64 s17), (.int .i64 s18)] H R
noncomputable def L3t : List Item := [.code (sub [1, 1, 1, 0, 1, 0, 0, 1, 1, 0, 0, 1, 1, 1, 1] body), .inBlock 1, .code (sub [1, 1, 1, 0, 1, 0, 0, 1, 1, 1] body), .inLoop (sub [1, 1, 1, 0, 1, 0, 0] body), .inBlock 0, .code (sub [1, 1, 1, 1] body)]
def L3 (s0 : Option Addr) (s0n : Nat) (s0c : Nat) (s7 : Option Addr) (s7n : Nat) (s7c : Nat) (s9 : Nat) (s16 : Option Addr) (s16n : Nat) (s16c : Nat) (s17 : Int) (s18 : Int) (H : Heap) (R : Ending → Heap → Prop) : Prop :=
  GoL Try.prog 7 116 L3t [0, 7, 9, 16, 17, 18] [(.slice s0 s0n s0c), (.slice s7 s7n s7c), (.pointer (some ⟨s9, 0, none⟩)), (.slice s16 s16n s16c), (.int .i64 s17), (.int .i64 s18)] H R
noncomputable def L4t : List Item := [.code (sub [1, 1, 1, 0, 1, 0, 0, 1, 1, 0, 0, 1, 1, 1, 1, 1, 1] body), .inBlock 1, .code (sub [1, 1, 1, 0, 1, 0, 0, 1, 1, 1] body), .inLoop (sub [1, 1, 1, 0, 1, 0, 0] body), .inBlock 0, .code (sub [1, 1, 1, 1] body)]
def L4 (s7 : Option Addr) (s7n : Nat) (s7c : Nat) (s10 : Option Addr) (s10n : Nat) (s10c : Nat) (s11 : Nat) (s16 : Option Addr) (s16n : Nat) (s16c : Nat) (s17 : Int) (s18 : Int) (H : Heap) (R : Ending → Heap → Prop) : Prop :=
  GoL Try.prog 7 116 L4t [7, 10, 11, 16, 17, 18] [(.slice s7 s7n s7c), (.slice s10 s10n s10c), (.pointer (some ⟨s11, 0, none⟩)), (.slice s16 s16n s16c), (.int .i64 s17), (.int .i64 s18)] H R
def L0n (s0 : Option Addr) (s0n : Nat) (s0c : Nat) (s7 : Option Addr) (s7n : Nat) (s7c : Nat) (s16 : Option Addr) (s16n : Nat) (s16c : Nat) (s17 : Int) (s18 : Int) (H : Heap) (R : Ending → Heap → Prop) : Prop :=
  iteB (decide (s18 < s17)) (
    idxD s16 s16n s18 fun a =>
    ldInt H (Addr.add a (Int.toNat s18 * 7)) .i64 fun n =>
    ldInt H (Addr.add (Addr.add a (Int.toNat s18 * 7)) 1) .i64 fun n1 =>
    ldInt H (Addr.add (Addr.add a (Int.toNat s18 * 7)) 2) .i64 fun n2 =>
    ldInt H (Addr.add (Addr.add a (Int.toNat s18 * 7)) 3) .i64 fun n3 =>
    ldInt H (Addr.add (Addr.add a (Int.toNat s18 * 7)) 4) .i64 fun n4 =>
    ldInt H (Addr.add (Addr.add a (Int.toNat s18 * 7)) 5) .i64 fun n5 =>
    ldInt H (Addr.add (Addr.add a (Int.toNat s18 * 7)) 6) .i64 fun n6 =>
    newD H (.cells ⟨[(.int .i64 (0 : Int)), (.int .i64 (0 : Int)), (.int .i64 (0 : Int)), (.int .i64 (0 : Int)), (.int .i64 (0 : Int)), (.int .i64 (0 : Int)), (.int .i64 (0 : Int))]⟩ 39) fun r H1 =>
    st1 H1 ⟨r, 0, none⟩ (.int .i64 n) fun H2 =>
    st1 H2 ⟨r, 1, none⟩ (.int .i64 n1) fun H3 =>
    st1 H3 ⟨r, 2, none⟩ (.int .i64 n2) fun H4 =>
    st1 H4 ⟨r, 3, none⟩ (.int .i64 n3) fun H5 =>
    st1 H5 ⟨r, 4, none⟩ (.int .i64 n4) fun H6 =>
    st1 H6 ⟨r, 5, none⟩ (.int .i64 n5) fun H7 =>
    st1 H7 ⟨r, 6, none⟩ (.int .i64 n6) fun H8 =>
    ldInt H8 ⟨r, 0, none⟩ .i64 fun n7 =>
    iteB (n7 == (3 : Int)) (
      R (.returned (.tuple ⟨[(.slice none 0 0), (.slice none 0 0), (.bool false)]⟩)) H8) <|
    ldInt H8 ⟨r, 0, none⟩ .i64 fun n8 =>
    iteB (n8 == (4 : Int)) (
      R (.returned (.tuple ⟨[(.slice none 0 0), (.slice none 0 0), (.bool false)]⟩)) H8) <|
    ldInt H8 ⟨r, 0, none⟩ .i64 fun n9 =>
    iteB (decide (n9 < (1 : Int))) (
      R (.returned (.tuple ⟨[(.slice none 0 0), (.slice none 0 0), (.bool false)]⟩)) H8) <|
    ldInt H8 ⟨r, 0, none⟩ .i64 fun n10 =>
    iteB (decide (n10 > (8 : Int))) (
      R (.returned (.tuple ⟨[(.slice none 0 0), (.slice none 0 0), (.bool false)]⟩)) H8) <|
    L1 s0 s0n s0c s7 s7n s7c s18 r s16 s16n s16c s17 s18 H8 R) <|
  R (.returned (.tuple ⟨[(.slice s0 s0n s0c), (.slice s7 s7n s7c), (.bool true)]⟩)) H
theorem L0_step {s0 : Option Addr} {s0n : Nat} {s0c : Nat} {s7 : Option Addr} {s7n : Nat} {s7c : Nat} {s16 : Option Addr} {s16n : Nat} {s16c : Nat} {s17 : Int} {s18 : Int} {H : Heap} {R : Ending → Heap → Prop} (h : L0n s0 s0n s0c s7 s7n s7c s16 s16n s16c s17 s18 H R) : L0 s0 s0n s0c s7 s7n s7c s16 s16n s16c s17 s18 H R :=
  goL_of_den (an := an) (fuel := 100000) (X := L0n s0 s0n s0c s7 s7n s7c s16 s16n s16c s17 s18 H R) mixed fn (by kernel_rfl) (fun ρ0 => by kernel_rfl) h
def L1n (s0 : Option Addr) (s0n : Nat) (s0c : Nat) (s7 : Option Addr) (s7n : Nat) (s7c : Nat) (s8 : Int) (s9 : Nat) (s16 : Option Addr) (s16n : Nat) (s16c : Nat) (s17 : Int) (s18 : Int) (H : Heap) (R : Ending → Heap → Prop) : Prop :=
  iteB (s8 == (0 : Int)) (
    iteB (((s0n : Nat) : Int) == (0 : Int)) (
      ldInt H ⟨s9, 0, none⟩ .i64 fun n =>
      iteB (n != (1 : Int)) (
        R (.returned (.tuple ⟨[(.slice none 0 0), (.slice none 0 0), (.bool false)]⟩)) H) <|
      ldInt H ⟨s9, 0, none⟩ .i64 fun n1 =>
      iteB (n1 == (1 : Int)) (
        ldInt H ⟨s9, 1, none⟩ .i64 fun n2 =>
        ldInt H ⟨s9, 2, none⟩ .i64 fun n3 =>
        callD Try.prog 13 [(.agg ⟨[(.int .i64 n2), (.int .i64 n3)]⟩)] H (panK R) fun v H1 =>
        tBool v fun b =>
        iteB (!b) (
          R (.returned (.tuple ⟨[(.slice none 0 0), (.slice none 0 0), (.bool false)]⟩)) H1) <|
        L2 s0 s0n s0c s7 s7n s7c s9 s16 s16n s16c s17 s18 H1 R) <|
      ldInt H ⟨s9, 0, none⟩ .i64 fun n4 =>
      iteB (n4 == (2 : Int)) (
        ldInt H ⟨s9, 1, none⟩ .i64 fun n5 =>
        ldInt H ⟨s9, 2, none⟩ .i64 fun n6 =>
        callD Try.prog 13 [(.agg ⟨[(.int .i64 n5), (.int .i64 n6)]⟩)] H (panK R) fun v1 H2 =>
        tBool v1 fun b1 =>
        iteB (!b1) (
          R (.returned (.tuple ⟨[(.slice none 0 0), (.slice none 0 0), (.bool false)]⟩)) H2) <|
        L2 s0 s0n s0c s7 s7n s7c s9 s16 s16n s16c s17 s18 H2 R) <|
      L2 s0 s0n s0c s7 s7n s7c s9 s16 s16n s16c s17 s18 H R) <|
    ldInt H ⟨s9, 0, none⟩ .i64 fun n7 =>
    iteB (n7 == (1 : Int)) (
      ldInt H ⟨s9, 1, none⟩ .i64 fun n8 =>
      ldInt H ⟨s9, 2, none⟩ .i64 fun n9 =>
      callD Try.prog 13 [(.agg ⟨[(.int .i64 n8), (.int .i64 n9)]⟩)] H (panK R) fun v2 H3 =>
      tBool v2 fun b2 =>
      iteB (!b2) (
        R (.returned (.tuple ⟨[(.slice none 0 0), (.slice none 0 0), (.bool false)]⟩)) H3) <|
      L2 s0 s0n s0c s7 s7n s7c s9 s16 s16n s16c s17 s18 H3 R) <|
    ldInt H ⟨s9, 0, none⟩ .i64 fun n10 =>
    iteB (n10 == (2 : Int)) (
      ldInt H ⟨s9, 1, none⟩ .i64 fun n11 =>
      ldInt H ⟨s9, 2, none⟩ .i64 fun n12 =>
      callD Try.prog 13 [(.agg ⟨[(.int .i64 n11), (.int .i64 n12)]⟩)] H (panK R) fun v3 H4 =>
      tBool v3 fun b3 =>
      iteB (!b3) (
        R (.returned (.tuple ⟨[(.slice none 0 0), (.slice none 0 0), (.bool false)]⟩)) H4) <|
      L2 s0 s0n s0c s7 s7n s7c s9 s16 s16n s16c s17 s18 H4 R) <|
    L2 s0 s0n s0c s7 s7n s7c s9 s16 s16n s16c s17 s18 H R) <|
  ldInt H ⟨s9, 0, none⟩ .i64 fun n13 =>
  iteB (n13 == (1 : Int)) (
    ldInt H ⟨s9, 1, none⟩ .i64 fun n14 =>
    ldInt H ⟨s9, 2, none⟩ .i64 fun n15 =>
    callD Try.prog 13 [(.agg ⟨[(.int .i64 n14), (.int .i64 n15)]⟩)] H (panK R) fun v4 H5 =>
    tBool v4 fun b4 =>
    iteB (!b4) (
      R (.returned (.tuple ⟨[(.slice none 0 0), (.slice none 0 0), (.bool false)]⟩)) H5) <|
    L2 s0 s0n s0c s7 s7n s7c s9 s16 s16n s16c s17 s18 H5 R) <|
  ldInt H ⟨s9, 0, none⟩ .i64 fun n16 =>
  iteB (n16 == (2 : Int)) (
    ldInt H ⟨s9, 1, none⟩ .i64 fun n17 =>
    ldInt H ⟨s9, 2, none⟩ .i64 fun n18 =>
    callD Try.prog 13 [(.agg ⟨[(.int .i64 n17), (.int .i64 n18)]⟩)] H (panK R) fun v5 H6 =>
    tBool v5 fun b5 =>
    iteB (!b5) (
      R (.returned (.tuple ⟨[(.slice none 0 0), (.slice none 0 0), (.bool false)]⟩)) H6) <|
    L2 s0 s0n s0c s7 s7n s7c s9 s16 s16n s16c s17 s18 H6 R) <|
  L2 s0 s0n s0c s7 s7n s7c s9 s16 s16n s16c s17 s18 H R
theorem L1_step {s0 : Option Addr} {s0n : Nat} {s0c : Nat} {s7 : Option Addr} {s7n : Nat} {s7c : Nat} {s8 : Int} {s9 : Nat} {s16 : Option Addr} {s16n : Nat} {s16c : Nat} {s17 : Int} {s18 : Int} {H : Heap} {R : Ending → Heap → Prop} (h : L1n s0 s0n s0c s7 s7n s7c s8 s9 s16 s16n s16c s17 s18 H R) : L1 s0 s0n s0c s7 s7n s7c s8 s9 s16 s16n s16c s17 s18 H R :=
  goL_of_den (an := an) (fuel := 100000) (X := L1n s0 s0n s0c s7 s7n s7c s8 s9 s16 s16n s16c s17 s18 H R) mixed fn (by kernel_rfl) (fun ρ0 => by kernel_rfl) h
def L2n (s0 : Option Addr) (s0n : Nat) (s0c : Nat) (s7 : Option Addr) (s7n : Nat) (s7c : Nat) (s9 : Nat) (s16 : Option Addr) (s16n : Nat) (s16c : Nat) (s17 : Int) (s18 : Int) (H : Heap) (R : Ending → Heap → Prop) : Prop :=
  ldInt H ⟨s9, 0, none⟩ .i64 fun n =>
  iteB (n == (1 : Int)) (
    iteB (decide (((s0n : Nat) : Int) > (0 : Int))) (
      callD Try.prog 15 [(.slice s0 s0n s0c)] H (panK R) fun v H1 =>
      tBool v fun b =>
      iteB (!b) (
        ldInt H1 ⟨s9, 1, none⟩ .i64 fun n1 =>
        callD Try.prog 16 [(.slice s0 s0n s0c)] H1 nope fun v1 H2 =>
        tAgg v1 fun l =>
        tCons l fun c l1 =>
        tInt c .i64 fun n2 =>
        tCons l1 fun c1 l2 =>
        tInt c1 .i64 fun n3 =>
        tNil l2 <|
        andD (ExtH H1 H2) <|
        iteB (n2 == n1) (
          R (.returned (.tuple ⟨[(.slice none 0 0), (.slice none 0 0), (.bool false)]⟩)) H2) <|
        L3 s0 s0n s0c s7 s7n s7c s9 s16 s16n s16c s17 s18 H2 R) <|
      L3 s0 s0n s0c s7 s7n s7c s9 s16 s16n s16c s17 s18 H1 R) <|
    L3 s0 s0n s0c s7 s7n s7c s9 s16 s16n s16c s17 s18 H R) <|
  L3 s0 s0n s0c s7 s7n s7c s9 s16 s16n s16c s17 s18 H R
theorem L2_step {s0 : Option Addr} {s0n : Nat} {s0c : Nat} {s7 : Option Addr} {s7n : Nat} {s7c : Nat} {s9 : Nat} {s16 : Option Addr} {s16n : Nat} {s16c : Nat} {s17 : Int} {s18 : Int} {H : Heap} {R : Ending → Heap → Prop} (h : L2n s0 s0n s0c s7 s7n s7c s9 s16 s16n s16c s17 s18 H R) : L2 s0 s0n s0c s7 s7n s7c s9 s16 s16n s16c s17 s18 H R :=
  goL_of_den (an := an) (fuel := 100000) (X := L2n s0 s0n s0c s7 s7n s7c s9 s16 s16n s16c s17 s18 H R) mixed fn (by kernel_rfl) (fun ρ0 => by kernel_rfl) h
def L3n (s0 : Option Addr) (s0n : Nat) (s0c : Nat) (s7 : Option Addr) (s7n : Nat) (s7c : Nat) (s9 : Nat) (s16 : Option Addr) (s16n : Nat) (s16c : Nat) (s17 : Int) (s18 : Int) (H : Heap) (R : Ending → Heap → Prop) : Prop :=
  ldInt H ⟨s9, 0, none⟩ .i64 fun n =>
  ldInt H ⟨s9, 1, none⟩ .i64 fun n1 =>
  ldInt H ⟨s9, 2, none⟩ .i64 fun n2 =>
  ldInt H ⟨s9, 3, none⟩ .i64 fun n3 =>
  ldInt H ⟨s9, 4, none⟩ .i64 fun n4 =>
  ldInt H ⟨s9, 5, none⟩ .i64 fun n5 =>
  ldInt H ⟨s9, 6, none⟩ .i64 fun n6 =>
  callD Try.prog 17 [(.slice s0 s0n s0c), (.agg ⟨[(.int .i64 n), (.int .i64 n1), (.int .i64 n2), (.int .i64 n3), (.int .i64 n4), (.int .i64 n5), (.int .i64 n6)]⟩)] H (panK R) fun v H1 =>
  tTup v fun l =>
  tCons l fun c l1 =>
  tSl c fun q qn qc =>
  tCons l1 fun c1 l2 =>
  tAgg c1 fun l3 =>
  tCons l3 fun c2 l4 =>
  tBool c2 fun b =>
  tCons l4 fun c3 l5 =>
  tInt c3 .i64 fun n7 =>
  tCons l5 fun c4 l6 =>
  tInt c4 .i64 fun n8 =>
  tCons l6 fun c5 l7 =>
  tInt c5 .i64 fun n9 =>
  tCons l7 fun c6 l8 =>
  tInt c6 .i64 fun n10 =>
  tCons l8 fun c7 l9 =>
  tInt c7 .i64 fun n11 =>
  tCons l9 fun c8 l10 =>
  tSl c8 fun q1 q1n q1c =>
  tCons l10 fun c9 l11 =>
  tInt c9 .i64 fun n12 =>
  tCons l11 fun c10 l12 =>
  tInt c10 .i64 fun n13 =>
  tCons l12 fun c11 l13 =>
  tSl c11 fun q2 q2n q2c =>
  tNil l13 <|
  tCons l2 fun c12 l14 =>
  tBool c12 fun b1 =>
  tNil l14 <|
  newD H1 (.cells ⟨[(.bool false), (.int .i64 (0 : Int)), (.int .i64 (0 : Int)), (.int .i64 (0 : Int)), (.int .i64 (0 : Int)), (.int .i64 (0 : Int)), (.slice none 0 0), (.int .i64 (0 : Int)), (.int .i64 (0 : Int)), (.slice none 0 0)]⟩ 42) fun r H2 =>
  st1 H2 ⟨r, 0, none⟩ (.bool b) fun H3 =>
  st1 H3 ⟨r, 1, none⟩ (.int .i64 n7) fun H4 =>
  st1 H4 ⟨r, 2, none⟩ (.int .i64 n8) fun H5 =>
  st1 H5 ⟨r, 3, none⟩ (.int .i64 n9) fun H6 =>
  st1 H6 ⟨r, 4, none⟩ (.int .i64 n10) fun H7 =>
  st1 H7 ⟨r, 5, none⟩ (.int .i64 n11) fun H8 =>
  st1 H8 ⟨r, 6, none⟩ (.slice q1 q1n q1c) fun H9 =>
  st1 H9 ⟨r, 7, none⟩ (.int .i64 n12) fun H10 =>
  st1 H10 ⟨r, 8, none⟩ (.int .i64 n13) fun H11 =>
  st1 H11 ⟨r, 9, none⟩ (.slice q2 q2n q2c) fun H12 =>
  iteB (!b1) (
    R (.returned (.tuple ⟨[(.slice none 0 0), (.slice none 0 0), (.bool false)]⟩)) H12) <|
  iteB (((qn : Nat) : Int) == (0 : Int)) (
    R (.returned (.tuple ⟨[(.slice none 0 0), (.slice none 0 0), (.bool false)]⟩)) H12) <|
  L4 s7 s7n s7c q qn qc r s16 s16n s16c s17 s18 H12 R
theorem L3_step {s0 : Option Addr} {s0n : Nat} {s0c : Nat} {s7 : Option Addr} {s7n : Nat} {s7c : Nat} {s9 : Nat} {s16 : Option Addr} {s16n : Nat} {s16c : Nat} {s17 : Int} {s18 : Int} {H : Heap} {R : Ending → Heap → Prop} (h : L3n s0 s0n s0c s7 s7n s7c s9 s16 s16n s16c s17 s18 H R) : L3 s0 s0n s0c s7 s7n s7c s9 s16 s16n s16c s17 s18 H R :=
  goL_of_den (an := an) (fuel := 100000) (X := L3n s0 s0n s0c s7 s7n s7c s9 s16 s16n s16c s17 s18 H R) mixed fn (by kernel_rfl) (fun ρ0 => by kernel_rfl) h
def L4n (s7 : Option Addr) (s7n : Nat) (s7c : Nat) (s10 : Option Addr) (s10n : Nat) (s10c : Nat) (s11 : Nat) (s16 : Option Addr) (s16n : Nat) (s16c : Nat) (s17 : Int) (s18 : Int) (H : Heap) (R : Ending → Heap → Prop) : Prop :=
  callD Try.prog 11 [(.slice s10 s10n s10c)] H (panK R) fun v H1 =>
  tAgg v fun l =>
  tCons l fun c l1 =>
  tInt c .i64 fun n =>
  tCons l1 fun c1 l2 =>
  tInt c1 .i64 fun n1 =>
  tCons l2 fun c2 l3 =>
  tSl c2 fun q qn qc =>
  tNil l3 <|
  st1 H1 ⟨s11, 7, none⟩ (.int .i64 n) fun H2 =>
  st1 H2 ⟨s11, 8, none⟩ (.int .i64 n1) fun H3 =>
  st1 H3 ⟨s11, 9, none⟩ (.slice q qn qc) fun H4 =>
  ldBool H4 ⟨s11, 0, none⟩ fun b =>
  ldInt H4 ⟨s11, 1, none⟩ .i64 fun n2 =>
  ldInt H4 ⟨s11, 2, none⟩ .i64 fun n3 =>
  ldInt H4 ⟨s11, 3, none⟩ .i64 fun n4 =>
  ldInt H4 ⟨s11, 4, none⟩ .i64 fun n5 =>
  ldInt H4 ⟨s11, 5, none⟩ .i64 fun n6 =>
  ldSl H4 ⟨s11, 6, none⟩ fun q1 q1n q1c =>
  ldInt H4 ⟨s11, 7, none⟩ .i64 fun n7 =>
  ldInt H4 ⟨s11, 8, none⟩ .i64 fun n8 =>
  ldSl H4 ⟨s11, 9, none⟩ fun q2 q2n q2c =>
  newD H4 (.cells ⟨[(.bool b), (.int .i64 n2), (.int .i64 n3), (.int .i64 n4), (.int .i64 n5), (.int .i64 n6), (.slice q1 q1n q1c), (.int .i64 n7), (.int .i64 n8), (.slice q2 q2n q2c)]⟩ 42) fun r H5 =>
  apD H5 10 112 [(.bool false), (.int .i64 (0 : Int)), (.int .i64 (0 : Int)), (.int .i64 (0 : Int)), (.int .i64 (0 : Int)), (.int .i64 (0 : Int)), (.slice none 0 0), (.int .i64 (0 : Int)), (.int .i64 (0 : Int)), (.slice none 0 0)] 42 s7 s7n s7c (some ⟨r, 0, none⟩) 1 fun q3 q3n q3c H6 =>
  L0 s10 s10n s10c q3 q3n q3c s16 s16n s16c s17 (IntKind.wrap .i64 (s18 + (1 : Int))) H6 R
theorem L4_step {s7 : Option Addr} {s7n : Nat} {s7c : Nat} {s10 : Option Addr} {s10n : Nat} {s10c : Nat} {s11 : Nat} {s16 : Option Addr} {s16n : Nat} {s16c : Nat} {s17 : Int} {s18 : Int} {H : Heap} {R : Ending → Heap → Prop} (h : L4n s7 s7n s7c s10 s10n s10c s11 s16 s16n s16c s17 s18 H R) : L4 s7 s7n s7c s10 s10n s10c s11 s16 s16n s16c s17 s18 H R :=
  goL_of_den (an := an) (fuel := 100000) (X := L4n s7 s7n s7c s10 s10n s10c s11 s16 s16n s16c s17 s18 H R) mixed fn (by kernel_rfl) (fun ρ0 => by kernel_rfl) h
def go (s0 : Option Addr) (s0n : Nat) (s0c : Nat) (s1 : Option Addr) (s1n : Nat) (s1c : Nat) (H : Heap) (R : Ending → Heap → Prop) : Prop :=
  iteB (decide (((s1n : Nat) : Int) > (300 : Int))) (
    R (.returned (.tuple ⟨[(.slice none 0 0), (.slice none 0 0), (.bool false)]⟩)) H) <|
  L0 s0 s0n s0c none 0 0 s1 s1n s1c ((s1n : Nat) : Int) (0 : Int) H R
theorem calls {s0 : Option Addr} {s0n : Nat} {s0c : Nat} {s1 : Option Addr} {s1n : Nat} {s1c : Nat} {H : Heap} {R : Ending → Heap → Prop} (h : go s0 s0n s0c s1 s1n s1c H R) : CallsH Try.prog 7 ⟨[(.slice s0 s0n s0c), (.slice s1 s1n s1c)]⟩ H R :=
  callsH_of_den (an := an) (fuel := 100000) (X := go s0 s0n s0c s1 s1n s1c H R) (c := body) mixed fn (by kernel_rfl) (by kernel_rfl) (by kernel_rfl) ok (by kernel_rfl) h
end F7
/-! ### 8 "pub-stadtholder/laws.kyLive" -/
namespace F8
def an : Ann := { kinds := [], taus := [], pairs := [], lab := [] }
noncomputable def body : Code := (Try.f8.body).getD .skip
theorem fn : Try.prog.funcs[8]? = some Try.f8 := by kernel_rfl
theorem ok : codeOk an 39 body = true := by kernel_rfl
def go  (H : Heap) (R : Ending → Heap → Prop) : Prop :=
  newD H (.cells ⟨[(.int .i64 (1 : Int)), (.int .i64 (2 : Int)), (.int .i64 (0 : Int)), (.int .i64 (0 : Int)), (.int .i64 (0 : Int)), (.int .i64 (0 : Int)), (.int .i64 (0 : Int)), (.int .i64 (5 : Int)), (.int .i64 (0 : Int)), (.int .i64 (0 : Int)), (.int .i64 (0 : Int)), (.int .i64 (0 : Int)), (.int .i64 (0 : Int)), (.int .i64 (2 : Int))]⟩ 39) fun r H1 =>
  callD Try.prog 9 [(.string (ByteArray.mk #[107])), (.agg ⟨[(.int .i64 (0 : Int)), (.int .i64 (0 : Int)), (.slice none 0 0)]⟩), (.slice (some ⟨r, 0, none⟩) 2 2)] H1 (panK R) fun v H2 =>
  tTup v fun l =>
  tCons l fun c l1 =>
  tSl c fun q qn qc =>
  tCons l1 fun c1 l2 =>
  tBool c1 fun b =>
  tNil l2 <|
  iteB b (
    iteB (((qn : Nat) : Int) == (2 : Int)) (
      idxD q qn (1 : Int) fun a =>
      ldBool H2 (Addr.add a (Int.toNat (1 : Int) * 10)) fun b1 =>
      iteB b1 (
        idxD q qn (1 : Int) fun a1 =>
        ldInt H2 (Addr.add (Addr.add a1 (Int.toNat (1 : Int) * 10)) 5) .i64 fun n =>
        iteB (n == (1 : Int)) (
          idxD q qn (1 : Int) fun a2 =>
          ldInt H2 (Addr.add (Addr.add a2 (Int.toNat (1 : Int) * 10)) 1) .i64 fun n1 =>
          ldInt H2 (Addr.add (Addr.add (Addr.add a2 (Int.toNat (1 : Int) * 10)) 1) 1) .i64 fun n2 =>
          rawB Try.prog .eql 31 (.agg ⟨[(.int .i64 n1), (.int .i64 n2)]⟩) (.agg ⟨[(.int .i64 (2 : Int)), (.int .i64 (0 : Int))]⟩) fun b2 =>
          R (.returned (.bool b2)) H2) <|
        R (.returned (.bool false)) H2) <|
      R (.returned (.bool false)) H2) <|
    R (.returned (.bool false)) H2) <|
  R (.returned (.bool false)) H2
theorem calls  {H : Heap} {R : Ending → Heap → Prop} (h : go  H R) : CallsH Try.prog 8 ⟨[]⟩ H R :=
  callsH_of_den (an := an) (fuel := 100000) (X := go  H R) (c := body) mixed fn (by kernel_rfl) (by kernel_rfl) (by kernel_rfl) ok (by kernel_rfl) h
end F8
/-! ### 9 "pub-stadtholder/impl.Key" -/
namespace F9
def an : Ann := { kinds := [(1001, .loud)], taus := [], pairs := [], lab := [] }
noncomputable def body : Code := (Try.f9.body).getD .skip
theorem fn : Try.prog.funcs[9]? = some Try.f9 := by kernel_rfl
theorem ok : codeOk an 20 body = true := by kernel_rfl
def go (key : ByteArray) (d_0 : Int) (d_1 : Int) (d_2 : Option Addr) (d_2n : Nat) (d_2c : Nat) (ops : Option Addr) (opsn : Nat) (opsc : Nat) (H : Heap) (R : Ending → Heap → Prop) : Prop :=
  newD H (.cells ⟨[(.int .i64 d_0), (.int .i64 d_1), (.slice d_2 d_2n d_2c)]⟩ 34) fun r H1 =>
  newD H1 (.cells ⟨[(.slice ops opsn opsc)]⟩ 22) fun r1 H2 =>
  sbD H2 5 key fun r2 c H3 =>
  ldInt H3 ⟨r, 0, none⟩ .i64 fun n =>
  ldInt H3 ⟨r, 1, none⟩ .i64 fun n1 =>
  ldSl H3 ⟨r, 2, none⟩ fun q qn qc =>
  callD Try.prog 19 [(.agg ⟨[(.int .i64 n), (.int .i64 n1), (.slice q qn qc)]⟩)] H3 (panK R) fun v H4 =>
  tAgg v fun l =>
  tCons l fun c1 l1 =>
  tInt c1 .i64 fun n2 =>
  tCons l1 fun c2 l2 =>
  tInt c2 .i64 fun n3 =>
  tCons l2 fun c3 l3 =>
  tSl c3 fun q1 q1n q1c =>
  tNil l3 <|
  callD Try.prog 18 [(.slice (some ⟨r2, 0, none⟩) (ByteArray.size key) c), (.agg ⟨[(.int .i64 n2), (.int .i64 n3), (.slice q1 q1n q1c)]⟩)] H4 (panK R) fun v1 H5 =>
  tAgg v1 fun l4 =>
  tCons l4 fun c4 l5 =>
  tPtr c4 fun p =>
  tNil l5 <|
  newD H5 (.cells ⟨[(.pointer none)]⟩ 57) fun r3 H6 =>
  st1 H6 ⟨r3, 0, none⟩ (.pointer p) fun H7 =>
  newD H7 (.cells ⟨[(.slice none 0 0)]⟩ 24) fun r4 H8 =>
  callD Try.prog 20 [(.func (.func 21) ⟨[]⟩ ⟨[(.pointer (some ⟨r1, 0, none⟩)), (.pointer (some ⟨r4, 0, none⟩)), (.pointer (some ⟨r3, 0, none⟩))]⟩)] H8 (panK R) fun v2 H9 =>
  tBool v2 fun b =>
  ldSl H9 ⟨r4, 0, none⟩ fun q2 q2n q2c =>
  R (.returned (.tuple ⟨[(.slice q2 q2n q2c), (.bool b)]⟩)) H9
theorem calls {key : ByteArray} {d_0 : Int} {d_1 : Int} {d_2 : Option Addr} {d_2n : Nat} {d_2c : Nat} {ops : Option Addr} {opsn : Nat} {opsc : Nat} {H : Heap} {R : Ending → Heap → Prop} (h : go key d_0 d_1 d_2 d_2n d_2c ops opsn opsc H R) : CallsH Try.prog 9 ⟨[(.string key), (.agg ⟨[(.int .i64 d_0), (.int .i64 d_1), (.slice d_2 d_2n d_2c)]⟩), (.slice ops opsn opsc)]⟩ H R :=
  callsH_of_den (an := an) (fuel := 100000) (X := go key d_0 d_1 d_2 d_2n d_2c ops opsn opsc H R) (c := body) mixed fn (by kernel_rfl) (by kernel_rfl) (by kernel_rfl) ok (by kernel_rfl) h
end F9
/-! ### 10 "pub-stadtholder/laws.kyAlike" -/
namespace F10
def an : Ann := { kinds := [], taus := [(6, [[0, 1, 2, 4, 5, 6, 3, 7, 8, 9]])], pairs := [], lab := [(40000005, [0, 1, 12, 13])] }
noncomputable def body : Code := (Try.f10.body).getD .skip
theorem fn : Try.prog.funcs[10]? = some Try.f10 := by kernel_rfl
theorem ok : codeOk an 27 body = true := by kernel_rfl
noncomputable def L0t : List Item := [.code (sub [1, 1, 0, 1, 0, 0] body), .inLoop (sub [1, 1, 0, 1, 0, 0] body), .inBlock 0, .code (sub [1, 1, 1] body)]
def L0 (got : Option Addr) (gotn : Nat) (gotc : Nat) (want : Option Addr) (wantn : Nat) (wantc : Nat) (s12 : Int) (s13 : Int) (H : Heap) (R : Ending → Heap → Prop) : Prop :=
  GoL Try.prog 10 27 L0t [0, 1, 12, 13] [(.slice got gotn gotc), (.slice want wantn wantc), (.int .i64 s12), (.int .i64 s13)] H R
def L0n (got : Option Addr) (gotn : Nat) (gotc : Nat) (want : Option Addr) (wantn : Nat) (wantc : Nat) (s12 : Int) (s13 : Int) (H : Heap) (R : Ending → Heap → Prop) : Prop :=
  iteB (decide (s13 < s12)) (
    idxD got gotn s13 fun a =>
    idxD want wantn s13 fun a1 =>
    ldBool H (Addr.add a (Int.toNat s13 * 10)) fun b =>
    ldInt H (Addr.add (Addr.add a (Int.toNat s13 * 10)) 1) .i64 fun n =>
    ldInt H (Addr.add (Addr.add a (Int.toNat s13 * 10)) 2) .i64 fun n1 =>
    ldInt H (Addr.add (Addr.add a (Int.toNat s13 * 10)) 3) .i64 fun n2 =>
    ldInt H (Addr.add (Addr.add a (Int.toNat s13 * 10)) 4) .i64 fun n3 =>
    ldInt H (Addr.add (Addr.add a (Int.toNat s13 * 10)) 5) .i64 fun n4 =>
    ldSl H (Addr.add (Addr.add a (Int.toNat s13 * 10)) 6) fun q qn qc =>
    ldInt H (Addr.add (Addr.add a (Int.toNat s13 * 10)) 7) .i64 fun n5 =>
    ldInt H (Addr.add (Addr.add a (Int.toNat s13 * 10)) 8) .i64 fun n6 =>
    ldSl H (Addr.add (Addr.add a (Int.toNat s13 * 10)) 9) fun q1 q1n q1c =>
    ldBool H (Addr.add a1 (Int.toNat s13 * 10)) fun b1 =>
    ldInt H (Addr.add (Addr.add a1 (Int.toNat s13 * 10)) 1) .i64 fun n7 =>
    ldInt H (Addr.add (Addr.add a1 (Int.toNat s13 * 10)) 2) .i64 fun n8 =>
    ldInt H (Addr.add (Addr.add a1 (Int.toNat s13 * 10)) 3) .i64 fun n9 =>
    ldInt H (Addr.add (Addr.add a1 (Int.toNat s13 * 10)) 4) .i64 fun n10 =>
    ldInt H (Addr.add (Addr.add a1 (Int.toNat s13 * 10)) 5) .i64 fun n11 =>
    ldSl H (Addr.add (Addr.add a1 (Int.toNat s13 * 10)) 6) fun q2 q2n q2c =>
    ldInt H (Addr.add (Addr.add a1 (Int.toNat s13 * 10)) 7) .i64 fun n12 =>
    ldInt H (Addr.add (Addr.add a1 (Int.toNat s13 * 10)) 8) .i64 fun n13 =>
    ldSl H (Addr.add (Addr.add a1 (Int.toNat s13 * 10)) 9) fun q3 q3n q3c =>
    callD Try.prog 23 [(.agg ⟨[(.bool b), (.int .i64 n), (.int .i64 n1), (.int .i64 n2), (.int .i64 n3), (.int .i64 n4), (.slice q qn qc), (.int .i64 n5), (.int .i64 n6), (.slice q1 q1n q1c)]⟩), (.agg ⟨[(.bool b1), (.int .i64 n7), (.int .i64 n8), (.int .i64 n9), (.int .i64 n10), (.int .i64 n11), (.slice q2 q2n q2c), (.int .i64 n12), (.int .i64 n13), (.slice q3 q3n q3c)]⟩)] H (panK R) fun v H1 =>
    tBool v fun b2 =>
    iteB (!b2) (
      R (.returned (.bool false)) H1) <|
    L0 got gotn gotc want wantn wantc s12 (IntKind.wrap .i64 (s13 + (1 : Int))) H1 R) <|
  R (.returned (.bool true)) H
theorem L0_step {got : Option Addr} {gotn : Nat} {gotc : Nat} {want : Option Addr} {wantn : Nat} {wantc : Nat} {s12 : Int} {s13 : Int} {H : Heap} {R : Ending → Heap → Prop} (h : L0n got gotn gotc want wantn wantc s12 s13 H R) : L0 got gotn gotc want wantn wantc s12 s13 H R :=
  goL_of_den (an := an) (fuel := 100000) (X := L0n got gotn gotc want wantn wantc s12 s13 H R) mixed fn (by kernel_rfl) (fun ρ0 => by kernel_rfl) h
def go (got : Option Addr) (gotn : Nat) (gotc : Nat) (want : Option Addr) (wantn : Nat) (wantc : Nat) (H : Heap) (R : Ending → Heap → Prop) : Prop :=
  iteB (((gotn : Nat) : Int) != ((wantn : Nat) : Int)) (
    R (.returned (.bool false)) H) <|
  L0 got gotn gotc want wantn wantc ((gotn : Nat) : Int) (0 : Int) H R
theorem calls {got : Option Addr} {gotn : Nat} {gotc : Nat} {want : Option Addr} {wantn : Nat} {wantc : Nat} {H : Heap} {R : Ending → Heap → Prop} (h : go got gotn gotc want wantn wantc H R) : CallsH Try.prog 10 ⟨[(.slice got gotn gotc), (.slice want wantn wantc)]⟩ H R :=
  callsH_of_den (an := an) (fuel := 100000) (X := go got gotn gotc want wantn wantc H R) (c := body) mixed fn (by kernel_rfl) (by kernel_rfl) (by kernel_rfl) ok (by kernel_rfl) h
end F10
/-! ### 11 "pub-stadtholder/spec.Dump" -/
namespace F11
def an : Ann := { kinds := [(10007, .grow)], taus := [(10, [[0, 1, 2, 3, 5, 4, 6, 7, 8, 9, 10, 11]])], pairs := [], lab := [(40000005, [0, 2, 3, 4, 11, 12, 13]), (20000015, [2, 3]), (60000009, [0, 2, 3, 6, 11, 12, 13])] }
noncomputable def body : Code := (Try.f11.body).getD .skip
theorem fn : Try.prog.funcs[11]? = some Try.f11 := by kernel_rfl
theorem ok : codeOk an 69 body = true := by kernel_rfl
noncomputable def L0t : List Item := [.code (sub [1, 1, 1, 0, 1, 0, 0] body), .inLoop (sub [1, 1, 1, 0, 1, 0, 0] body), .inBlock 0, .code (sub [1, 1, 1, 1] body)]
def L0 (s0 : Option Addr) (s0n : Nat) (s0c : Nat) (s2 : Nat) (s3 : Nat) (s4 : Bool) (s11 : Option Addr) (s11n : Nat) (s11c : Nat) (s12 : Int) (s13 : Int) (H : Heap) (R : Ending → Heap → Prop) : Prop :=
  GoL Try.prog 11 69 L0t [0, 2, 3, 4, 11, 12, 13] [(.slice s0 s0n s0c), (.pointer (some ⟨s2, 0, none⟩)), (.pointer (some ⟨s3, 0, none⟩)), (.bool s4), (.slice s11 s11n s11c), (.int .i64 s12), (.int .i64 s13)] H R
noncomputable def L1t : List Item := [.code (sub [1, 1, 1, 1, 0, 1, 0] body), .code (sub [1, 1, 1, 1, 1] body)]
def L1 (s2 : Nat) (s3 : Nat) (H : Heap) (R : Ending → Heap → Prop) : Prop :=
  GoL Try.prog 11 69 L1t [2, 3] [(.pointer (some ⟨s2, 0, none⟩)), (.pointer (some ⟨s3, 0, none⟩))] H R
noncomputable def L2t : List Item := [.code (sub [1, 1, 1, 0, 1, 0, 0, 1, 1, 0, 0, 1, 1] body), .inBlock 1, .code (sub [1, 1, 1, 0, 1, 0, 0, 1, 1, 1] body), .inLoop (sub [1, 1, 1, 0, 1, 0, 0] body), .inBlock 0, .code (sub [1, 1, 1, 1] body)]
def L2 (s0 : Option Addr) (s0n : Nat) (s0c : Nat) (s2 : Nat) (s3 : Nat) (s6 : Nat) (s11 : Option Addr) (s11n : Nat) (s11c : Nat) (s12 : Int) (s13 : Int) (H : Heap) (R : Ending → Heap → Prop) : Prop :=
  GoL Try.prog 11 69 L2t [0, 2, 3, 6, 11, 12, 13] [(.slice s0 s0n s0c), (.pointer (some ⟨s2, 0, none⟩)), (.pointer (some ⟨s3, 0, none⟩)), (.pointer (some ⟨s6, 0, none⟩)), (.slice s11 s11n s11c), (.int .i64 s12), (.int .i64 s13)] H R
def L0n (s0 : Option Addr) (s0n : Nat) (s0c : Nat) (s2 : Nat) (s3 : Nat) (s4 : Bool) (s11 : Option Addr) (s11n : Nat) (s11c : Nat) (s12 : Int) (s13 : Int) (H : Heap) (R : Ending → Heap → Prop) : Prop :=
  iteB (decide (s13 < s12)) (
    idxD s11 s11n s13 fun a =>
    ldInt H (Addr.add a (Int.toNat s13 * 6)) .i64 fun n =>
    ldInt H (Addr.add (Addr.add a (Int.toNat s13 * 6)) 1) .i64 fun n1 =>
    ldInt H (Addr.add (Addr.add a (Int.toNat s13 * 6)) 2) .i64 fun n2 =>
    ldInt H (Addr.add (Addr.add a (Int.toNat s13 * 6)) 3) .i64 fun n3 =>
    ldInt H (Addr.add (Addr.add a (Int.toNat s13 * 6)) 4) .i64 fun n4 =>
    ldBool H (Addr.add (Addr.add a (Int.toNat s13 * 6)) 5) fun b =>
    newD H (.cells ⟨[(.int .i64 (0 : Int)), (.int .i64 (0 : Int)), (.int .i64 (0 : Int)), (.int .i64 (0 : Int)), (.int .i64 (0 : Int)), (.bool false)]⟩ 46) fun r H1 =>
    st1 H1 ⟨r, 0, none⟩ (.int .i64 n) fun H2 =>
    st1 H2 ⟨r, 1, none⟩ (.int .i64 n1) fun H3 =>
    st1 H3 ⟨r, 2, none⟩ (.int .i64 n2) fun H4 =>
    st1 H4 ⟨r, 3, none⟩ (.int .i64 n3) fun H5 =>
    st1 H5 ⟨r, 4, none⟩ (.int .i64 n4) fun H6 =>
    st1 H6 ⟨r, 5, none⟩ (.bool b) fun H7 =>
    iteB (!s4) (
      ldSl H7 ⟨s3, 2, none⟩ fun q qn qc =>
      ldInt H7 ⟨r, 2, none⟩ .i64 fun n5 =>
      ldInt H7 ⟨r, 3, none⟩ .i64 fun n6 =>
      newD H7 (.cells ⟨[(.int .i64 (0 : Int)), (.int .i64 n5), (.int .i64 n6), (.slice none 0 0)]⟩ 69) fun r1 H8 =>
      apD H8 4 48 [(.int .i64 (0 : Int)), (.int .i64 (0 : Int)), (.int .i64 (0 : Int)), (.slice none 0 0)] 69 q qn qc (some ⟨r1, 0, none⟩) 1 fun q1 q1n q1c H9 =>
      st1 H9 ⟨s3, 2, none⟩ (.slice q1 q1n q1c) fun H10 =>
      L2 s0 s0n s0c s2 s3 r s11 s11n s11c s12 s13 H10 R) <|
    L2 s0 s0n s0c s2 s3 r s11 s11n s11c s12 s13 H7 R) <|
  iteB (decide (((s0n : Nat) : Int) > (0 : Int))) (
    callD Try.prog 15 [(.slice s0 s0n s0c)] H (panK R) fun v H11 =>
    tBool v fun b1 =>
    iteB (!b1) (
      L1 s2 s3 H11 R) <|
    ldInt H11 ⟨s3, 0, none⟩ .i64 fun n7 =>
    ldInt H11 ⟨s3, 1, none⟩ .i64 fun n8 =>
    ldSl H11 ⟨s3, 2, none⟩ fun q2 q2n q2c =>
    st1 H11 ⟨s2, 0, none⟩ (.int .i64 n7) fun H12 =>
    st1 H12 ⟨s2, 1, none⟩ (.int .i64 n8) fun H13 =>
    st1 H13 ⟨s2, 2, none⟩ (.slice q2 q2n q2c) fun H14 =>
    ldInt H14 ⟨s2, 0, none⟩ .i64 fun n9 =>
    ldInt H14 ⟨s2, 1, none⟩ .i64 fun n10 =>
    ldSl H14 ⟨s2, 2, none⟩ fun q3 q3n q3c =>
    R (.returned (.agg ⟨[(.int .i64 n9), (.int .i64 n10), (.slice q3 q3n q3c)]⟩)) H14) <|
  ldInt H ⟨s3, 0, none⟩ .i64 fun n11 =>
  ldInt H ⟨s3, 1, none⟩ .i64 fun n12 =>
  ldSl H ⟨s3, 2, none⟩ fun q4 q4n q4c =>
  st1 H ⟨s2, 0, none⟩ (.int .i64 n11) fun H15 =>
  st1 H15 ⟨s2, 1, none⟩ (.int .i64 n12) fun H16 =>
  st1 H16 ⟨s2, 2, none⟩ (.slice q4 q4n q4c) fun H17 =>
  ldInt H17 ⟨s2, 0, none⟩ .i64 fun n13 =>
  ldInt H17 ⟨s2, 1, none⟩ .i64 fun n14 =>
  ldSl H17 ⟨s2, 2, none⟩ fun q5 q5n q5c =>
  R (.returned (.agg ⟨[(.int .i64 n13), (.int .i64 n14), (.slice q5 q5n q5c)]⟩)) H17
theorem L0_step {s0 : Option Addr} {s0n : Nat} {s0c : Nat} {s2 : Nat} {s3 : Nat} {s4 : Bool} {s11 : Option Addr} {s11n : Nat} {s11c : Nat} {s12 : Int} {s13 : Int} {H : Heap} {R : Ending → Heap → Prop} (h : L0n s0 s0n s0c s2 s3 s4 s11 s11n s11c s12 s13 H R) : L0 s0 s0n s0c s2 s3 s4 s11 s11n s11c s12 s13 H R :=
  goL_of_den (an := an) (fuel := 100000) (X := L0n s0 s0n s0c s2 s3 s4 s11 s11n s11c s12 s13 H R) mixed fn (by kernel_rfl) (fun ρ0 => by kernel_rfl) h
def L1n (s2 : Nat) (s3 : Nat) (H : Heap) (R : Ending → Heap → Prop) : Prop :=
  ldSl H ⟨s3, 2, none⟩ fun q qn qc =>
  newD H (.cells ⟨[(.int .i64 (0 : Int)), (.int .i64 (0 : Int)), (.int .i64 (0 : Int)), (.slice none 0 0)]⟩ 69) fun r H1 =>
  apD H1 4 48 [(.int .i64 (0 : Int)), (.int .i64 (0 : Int)), (.int .i64 (0 : Int)), (.slice none 0 0)] 69 q qn qc (some ⟨r, 0, none⟩) 1 fun q1 q1n q1c H2 =>
  st1 H2 ⟨s3, 2, none⟩ (.slice q1 q1n q1c) fun H3 =>
  ldInt H3 ⟨s3, 0, none⟩ .i64 fun n =>
  ldInt H3 ⟨s3, 1, none⟩ .i64 fun n1 =>
  ldSl H3 ⟨s3, 2, none⟩ fun q2 q2n q2c =>
  st1 H3 ⟨s2, 0, none⟩ (.int .i64 n) fun H4 =>
  st1 H4 ⟨s2, 1, none⟩ (.int .i64 n1) fun H5 =>
  st1 H5 ⟨s2, 2, none⟩ (.slice q2 q2n q2c) fun H6 =>
  ldInt H6 ⟨s2, 0, none⟩ .i64 fun n2 =>
  ldInt H6 ⟨s2, 1, none⟩ .i64 fun n3 =>
  ldSl H6 ⟨s2, 2, none⟩ fun q3 q3n q3c =>
  R (.returned (.agg ⟨[(.int .i64 n2), (.int .i64 n3), (.slice q3 q3n q3c)]⟩)) H6
theorem L1_step {s2 : Nat} {s3 : Nat} {H : Heap} {R : Ending → Heap → Prop} (h : L1n s2 s3 H R) : L1 s2 s3 H R :=
  goL_of_den (an := an) (fuel := 100000) (X := L1n s2 s3 H R) mixed fn (by kernel_rfl) (fun ρ0 => by kernel_rfl) h
def L2n (s0 : Option Addr) (s0n : Nat) (s0c : Nat) (s2 : Nat) (s3 : Nat) (s6 : Nat) (s11 : Option Addr) (s11n : Nat) (s11c : Nat) (s12 : Int) (s13 : Int) (H : Heap) (R : Ending → Heap → Prop) : Prop :=
  ldSl H ⟨s3, 2, none⟩ fun q qn qc =>
  ldSl H ⟨s3, 2, none⟩ fun q1 q1n q1c =>
  idxD q qn (IntKind.wrap .i64 (((q1n : Nat) : Int) - (1 : Int))) fun a =>
  ldInt H ⟨s6, 4, none⟩ .i64 fun n =>
  st1 H (Addr.add a (Int.toNat (IntKind.wrap .i64 (((q1n : Nat) : Int) - (1 : Int))) * 4)) (.int .i64 n) fun H1 =>
  ldSl H1 (Addr.add (Addr.add a (Int.toNat (IntKind.wrap .i64 (((q1n : Nat) : Int) - (1 : Int))) * 4)) 3) fun q2 q2n q2c =>
  ldInt H1 ⟨s6, 0, none⟩ .i64 fun n1 =>
  ldInt H1 ⟨s6, 1, none⟩ .i64 fun n2 =>
  newD H1 (.cells ⟨[(.int .i64 n1), (.int .i64 n2)]⟩ 31) fun r H2 =>
  apD H2 2 16 [(.int .i64 (0 : Int)), (.int .i64 (0 : Int))] 31 q2 q2n q2c (some ⟨r, 0, none⟩) 1 fun q3 q3n q3c H3 =>
  st1 H3 (Addr.add (Addr.add a (Int.toNat (IntKind.wrap .i64 (((q1n : Nat) : Int) - (1 : Int))) * 4)) 3) (.slice q3 q3n q3c) fun H4 =>
  ldBool H4 ⟨s6, 5, none⟩ fun b =>
  L0 s0 s0n s0c s2 s3 (!b) s11 s11n s11c s12 (IntKind.wrap .i64 (s13 + (1 : Int))) H4 R
theorem L2_step {s0 : Option Addr} {s0n : Nat} {s0c : Nat} {s2 : Nat} {s3 : Nat} {s6 : Nat} {s11 : Option Addr} {s11n : Nat} {s11c : Nat} {s12 : Int} {s13 : Int} {H : Heap} {R : Ending → Heap → Prop} (h : L2n s0 s0n s0c s2 s3 s6 s11 s11n s11c s12 s13 H R) : L2 s0 s0n s0c s2 s3 s6 s11 s11n s11c s12 s13 H R :=
  goL_of_den (an := an) (fuel := 100000) (X := L2n s0 s0n s0c s2 s3 s6 s11 s11n s11c s12 s13 H R) mixed fn (by kernel_rfl) (fun ρ0 => by kernel_rfl) h
def go (s0 : Option Addr) (s0n : Nat) (s0c : Nat) (H : Heap) (R : Ending → Heap → Prop) : Prop :=
  newD H (.cells ⟨[(.int .i64 (0 : Int)), (.int .i64 (0 : Int)), (.slice none 0 0)]⟩ 34) fun r H1 =>
  callD Try.prog 16 [(.slice s0 s0n s0c)] H1 (panK R) fun v H2 =>
  tAgg v fun l =>
  tCons l fun c l1 =>
  tInt c .i64 fun n =>
  tCons l1 fun c1 l2 =>
  tInt c1 .i64 fun n1 =>
  tNil l2 <|
  newD H2 (.cells ⟨[(.int .i64 (0 : Int)), (.int .i64 (0 : Int)), (.slice none 0 0)]⟩ 34) fun r1 H3 =>
  st1 H3 ⟨r1, 0, none⟩ (.int .i64 n) fun H4 =>
  st1 H4 ⟨r1, 1, none⟩ (.int .i64 n1) fun H5 =>
  st1 H5 ⟨r1, 2, none⟩ (.slice none 0 0) fun H6 =>
  L0 s0 s0n s0c r r1 false s0 s0n s0c ((s0n : Nat) : Int) (0 : Int) H6 R
theorem calls {s0 : Option Addr} {s0n : Nat} {s0c : Nat} {H : Heap} {R : Ending → Heap → Prop} (h : go s0 s0n s0c H R) : CallsH Try.prog 11 ⟨[(.slice s0 s0n s0c)]⟩ H R :=
  callsH_of_den (an := an) (fuel := 100000) (X := go s0 s0n s0c H R) (c := body) mixed fn (by kernel_rfl) (by kernel_rfl) (by kernel_rfl) ok (by kernel_rfl) h
end F11
/-! ### 12 "pub-stadtholder/spec.Compacted" -/
namespace F12
def an : Ann := { kinds := [], taus := [], pairs := [], lab := [(40000004, [0, 1, 5, 8, 9, 10]), (40000008, [0, 1, 5, 8, 9, 10])] }
noncomputable def body : Code := (Try.f12.body).getD .skip
theorem fn : Try.prog.funcs[12]? = some Try.f12 := by kernel_rfl
theorem ok : codeOk an 25 body = true := by kernel_rfl
noncomputable def L0t : List Item := [.code (sub [1, 1, 0, 1, 0, 0] body), .inLoop (sub [1, 1, 0, 1, 0, 0] body), .inBlock 0, .code (sub [1, 1, 1] body)]
def L0 (l : Option Addr) (ln : Nat) (lc : Nat) (xat : Int) (out : Option Addr) (outn : Nat) (outc : Nat) (s8 : Option Addr) (s8n : Nat) (s8c : Nat) (s9 : Int) (s10 : Int) (H : Heap) (R : Ending → Heap → Prop) : Prop :=
  GoL Try.prog 12 25 L0t [0, 1, 5, 8, 9, 10] [(.slice l ln lc), (.int .i64 xat), (.slice out outn outc), (.slice s8 s8n s8c), (.int .i64 s9), (.int .i64 s10)] H R
noncomputable def L1t : List Item := [.code (sub [1, 1, 0, 1, 0, 0, 1, 1, 1] body), .inLoop (sub [1, 1, 0, 1, 0, 0] body), .inBlock 0, .code (sub [1, 1, 1] body)]
def L1 (l : Option Addr) (ln : Nat) (lc : Nat) (xat : Int) (out : Option Addr) (outn : Nat) (outc : Nat) (s8 : Option Addr) (s8n : Nat) (s8c : Nat) (s9 : Int) (s10 : Int) (H : Heap) (R : Ending → Heap → Prop) : Prop :=
  GoL Try.prog 12 25 L1t [0, 1, 5, 8, 9, 10] [(.slice l ln lc), (.int .i64 xat), (.slice out outn outc), (.slice s8 s8n s8c), (.int .i64 s9), (.int .i64 s10)] H R
def L0n (l : Option Addr) (ln : Nat) (lc : Nat) (xat : Int) (out : Option Addr) (outn : Nat) (outc : Nat) (s8 : Option Addr) (s8n : Nat) (s8c : Nat) (s9 : Int) (s10 : Int) (H : Heap) (R : Ending → Heap → Prop) : Prop :=
  iteB (decide (s10 < s9)) (
    idxD s8 s8n s10 fun a =>
    ldInt H (Addr.add a (Int.toNat s10 * 6)) .i64 fun n =>
    ldInt H (Addr.add (Addr.add a (Int.toNat s10 * 6)) 1) .i64 fun n1 =>
    ldInt H (Addr.add (Addr.add a (Int.toNat s10 * 6)) 2) .i64 fun n2 =>
    ldInt H (Addr.add (Addr.add a (Int.toNat s10 * 6)) 3) .i64 fun n3 =>
    ldInt H (Addr.add (Addr.add a (Int.toNat s10 * 6)) 4) .i64 fun n4 =>
    ldBool H (Addr.add (Addr.add a (Int.toNat s10 * 6)) 5) fun b =>
    newD H (.cells ⟨[(.int .i64 (0 : Int)), (.int .i64 (0 : Int)), (.int .i64 (0 : Int)), (.int .i64 (0 : Int)), (.int .i64 (0 : Int)), (.bool false)]⟩ 46) fun r H1 =>
    st1 H1 ⟨r, 0, none⟩ (.int .i64 n) fun H2 =>
    st1 H2 ⟨r, 1, none⟩ (.int .i64 n1) fun H3 =>
    st1 H3 ⟨r, 2, none⟩ (.int .i64 n2) fun H4 =>
    st1 H4 ⟨r, 3, none⟩ (.int .i64 n3) fun H5 =>
    st1 H5 ⟨r, 4, none⟩ (.int .i64 n4) fun H6 =>
    st1 H6 ⟨r, 5, none⟩ (.bool b) fun H7 =>
    callD Try.prog 24 [(.slice l ln lc), (.int .i64 s10), (.int .i64 xat)] H7 (panK R) fun v H8 =>
    tBool v fun b1 =>
    iteB b1 (
      ldInt H8 ⟨r, 0, none⟩ .i64 fun n5 =>
      ldInt H8 ⟨r, 1, none⟩ .i64 fun n6 =>
      ldInt H8 ⟨r, 2, none⟩ .i64 fun n7 =>
      ldInt H8 ⟨r, 3, none⟩ .i64 fun n8 =>
      ldInt H8 ⟨r, 4, none⟩ .i64 fun n9 =>
      ldBool H8 ⟨r, 5, none⟩ fun b2 =>
      newD H8 (.cells ⟨[(.int .i64 n5), (.int .i64 n6), (.int .i64 n7), (.int .i64 n8), (.int .i64 n9), (.bool b2)]⟩ 46) fun r1 H9 =>
      apD H9 6 48 [(.int .i64 (0 : Int)), (.int .i64 (0 : Int)), (.int .i64 (0 : Int)), (.int .i64 (0 : Int)), (.int .i64 (0 : Int)), (.bool false)] 46 out outn outc (some ⟨r1, 0, none⟩) 1 fun q qn qc H10 =>
      L1 l ln lc xat q qn qc s8 s8n s8c s9 s10 H10 R) <|
    L1 l ln lc xat out outn outc s8 s8n s8c s9 s10 H8 R) <|
  R (.returned (.slice out outn outc)) H
theorem L0_step {l : Option Addr} {ln : Nat} {lc : Nat} {xat : Int} {out : Option Addr} {outn : Nat} {outc : Nat} {s8 : Option Addr} {s8n : Nat} {s8c : Nat} {s9 : Int} {s10 : Int} {H : Heap} {R : Ending → Heap → Prop} (h : L0n l ln lc xat out outn outc s8 s8n s8c s9 s10 H R) : L0 l ln lc xat out outn outc s8 s8n s8c s9 s10 H R :=
  goL_of_den (an := an) (fuel := 100000) (X := L0n l ln lc xat out outn outc s8 s8n s8c s9 s10 H R) mixed fn (by kernel_rfl) (fun ρ0 => by kernel_rfl) h
def L1n (l : Option Addr) (ln : Nat) (lc : Nat) (xat : Int) (out : Option Addr) (outn : Nat) (outc : Nat) (s8 : Option Addr) (s8n : Nat) (s8c : Nat) (s9 : Int) (s10 : Int) (H : Heap) (R : Ending → Heap → Prop) : Prop :=
  L0 l ln lc xat out outn outc s8 s8n s8c s9 (IntKind.wrap .i64 (s10 + (1 : Int))) H R
theorem L1_step {l : Option Addr} {ln : Nat} {lc : Nat} {xat : Int} {out : Option Addr} {outn : Nat} {outc : Nat} {s8 : Option Addr} {s8n : Nat} {s8c : Nat} {s9 : Int} {s10 : Int} {H : Heap} {R : Ending → Heap → Prop} (h : L1n l ln lc xat out outn outc s8 s8n s8c s9 s10 H R) : L1 l ln lc xat out outn outc s8 s8n s8c s9 s10 H R :=
  goL_of_den (an := an) (fuel := 100000) (X := L1n l ln lc xat out outn outc s8 s8n s8c s9 s10 H R) mixed fn (by kernel_rfl) (fun ρ0 => by kernel_rfl) h
def go (l : Option Addr) (ln : Nat) (lc : Nat) (xat : Int) (H : Heap) (R : Ending → Heap → Prop) : Prop :=
  L0 l ln lc xat none 0 0 l ln lc ((ln : Nat) : Int) (0 : Int) H R
theorem calls {l : Option Addr} {ln : Nat} {lc : Nat} {xat : Int} {H : Heap} {R : Ending → Heap → Prop} (h : go l ln lc xat H R) : CallsH Try.prog 12 ⟨[(.slice l ln lc), (.int .i64 xat)]⟩ H R :=
  callsH_of_den (an := an) (fuel := 100000) (X := go l ln lc xat H R) (c := body) mixed fn (by kernel_rfl) (by kernel_rfl) (by kernel_rfl) ok (by kernel_rfl) h
end F12
/-! ### 13 "pub-stadtholder/laws.ixRev" -/
namespace F13
def an : Ann := { kinds := [], taus := [], pairs := [], lab := [] }
noncomputable def body : Code := (Try.f13.body).getD .skip
theorem fn : Try.prog.funcs[13]? = some Try.f13 := by kernel_rfl
theorem ok : codeOk an 11 body = true := by kernel_rfl
def go (r_0 : Int) (r_1 : Int) (H : Heap) (R : Ending → Heap → Prop) : Prop :=
  newD H (.cells ⟨[(.int .i64 r_0), (.int .i64 r_1)]⟩ 31) fun r H1 =>
  ldInt H1 ⟨r, 0, none⟩ .i64 fun n =>
  iteB (decide (n ≥ (1 : Int))) (
    ldInt H1 ⟨r, 1, none⟩ .i64 fun n1 =>
    R (.returned (.bool (decide (n1 ≥ (0 : Int))))) H1) <|
  R (.returned (.bool false)) H1
theorem calls {r_0 : Int} {r_1 : Int} {H : Heap} {R : Ending → Heap → Prop} (h : go r_0 r_1 H R) : CallsH Try.prog 13 ⟨[(.agg ⟨[(.int .i64 r_0), (.int .i64 r_1)]⟩)]⟩ H R :=
  callsH_of_den (an := an) (fuel := 100000) (X := go r_0 r_1 H R) (c := body) mixed fn (by kernel_rfl) (by kernel_rfl) (by kernel_rfl) ok (by kernel_rfl) h
end F13
/-! ### 14 "pub-stadtholder/impl.Walk" -/
namespace F14
def an : Ann := { kinds := [], taus := [], pairs := [], lab := [] }
noncomputable def body : Code := (Try.f14.body).getD .skip
theorem fn : Try.prog.funcs[14]? = some Try.f14 := by kernel_rfl
theorem ok : codeOk an 9 body = true := by kernel_rfl
def go (revs : Option Addr) (revsn : Nat) (revsc : Nat) (xat : Int) (H : Heap) (R : Ending → Heap → Prop) : Prop :=
  callD Try.prog 26 [(.slice revs revsn revsc)] H (panK R) fun v H1 =>
  tSl v fun q qn qc =>
  callD Try.prog 25 [(.slice q qn qc), (.int .i64 xat)] H1 (panK R) fun v1 H2 =>
  tInt v1 .i64 fun n =>
  R (.returned (.int .i64 n)) H2
theorem calls {revs : Option Addr} {revsn : Nat} {revsc : Nat} {xat : Int} {H : Heap} {R : Ending → Heap → Prop} (h : go revs revsn revsc xat H R) : CallsH Try.prog 14 ⟨[(.slice revs revsn revsc), (.int .i64 xat)]⟩ H R :=
  callsH_of_den (an := an) (fuel := 100000) (X := go revs revsn revsc xat H R) (c := body) mixed fn (by kernel_rfl) (by kernel_rfl) (by kernel_rfl) ok (by kernel_rfl) h
end F14
/-! ### 15 "pub-stadtholder/spec.Lives" -/
namespace F15
def an : Ann := { kinds := [], taus := [], pairs := [], lab := [] }
noncomputable def body : Code := (Try.f15.body).getD .skip
theorem fn : Try.prog.funcs[15]? = some Try.f15 := by kernel_rfl
theorem ok : codeOk an 16 body = true := by kernel_rfl
def go (l : Option Addr) (ln : Nat) (lc : Nat) (H : Heap) (R : Ending → Heap → Prop) : Prop :=
  iteB (decide (((ln : Nat) : Int) > (0 : Int))) (
    idxD l ln (IntKind.wrap .i64 (((ln : Nat) : Int) - (1 : Int))) fun a =>
    ldBool H (Addr.add (Addr.add a (Int.toNat (IntKind.wrap .i64 (((ln : Nat) : Int) - (1 : Int))) * 6)) 5) fun b =>
    R (.returned (.bool (!b))) H) <|
  R (.returned (.bool false)) H
theorem calls {l : Option Addr} {ln : Nat} {lc : Nat} {H : Heap} {R : Ending → Heap → Prop} (h : go l ln lc H R) : CallsH Try.prog 15 ⟨[(.slice l ln lc)]⟩ H R :=
  callsH_of_den (an := an) (fuel := 100000) (X := go l ln lc H R) (c := body) mixed fn (by kernel_rfl) (by kernel_rfl) (by kernel_rfl) ok (by kernel_rfl) h
end F15
/-! ### 16 "pub-stadtholder/spec.Modified" -/
namespace F16
def an : Ann := { kinds := [], taus := [], pairs := [], lab := [] }
noncomputable def body : Code := (Try.f16.body).getD .skip
theorem fn : Try.prog.funcs[16]? = some Try.f16 := by kernel_rfl
theorem ok : codeOk an 14 body = true := by kernel_rfl
def go (l : Option Addr) (ln : Nat) (lc : Nat) (H : Heap) (R : Ending → Heap → Prop) : Prop :=
  newD H (.cells ⟨[(.int .i64 (0 : Int)), (.int .i64 (0 : Int))]⟩ 31) fun r H1 =>
  iteB (((ln : Nat) : Int) == (0 : Int)) (
    st1 H1 ⟨r, 0, none⟩ (.int .i64 (0 : Int)) fun H2 =>
    st1 H2 ⟨r, 1, none⟩ (.int .i64 (0 : Int)) fun H3 =>
    ldInt H3 ⟨r, 0, none⟩ .i64 fun n =>
    ldInt H3 ⟨r, 1, none⟩ .i64 fun n1 =>
    R (.returned (.agg ⟨[(.int .i64 n), (.int .i64 n1)]⟩)) H3) <|
  idxD l ln (IntKind.wrap .i64 (((ln : Nat) : Int) - (1 : Int))) fun a =>
  ldInt H1 (Addr.add a (Int.toNat (IntKind.wrap .i64 (((ln : Nat) : Int) - (1 : Int))) * 6)) .i64 fun n2 =>
  ldInt H1 (Addr.add (Addr.add a (Int.toNat (IntKind.wrap .i64 (((ln : Nat) : Int) - (1 : Int))) * 6)) 1) .i64 fun n3 =>
  st1 H1 ⟨r, 0, none⟩ (.int .i64 n2) fun H4 =>
  st1 H4 ⟨r, 1, none⟩ (.int .i64 n3) fun H5 =>
  ldInt H5 ⟨r, 0, none⟩ .i64 fun n4 =>
  ldInt H5 ⟨r, 1, none⟩ .i64 fun n5 =>
  R (.returned (.agg ⟨[(.int .i64 n4), (.int .i64 n5)]⟩)) H5
theorem calls {l : Option Addr} {ln : Nat} {lc : Nat} {H : Heap} {R : Ending → Heap → Prop} (h : go l ln lc H R) : CallsH Try.prog 16 ⟨[(.slice l ln lc)]⟩ H R :=
  callsH_of_den (an := an) (fuel := 100000) (X := go l ln lc H R) (c := body) mixed fn (by kernel_rfl) (by kernel_rfl) (by kernel_rfl) ok (by kernel_rfl) h
end F16
/-! ### 17 "pub-stadtholder/spec.KeyDo" -/
namespace F17
def an : Ann := { kinds := [(4001, .grow), (10001, .grow)], taus := [(4, [[0, 2, 3, 1, 4, 5]]), (5, [[0, 2, 1, 3, 4]]), (10, [[0, 2, 3, 1, 4, 5]]), (23, [[0, 2, 1, 3, 4]])], pairs := [], lab := [] }
noncomputable def body : Code := (Try.f17.body).getD .skip
theorem fn : Try.prog.funcs[17]? = some Try.f17 := by kernel_rfl
theorem ok : codeOk an 90 body = true := by kernel_rfl
def go (s0 : Option Addr) (s0n : Nat) (s0c : Nat) (s1_0 : Int) (s1_1 : Int) (s1_2 : Int) (s1_3 : Int) (s1_4 : Int) (s1_5 : Int) (s1_6 : Int) (H : Heap) (R : Ending → Heap → Prop) : Prop :=
  newD H (.cells ⟨[(.int .i64 s1_0), (.int .i64 s1_1), (.int .i64 s1_2), (.int .i64 s1_3), (.int .i64 s1_4), (.int .i64 s1_5), (.int .i64 s1_6)]⟩ 39) fun r H1 =>
  newD H1 (.cells ⟨[(.bool false), (.int .i64 (0 : Int)), (.int .i64 (0 : Int)), (.int .i64 (0 : Int)), (.int .i64 (0 : Int)), (.int .i64 (0 : Int)), (.slice none 0 0), (.int .i64 (0 : Int)), (.int .i64 (0 : Int)), (.slice none 0 0)]⟩ 42) fun r1 H2 =>
  newD H2 (.cells ⟨[(.bool false), (.int .i64 (0 : Int)), (.int .i64 (0 : Int)), (.int .i64 (0 : Int)), (.int .i64 (0 : Int)), (.int .i64 (0 : Int)), (.slice none 0 0), (.int .i64 (0 : Int)), (.int .i64 (0 : Int)), (.slice none 0 0)]⟩ 42) fun r2 H3 =>
  ldInt H3 ⟨r, 0, none⟩ .i64 fun n =>
  iteB (n == (1 : Int)) (
    ldInt H3 ⟨r, 1, none⟩ .i64 fun n1 =>
    ldInt H3 ⟨r, 2, none⟩ .i64 fun n2 =>
    callD Try.prog 16 [(.slice s0 s0n s0c)] H3 nope fun v H4 =>
    tAgg v fun l =>
    tCons l fun c l1 =>
    tInt c .i64 fun n3 =>
    tCons l1 fun c1 l2 =>
    tInt c1 .i64 fun n4 =>
    tNil l2 <|
    andD (ExtH H3 H4) <|
    callD Try.prog 27 [(.agg ⟨[(.int .i64 n3), (.int .i64 n4)]⟩), (.agg ⟨[(.int .i64 n1), (.int .i64 n2)]⟩)] H4 (panK R) fun v1 H5 =>
    tBool v1 fun b =>
    iteB (!b) (
      ldBool H5 ⟨r2, 0, none⟩ fun b1 =>
      ldInt H5 ⟨r2, 1, none⟩ .i64 fun n5 =>
      ldInt H5 ⟨r2, 2, none⟩ .i64 fun n6 =>
      ldInt H5 ⟨r2, 3, none⟩ .i64 fun n7 =>
      ldInt H5 ⟨r2, 4, none⟩ .i64 fun n8 =>
      ldInt H5 ⟨r2, 5, none⟩ .i64 fun n9 =>
      ldSl H5 ⟨r2, 6, none⟩ fun q qn qc =>
      ldInt H5 ⟨r2, 7, none⟩ .i64 fun n10 =>
      ldInt H5 ⟨r2, 8, none⟩ .i64 fun n11 =>
      ldSl H5 ⟨r2, 9, none⟩ fun q1 q1n q1c =>
      st1 H5 ⟨r1, 0, none⟩ (.bool b1) fun H6 =>
      st1 H6 ⟨r1, 1, none⟩ (.int .i64 n5) fun H7 =>
      st1 H7 ⟨r1, 2, none⟩ (.int .i64 n6) fun H8 =>
      st1 H8 ⟨r1, 3, none⟩ (.int .i64 n7) fun H9 =>
      st1 H9 ⟨r1, 4, none⟩ (.int .i64 n8) fun H10 =>
      st1 H10 ⟨r1, 5, none⟩ (.int .i64 n9) fun H11 =>
      st1 H11 ⟨r1, 6, none⟩ (.slice q qn qc) fun H12 =>
      st1 H12 ⟨r1, 7, none⟩ (.int .i64 n10) fun H13 =>
      st1 H13 ⟨r1, 8, none⟩ (.int .i64 n11) fun H14 =>
      st1 H14 ⟨r1, 9, none⟩ (.slice q1 q1n q1c) fun H15 =>
      ldBool H15 ⟨r1, 0, none⟩ fun b2 =>
      ldInt H15 ⟨r1, 1, none⟩ .i64 fun n12 =>
      ldInt H15 ⟨r1, 2, none⟩ .i64 fun n13 =>
      ldInt H15 ⟨r1, 3, none⟩ .i64 fun n14 =>
      ldInt H15 ⟨r1, 4, none⟩ .i64 fun n15 =>
      ldInt H15 ⟨r1, 5, none⟩ .i64 fun n16 =>
      ldSl H15 ⟨r1, 6, none⟩ fun q2 q2n q2c =>
      ldInt H15 ⟨r1, 7, none⟩ .i64 fun n17 =>
      ldInt H15 ⟨r1, 8, none⟩ .i64 fun n18 =>
      ldSl H15 ⟨r1, 9, none⟩ fun q3 q3n q3c =>
      R (.returned (.tuple ⟨[(.slice s0 s0n s0c), (.agg ⟨[(.bool b2), (.int .i64 n12), (.int .i64 n13), (.int .i64 n14), (.int .i64 n15), (.int .i64 n16), (.slice q2 q2n q2c), (.int .i64 n17), (.int .i64 n18), (.slice q3 q3n q3c)]⟩), (.bool false)]⟩)) H15) <|
    ldInt H5 ⟨r, 1, none⟩ .i64 fun n19 =>
    ldInt H5 ⟨r, 2, none⟩ .i64 fun n20 =>
    callD Try.prog 28 [(.slice s0 s0n s0c), (.agg ⟨[(.int .i64 n19), (.int .i64 n20)]⟩)] H5 (panK R) fun v2 H16 =>
    tSl v2 fun q4 q4n q4c =>
    st1 H16 ⟨r2, 0, none⟩ (.bool true) fun H17 =>
    ldBool H17 ⟨r2, 0, none⟩ fun b3 =>
    ldInt H17 ⟨r2, 1, none⟩ .i64 fun n21 =>
    ldInt H17 ⟨r2, 2, none⟩ .i64 fun n22 =>
    ldInt H17 ⟨r2, 3, none⟩ .i64 fun n23 =>
    ldInt H17 ⟨r2, 4, none⟩ .i64 fun n24 =>
    ldInt H17 ⟨r2, 5, none⟩ .i64 fun n25 =>
    ldSl H17 ⟨r2, 6, none⟩ fun q5 q5n q5c =>
    ldInt H17 ⟨r2, 7, none⟩ .i64 fun n26 =>
    ldInt H17 ⟨r2, 8, none⟩ .i64 fun n27 =>
    ldSl H17 ⟨r2, 9, none⟩ fun q6 q6n q6c =>
    st1 H17 ⟨r1, 0, none⟩ (.bool b3) fun H18 =>
    st1 H18 ⟨r1, 1, none⟩ (.int .i64 n21) fun H19 =>
    st1 H19 ⟨r1, 2, none⟩ (.int .i64 n22) fun H20 =>
    st1 H20 ⟨r1, 3, none⟩ (.int .i64 n23) fun H21 =>
    st1 H21 ⟨r1, 4, none⟩ (.int .i64 n24) fun H22 =>
    st1 H22 ⟨r1, 5, none⟩ (.int .i64 n25) fun H23 =>
    st1 H23 ⟨r1, 6, none⟩ (.slice q5 q5n q5c) fun H24 =>
    st1 H24 ⟨r1, 7, none⟩ (.int .i64 n26) fun H25 =>
    st1 H25 ⟨r1, 8, none⟩ (.int .i64 n27) fun H26 =>
    st1 H26 ⟨r1, 9, none⟩ (.slice q6 q6n q6c) fun H27 =>
    ldBool H27 ⟨r1, 0, none⟩ fun b4 =>
    ldInt H27 ⟨r1, 1, none⟩ .i64 fun n28 =>
    ldInt H27 ⟨r1, 2, none⟩ .i64 fun n29 =>
    ldInt H27 ⟨r1, 3, none⟩ .i64 fun n30 =>
    ldInt H27 ⟨r1, 4, none⟩ .i64 fun n31 =>
    ldInt H27 ⟨r1, 5, none⟩ .i64 fun n32 =>
    ldSl H27 ⟨r1, 6, none⟩ fun q7 q7n q7c =>
    ldInt H27 ⟨r1, 7, none⟩ .i64 fun n33 =>
    ldInt H27 ⟨r1, 8, none⟩ .i64 fun n34 =>
    ldSl H27 ⟨r1, 9, none⟩ fun q8 q8n q8c =>
    R (.returned (.tuple ⟨[(.slice q4 q4n q4c), (.agg ⟨[(.bool b4), (.int .i64 n28), (.int .i64 n29), (.int .i64 n30), (.int .i64 n31), (.int .i64 n32), (.slice q7 q7n q7c), (.int .i64 n33), (.int .i64 n34), (.slice q8 q8n q8c)]⟩), (.bool true)]⟩)) H27) <|
  iteB (n == (2 : Int)) (
    callD Try.prog 15 [(.slice s0 s0n s0c)] H3 (panK R) fun v3 H28 =>
    tBool v3 fun b5 =>
    st1 H28 ⟨r2, 0, none⟩ (.bool b5) fun H29 =>
    ldBool H29 ⟨r2, 0, none⟩ fun b6 =>
    iteB b6 (
      ldInt H29 ⟨r, 1, none⟩ .i64 fun n35 =>
      ldInt H29 ⟨r, 2, none⟩ .i64 fun n36 =>
      callD Try.prog 16 [(.slice s0 s0n s0c)] H29 nope fun v4 H30 =>
      tAgg v4 fun l3 =>
      tCons l3 fun c2 l4 =>
      tInt c2 .i64 fun n37 =>
      tCons l4 fun c3 l5 =>
      tInt c3 .i64 fun n38 =>
      tNil l5 <|
      andD (ExtH H29 H30) <|
      callD Try.prog 27 [(.agg ⟨[(.int .i64 n37), (.int .i64 n38)]⟩), (.agg ⟨[(.int .i64 n35), (.int .i64 n36)]⟩)] H30 (panK R) fun v5 H31 =>
      tBool v5 fun b7 =>
      iteB (!b7) (
        st1 H31 ⟨r1, 0, none⟩ (.bool false) fun H32 =>
        st1 H32 ⟨r1, 1, none⟩ (.int .i64 (0 : Int)) fun H33 =>
        st1 H33 ⟨r1, 2, none⟩ (.int .i64 (0 : Int)) fun H34 =>
        st1 H34 ⟨r1, 3, none⟩ (.int .i64 (0 : Int)) fun H35 =>
        st1 H35 ⟨r1, 4, none⟩ (.int .i64 (0 : Int)) fun H36 =>
        st1 H36 ⟨r1, 5, none⟩ (.int .i64 (0 : Int)) fun H37 =>
        st1 H37 ⟨r1, 6, none⟩ (.slice none 0 0) fun H38 =>
        st1 H38 ⟨r1, 7, none⟩ (.int .i64 (0 : Int)) fun H39 =>
        st1 H39 ⟨r1, 8, none⟩ (.int .i64 (0 : Int)) fun H40 =>
        st1 H40 ⟨r1, 9, none⟩ (.slice none 0 0) fun H41 =>
        ldBool H41 ⟨r1, 0, none⟩ fun b8 =>
        ldInt H41 ⟨r1, 1, none⟩ .i64 fun n39 =>
        ldInt H41 ⟨r1, 2, none⟩ .i64 fun n40 =>
        ldInt H41 ⟨r1, 3, none⟩ .i64 fun n41 =>
        ldInt H41 ⟨r1, 4, none⟩ .i64 fun n42 =>
        ldInt H41 ⟨r1, 5, none⟩ .i64 fun n43 =>
        ldSl H41 ⟨r1, 6, none⟩ fun q9 q9n q9c =>
        ldInt H41 ⟨r1, 7, none⟩ .i64 fun n44 =>
        ldInt H41 ⟨r1, 8, none⟩ .i64 fun n45 =>
        ldSl H41 ⟨r1, 9, none⟩ fun q10 q10n q10c =>
        R (.returned (.tuple ⟨[(.slice s0 s0n s0c), (.agg ⟨[(.bool b8), (.int .i64 n39), (.int .i64 n40), (.int .i64 n41), (.int .i64 n42), (.int .i64 n43), (.slice q9 q9n q9c), (.int .i64 n44), (.int .i64 n45), (.slice q10 q10n q10c)]⟩), (.bool false)]⟩)) H41) <|
      ldInt H31 ⟨r, 1, none⟩ .i64 fun n46 =>
      ldInt H31 ⟨r, 2, none⟩ .i64 fun n47 =>
      callD Try.prog 29 [(.slice s0 s0n s0c), (.agg ⟨[(.int .i64 n46), (.int .i64 n47)]⟩)] H31 (panK R) fun v6 H42 =>
      tSl v6 fun q11 q11n q11c =>
      ldBool H42 ⟨r2, 0, none⟩ fun b9 =>
      ldInt H42 ⟨r2, 1, none⟩ .i64 fun n48 =>
      ldInt H42 ⟨r2, 2, none⟩ .i64 fun n49 =>
      ldInt H42 ⟨r2, 3, none⟩ .i64 fun n50 =>
      ldInt H42 ⟨r2, 4, none⟩ .i64 fun n51 =>
      ldInt H42 ⟨r2, 5, none⟩ .i64 fun n52 =>
      ldSl H42 ⟨r2, 6, none⟩ fun q12 q12n q12c =>
      ldInt H42 ⟨r2, 7, none⟩ .i64 fun n53 =>
      ldInt H42 ⟨r2, 8, none⟩ .i64 fun n54 =>
      ldSl H42 ⟨r2, 9, none⟩ fun q13 q13n q13c =>
      st1 H42 ⟨r1, 0, none⟩ (.bool b9) fun H43 =>
      st1 H43 ⟨r1, 1, none⟩ (.int .i64 n48) fun H44 =>
      st1 H44 ⟨r1, 2, none⟩ (.int .i64 n49) fun H45 =>
      st1 H45 ⟨r1, 3, none⟩ (.int .i64 n50) fun H46 =>
      st1 H46 ⟨r1, 4, none⟩ (.int .i64 n51) fun H47 =>
      st1 H47 ⟨r1, 5, none⟩ (.int .i64 n52) fun H48 =>
      st1 H48 ⟨r1, 6, none⟩ (.slice q12 q12n q12c) fun H49 =>
      st1 H49 ⟨r1, 7, none⟩ (.int .i64 n53) fun H50 =>
      st1 H50 ⟨r1, 8, none⟩ (.int .i64 n54) fun H51 =>
      st1 H51 ⟨r1, 9, none⟩ (.slice q13 q13n q13c) fun H52 =>
      ldBool H52 ⟨r1, 0, none⟩ fun b10 =>
      ldInt H52 ⟨r1, 1, none⟩ .i64 fun n55 =>
      ldInt H52 ⟨r1, 2, none⟩ .i64 fun n56 =>
      ldInt H52 ⟨r1, 3, none⟩ .i64 fun n57 =>
      ldInt H52 ⟨r1, 4, none⟩ .i64 fun n58 =>
      ldInt H52 ⟨r1, 5, none⟩ .i64 fun n59 =>
      ldSl H52 ⟨r1, 6, none⟩ fun q14 q14n q14c =>
      ldInt H52 ⟨r1, 7, none⟩ .i64 fun n60 =>
      ldInt H52 ⟨r1, 8, none⟩ .i64 fun n61 =>
      ldSl H52 ⟨r1, 9, none⟩ fun q15 q15n q15c =>
      R (.returned (.tuple ⟨[(.slice q11 q11n q11c), (.agg ⟨[(.bool b10), (.int .i64 n55), (.int .i64 n56), (.int .i64 n57), (.int .i64 n58), (.int .i64 n59), (.slice q14 q14n q14c), (.int .i64 n60), (.int .i64 n61), (.slice q15 q15n q15c)]⟩), (.bool true)]⟩)) H52) <|
    ldBool H29 ⟨r2, 0, none⟩ fun b11 =>
    ldInt H29 ⟨r2, 1, none⟩ .i64 fun n62 =>
    ldInt H29 ⟨r2, 2, none⟩ .i64 fun n63 =>
    ldInt H29 ⟨r2, 3, none⟩ .i64 fun n64 =>
    ldInt H29 ⟨r2, 4, none⟩ .i64 fun n65 =>
    ldInt H29 ⟨r2, 5, none⟩ .i64 fun n66 =>
    ldSl H29 ⟨r2, 6, none⟩ fun q16 q16n q16c =>
    ldInt H29 ⟨r2, 7, none⟩ .i64 fun n67 =>
    ldInt H29 ⟨r2, 8, none⟩ .i64 fun n68 =>
    ldSl H29 ⟨r2, 9, none⟩ fun q17 q17n q17c =>
    st1 H29 ⟨r1, 0, none⟩ (.bool b11) fun H53 =>
    st1 H53 ⟨r1, 1, none⟩ (.int .i64 n62) fun H54 =>
    st1 H54 ⟨r1, 2, none⟩ (.int .i64 n63) fun H55 =>
    st1 H55 ⟨r1, 3, none⟩ (.int .i64 n64) fun H56 =>
    st1 H56 ⟨r1, 4, none⟩ (.int .i64 n65) fun H57 =>
    st1 H57 ⟨r1, 5, none⟩ (.int .i64 n66) fun H58 =>
    st1 H58 ⟨r1, 6, none⟩ (.slice q16 q16n q16c) fun H59 =>
    st1 H59 ⟨r1, 7, none⟩ (.int .i64 n67) fun H60 =>
    st1 H60 ⟨r1, 8, none⟩ (.int .i64 n68) fun H61 =>
    st1 H61 ⟨r1, 9, none⟩ (.slice q17 q17n q17c) fun H62 =>
    ldBool H62 ⟨r1, 0, none⟩ fun b12 =>
    ldInt H62 ⟨r1, 1, none⟩ .i64 fun n69 =>
    ldInt H62 ⟨r1, 2, none⟩ .i64 fun n70 =>
    ldInt H62 ⟨r1, 3, none⟩ .i64 fun n71 =>
    ldInt H62 ⟨r1, 4, none⟩ .i64 fun n72 =>
    ldInt H62 ⟨r1, 5, none⟩ .i64 fun n73 =>
    ldSl H62 ⟨r1, 6, none⟩ fun q18 q18n q18c =>
    ldInt H62 ⟨r1, 7, none⟩ .i64 fun n74 =>
    ldInt H62 ⟨r1, 8, none⟩ .i64 fun n75 =>
    ldSl H62 ⟨r1, 9, none⟩ fun q19 q19n q19c =>
    R (.returned (.tuple ⟨[(.slice s0 s0n s0c), (.agg ⟨[(.bool b12), (.int .i64 n69), (.int .i64 n70), (.int .i64 n71), (.int .i64 n72), (.int .i64 n73), (.slice q18 q18n q18c), (.int .i64 n74), (.int .i64 n75), (.slice q19 q19n q19c)]⟩), (.bool true)]⟩)) H62) <|
  iteB (n == (5 : Int)) (
    ldInt H3 ⟨r, 6, none⟩ .i64 fun n76 =>
    callD Try.prog 30 [(.slice s0 s0n s0c), (.int .i64 n76)] H3 (panK R) fun v7 H63 =>
    tTup v7 fun l6 =>
    tCons l6 fun c4 l7 =>
    tAgg c4 fun l8 =>
    tCons l8 fun c5 l9 =>
    tInt c5 .i64 fun n77 =>
    tCons l9 fun c6 l10 =>
    tInt c6 .i64 fun n78 =>
    tCons l10 fun c7 l11 =>
    tInt c7 .i64 fun n79 =>
    tCons l11 fun c8 l12 =>
    tInt c8 .i64 fun n80 =>
    tCons l12 fun c9 l13 =>
    tInt c9 .i64 fun n81 =>
    tCons l13 fun c10 l14 =>
    tBool c10 fun b13 =>
    tNil l14 <|
    tCons l7 fun c11 l15 =>
    tBool c11 fun b14 =>
    tNil l15 <|
    newD H63 (.cells ⟨[(.int .i64 (0 : Int)), (.int .i64 (0 : Int)), (.int .i64 (0 : Int)), (.int .i64 (0 : Int)), (.int .i64 (0 : Int)), (.bool false)]⟩ 46) fun r3 H64 =>
    st1 H64 ⟨r3, 0, none⟩ (.int .i64 n77) fun H65 =>
    st1 H65 ⟨r3, 1, none⟩ (.int .i64 n78) fun H66 =>
    st1 H66 ⟨r3, 2, none⟩ (.int .i64 n79) fun H67 =>
    st1 H67 ⟨r3, 3, none⟩ (.int .i64 n80) fun H68 =>
    st1 H68 ⟨r3, 4, none⟩ (.int .i64 n81) fun H69 =>
    st1 H69 ⟨r3, 5, none⟩ (.bool b13) fun H70 =>
    ldInt H70 ⟨r3, 0, none⟩ .i64 fun n82 =>
    ldInt H70 ⟨r3, 1, none⟩ .i64 fun n83 =>
    ldInt H70 ⟨r3, 2, none⟩ .i64 fun n84 =>
    ldInt H70 ⟨r3, 3, none⟩ .i64 fun n85 =>
    ldInt H70 ⟨r3, 4, none⟩ .i64 fun n86 =>
    st1 H70 ⟨r2, 0, none⟩ (.bool b14) fun H71 =>
    st1 H71 ⟨r2, 1, none⟩ (.int .i64 n82) fun H72 =>
    st1 H72 ⟨r2, 2, none⟩ (.int .i64 n83) fun H73 =>
    st1 H73 ⟨r2, 3, none⟩ (.int .i64 n84) fun H74 =>
    st1 H74 ⟨r2, 4, none⟩ (.int .i64 n85) fun H75 =>
    st1 H75 ⟨r2, 5, none⟩ (.int .i64 n86) fun H76 =>
    st1 H76 ⟨r2, 6, none⟩ (.slice none 0 0) fun H77 =>
    st1 H77 ⟨r2, 7, none⟩ (.int .i64 (0 : Int)) fun H78 =>
    st1 H78 ⟨r2, 8, none⟩ (.int .i64 (0 : Int)) fun H79 =>
    st1 H79 ⟨r2, 9, none⟩ (.slice none 0 0) fun H80 =>
    ldBool H80 ⟨r2, 0, none⟩ fun b15 =>
    ldInt H80 ⟨r2, 1, none⟩ .i64 fun n87 =>
    ldInt H80 ⟨r2, 2, none⟩ .i64 fun n88 =>
    ldInt H80 ⟨r2, 3, none⟩ .i64 fun n89 =>
    ldInt H80 ⟨r2, 4, none⟩ .i64 fun n90 =>
    ldInt H80 ⟨r2, 5, none⟩ .i64 fun n91 =>
    ldSl H80 ⟨r2, 6, none⟩ fun q20 q20n q20c =>
    ldInt H80 ⟨r2, 7, none⟩ .i64 fun n92 =>
    ldInt H80 ⟨r2, 8, none⟩ .i64 fun n93 =>
    ldSl H80 ⟨r2, 9, none⟩ fun q21 q21n q21c =>
    st1 H80 ⟨r1, 0, none⟩ (.bool b15) fun H81 =>
    st1 H81 ⟨r1, 1, none⟩ (.int .i64 n87) fun H82 =>
    st1 H82 ⟨r1, 2, none⟩ (.int .i64 n88) fun H83 =>
    st1 H83 ⟨r1, 3, none⟩ (.int .i64 n89) fun H84 =>
    st1 H84 ⟨r1, 4, none⟩ (.int .i64 n90) fun H85 =>
    st1 H85 ⟨r1, 5, none⟩ (.int .i64 n91) fun H86 =>
    st1 H86 ⟨r1, 6, none⟩ (.slice q20 q20n q20c) fun H87 =>
    st1 H87 ⟨r1, 7, none⟩ (.int .i64 n92) fun H88 =>
    st1 H88 ⟨r1, 8, none⟩ (.int .i64 n93) fun H89 =>
    st1 H89 ⟨r1, 9, none⟩ (.slice q21 q21n q21c) fun H90 =>
    ldBool H90 ⟨r1, 0, none⟩ fun b16 =>
    ldInt H90 ⟨r1, 1, none⟩ .i64 fun n94 =>
    ldInt H90 ⟨r1, 2, none⟩ .i64 fun n95 =>
    ldInt H90 ⟨r1, 3, none⟩ .i64 fun n96 =>
    ldInt H90 ⟨r1, 4, none⟩ .i64 fun n97 =>
    ldInt H90 ⟨r1, 5, none⟩ .i64 fun n98 =>
    ldSl H90 ⟨r1, 6, none⟩ fun q22 q22n q22c =>
    ldInt H90 ⟨r1, 7, none⟩ .i64 fun n99 =>
    ldInt H90 ⟨r1, 8, none⟩ .i64 fun n100 =>
    ldSl H90 ⟨r1, 9, none⟩ fun q23 q23n q23c =>
    R (.returned (.tuple ⟨[(.slice s0 s0n s0c), (.agg ⟨[(.bool b16), (.int .i64 n94), (.int .i64 n95), (.int .i64 n96), (.int .i64 n97), (.int .i64 n98), (.slice q22 q22n q22c), (.int .i64 n99), (.int .i64 n100), (.slice q23 q23n q23c)]⟩), (.bool true)]⟩)) H90) <|
  iteB (n == (6 : Int)) (
    ldInt H3 ⟨r, 6, none⟩ .i64 fun n101 =>
    callD Try.prog 31 [(.slice s0 s0n s0c), (.int .i64 n101)] H3 (panK R) fun v8 H91 =>
    tSl v8 fun q24 q24n q24c =>
    st1 H91 ⟨r2, 6, none⟩ (.slice q24 q24n q24c) fun H92 =>
    ldBool H92 ⟨r2, 0, none⟩ fun b17 =>
    ldInt H92 ⟨r2, 1, none⟩ .i64 fun n102 =>
    ldInt H92 ⟨r2, 2, none⟩ .i64 fun n103 =>
    ldInt H92 ⟨r2, 3, none⟩ .i64 fun n104 =>
    ldInt H92 ⟨r2, 4, none⟩ .i64 fun n105 =>
    ldInt H92 ⟨r2, 5, none⟩ .i64 fun n106 =>
    ldSl H92 ⟨r2, 6, none⟩ fun q25 q25n q25c =>
    ldInt H92 ⟨r2, 7, none⟩ .i64 fun n107 =>
    ldInt H92 ⟨r2, 8, none⟩ .i64 fun n108 =>
    ldSl H92 ⟨r2, 9, none⟩ fun q26 q26n q26c =>
    st1 H92 ⟨r1, 0, none⟩ (.bool b17) fun H93 =>
    st1 H93 ⟨r1, 1, none⟩ (.int .i64 n102) fun H94 =>
    st1 H94 ⟨r1, 2, none⟩ (.int .i64 n103) fun H95 =>
    st1 H95 ⟨r1, 3, none⟩ (.int .i64 n104) fun H96 =>
    st1 H96 ⟨r1, 4, none⟩ (.int .i64 n105) fun H97 =>
    st1 H97 ⟨r1, 5, none⟩ (.int .i64 n106) fun H98 =>
    st1 H98 ⟨r1, 6, none⟩ (.slice q25 q25n q25c) fun H99 =>
    st1 H99 ⟨r1, 7, none⟩ (.int .i64 n107) fun H100 =>
    st1 H100 ⟨r1, 8, none⟩ (.int .i64 n108) fun H101 =>
    st1 H101 ⟨r1, 9, none⟩ (.slice q26 q26n q26c) fun H102 =>
    ldBool H102 ⟨r1, 0, none⟩ fun b18 =>
    ldInt H102 ⟨r1, 1, none⟩ .i64 fun n109 =>
    ldInt H102 ⟨r1, 2, none⟩ .i64 fun n110 =>
    ldInt H102 ⟨r1, 3, none⟩ .i64 fun n111 =>
    ldInt H102 ⟨r1, 4, none⟩ .i64 fun n112 =>
    ldInt H102 ⟨r1, 5, none⟩ .i64 fun n113 =>
    ldSl H102 ⟨r1, 6, none⟩ fun q27 q27n q27c =>
    ldInt H102 ⟨r1, 7, none⟩ .i64 fun n114 =>
    ldInt H102 ⟨r1, 8, none⟩ .i64 fun n115 =>
    ldSl H102 ⟨r1, 9, none⟩ fun q28 q28n q28c =>
    R (.returned (.tuple ⟨[(.slice s0 s0n s0c), (.agg ⟨[(.bool b18), (.int .i64 n109), (.int .i64 n110), (.int .i64 n111), (.int .i64 n112), (.int .i64 n113), (.slice q27 q27n q27c), (.int .i64 n114), (.int .i64 n115), (.slice q28 q28n q28c)]⟩), (.bool true)]⟩)) H102) <|
  iteB (n == (7 : Int)) (
    ldInt H3 ⟨r, 6, none⟩ .i64 fun n116 =>
    callD Try.prog 32 [(.slice s0 s0n s0c), (.int .i64 n116), (.bool true)] H3 (panK R) fun v9 H103 =>
    tSl v9 fun q29 q29n q29c =>
    st1 H103 ⟨r2, 6, none⟩ (.slice q29 q29n q29c) fun H104 =>
    ldInt H104 ⟨r, 6, none⟩ .i64 fun n117 =>
    callD Try.prog 12 [(.slice s0 s0n s0c), (.int .i64 n117)] H104 (panK R) fun v10 H105 =>
    tSl v10 fun q30 q30n q30c =>
    ldBool H105 ⟨r2, 0, none⟩ fun b19 =>
    ldInt H105 ⟨r2, 1, none⟩ .i64 fun n118 =>
    ldInt H105 ⟨r2, 2, none⟩ .i64 fun n119 =>
    ldInt H105 ⟨r2, 3, none⟩ .i64 fun n120 =>
    ldInt H105 ⟨r2, 4, none⟩ .i64 fun n121 =>
    ldInt H105 ⟨r2, 5, none⟩ .i64 fun n122 =>
    ldSl H105 ⟨r2, 6, none⟩ fun q31 q31n q31c =>
    ldInt H105 ⟨r2, 7, none⟩ .i64 fun n123 =>
    ldInt H105 ⟨r2, 8, none⟩ .i64 fun n124 =>
    ldSl H105 ⟨r2, 9, none⟩ fun q32 q32n q32c =>
    st1 H105 ⟨r1, 0, none⟩ (.bool b19) fun H106 =>
    st1 H106 ⟨r1, 1, none⟩ (.int .i64 n118) fun H107 =>
    st1 H107 ⟨r1, 2, none⟩ (.int .i64 n119) fun H108 =>
    st1 H108 ⟨r1, 3, none⟩ (.int .i64 n120) fun H109 =>
    st1 H109 ⟨r1, 4, none⟩ (.int .i64 n121) fun H110 =>
    st1 H110 ⟨r1, 5, none⟩ (.int .i64 n122) fun H111 =>
    st1 H111 ⟨r1, 6, none⟩ (.slice q31 q31n q31c) fun H112 =>
    st1 H112 ⟨r1, 7, none⟩ (.int .i64 n123) fun H113 =>
    st1 H113 ⟨r1, 8, none⟩ (.int .i64 n124) fun H114 =>
    st1 H114 ⟨r1, 9, none⟩ (.slice q32 q32n q32c) fun H115 =>
    ldBool H115 ⟨r1, 0, none⟩ fun b20 =>
    ldInt H115 ⟨r1, 1, none⟩ .i64 fun n125 =>
    ldInt H115 ⟨r1, 2, none⟩ .i64 fun n126 =>
    ldInt H115 ⟨r1, 3, none⟩ .i64 fun n127 =>
    ldInt H115 ⟨r1, 4, none⟩ .i64 fun n128 =>
    ldInt H115 ⟨r1, 5, none⟩ .i64 fun n129 =>
    ldSl H115 ⟨r1, 6, none⟩ fun q33 q33n q33c =>
    ldInt H115 ⟨r1, 7, none⟩ .i64 fun n130 =>
    ldInt H115 ⟨r1, 8, none⟩ .i64 fun n131 =>
    ldSl H115 ⟨r1, 9, none⟩ fun q34 q34n q34c =>
    R (.returned (.tuple ⟨[(.slice q30 q30n q30c), (.agg ⟨[(.bool b20), (.int .i64 n125), (.int .i64 n126), (.int .i64 n127), (.int .i64 n128), (.int .i64 n129), (.slice q33 q33n q33c), (.int .i64 n130), (.int .i64 n131), (.slice q34 q34n q34c)]⟩), (.bool true)]⟩)) H115) <|
  iteB (n == (8 : Int)) (
    ldInt H3 ⟨r, 6, none⟩ .i64 fun n132 =>
    callD Try.prog 32 [(.slice s0 s0n s0c), (.int .i64 n132), (.bool false)] H3 (panK R) fun v11 H116 =>
    tSl v11 fun q35 q35n q35c =>
    st1 H116 ⟨r2, 6, none⟩ (.slice q35 q35n q35c) fun H117 =>
    ldBool H117 ⟨r2, 0, none⟩ fun b21 =>
    ldInt H117 ⟨r2, 1, none⟩ .i64 fun n133 =>
    ldInt H117 ⟨r2, 2, none⟩ .i64 fun n134 =>
    ldInt H117 ⟨r2, 3, none⟩ .i64 fun n135 =>
    ldInt H117 ⟨r2, 4, none⟩ .i64 fun n136 =>
    ldInt H117 ⟨r2, 5, none⟩ .i64 fun n137 =>
    ldSl H117 ⟨r2, 6, none⟩ fun q36 q36n q36c =>
    ldInt H117 ⟨r2, 7, none⟩ .i64 fun n138 =>
    ldInt H117 ⟨r2, 8, none⟩ .i64 fun n139 =>
    ldSl H117 ⟨r2, 9, none⟩ fun q37 q37n q37c =>
    st1 H117 ⟨r1, 0, none⟩ (.bool b21) fun H118 =>
    st1 H118 ⟨r1, 1, none⟩ (.int .i64 n133) fun H119 =>
    st1 H119 ⟨r1, 2, none⟩ (.int .i64 n134) fun H120 =>
    st1 H120 ⟨r1, 3, none⟩ (.int .i64 n135) fun H121 =>
    st1 H121 ⟨r1, 4, none⟩ (.int .i64 n136) fun H122 =>
    st1 H122 ⟨r1, 5, none⟩ (.int .i64 n137) fun H123 =>
    st1 H123 ⟨r1, 6, none⟩ (.slice q36 q36n q36c) fun H124 =>
    st1 H124 ⟨r1, 7, none⟩ (.int .i64 n138) fun H125 =>
    st1 H125 ⟨r1, 8, none⟩ (.int .i64 n139) fun H126 =>
    st1 H126 ⟨r1, 9, none⟩ (.slice q37 q37n q37c) fun H127 =>
    ldBool H127 ⟨r1, 0, none⟩ fun b22 =>
    ldInt H127 ⟨r1, 1, none⟩ .i64 fun n140 =>
    ldInt H127 ⟨r1, 2, none⟩ .i64 fun n141 =>
    ldInt H127 ⟨r1, 3, none⟩ .i64 fun n142 =>
    ldInt H127 ⟨r1, 4, none⟩ .i64 fun n143 =>
    ldInt H127 ⟨r1, 5, none⟩ .i64 fun n144 =>
    ldSl H127 ⟨r1, 6, none⟩ fun q38 q38n q38c =>
    ldInt H127 ⟨r1, 7, none⟩ .i64 fun n145 =>
    ldInt H127 ⟨r1, 8, none⟩ .i64 fun n146 =>
    ldSl H127 ⟨r1, 9, none⟩ fun q39 q39n q39c =>
    R (.returned (.tuple ⟨[(.slice s0 s0n s0c), (.agg ⟨[(.bool b22), (.int .i64 n140), (.int .i64 n141), (.int .i64 n142), (.int .i64 n143), (.int .i64 n144), (.slice q38 q38n q38c), (.int .i64 n145), (.int .i64 n146), (.slice q39 q39n q39c)]⟩), (.bool true)]⟩)) H127) <|
  ldBool H3 ⟨r2, 0, none⟩ fun b23 =>
  ldInt H3 ⟨r2, 1, none⟩ .i64 fun n147 =>
  ldInt H3 ⟨r2, 2, none⟩ .i64 fun n148 =>
  ldInt H3 ⟨r2, 3, none⟩ .i64 fun n149 =>
  ldInt H3 ⟨r2, 4, none⟩ .i64 fun n150 =>
  ldInt H3 ⟨r2, 5, none⟩ .i64 fun n151 =>
  ldSl H3 ⟨r2, 6, none⟩ fun q40 q40n q40c =>
  ldInt H3 ⟨r2, 7, none⟩ .i64 fun n152 =>
  ldInt H3 ⟨r2, 8, none⟩ .i64 fun n153 =>
  ldSl H3 ⟨r2, 9, none⟩ fun q41 q41n q41c =>
  st1 H3 ⟨r1, 0, none⟩ (.bool b23) fun H128 =>
  st1 H128 ⟨r1, 1, none⟩ (.int .i64 n147) fun H129 =>
  st1 H129 ⟨r1, 2, none⟩ (.int .i64 n148) fun H130 =>
  st1 H130 ⟨r1, 3, none⟩ (.int .i64 n149) fun H131 =>
  st1 H131 ⟨r1, 4, none⟩ (.int .i64 n150) fun H132 =>
  st1 H132 ⟨r1, 5, none⟩ (.int .i64 n151) fun H133 =>
  st1 H133 ⟨r1, 6, none⟩ (.slice q40 q40n q40c) fun H134 =>
  st1 H134 ⟨r1, 7, none⟩ (.int .i64 n152) fun H135 =>
  st1 H135 ⟨r1, 8, none⟩ (.int .i64 n153) fun H136 =>
  st1 H136 ⟨r1, 9, none⟩ (.slice q41 q41n q41c) fun H137 =>
  ldBool H137 ⟨r1, 0, none⟩ fun b24 =>
  ldInt H137 ⟨r1, 1, none⟩ .i64 fun n154 =>
  ldInt H137 ⟨r1, 2, none⟩ .i64 fun n155 =>
  ldInt H137 ⟨r1, 3, none⟩ .i64 fun n156 =>
  ldInt H137 ⟨r1, 4, none⟩ .i64 fun n157 =>
  ldInt H137 ⟨r1, 5, none⟩ .i64 fun n158 =>
  ldSl H137 ⟨r1, 6, none⟩ fun q42 q42n q42c =>
  ldInt H137 ⟨r1, 7, none⟩ .i64 fun n159 =>
  ldInt H137 ⟨r1, 8, none⟩ .i64 fun n160 =>
  ldSl H137 ⟨r1, 9, none⟩ fun q43 q43n q43c =>
  R (.returned (.tuple ⟨[(.slice s0 s0n s0c), (.agg ⟨[(.bool b24), (.int .i64 n154), (.int .i64 n155), (.int .i64 n156), (.int .i64 n157), (.int .i64 n158), (.slice q42 q42n q42c), (.int .i64 n159), (.int .i64 n160), (.slice q43 q43n q43c)]⟩), (.bool true)]⟩)) H137
theorem calls {s0 : Option Addr} {s0n : Nat} {s0c : Nat} {s1_0 : Int} {s1_1 : Int} {s1_2 : Int} {s1_3 : Int} {s1_4 : Int} {s1_5 : Int} {s1_6 : Int} {H : Heap} {R : Ending → Heap → Prop} (h : go s0 s0n s0c s1_0 s1_1 s1_2 s1_3 s1_4 s1_5 s1_6 H R) : CallsH Try.prog 17 ⟨[(.slice s0 s0n s0c), (.agg ⟨[(.int .i64 s1_0), (.int .i64 s1_1), (.int .i64 s1_2), (.int .i64 s1_3), (.int .i64 s1_4), (.int .i64 s1_5), (.int .i64 s1_6)]⟩)]⟩ H R :=
  callsH_of_den (an := an) (fuel := 100000) (X := go s0 s0n s0c s1_0 s1_1 s1_2 s1_3 s1_4 s1_5 s1_6 H R) (c := body) mixed fn (by kernel_rfl) (by kernel_rfl) (by kernel_rfl) ok (by kernel_rfl) h
end F17
/-! ### 18 "pub-stadtholder/pub/etcdserver/storage/mvcc.ZzNewKey" -/
namespace F18
def an : Ann := { kinds := [], taus := [], pairs := [], lab := [] }
noncomputable def body : Code := (Try.f18.body).getD .skip
theorem fn : Try.prog.funcs[18]? = some Try.f18 := by kernel_rfl
theorem ok : codeOk an 9 body = true := by kernel_rfl
def go (key : Option Addr) (keyn : Nat) (keyc : Nat) (k_0 : Int) (k_1 : Int) (k_2 : Option Addr) (k_2n : Nat) (k_2c : Nat) (H : Heap) (R : Ending → Heap → Prop) : Prop :=
  newD H (.cells ⟨[(.int .i64 k_0), (.int .i64 k_1), (.slice k_2 k_2n k_2c)]⟩ 63) fun r H1 =>
  newD H1 (.cells ⟨[(.pointer none)]⟩ 57) fun r1 H2 =>
  ldInt H2 ⟨r, 0, none⟩ .i64 fun n =>
  ldInt H2 ⟨r, 1, none⟩ .i64 fun n1 =>
  ldSl H2 ⟨r, 2, none⟩ fun q qn qc =>
  callD Try.prog 33 [(.slice key keyn keyc), (.agg ⟨[(.int .i64 n), (.int .i64 n1), (.slice q qn qc)]⟩)] H2 (panK R) fun v H3 =>
  tPtr v fun p =>
  st1 H3 ⟨r1, 0, none⟩ (.pointer p) fun H4 =>
  ldPtr H4 ⟨r1, 0, none⟩ fun p1 =>
  R (.returned (.agg ⟨[(.pointer p1)]⟩)) H4
theorem calls {key : Option Addr} {keyn : Nat} {keyc : Nat} {k_0 : Int} {k_1 : Int} {k_2 : Option Addr} {k_2n : Nat} {k_2c : Nat} {H : Heap} {R : Ending → Heap → Prop} (h : go key keyn keyc k_0 k_1 k_2 k_2n k_2c H R) : CallsH Try.prog 18 ⟨[(.slice key keyn keyc), (.agg ⟨[(.int .i64 k_0), (.int .i64 k_1), (.slice k_2 k_2n k_2c)]⟩)]⟩ H R :=
  callsH_of_den (an := an) (fuel := 100000) (X := go key keyn keyc k_0 k_1 k_2 k_2n k_2c H R) (c := body) mixed fn (by kernel_rfl) (by kernel_rfl) (by kernel_rfl) ok (by kernel_rfl) h
end F18
/-! ### 19 "pub-stadtholder/impl.dumpIn" -/
namespace F19
def an : Ann := { kinds := [(5014, .grow), (5021, .grow), (5023, .grow)], taus := [(5, [[0, 2, 4, 8, 10, 15, 17, 1, 3, 5, 6, 7, 9, 11, 12, 13, 16, 18, 19, 20, 14, 21, 22, 23, 24, 25, 26]])], pairs := [], lab := [(40000004, [1, 2, 3, 4])] }
noncomputable def body : Code := (Try.f19.body).getD .skip
theorem fn : Try.prog.funcs[19]? = some Try.f19 := by kernel_rfl
theorem ok : codeOk an 43 body = true := by kernel_rfl
noncomputable def L0t : List Item := [.code (sub [1, 1, 0, 1, 0, 0] body), .inLoop (sub [1, 1, 0, 1, 0, 0] body), .inBlock 0, .code (sub [1, 1, 1] body)]
def L0 (d : Nat) (s2 : Nat) (k : Nat) (i : Int) (H : Heap) (R : Ending → Heap → Prop) : Prop :=
  GoL Try.prog 19 43 L0t [1, 2, 3, 4] [(.pointer (some ⟨d, 0, none⟩)), (.pointer (some ⟨s2, 0, none⟩)), (.pointer (some ⟨k, 0, none⟩)), (.int .i64 i)] H R
def L0n (d : Nat) (s2 : Nat) (k : Nat) (i : Int) (H : Heap) (R : Ending → Heap → Prop) : Prop :=
  ldSl H ⟨d, 2, none⟩ fun q qn qc =>
  iteB (decide (i < ((qn : Nat) : Int))) (
    ldSl H ⟨k, 2, none⟩ fun q1 q1n q1c =>
    ldSl H ⟨d, 2, none⟩ fun q2 q2n q2c =>
    idxD q2 q2n i fun a =>
    ldInt H (Addr.add a (Int.toNat i * 4)) .i64 fun n =>
    ldSl H ⟨d, 2, none⟩ fun q3 q3n q3c =>
    idxD q3 q3n i fun a1 =>
    ldInt H (Addr.add (Addr.add a1 (Int.toNat i * 4)) 1) .i64 fun n1 =>
    ldInt H (Addr.add (Addr.add (Addr.add a1 (Int.toNat i * 4)) 1) 1) .i64 fun n2 =>
    ldSl H ⟨d, 2, none⟩ fun q4 q4n q4c =>
    idxD q4 q4n i fun a2 =>
    ldSl H (Addr.add (Addr.add a2 (Int.toNat i * 4)) 3) fun q5 q5n q5c =>
    callD Try.prog 34 [(.agg ⟨[(.int .i64 n1), (.int .i64 n2)]⟩)] H nope fun v H1 =>
    tAgg v fun l =>
    tCons l fun c l1 =>
    tInt c .i64 fun n3 =>
    tCons l1 fun c1 l2 =>
    tInt c1 .i64 fun n4 =>
    tNil l2 <|
    andD (ExtH H H1) <|
    callD Try.prog 26 [(.slice q5 q5n q5c)] H1 nope fun v1 H2 =>
    tSl v1 fun q6 q6n q6c =>
    andD (ExtH H1 H2) <|
    newD H2 (.cells ⟨[(.int .i64 n), (.int .i64 n3), (.int .i64 n4), (.slice q6 q6n q6c)]⟩ 84) fun r H3 =>
    apD H3 4 48 [(.int .i64 (0 : Int)), (.int .i64 (0 : Int)), (.int .i64 (0 : Int)), (.slice none 0 0)] 84 q1 q1n q1c (some ⟨r, 0, none⟩) 1 fun q7 q7n q7c H4 =>
    st1 H4 ⟨k, 2, none⟩ (.slice q7 q7n q7c) fun H5 =>
    L0 d s2 k (IntKind.wrap .i64 (i + (1 : Int))) H5 R) <|
  ldInt H ⟨k, 0, none⟩ .i64 fun n5 =>
  ldInt H ⟨k, 1, none⟩ .i64 fun n6 =>
  ldSl H ⟨k, 2, none⟩ fun q8 q8n q8c =>
  st1 H ⟨s2, 0, none⟩ (.int .i64 n5) fun H6 =>
  st1 H6 ⟨s2, 1, none⟩ (.int .i64 n6) fun H7 =>
  st1 H7 ⟨s2, 2, none⟩ (.slice q8 q8n q8c) fun H8 =>
  ldInt H8 ⟨s2, 0, none⟩ .i64 fun n7 =>
  ldInt H8 ⟨s2, 1, none⟩ .i64 fun n8 =>
  ldSl H8 ⟨s2, 2, none⟩ fun q9 q9n q9c =>
  R (.returned (.agg ⟨[(.int .i64 n7), (.int .i64 n8), (.slice q9 q9n q9c)]⟩)) H8
theorem L0_step {d : Nat} {s2 : Nat} {k : Nat} {i : Int} {H : Heap} {R : Ending → Heap → Prop} (h : L0n d s2 k i H R) : L0 d s2 k i H R :=
  goL_of_den (an := an) (fuel := 100000) (X := L0n d s2 k i H R) mixed fn (by kernel_rfl) (fun ρ0 => by kernel_rfl) h
def go (d_0 : Int) (d_1 : Int) (d_2 : Option Addr) (d_2n : Nat) (d_2c : Nat) (H : Heap) (R : Ending → Heap → Prop) : Prop :=
  newD H (.cells ⟨[(.int .i64 d_0), (.int .i64 d_1), (.slice d_2 d_2n d_2c)]⟩ 34) fun r H1 =>
  newD H1 (.cells ⟨[(.int .i64 (0 : Int)), (.int .i64 (0 : Int)), (.slice none 0 0)]⟩ 63) fun r1 H2 =>
  ldInt H2 ⟨r, 0, none⟩ .i64 fun n =>
  ldInt H2 ⟨r, 1, none⟩ .i64 fun n1 =>
  callD Try.prog 34 [(.agg ⟨[(.int .i64 n), (.int .i64 n1)]⟩)] H2 (panK R) fun v H3 =>
  tAgg v fun l =>
  tCons l fun c l1 =>
  tInt c .i64 fun n2 =>
  tCons l1 fun c1 l2 =>
  tInt c1 .i64 fun n3 =>
  tNil l2 <|
  newD H3 (.cells ⟨[(.int .i64 (0 : Int)), (.int .i64 (0 : Int)), (.slice none 0 0)]⟩ 63) fun r2 H4 =>
  st1 H4 ⟨r2, 0, none⟩ (.int .i64 n2) fun H5 =>
  st1 H5 ⟨r2, 1, none⟩ (.int .i64 n3) fun H6 =>
  st1 H6 ⟨r2, 2, none⟩ (.slice none 0 0) fun H7 =>
  L0 r r1 r2 (0 : Int) H7 R
theorem calls {d_0 : Int} {d_1 : Int} {d_2 : Option Addr} {d_2n : Nat} {d_2c : Nat} {H : Heap} {R : Ending → Heap → Prop} (h : go d_0 d_1 d_2 d_2n d_2c H R) : CallsH Try.prog 19 ⟨[(.agg ⟨[(.int .i64 d_0), (.int .i64 d_1), (.slice d_2 d_2n d_2c)]⟩)]⟩ H R :=
  callsH_of_den (an := an) (fuel := 100000) (X := go d_0 d_1 d_2 d_2n d_2c H R) (c := body) mixed fn (by kernel_rfl) (by kernel_rfl) (by kernel_rfl) ok (by kernel_rfl) h
end F19
/-! ### 21 "pub-stadtholder/impl.Key$1" -/
namespace F21
def an : Ann := { kinds := [(3006, .grow), (3007, .grow)], taus := [(3, [[3, 0, 1, 2, 4, 5, 6, 7, 8, 9]])], pairs := [], lab := [(30000002, [0, 1, 2, 3])] }
noncomputable def body : Code := (Try.f21.body).getD .skip
theorem fn : Try.prog.funcs[21]? = some Try.f21 := by kernel_rfl
theorem ok : codeOk an 19 body = true := by kernel_rfl
noncomputable def L0t : List Item := [.code (sub [1, 0, 0] body), .inLoop (sub [1, 0, 0] body), .inBlock 0]
def L0 (s0 : Addr) (s1 : Addr) (s2 : Addr) (i : Int) (H : Heap) (R : Ending → Heap → Prop) : Prop :=
  GoL Try.prog 21 19 L0t [0, 1, 2, 3] [(.pointer (some s0)), (.pointer (some s1)), (.pointer (some s2)), (.int .i64 i)] H R
def L0n (s0 : Addr) (s1 : Addr) (s2 : Addr) (i : Int) (H : Heap) (R : Ending → Heap → Prop) : Prop :=
  ldSl H s0 fun q qn qc =>
  iteB (decide (i < ((qn : Nat) : Int))) (
    ldSl H s1 fun q1 q1n q1c =>
    ldPtr H s2 fun p =>
    ldSl H s0 fun q2 q2n q2c =>
    idxD q2 q2n i fun a =>
    ldInt H (Addr.add a (Int.toNat i * 7)) .i64 fun n =>
    ldInt H (Addr.add (Addr.add a (Int.toNat i * 7)) 1) .i64 fun n1 =>
    ldInt H (Addr.add (Addr.add a (Int.toNat i * 7)) 2) .i64 fun n2 =>
    ldInt H (Addr.add (Addr.add a (Int.toNat i * 7)) 3) .i64 fun n3 =>
    ldInt H (Addr.add (Addr.add a (Int.toNat i * 7)) 4) .i64 fun n4 =>
    ldInt H (Addr.add (Addr.add a (Int.toNat i * 7)) 5) .i64 fun n5 =>
    ldInt H (Addr.add (Addr.add a (Int.toNat i * 7)) 6) .i64 fun n6 =>
    callD Try.prog 22 [(.agg ⟨[(.pointer p)]⟩), (.agg ⟨[(.int .i64 n), (.int .i64 n1), (.int .i64 n2), (.int .i64 n3), (.int .i64 n4), (.int .i64 n5), (.int .i64 n6)]⟩)] H nope fun v H1 =>
    tAgg v fun l =>
    tCons l fun c l1 =>
    tBool c fun b =>
    tCons l1 fun c1 l2 =>
    tInt c1 .i64 fun n7 =>
    tCons l2 fun c2 l3 =>
    tInt c2 .i64 fun n8 =>
    tCons l3 fun c3 l4 =>
    tInt c3 .i64 fun n9 =>
    tCons l4 fun c4 l5 =>
    tInt c4 .i64 fun n10 =>
    tCons l5 fun c5 l6 =>
    tInt c5 .i64 fun n11 =>
    tCons l6 fun c6 l7 =>
    tSl c6 fun q3 q3n q3c =>
    tCons l7 fun c7 l8 =>
    tInt c7 .i64 fun n12 =>
    tCons l8 fun c8 l9 =>
    tInt c8 .i64 fun n13 =>
    tCons l9 fun c9 l10 =>
    tSl c9 fun q4 q4n q4c =>
    tNil l10 <|
    andD (ExtH H H1) <|
    newD H1 (.cells ⟨[(.bool b), (.int .i64 n7), (.int .i64 n8), (.int .i64 n9), (.int .i64 n10), (.int .i64 n11), (.slice q3 q3n q3c), (.int .i64 n12), (.int .i64 n13), (.slice q4 q4n q4c)]⟩ 42) fun r H2 =>
    apD H2 10 112 [(.bool false), (.int .i64 (0 : Int)), (.int .i64 (0 : Int)), (.int .i64 (0 : Int)), (.int .i64 (0 : Int)), (.int .i64 (0 : Int)), (.slice none 0 0), (.int .i64 (0 : Int)), (.int .i64 (0 : Int)), (.slice none 0 0)] 42 q1 q1n q1c (some ⟨r, 0, none⟩) 1 fun q5 q5n q5c H3 =>
    st1 H3 s1 (.slice q5 q5n q5c) fun H4 =>
    L0 s0 s1 s2 (IntKind.wrap .i64 (i + (1 : Int))) H4 R) <|
  R (.returned (.tuple ⟨[]⟩)) H
theorem L0_step {s0 : Addr} {s1 : Addr} {s2 : Addr} {i : Int} {H : Heap} {R : Ending → Heap → Prop} (h : L0n s0 s1 s2 i H R) : L0 s0 s1 s2 i H R :=
  goL_of_den (an := an) (fuel := 100000) (X := L0n s0 s1 s2 i H R) mixed fn (by kernel_rfl) (fun ρ0 => by kernel_rfl) h
def go (s0 : Addr) (s1 : Addr) (s2 : Addr) (H : Heap) (R : Ending → Heap → Prop) : Prop :=
  L0 s0 s1 s2 (0 : Int) H R
theorem calls {s0 : Addr} {s1 : Addr} {s2 : Addr} {H : Heap} {R : Ending → Heap → Prop} (h : go s0 s1 s2 H R) : CallsH Try.prog 21 ⟨[(.pointer (some s0)), (.pointer (some s1)), (.pointer (some s2))]⟩ H R :=
  callsH_of_den (an := an) (fuel := 100000) (X := go s0 s1 s2 H R) (c := body) mixed fn (by kernel_rfl) (by kernel_rfl) (by kernel_rfl) ok (by kernel_rfl) h
end F21
/-! ### 22 "pub-stadtholder/impl.keyed" -/
namespace F22
def an : Ann := { kinds := [(4003, .grow), (7003, .grow), (9003, .grow), (9006, .grow), (12003, .grow), (16003, .grow)], taus := [(4, [[1, 0, 2, 3, 4]]), (7, [[1, 0, 2, 3, 4, 5, 6, 7]]), (9, [[1, 4, 7, 0, 2, 5, 8, 3, 6, 9]]), (12, [[1, 0, 2, 3, 4]]), (16, [[0, 1, 6, 2, 4, 3, 5, 7, 8]])], pairs := [], lab := [(10000026, [2, 4, 5])] }
noncomputable def body : Code := (Try.f22.body).getD .skip
theorem fn : Try.prog.funcs[22]? = some Try.f22 := by kernel_rfl
theorem ok : codeOk an 104 body = true := by kernel_rfl
noncomputable def L0t : List Item := [.code (sub [1, 1, 1] body)]
def L0 (s2 : Nat) (s4 : Nat) (s5 : Nat) (H : Heap) (R : Ending → Heap → Prop) : Prop :=
  GoL Try.prog 22 104 L0t [2, 4, 5] [(.pointer (some ⟨s2, 0, none⟩)), (.pointer (some ⟨s4, 0, none⟩)), (.pointer (some ⟨s5, 0, none⟩))] H R
def L0n (s2 : Nat) (s4 : Nat) (s5 : Nat) (H : Heap) (R : Ending → Heap → Prop) : Prop :=
  ldPtr H ⟨s2, 0, none⟩ fun p =>
  callD Try.prog 49 [(.agg ⟨[(.pointer p)]⟩)] H (panK R) fun v H1 =>
  tAgg v fun l =>
  tCons l fun c l1 =>
  tInt c .i64 fun n =>
  tCons l1 fun c1 l2 =>
  tInt c1 .i64 fun n1 =>
  tCons l2 fun c2 l3 =>
  tSl c2 fun q qn qc =>
  tNil l3 <|
  callD Try.prog 48 [(.agg ⟨[(.int .i64 n), (.int .i64 n1), (.slice q qn qc)]⟩)] H1 (panK R) fun v1 H2 =>
  tAgg v1 fun l4 =>
  tCons l4 fun c3 l5 =>
  tInt c3 .i64 fun n2 =>
  tCons l5 fun c4 l6 =>
  tInt c4 .i64 fun n3 =>
  tCons l6 fun c5 l7 =>
  tSl c5 fun q1 q1n q1c =>
  tNil l7 <|
  st1 H2 ⟨s5, 7, none⟩ (.int .i64 n2) fun H3 =>
  st1 H3 ⟨s5, 8, none⟩ (.int .i64 n3) fun H4 =>
  st1 H4 ⟨s5, 9, none⟩ (.slice q1 q1n q1c) fun H5 =>
  ldBool H5 ⟨s5, 0, none⟩ fun b =>
  ldInt H5 ⟨s5, 1, none⟩ .i64 fun n4 =>
  ldInt H5 ⟨s5, 2, none⟩ .i64 fun n5 =>
  ldInt H5 ⟨s5, 3, none⟩ .i64 fun n6 =>
  ldInt H5 ⟨s5, 4, none⟩ .i64 fun n7 =>
  ldInt H5 ⟨s5, 5, none⟩ .i64 fun n8 =>
  ldSl H5 ⟨s5, 6, none⟩ fun q2 q2n q2c =>
  ldInt H5 ⟨s5, 7, none⟩ .i64 fun n9 =>
  ldInt H5 ⟨s5, 8, none⟩ .i64 fun n10 =>
  ldSl H5 ⟨s5, 9, none⟩ fun q3 q3n q3c =>
  st1 H5 ⟨s4, 0, none⟩ (.bool b) fun H6 =>
  st1 H6 ⟨s4, 1, none⟩ (.int .i64 n4) fun H7 =>
  st1 H7 ⟨s4, 2, none⟩ (.int .i64 n5) fun H8 =>
  st1 H8 ⟨s4, 3, none⟩ (.int .i64 n6) fun H9 =>
  st1 H9 ⟨s4, 4, none⟩ (.int .i64 n7) fun H10 =>
  st1 H10 ⟨s4, 5, none⟩ (.int .i64 n8) fun H11 =>
  st1 H11 ⟨s4, 6, none⟩ (.slice q2 q2n q2c) fun H12 =>
  st1 H12 ⟨s4, 7, none⟩ (.int .i64 n9) fun H13 =>
  st1 H13 ⟨s4, 8, none⟩ (.int .i64 n10) fun H14 =>
  st1 H14 ⟨s4, 9, none⟩ (.slice q3 q3n q3c) fun H15 =>
  ldBool H15 ⟨s4, 0, none⟩ fun b1 =>
  ldInt H15 ⟨s4, 1, none⟩ .i64 fun n11 =>
  ldInt H15 ⟨s4, 2, none⟩ .i64 fun n12 =>
  ldInt H15 ⟨s4, 3, none⟩ .i64 fun n13 =>
  ldInt H15 ⟨s4, 4, none⟩ .i64 fun n14 =>
  ldInt H15 ⟨s4, 5, none⟩ .i64 fun n15 =>
  ldSl H15 ⟨s4, 6, none⟩ fun q4 q4n q4c =>
  ldInt H15 ⟨s4, 7, none⟩ .i64 fun n16 =>
  ldInt H15 ⟨s4, 8, none⟩ .i64 fun n17 =>
  ldSl H15 ⟨s4, 9, none⟩ fun q5 q5n q5c =>
  R (.returned (.agg ⟨[(.bool b1), (.int .i64 n11), (.int .i64 n12), (.int .i64 n13), (.int .i64 n14), (.int .i64 n15), (.slice q4 q4n q4c), (.int .i64 n16), (.int .i64 n17), (.slice q5 q5n q5c)]⟩)) H15
theorem L0_step {s2 : Nat} {s4 : Nat} {s5 : Nat} {H : Heap} {R : Ending → Heap → Prop} (h : L0n s2 s4 s5 H R) : L0 s2 s4 s5 H R :=
  goL_of_den (an := an) (fuel := 100000) (X := L0n s2 s4 s5 H R) mixed fn (by kernel_rfl) (fun ρ0 => by kernel_rfl) h
def go (s0_0 : Option Addr) (s1_0 : Int) (s1_1 : Int) (s1_2 : Int) (s1_3 : Int) (s1_4 : Int) (s1_5 : Int) (s1_6 : Int) (H : Heap) (R : Ending → Heap → Prop) : Prop :=
  newD H (.cells ⟨[(.pointer s0_0)]⟩ 57) fun r H1 =>
  newD H1 (.cells ⟨[(.int .i64 s1_0), (.int .i64 s1_1), (.int .i64 s1_2), (.int .i64 s1_3), (.int .i64 s1_4), (.int .i64 s1_5), (.int .i64 s1_6)]⟩ 39) fun r1 H2 =>
  newD H2 (.cells ⟨[(.bool false), (.int .i64 (0 : Int)), (.int .i64 (0 : Int)), (.int .i64 (0 : Int)), (.int .i64 (0 : Int)), (.int .i64 (0 : Int)), (.slice none 0 0), (.int .i64 (0 : Int)), (.int .i64 (0 : Int)), (.slice none 0 0)]⟩ 42) fun r2 H3 =>
  newD H3 (.cells ⟨[(.bool false), (.int .i64 (0 : Int)), (.int .i64 (0 : Int)), (.int .i64 (0 : Int)), (.int .i64 (0 : Int)), (.int .i64 (0 : Int)), (.slice none 0 0), (.int .i64 (0 : Int)), (.int .i64 (0 : Int)), (.slice none 0 0)]⟩ 42) fun r3 H4 =>
  st1 H4 ⟨r3, 0, none⟩ (.bool false) fun H5 =>
  st1 H5 ⟨r3, 1, none⟩ (.int .i64 (0 : Int)) fun H6 =>
  st1 H6 ⟨r3, 2, none⟩ (.int .i64 (0 : Int)) fun H7 =>
  st1 H7 ⟨r3, 3, none⟩ (.int .i64 (0 : Int)) fun H8 =>
  st1 H8 ⟨r3, 4, none⟩ (.int .i64 (0 : Int)) fun H9 =>
  st1 H9 ⟨r3, 5, none⟩ (.int .i64 (0 : Int)) fun H10 =>
  st1 H10 ⟨r3, 6, none⟩ (.slice none 0 0) fun H11 =>
  st1 H11 ⟨r3, 7, none⟩ (.int .i64 (0 : Int)) fun H12 =>
  st1 H12 ⟨r3, 8, none⟩ (.int .i64 (0 : Int)) fun H13 =>
  st1 H13 ⟨r3, 9, none⟩ (.slice none 0 0) fun H14 =>
  ldInt H14 ⟨r1, 0, none⟩ .i64 fun n =>
  iteB (n == (1 : Int)) (
    ldPtr H14 ⟨r, 0, none⟩ fun p =>
    ldInt H14 ⟨r1, 1, none⟩ .i64 fun n1 =>
    ldInt H14 ⟨r1, 2, none⟩ .i64 fun n2 =>
    callD Try.prog 34 [(.agg ⟨[(.int .i64 n1), (.int .i64 n2)]⟩)] H14 nope fun v H15 =>
    tAgg v fun l =>
    tCons l fun c l1 =>
    tInt c .i64 fun n3 =>
    tCons l1 fun c1 l2 =>
    tInt c1 .i64 fun n4 =>
    tNil l2 <|
    andD (ExtH H14 H15) <|
    callD Try.prog 36 [(.agg ⟨[(.pointer p)]⟩), (.agg ⟨[(.int .i64 n3), (.int .i64 n4)]⟩)] H15 (panK R) fun v1 H16 =>
    tTup v1 fun l3 =>
    tNil l3 <|
    st1 H16 ⟨r3, 0, none⟩ (.bool true) fun H17 =>
    L0 r r2 r3 H17 R) <|
  iteB (n == (2 : Int)) (
    ldPtr H14 ⟨r, 0, none⟩ fun p1 =>
    ldInt H14 ⟨r1, 1, none⟩ .i64 fun n5 =>
    ldInt H14 ⟨r1, 2, none⟩ .i64 fun n6 =>
    callD Try.prog 34 [(.agg ⟨[(.int .i64 n5), (.int .i64 n6)]⟩)] H14 nope fun v2 H18 =>
    tAgg v2 fun l4 =>
    tCons l4 fun c2 l5 =>
    tInt c2 .i64 fun n7 =>
    tCons l5 fun c3 l6 =>
    tInt c3 .i64 fun n8 =>
    tNil l6 <|
    andD (ExtH H14 H18) <|
    callD Try.prog 37 [(.agg ⟨[(.pointer p1)]⟩), (.agg ⟨[(.int .i64 n7), (.int .i64 n8)]⟩)] H18 (panK R) fun v3 H19 =>
    tIf v3 fun i =>
    ifNilD (IV.v i) fun b =>
    st1 H19 ⟨r3, 0, none⟩ (.bool b) fun H20 =>
    L0 r r2 r3 H20 R) <|
  iteB (n == (3 : Int)) (
    ldPtr H14 ⟨r, 0, none⟩ fun p2 =>
    ldInt H14 ⟨r1, 3, none⟩ .i64 fun n9 =>
    ldInt H14 ⟨r1, 4, none⟩ .i64 fun n10 =>
    ldInt H14 ⟨r1, 1, none⟩ .i64 fun n11 =>
    ldInt H14 ⟨r1, 2, none⟩ .i64 fun n12 =>
    ldInt H14 ⟨r1, 5, none⟩ .i64 fun n13 =>
    callD Try.prog 34 [(.agg ⟨[(.int .i64 n9), (.int .i64 n10)]⟩)] H14 nope fun v4 H21 =>
    tAgg v4 fun l7 =>
    tCons l7 fun c4 l8 =>
    tInt c4 .i64 fun n14 =>
    tCons l8 fun c5 l9 =>
    tInt c5 .i64 fun n15 =>
    tNil l9 <|
    andD (ExtH H14 H21) <|
    callD Try.prog 34 [(.agg ⟨[(.int .i64 n11), (.int .i64 n12)]⟩)] H21 nope fun v5 H22 =>
    tAgg v5 fun l10 =>
    tCons l10 fun c6 l11 =>
    tInt c6 .i64 fun n16 =>
    tCons l11 fun c7 l12 =>
    tInt c7 .i64 fun n17 =>
    tNil l12 <|
    andD (ExtH H21 H22) <|
    callD Try.prog 38 [(.agg ⟨[(.pointer p2)]⟩), (.agg ⟨[(.int .i64 n14), (.int .i64 n15)]⟩), (.agg ⟨[(.int .i64 n16), (.int .i64 n17)]⟩), (.int .i64 n13)] H22 (panK R) fun v6 H23 =>
    tTup v6 fun l13 =>
    tNil l13 <|
    st1 H23 ⟨r3, 0, none⟩ (.bool true) fun H24 =>
    L0 r r2 r3 H24 R) <|
  iteB (n == (4 : Int)) (
    ldPtr H14 ⟨r, 0, none⟩ fun p3 =>
    ldInt H14 ⟨r1, 1, none⟩ .i64 fun n18 =>
    ldInt H14 ⟨r1, 2, none⟩ .i64 fun n19 =>
    callD Try.prog 34 [(.agg ⟨[(.int .i64 n18), (.int .i64 n19)]⟩)] H14 nope fun v7 H25 =>
    tAgg v7 fun l14 =>
    tCons l14 fun c8 l15 =>
    tInt c8 .i64 fun n20 =>
    tCons l15 fun c9 l16 =>
    tInt c9 .i64 fun n21 =>
    tNil l16 <|
    andD (ExtH H14 H25) <|
    callD Try.prog 39 [(.agg ⟨[(.pointer p3)]⟩), (.agg ⟨[(.int .i64 n20), (.int .i64 n21)]⟩)] H25 (panK R) fun v8 H26 =>
    tTup v8 fun l17 =>
    tNil l17 <|
    st1 H26 ⟨r3, 0, none⟩ (.bool true) fun H27 =>
    L0 r r2 r3 H27 R) <|
  iteB (n == (5 : Int)) (
    ldPtr H14 ⟨r, 0, none⟩ fun p4 =>
    ldInt H14 ⟨r1, 6, none⟩ .i64 fun n22 =>
    callD Try.prog 40 [(.agg ⟨[(.pointer p4)]⟩), (.int .i64 n22)] H14 (panK R) fun v9 H28 =>
    tTup v9 fun l18 =>
    tCons l18 fun c10 l19 =>
    tAgg c10 fun l20 =>
    tCons l20 fun c11 l21 =>
    tInt c11 .i64 fun n23 =>
    tCons l21 fun c12 l22 =>
    tInt c12 .i64 fun n24 =>
    tNil l22 <|
    tCons l19 fun c13 l23 =>
    tAgg c13 fun l24 =>
    tCons l24 fun c14 l25 =>
    tInt c14 .i64 fun n25 =>
    tCons l25 fun c15 l26 =>
    tInt c15 .i64 fun n26 =>
    tNil l26 <|
    tCons l23 fun c16 l27 =>
    tInt c16 .i64 fun n27 =>
    tCons l27 fun c17 l28 =>
    tIf c17 fun i1 =>
    tNil l28 <|
    newD H28 (.cells ⟨[(.int .i64 (0 : Int)), (.int .i64 (0 : Int))]⟩ 60) fun r4 H29 =>
    newD H29 (.cells ⟨[(.int .i64 (0 : Int)), (.int .i64 (0 : Int))]⟩ 60) fun r5 H30 =>
    st1 H30 ⟨r4, 0, none⟩ (.int .i64 n23) fun H31 =>
    st1 H31 ⟨r4, 1, none⟩ (.int .i64 n24) fun H32 =>
    st1 H32 ⟨r5, 0, none⟩ (.int .i64 n25) fun H33 =>
    st1 H33 ⟨r5, 1, none⟩ (.int .i64 n26) fun H34 =>
    ifNilD (IV.v i1) fun b1 =>
    ldInt H34 ⟨r4, 0, none⟩ .i64 fun n28 =>
    ldInt H34 ⟨r4, 1, none⟩ .i64 fun n29 =>
    ldInt H34 ⟨r5, 0, none⟩ .i64 fun n30 =>
    ldInt H34 ⟨r5, 1, none⟩ .i64 fun n31 =>
    callD Try.prog 41 [(.agg ⟨[(.int .i64 n28), (.int .i64 n29)]⟩)] H34 nope fun v10 H35 =>
    tAgg v10 fun l29 =>
    tCons l29 fun c18 l30 =>
    tInt c18 .i64 fun n32 =>
    tCons l30 fun c19 l31 =>
    tInt c19 .i64 fun n33 =>
    tNil l31 <|
    andD (ExtH H34 H35) <|
    callD Try.prog 41 [(.agg ⟨[(.int .i64 n30), (.int .i64 n31)]⟩)] H35 (panK R) fun v11 H36 =>
    tAgg v11 fun l32 =>
    tCons l32 fun c20 l33 =>
    tInt c20 .i64 fun n34 =>
    tCons l33 fun c21 l34 =>
    tInt c21 .i64 fun n35 =>
    tNil l34 <|
    st1 H36 ⟨r3, 0, none⟩ (.bool b1) fun H37 =>
    st1 H37 ⟨r3, 1, none⟩ (.int .i64 n32) fun H38 =>
    st1 H38 ⟨r3, 2, none⟩ (.int .i64 n33) fun H39 =>
    st1 H39 ⟨r3, 3, none⟩ (.int .i64 n34) fun H40 =>
    st1 H40 ⟨r3, 4, none⟩ (.int .i64 n35) fun H41 =>
    st1 H41 ⟨r3, 5, none⟩ (.int .i64 n27) fun H42 =>
    st1 H42 ⟨r3, 6, none⟩ (.slice none 0 0) fun H43 =>
    st1 H43 ⟨r3, 7, none⟩ (.int .i64 (0 : Int)) fun H44 =>
    st1 H44 ⟨r3, 8, none⟩ (.int .i64 (0 : Int)) fun H45 =>
    st1 H45 ⟨r3, 9, none⟩ (.slice none 0 0) fun H46 =>
    L0 r r2 r3 H46 R) <|
  iteB (n == (6 : Int)) (
    ldPtr H14 ⟨r, 0, none⟩ fun p5 =>
    ldInt H14 ⟨r1, 6, none⟩ .i64 fun n36 =>
    callD Try.prog 43 [(.agg ⟨[(.pointer p5)]⟩), (.int .i64 n36)] H14 (panK R) fun v12 H47 =>
    tSl v12 fun q qn qc =>
    callD Try.prog 42 [(.slice q qn qc)] H47 (panK R) fun v13 H48 =>
    tSl v13 fun q1 q1n q1c =>
    st1 H48 ⟨r3, 6, none⟩ (.slice q1 q1n q1c) fun H49 =>
    L0 r r2 r3 H49 R) <|
  iteB (n == (7 : Int)) (
    ldPtr H14 ⟨r, 0, none⟩ fun p6 =>
    ldInt H14 ⟨r1, 6, none⟩ .i64 fun n37 =>
    callD Try.prog 45 [(.agg ⟨[(.pointer p6)]⟩), (.int .i64 n37)] H14 (panK R) fun v14 H50 =>
    tMap v14 fun m =>
    callD Try.prog 44 [(.map m)] H50 (panK R) fun v15 H51 =>
    tSl v15 fun q2 q2n q2c =>
    st1 H51 ⟨r3, 6, none⟩ (.slice q2 q2n q2c) fun H52 =>
    L0 r r2 r3 H52 R) <|
  iteB (n == (8 : Int)) (
    ldPtr H14 ⟨r, 0, none⟩ fun p7 =>
    ldInt H14 ⟨r1, 6, none⟩ .i64 fun n38 =>
    callD Try.prog 46 [(.agg ⟨[(.pointer p7)]⟩), (.int .i64 n38)] H14 (panK R) fun v16 H53 =>
    tMap v16 fun m1 =>
    callD Try.prog 44 [(.map m1)] H53 (panK R) fun v17 H54 =>
    tSl v17 fun q3 q3n q3c =>
    st1 H54 ⟨r3, 6, none⟩ (.slice q3 q3n q3c) fun H55 =>
    L0 r r2 r3 H55 R) <|
  iteB (n == (9 : Int)) (
    ldPtr H14 ⟨r, 0, none⟩ fun p8 =>
    callD Try.prog 47 [(.agg ⟨[(.pointer p8)]⟩)] H14 (panK R) fun v18 H56 =>
    tBool v18 fun b2 =>
    st1 H56 ⟨r3, 0, none⟩ (.bool b2) fun H57 =>
    L0 r r2 r3 H57 R) <|
  L0 r r2 r3 H14 R
theorem calls {s0_0 : Option Addr} {s1_0 : Int} {s1_1 : Int} {s1_2 : Int} {s1_3 : Int} {s1_4 : Int} {s1_5 : Int} {s1_6 : Int} {H : Heap} {R : Ending → Heap → Prop} (h : go s0_0 s1_0 s1_1 s1_2 s1_3 s1_4 s1_5 s1_6 H R) : CallsH Try.prog 22 ⟨[(.agg ⟨[(.pointer s0_0)]⟩), (.agg ⟨[(.int .i64 s1_0), (.int .i64 s1_1), (.int .i64 s1_2), (.int .i64 s1_3), (.int .i64 s1_4), (.int .i64 s1_5), (.int .i64 s1_6)]⟩)]⟩ H R :=
  callsH_of_den (an := an) (fuel := 100000) (X := go s0_0 s1_0 s1_1 s1_2 s1_3 s1_4 s1_5 s1_6 H R) (c := body) mixed fn (by kernel_rfl) (by kernel_rfl) (by kernel_rfl) ok (by kernel_rfl) h
end F22
/-! ### 23 "pub-stadtholder/laws.kySame" -/
namespace F23
def an : Ann := { kinds := [], taus := [], pairs := [], lab := [] }
noncomputable def body : Code := (Try.f23.body).getD .skip
theorem fn : Try.prog.funcs[23]? = some Try.f23 := by kernel_rfl
theorem ok : codeOk an 45 body = true := by kernel_rfl
def go (a_0 : Bool) (a_1 : Int) (a_2 : Int) (a_3 : Int) (a_4 : Int) (a_5 : Int) (a_6 : Option Addr) (a_6n : Nat) (a_6c : Nat) (a_7 : Int) (a_8 : Int) (a_9 : Option Addr) (a_9n : Nat) (a_9c : Nat) (b_0 : Bool) (b_1 : Int) (b_2 : Int) (b_3 : Int) (b_4 : Int) (b_5 : Int) (b_6 : Option Addr) (b_6n : Nat) (b_6c : Nat) (b_7 : Int) (b_8 : Int) (b_9 : Option Addr) (b_9n : Nat) (b_9c : Nat) (H : Heap) (R : Ending → Heap → Prop) : Prop :=
  newD H (.cells ⟨[(.bool a_0), (.int .i64 a_1), (.int .i64 a_2), (.int .i64 a_3), (.int .i64 a_4), (.int .i64 a_5), (.slice a_6 a_6n a_6c), (.int .i64 a_7), (.int .i64 a_8), (.slice a_9 a_9n a_9c)]⟩ 42) fun r H1 =>
  newD H1 (.cells ⟨[(.bool b_0), (.int .i64 b_1), (.int .i64 b_2), (.int .i64 b_3), (.int .i64 b_4), (.int .i64 b_5), (.slice b_6 b_6n b_6c), (.int .i64 b_7), (.int .i64 b_8), (.slice b_9 b_9n b_9c)]⟩ 42) fun r1 H2 =>
  ldBool H2 ⟨r, 0, none⟩ fun b =>
  ldBool H2 ⟨r1, 0, none⟩ fun b1 =>
  iteB (b == b1) (
    ldInt H2 ⟨r, 1, none⟩ .i64 fun n =>
    ldInt H2 ⟨r, 2, none⟩ .i64 fun n1 =>
    ldInt H2 ⟨r1, 1, none⟩ .i64 fun n2 =>
    ldInt H2 ⟨r1, 2, none⟩ .i64 fun n3 =>
    rawB Try.prog .eql 31 (.agg ⟨[(.int .i64 n), (.int .i64 n1)]⟩) (.agg ⟨[(.int .i64 n2), (.int .i64 n3)]⟩) fun b2 =>
    iteB b2 (
      ldInt H2 ⟨r, 3, none⟩ .i64 fun n4 =>
      ldInt H2 ⟨r, 4, none⟩ .i64 fun n5 =>
      ldInt H2 ⟨r1, 3, none⟩ .i64 fun n6 =>
      ldInt H2 ⟨r1, 4, none⟩ .i64 fun n7 =>
      rawB Try.prog .eql 31 (.agg ⟨[(.int .i64 n4), (.int .i64 n5)]⟩) (.agg ⟨[(.int .i64 n6), (.int .i64 n7)]⟩) fun b3 =>
      iteB b3 (
        ldInt H2 ⟨r, 5, none⟩ .i64 fun n8 =>
        ldInt H2 ⟨r1, 5, none⟩ .i64 fun n9 =>
        iteB (n8 == n9) (
          ldSl H2 ⟨r, 6, none⟩ fun q qn qc =>
          ldSl H2 ⟨r1, 6, none⟩ fun q1 q1n q1c =>
          callD Try.prog 50 [(.slice q qn qc), (.slice q1 q1n q1c)] H2 (panK R) fun v H3 =>
          tBool v fun b4 =>
          iteB b4 (
            ldInt H3 ⟨r, 7, none⟩ .i64 fun n10 =>
            ldInt H3 ⟨r, 8, none⟩ .i64 fun n11 =>
            ldSl H3 ⟨r, 9, none⟩ fun q2 q2n q2c =>
            ldInt H3 ⟨r1, 7, none⟩ .i64 fun n12 =>
            ldInt H3 ⟨r1, 8, none⟩ .i64 fun n13 =>
            ldSl H3 ⟨r1, 9, none⟩ fun q3 q3n q3c =>
            callD Try.prog 51 [(.agg ⟨[(.int .i64 n10), (.int .i64 n11), (.slice q2 q2n q2c)]⟩), (.agg ⟨[(.int .i64 n12), (.int .i64 n13), (.slice q3 q3n q3c)]⟩)] H3 (panK R) fun v1 H4 =>
            tBool v1 fun b5 =>
            R (.returned (.bool b5)) H4) <|
          R (.returned (.bool false)) H3) <|
        R (.returned (.bool false)) H2) <|
      R (.returned (.bool false)) H2) <|
    R (.returned (.bool false)) H2) <|
  R (.returned (.bool false)) H2
theorem calls {a_0 : Bool} {a_1 : Int} {a_2 : Int} {a_3 : Int} {a_4 : Int} {a_5 : Int} {a_6 : Option Addr} {a_6n : Nat} {a_6c : Nat} {a_7 : Int} {a_8 : Int} {a_9 : Option Addr} {a_9n : Nat} {a_9c : Nat} {b_0 : Bool} {b_1 : Int} {b_2 : Int} {b_3 : Int} {b_4 : Int} {b_5 : Int} {b_6 : Option Addr} {b_6n : Nat} {b_6c : Nat} {b_7 : Int} {b_8 : Int} {b_9 : Option Addr} {b_9n : Nat} {b_9c : Nat} {H : Heap} {R : Ending → Heap → Prop} (h : go a_0 a_1 a_2 a_3 a_4 a_5 a_6 a_6n a_6c a_7 a_8 a_9 a_9n a_9c b_0 b_1 b_2 b_3 b_4 b_5 b_6 b_6n b_6c b_7 b_8 b_9 b_9n b_9c H R) : CallsH Try.prog 23 ⟨[(.agg ⟨[(.bool a_0), (.int .i64 a_1), (.int .i64 a_2), (.int .i64 a_3), (.int .i64 a_4), (.int .i64 a_5), (.slice a_6 a_6n a_6c), (.int .i64 a_7), (.int .i64 a_8), (.slice a_9 a_9n a_9c)]⟩), (.agg ⟨[(.bool b_0), (.int .i64 b_1), (.int .i64 b_2), (.int .i64 b_3), (.int .i64 b_4), (.int .i64 b_5), (.slice b_6 b_6n b_6c), (.int .i64 b_7), (.int .i64 b_8), (.slice b_9 b_9n b_9c)]⟩)]⟩ H R :=
  callsH_of_den (an := an) (fuel := 100000) (X := go a_0 a_1 a_2 a_3 a_4 a_5 a_6 a_6n a_6c a_7 a_8 a_9 a_9n a_9c b_0 b_1 b_2 b_3 b_4 b_5 b_6 b_6n b_6c b_7 b_8 b_9 b_9n b_9c H R) (c := body) mixed fn (by kernel_rfl) (by kernel_rfl) (by kernel_rfl) ok (by kernel_rfl) h
end F23
/-! ### 24 "pub-stadtholder/spec.Stays" -/
namespace F24
def an : Ann := { kinds := [], taus := [], pairs := [], lab := [] }
noncomputable def body : Code := (Try.f24.body).getD .skip
theorem fn : Try.prog.funcs[24]? = some Try.f24 := by kernel_rfl
theorem ok : codeOk an 36 body = true := by kernel_rfl
def go (l : Option Addr) (ln : Nat) (lc : Nat) (i : Int) (xat : Int) (H : Heap) (R : Ending → Heap → Prop) : Prop :=
  idxD l ln i fun a =>
  ldInt H (Addr.add a (Int.toNat i * 6)) .i64 fun n =>
  ldInt H (Addr.add (Addr.add a (Int.toNat i * 6)) 1) .i64 fun n1 =>
  ldInt H (Addr.add (Addr.add a (Int.toNat i * 6)) 2) .i64 fun n2 =>
  ldInt H (Addr.add (Addr.add a (Int.toNat i * 6)) 3) .i64 fun n3 =>
  ldInt H (Addr.add (Addr.add a (Int.toNat i * 6)) 4) .i64 fun n4 =>
  ldBool H (Addr.add (Addr.add a (Int.toNat i * 6)) 5) fun b =>
  newD H (.cells ⟨[(.int .i64 (0 : Int)), (.int .i64 (0 : Int)), (.int .i64 (0 : Int)), (.int .i64 (0 : Int)), (.int .i64 (0 : Int)), (.bool false)]⟩ 46) fun r H1 =>
  st1 H1 ⟨r, 0, none⟩ (.int .i64 n) fun H2 =>
  st1 H2 ⟨r, 1, none⟩ (.int .i64 n1) fun H3 =>
  st1 H3 ⟨r, 2, none⟩ (.int .i64 n2) fun H4 =>
  st1 H4 ⟨r, 3, none⟩ (.int .i64 n3) fun H5 =>
  st1 H5 ⟨r, 4, none⟩ (.int .i64 n4) fun H6 =>
  st1 H6 ⟨r, 5, none⟩ (.bool b) fun H7 =>
  ldInt H7 ⟨r, 0, none⟩ .i64 fun n5 =>
  iteB (decide (n5 > xat)) (
    R (.returned (.bool true)) H7) <|
  callD Try.prog 52 [(.slice l ln lc), (.int .i64 xat)] H7 (panK R) fun v H8 =>
  tInt v .i64 fun n6 =>
  iteB (i == n6) (
    ldBool H8 ⟨r, 5, none⟩ fun b1 =>
    iteB (!b1) (
      R (.returned (.bool true)) H8) <|
    ldInt H8 ⟨r, 0, none⟩ .i64 fun n7 =>
    R (.returned (.bool (n7 == xat))) H8) <|
  R (.returned (.bool false)) H8
theorem calls {l : Option Addr} {ln : Nat} {lc : Nat} {i : Int} {xat : Int} {H : Heap} {R : Ending → Heap → Prop} (h : go l ln lc i xat H R) : CallsH Try.prog 24 ⟨[(.slice l ln lc), (.int .i64 i), (.int .i64 xat)]⟩ H R :=
  callsH_of_den (an := an) (fuel := 100000) (X := go l ln lc i xat H R) (c := body) mixed fn (by kernel_rfl) (by kernel_rfl) (by kernel_rfl) ok (by kernel_rfl) h
end F24
/-! ### 25 "pub-stadtholder/pub/etcdserver/storage/mvcc.ZzWalk" -/
namespace F25
def an : Ann := { kinds := [], taus := [], pairs := [], lab := [] }
noncomputable def body : Code := (Try.f25.body).getD .skip
theorem fn : Try.prog.funcs[25]? = some Try.f25 := by kernel_rfl
theorem ok : codeOk an 12 body = true := by kernel_rfl
def go (revs : Option Addr) (revsn : Nat) (revsc : Nat) (xat : Int) (H : Heap) (R : Ending → Heap → Prop) : Prop :=
  newD H (.cells ⟨[(.int .i64 xat)]⟩ 2) fun r H1 =>
  newD H1 (.cells ⟨[(.int .i64 (0 : Int)), (.int .i64 (0 : Int)), (.int .i64 (0 : Int)), (.slice revs revsn revsc)]⟩ 105) fun r1 H2 =>
  callD Try.prog 53 [(.pointer (some ⟨r1, 0, none⟩)), (.func (.func 54) ⟨[]⟩ ⟨[(.pointer (some ⟨r, 0, none⟩))]⟩)] H2 (panK R) fun v H3 =>
  tInt v .i64 fun n =>
  R (.returned (.int .i64 n)) H3
theorem calls {revs : Option Addr} {revsn : Nat} {revsc : Nat} {xat : Int} {H : Heap} {R : Ending → Heap → Prop} (h : go revs revsn revsc xat H R) : CallsH Try.prog 25 ⟨[(.slice revs revsn revsc), (.int .i64 xat)]⟩ H R :=
  callsH_of_den (an := an) (fuel := 100000) (X := go revs revsn revsc xat H R) (c := body) mixed fn (by kernel_rfl) (by kernel_rfl) (by kernel_rfl) ok (by kernel_rfl) h
end F25
/-! ### 26 "pub-stadtholder/impl.revsIn" -/
namespace F26
def an : Ann := { kinds := [], taus := [], pairs := [], lab := [(40000004, [0, 3, 4])] }
noncomputable def body : Code := (Try.f26.body).getD .skip
theorem fn : Try.prog.funcs[26]? = some Try.f26 := by kernel_rfl
theorem ok : codeOk an 20 body = true := by kernel_rfl
noncomputable def L0t : List Item := [.code (sub [1, 1, 0, 1, 0, 0] body), .inLoop (sub [1, 1, 0, 1, 0, 0] body), .inBlock 0, .code (sub [1, 1, 1] body)]
def L0 (l : Option Addr) (ln : Nat) (lc : Nat) (out : Option Addr) (outn : Nat) (outc : Nat) (i : Int) (H : Heap) (R : Ending → Heap → Prop) : Prop :=
  GoL Try.prog 26 20 L0t [0, 3, 4] [(.slice l ln lc), (.slice out outn outc), (.int .i64 i)] H R
def L0n (l : Option Addr) (ln : Nat) (lc : Nat) (out : Option Addr) (outn : Nat) (outc : Nat) (i : Int) (H : Heap) (R : Ending → Heap → Prop) : Prop :=
  iteB (decide (i < ((ln : Nat) : Int))) (
    idxD l ln i fun a =>
    ldInt H (Addr.add a (Int.toNat i * 2)) .i64 fun n =>
    ldInt H (Addr.add (Addr.add a (Int.toNat i * 2)) 1) .i64 fun n1 =>
    callD Try.prog 34 [(.agg ⟨[(.int .i64 n), (.int .i64 n1)]⟩)] H (panK R) fun v H1 =>
    tAgg v fun l1 =>
    tCons l1 fun c l2 =>
    tInt c .i64 fun n2 =>
    tCons l2 fun c1 l3 =>
    tInt c1 .i64 fun n3 =>
    tNil l3 <|
    newD H1 (.cells ⟨[(.int .i64 n2), (.int .i64 n3)]⟩ 60) fun r H2 =>
    apD H2 2 16 [(.int .i64 (0 : Int)), (.int .i64 (0 : Int))] 60 out outn outc (some ⟨r, 0, none⟩) 1 fun q qn qc H3 =>
    L0 l ln lc q qn qc (IntKind.wrap .i64 (i + (1 : Int))) H3 R) <|
  R (.returned (.slice out outn outc)) H
theorem L0_step {l : Option Addr} {ln : Nat} {lc : Nat} {out : Option Addr} {outn : Nat} {outc : Nat} {i : Int} {H : Heap} {R : Ending → Heap → Prop} (h : L0n l ln lc out outn outc i H R) : L0 l ln lc out outn outc i H R :=
  goL_of_den (an := an) (fuel := 100000) (X := L0n l ln lc out outn outc i H R) mixed fn (by kernel_rfl) (fun ρ0 => by kernel_rfl) h
def go (l : Option Addr) (ln : Nat) (lc : Nat) (H : Heap) (R : Ending → Heap → Prop) : Prop :=
  L0 l ln lc none 0 0 (0 : Int) H R
theorem calls {l : Option Addr} {ln : Nat} {lc : Nat} {H : Heap} {R : Ending → Heap → Prop} (h : go l ln lc H R) : CallsH Try.prog 26 ⟨[(.slice l ln lc)]⟩ H R :=
  callsH_of_den (an := an) (fuel := 100000) (X := go l ln lc H R) (c := body) mixed fn (by kernel_rfl) (by kernel_rfl) (by kernel_rfl) ok (by kernel_rfl) h
end F26
/-! ### 27 "pub-stadtholder/spec.Less" -/
namespace F27
def an : Ann := { kinds := [], taus := [], pairs := [], lab := [] }
noncomputable def body : Code := (Try.f27.body).getD .skip
theorem fn : Try.prog.funcs[27]? = some Try.f27 := by kernel_rfl
theorem ok : codeOk an 24 body = true := by kernel_rfl
def go (a_0 : Int) (a_1 : Int) (b_0 : Int) (b_1 : Int) (H : Heap) (R : Ending → Heap → Prop) : Prop :=
  newD H (.cells ⟨[(.int .i64 a_0), (.int .i64 a_1)]⟩ 31) fun r H1 =>
  newD H1 (.cells ⟨[(.int .i64 b_0), (.int .i64 b_1)]⟩ 31) fun r1 H2 =>
  ldInt H2 ⟨r, 0, none⟩ .i64 fun n =>
  ldInt H2 ⟨r1, 0, none⟩ .i64 fun n1 =>
  iteB (decide (n < n1)) (
    R (.returned (.bool true)) H2) <|
  ldInt H2 ⟨r, 0, none⟩ .i64 fun n2 =>
  ldInt H2 ⟨r1, 0, none⟩ .i64 fun n3 =>
  iteB (n2 == n3) (
    ldInt H2 ⟨r, 1, none⟩ .i64 fun n4 =>
    ldInt H2 ⟨r1, 1, none⟩ .i64 fun n5 =>
    R (.returned (.bool (decide (n4 < n5)))) H2) <|
  R (.returned (.bool false)) H2
theorem calls {a_0 : Int} {a_1 : Int} {b_0 : Int} {b_1 : Int} {H : Heap} {R : Ending → Heap → Prop} (h : go a_0 a_1 b_0 b_1 H R) : CallsH Try.prog 27 ⟨[(.agg ⟨[(.int .i64 a_0), (.int .i64 a_1)]⟩), (.agg ⟨[(.int .i64 b_0), (.int .i64 b_1)]⟩)]⟩ H R :=
  callsH_of_den (an := an) (fuel := 100000) (X := go a_0 a_1 b_0 b_1 H R) (c := body) mixed fn (by kernel_rfl) (by kernel_rfl) (by kernel_rfl) ok (by kernel_rfl) h
end F27
/-! ### 28 "pub-stadtholder/spec.Written" -/
namespace F28
def an : Ann := { kinds := [(4000, .grow), (4002, .grow), (4004, .grow)], taus := [(3, [[0, 1, 2, 3, 4, 5, 7, 8, 9, 10, 11, 12, 6, 15, 13, 14, 16, 17, 18], [0, 1, 2, 3, 4, 5, 7, 8, 9, 10, 11, 12, 6, 15, 16, 13, 14, 17, 18]]), (4, [[1, 3, 0, 2, 4, 5, 6], [1, 3, 0, 4, 2, 5, 6], [1, 3, 4, 0, 2, 5, 6]])], pairs := [(3, [(13, 16)]), (4, [(0, 4), (2, 4)])], lab := [(10000005, [0, 5])] }
noncomputable def body : Code := (Try.f28.body).getD .skip
theorem fn : Try.prog.funcs[28]? = some Try.f28 := by kernel_rfl
theorem ok : codeOk an 34 body = true := by kernel_rfl
noncomputable def L0t : List Item := [.code (sub [1, 1, 1] body)]
def L0 (l : Option Addr) (ln : Nat) (lc : Nat) (v : Nat) (H : Heap) (R : Ending → Heap → Prop) : Prop :=
  GoL Try.prog 28 34 L0t [0, 5] [(.slice l ln lc), (.pointer (some ⟨v, 0, none⟩))] H R
def L0n (l : Option Addr) (ln : Nat) (lc : Nat) (v : Nat) (H : Heap) (R : Ending → Heap → Prop) : Prop :=
  (
    ldInt H ⟨v, 0, none⟩ .i64 fun n =>
    ldInt H ⟨v, 1, none⟩ .i64 fun n1 =>
    ldInt H ⟨v, 2, none⟩ .i64 fun n2 =>
    ldInt H ⟨v, 3, none⟩ .i64 fun n3 =>
    ldInt H ⟨v, 4, none⟩ .i64 fun n4 =>
    ldBool H ⟨v, 5, none⟩ fun b =>
    newD H (.cells ⟨[]⟩ 46) fun r H1 =>
    apD H1 6 48 [(.int .i64 (0 : Int)), (.int .i64 (0 : Int)), (.int .i64 (0 : Int)), (.int .i64 (0 : Int)), (.int .i64 (0 : Int)), (.bool false)] 46 (some ⟨r, 0, none⟩) 0 0 l ln fun q qn qc H2 =>
    andD (ExtH H1 H2) <|
    newD H2 (.cells ⟨[(.int .i64 n), (.int .i64 n1), (.int .i64 n2), (.int .i64 n3), (.int .i64 n4), (.bool b)]⟩ 46) fun r1 H3 =>
    apD H3 6 48 [(.int .i64 (0 : Int)), (.int .i64 (0 : Int)), (.int .i64 (0 : Int)), (.int .i64 (0 : Int)), (.int .i64 (0 : Int)), (.bool false)] 46 q qn qc (some ⟨r1, 0, none⟩) 1 fun q1 q1n q1c H4 =>
    R (.returned (.slice q1 q1n q1c)) H4) ∧
  (
    ldInt H ⟨v, 0, none⟩ .i64 fun n5 =>
    ldInt H ⟨v, 1, none⟩ .i64 fun n6 =>
    ldInt H ⟨v, 2, none⟩ .i64 fun n7 =>
    ldInt H ⟨v, 3, none⟩ .i64 fun n8 =>
    ldInt H ⟨v, 4, none⟩ .i64 fun n9 =>
    ldBool H ⟨v, 5, none⟩ fun b1 =>
    newD H (.cells ⟨[]⟩ 46) fun r2 H5 =>
    newD H5 (.cells ⟨[(.int .i64 n5), (.int .i64 n6), (.int .i64 n7), (.int .i64 n8), (.int .i64 n9), (.bool b1)]⟩ 46) fun r3 H6 =>
    apD H6 6 48 [(.int .i64 (0 : Int)), (.int .i64 (0 : Int)), (.int .i64 (0 : Int)), (.int .i64 (0 : Int)), (.int .i64 (0 : Int)), (.bool false)] 46 (some ⟨r2, 0, none⟩) 0 0 l ln fun q2 q2n q2c H7 =>
    andD (ExtH H6 H7) <|
    apD H7 6 48 [(.int .i64 (0 : Int)), (.int .i64 (0 : Int)), (.int .i64 (0 : Int)), (.int .i64 (0 : Int)), (.int .i64 (0 : Int)), (.bool false)] 46 q2 q2n q2c (some ⟨r3, 0, none⟩) 1 fun q3 q3n q3c H8 =>
    R (.returned (.slice q3 q3n q3c)) H8) ∧
  (
    ldInt H ⟨v, 0, none⟩ .i64 fun n10 =>
    ldInt H ⟨v, 1, none⟩ .i64 fun n11 =>
    ldInt H ⟨v, 2, none⟩ .i64 fun n12 =>
    ldInt H ⟨v, 3, none⟩ .i64 fun n13 =>
    ldInt H ⟨v, 4, none⟩ .i64 fun n14 =>
    ldBool H ⟨v, 5, none⟩ fun b2 =>
    newD H (.cells ⟨[(.int .i64 n10), (.int .i64 n11), (.int .i64 n12), (.int .i64 n13), (.int .i64 n14), (.bool b2)]⟩ 46) fun r4 H9 =>
    newD H9 (.cells ⟨[]⟩ 46) fun r5 H10 =>
    apD H10 6 48 [(.int .i64 (0 : Int)), (.int .i64 (0 : Int)), (.int .i64 (0 : Int)), (.int .i64 (0 : Int)), (.int .i64 (0 : Int)), (.bool false)] 46 (some ⟨r5, 0, none⟩) 0 0 l ln fun q4 q4n q4c H11 =>
    andD (ExtH H10 H11) <|
    apD H11 6 48 [(.int .i64 (0 : Int)), (.int .i64 (0 : Int)), (.int .i64 (0 : Int)), (.int .i64 (0 : Int)), (.int .i64 (0 : Int)), (.bool false)] 46 q4 q4n q4c (some ⟨r4, 0, none⟩) 1 fun q5 q5n q5c H12 =>
    R (.returned (.slice q5 q5n q5c)) H12)
theorem L0_step {l : Option Addr} {ln : Nat} {lc : Nat} {v : Nat} {H : Heap} {R : Ending → Heap → Prop} (h : L0n l ln lc v H R) : L0 l ln lc v H R :=
  goL_of_den (an := an) (fuel := 100000) (X := L0n l ln lc v H R) mixed fn (by kernel_rfl) (fun ρ0 => by kernel_rfl) h
def go (l : Option Addr) (ln : Nat) (lc : Nat) (rev_0 : Int) (rev_1 : Int) (H : Heap) (R : Ending → Heap → Prop) : Prop :=
  newD H (.cells ⟨[(.int .i64 rev_0), (.int .i64 rev_1)]⟩ 31) fun r H1 =>
  ldInt H1 ⟨r, 0, none⟩ .i64 fun n =>
  ldInt H1 ⟨r, 1, none⟩ .i64 fun n1 =>
  ldInt H1 ⟨r, 0, none⟩ .i64 fun n2 =>
  ldInt H1 ⟨r, 1, none⟩ .i64 fun n3 =>
  newD H1 (.cells ⟨[(.int .i64 (0 : Int)), (.int .i64 (0 : Int)), (.int .i64 (0 : Int)), (.int .i64 (0 : Int)), (.int .i64 (0 : Int)), (.bool false)]⟩ 46) fun r1 H2 =>
  st1 H2 ⟨r1, 0, none⟩ (.int .i64 n) fun H3 =>
  st1 H3 ⟨r1, 1, none⟩ (.int .i64 n1) fun H4 =>
  st1 H4 ⟨r1, 2, none⟩ (.int .i64 n2) fun H5 =>
  st1 H5 ⟨r1, 3, none⟩ (.int .i64 n3) fun H6 =>
  st1 H6 ⟨r1, 4, none⟩ (.int .i64 (1 : Int)) fun H7 =>
  st1 H7 ⟨r1, 5, none⟩ (.bool false) fun H8 =>
  callD Try.prog 15 [(.slice l ln lc)] H8 (panK R) fun v H9 =>
  tBool v fun b =>
  iteB b (
    (
      idxD l ln (IntKind.wrap .i64 (((ln : Nat) : Int) - (1 : Int))) fun a =>
      idxD l ln (IntKind.wrap .i64 (((ln : Nat) : Int) - (1 : Int))) fun a1 =>
      ldInt H9 (Addr.add (Addr.add a (Int.toNat (IntKind.wrap .i64 (((ln : Nat) : Int) - (1 : Int))) * 6)) 2) .i64 fun n4 =>
      ldInt H9 (Addr.add (Addr.add (Addr.add a (Int.toNat (IntKind.wrap .i64 (((ln : Nat) : Int) - (1 : Int))) * 6)) 2) 1) .i64 fun n5 =>
      ldInt H9 (Addr.add (Addr.add a1 (Int.toNat (IntKind.wrap .i64 (((ln : Nat) : Int) - (1 : Int))) * 6)) 4) .i64 fun n6 =>
      st1 H9 ⟨r1, 2, none⟩ (.int .i64 n4) fun H10 =>
      st1 H10 ⟨r1, 3, none⟩ (.int .i64 n5) fun H11 =>
      st1 H11 ⟨r1, 4, none⟩ (.int .i64 (IntKind.wrap .i64 (n6 + (1 : Int)))) fun H12 =>
      L0 l ln lc r1 H12 R) ∧
    (
      idxD l ln (IntKind.wrap .i64 (((ln : Nat) : Int) - (1 : Int))) fun a2 =>
      idxD l ln (IntKind.wrap .i64 (((ln : Nat) : Int) - (1 : Int))) fun a3 =>
      ldInt H9 (Addr.add (Addr.add a2 (Int.toNat (IntKind.wrap .i64 (((ln : Nat) : Int) - (1 : Int))) * 6)) 2) .i64 fun n7 =>
      ldInt H9 (Addr.add (Addr.add (Addr.add a2 (Int.toNat (IntKind.wrap .i64 (((ln : Nat) : Int) - (1 : Int))) * 6)) 2) 1) .i64 fun n8 =>
      st1 H9 ⟨r1, 2, none⟩ (.int .i64 n7) fun H13 =>
      st1 H13 ⟨r1, 3, none⟩ (.int .i64 n8) fun H14 =>
      ldInt H14 (Addr.add (Addr.add a3 (Int.toNat (IntKind.wrap .i64 (((ln : Nat) : Int) - (1 : Int))) * 6)) 4) .i64 fun n9 =>
      st1 H14 ⟨r1, 4, none⟩ (.int .i64 (IntKind.wrap .i64 (n9 + (1 : Int)))) fun H15 =>
      L0 l ln lc r1 H15 R)) <|
  L0 l ln lc r1 H9 R
theorem calls {l : Option Addr} {ln : Nat} {lc : Nat} {rev_0 : Int} {rev_1 : Int} {H : Heap} {R : Ending → Heap → Prop} (h : go l ln lc rev_0 rev_1 H R) : CallsH Try.prog 28 ⟨[(.slice l ln lc), (.agg ⟨[(.int .i64 rev_0), (.int .i64 rev_1)]⟩)]⟩ H R :=
  callsH_of_den (an := an) (fuel := 100000) (X := go l ln lc rev_0 rev_1 H R) (c := body) mixed fn (by kernel_rfl) (by kernel_rfl) (by kernel_rfl) ok (by kernel_rfl) h
end F28
/-! ### 29 "pub-stadtholder/spec.Ended" -/
namespace F29
def an : Ann := { kinds := [(2000, .grow), (2002, .grow), (2010, .grow)], taus := [(2, [[1, 4, 6, 3, 5, 7, 8, 9, 0, 2, 10, 11, 12], [1, 4, 6, 3, 5, 7, 8, 9, 0, 10, 2, 11, 12], [1, 4, 6, 3, 5, 7, 8, 9, 10, 0, 2, 11, 12]])], pairs := [(2, [(0, 10), (2, 10)])], lab := [] }
noncomputable def body : Code := (Try.f29.body).getD .skip
theorem fn : Try.prog.funcs[29]? = some Try.f29 := by kernel_rfl
theorem ok : codeOk an 24 body = true := by kernel_rfl
def go (l : Option Addr) (ln : Nat) (lc : Nat) (rev_0 : Int) (rev_1 : Int) (H : Heap) (R : Ending → Heap → Prop) : Prop :=
  newD H (.cells ⟨[(.int .i64 rev_0), (.int .i64 rev_1)]⟩ 31) fun r H1 =>
  idxD l ln (IntKind.wrap .i64 (((ln : Nat) : Int) - (1 : Int))) fun a =>
  ldInt H1 (Addr.add a (Int.toNat (IntKind.wrap .i64 (((ln : Nat) : Int) - (1 : Int))) * 6)) .i64 fun n =>
  ldInt H1 (Addr.add (Addr.add a (Int.toNat (IntKind.wrap .i64 (((ln : Nat) : Int) - (1 : Int))) * 6)) 1) .i64 fun n1 =>
  ldInt H1 (Addr.add (Addr.add a (Int.toNat (IntKind.wrap .i64 (((ln : Nat) : Int) - (1 : Int))) * 6)) 2) .i64 fun n2 =>
  ldInt H1 (Addr.add (Addr.add a (Int.toNat (IntKind.wrap .i64 (((ln : Nat) : Int) - (1 : Int))) * 6)) 3) .i64 fun n3 =>
  ldInt H1 (Addr.add (Addr.add a (Int.toNat (IntKind.wrap .i64 (((ln : Nat) : Int) - (1 : Int))) * 6)) 4) .i64 fun n4 =>
  ldBool H1 (Addr.add (Addr.add a (Int.toNat (IntKind.wrap .i64 (((ln : Nat) : Int) - (1 : Int))) * 6)) 5) fun b =>
  newD H1 (.cells ⟨[(.int .i64 (0 : Int)), (.int .i64 (0 : Int)), (.int .i64 (0 : Int)), (.int .i64 (0 : Int)), (.int .i64 (0 : Int)), (.bool false)]⟩ 46) fun r1 H2 =>
  st1 H2 ⟨r1, 0, none⟩ (.int .i64 n) fun H3 =>
  st1 H3 ⟨r1, 1, none⟩ (.int .i64 n1) fun H4 =>
  st1 H4 ⟨r1, 2, none⟩ (.int .i64 n2) fun H5 =>
  st1 H5 ⟨r1, 3, none⟩ (.int .i64 n3) fun H6 =>
  st1 H6 ⟨r1, 4, none⟩ (.int .i64 n4) fun H7 =>
  st1 H7 ⟨r1, 5, none⟩ (.bool b) fun H8 =>
  (
    ldInt H8 ⟨r, 0, none⟩ .i64 fun n5 =>
    ldInt H8 ⟨r, 1, none⟩ .i64 fun n6 =>
    ldInt H8 ⟨r1, 2, none⟩ .i64 fun n7 =>
    ldInt H8 ⟨r1, 3, none⟩ .i64 fun n8 =>
    ldInt H8 ⟨r1, 4, none⟩ .i64 fun n9 =>
    newD H8 (.cells ⟨[]⟩ 46) fun r2 H9 =>
    apD H9 6 48 [(.int .i64 (0 : Int)), (.int .i64 (0 : Int)), (.int .i64 (0 : Int)), (.int .i64 (0 : Int)), (.int .i64 (0 : Int)), (.bool false)] 46 (some ⟨r2, 0, none⟩) 0 0 l ln fun q qn qc H10 =>
    andD (ExtH H9 H10) <|
    newD H10 (.cells ⟨[(.int .i64 n5), (.int .i64 n6), (.int .i64 n7), (.int .i64 n8), (.int .i64 (IntKind.wrap .i64 (n9 + (1 : Int)))), (.bool true)]⟩ 46) fun r3 H11 =>
    apD H11 6 48 [(.int .i64 (0 : Int)), (.int .i64 (0 : Int)), (.int .i64 (0 : Int)), (.int .i64 (0 : Int)), (.int .i64 (0 : Int)), (.bool false)] 46 q qn qc (some ⟨r3, 0, none⟩) 1 fun q1 q1n q1c H12 =>
    R (.returned (.slice q1 q1n q1c)) H12) ∧
  (
    ldInt H8 ⟨r, 0, none⟩ .i64 fun n10 =>
    ldInt H8 ⟨r, 1, none⟩ .i64 fun n11 =>
    ldInt H8 ⟨r1, 2, none⟩ .i64 fun n12 =>
    ldInt H8 ⟨r1, 3, none⟩ .i64 fun n13 =>
    ldInt H8 ⟨r1, 4, none⟩ .i64 fun n14 =>
    newD H8 (.cells ⟨[]⟩ 46) fun r4 H13 =>
    newD H13 (.cells ⟨[(.int .i64 n10), (.int .i64 n11), (.int .i64 n12), (.int .i64 n13), (.int .i64 (IntKind.wrap .i64 (n14 + (1 : Int)))), (.bool true)]⟩ 46) fun r5 H14 =>
    apD H14 6 48 [(.int .i64 (0 : Int)), (.int .i64 (0 : Int)), (.int .i64 (0 : Int)), (.int .i64 (0 : Int)), (.int .i64 (0 : Int)), (.bool false)] 46 (some ⟨r4, 0, none⟩) 0 0 l ln fun q2 q2n q2c H15 =>
    andD (ExtH H14 H15) <|
    apD H15 6 48 [(.int .i64 (0 : Int)), (.int .i64 (0 : Int)), (.int .i64 (0 : Int)), (.int .i64 (0 : Int)), (.int .i64 (0 : Int)), (.bool false)] 46 q2 q2n q2c (some ⟨r5, 0, none⟩) 1 fun q3 q3n q3c H16 =>
    R (.returned (.slice q3 q3n q3c)) H16) ∧
  (
    ldInt H8 ⟨r, 0, none⟩ .i64 fun n15 =>
    ldInt H8 ⟨r, 1, none⟩ .i64 fun n16 =>
    ldInt H8 ⟨r1, 2, none⟩ .i64 fun n17 =>
    ldInt H8 ⟨r1, 3, none⟩ .i64 fun n18 =>
    ldInt H8 ⟨r1, 4, none⟩ .i64 fun n19 =>
    newD H8 (.cells ⟨[(.int .i64 n15), (.int .i64 n16), (.int .i64 n17), (.int .i64 n18), (.int .i64 (IntKind.wrap .i64 (n19 + (1 : Int)))), (.bool true)]⟩ 46) fun r6 H17 =>
    newD H17 (.cells ⟨[]⟩ 46) fun r7 H18 =>
    apD H18 6 48 [(.int .i64 (0 : Int)), (.int .i64 (0 : Int)), (.int .i64 (0 : Int)), (.int .i64 (0 : Int)), (.int .i64 (0 : Int)), (.bool false)] 46 (some ⟨r7, 0, none⟩) 0 0 l ln fun q4 q4n q4c H19 =>
    andD (ExtH H18 H19) <|
    apD H19 6 48 [(.int .i64 (0 : Int)), (.int .i64 (0 : Int)), (.int .i64 (0 : Int)), (.int .i64 (0 : Int)), (.int .i64 (0 : Int)), (.bool false)] 46 q4 q4n q4c (some ⟨r6, 0, none⟩) 1 fun q5 q5n q5c H20 =>
    R (.returned (.slice q5 q5n q5c)) H20)
theorem calls {l : Option Addr} {ln : Nat} {lc : Nat} {rev_0 : Int} {rev_1 : Int} {H : Heap} {R : Ending → Heap → Prop} (h : go l ln lc rev_0 rev_1 H R) : CallsH Try.prog 29 ⟨[(.slice l ln lc), (.agg ⟨[(.int .i64 rev_0), (.int .i64 rev_1)]⟩)]⟩ H R :=
  callsH_of_den (an := an) (fuel := 100000) (X := go l ln lc rev_0 rev_1 H R) (c := body) mixed fn (by kernel_rfl) (by kernel_rfl) (by kernel_rfl) ok (by kernel_rfl) h
end F29
/-! ### 30 "pub-stadtholder/spec.Holds" -/
namespace F30
def an : Ann := { kinds := [], taus := [], pairs := [], lab := [(10000005, [0, 4, 6])] }
noncomputable def body : Code := (Try.f30.body).getD .skip
theorem fn : Try.prog.funcs[30]? = some Try.f30 := by kernel_rfl
theorem ok : codeOk an 24 body = true := by kernel_rfl
noncomputable def L0t : List Item := [.code (sub [1, 1, 1] body)]
def L0 (l : Option Addr) (ln : Nat) (lc : Nat) (s4 : Nat) (i : Int) (H : Heap) (R : Ending → Heap → Prop) : Prop :=
  GoL Try.prog 30 24 L0t [0, 4, 6] [(.slice l ln lc), (.pointer (some ⟨s4, 0, none⟩)), (.int .i64 i)] H R
def L0n (l : Option Addr) (ln : Nat) (lc : Nat) (s4 : Nat) (i : Int) (H : Heap) (R : Ending → Heap → Prop) : Prop :=
  idxD l ln i fun a =>
  ldInt H (Addr.add a (Int.toNat i * 6)) .i64 fun n =>
  ldInt H (Addr.add (Addr.add a (Int.toNat i * 6)) 1) .i64 fun n1 =>
  ldInt H (Addr.add (Addr.add a (Int.toNat i * 6)) 2) .i64 fun n2 =>
  ldInt H (Addr.add (Addr.add a (Int.toNat i * 6)) 3) .i64 fun n3 =>
  ldInt H (Addr.add (Addr.add a (Int.toNat i * 6)) 4) .i64 fun n4 =>
  ldBool H (Addr.add (Addr.add a (Int.toNat i * 6)) 5) fun b =>
  st1 H ⟨s4, 0, none⟩ (.int .i64 n) fun H1 =>
  st1 H1 ⟨s4, 1, none⟩ (.int .i64 n1) fun H2 =>
  st1 H2 ⟨s4, 2, none⟩ (.int .i64 n2) fun H3 =>
  st1 H3 ⟨s4, 3, none⟩ (.int .i64 n3) fun H4 =>
  st1 H4 ⟨s4, 4, none⟩ (.int .i64 n4) fun H5 =>
  st1 H5 ⟨s4, 5, none⟩ (.bool b) fun H6 =>
  ldInt H6 ⟨s4, 0, none⟩ .i64 fun n5 =>
  ldInt H6 ⟨s4, 1, none⟩ .i64 fun n6 =>
  ldInt H6 ⟨s4, 2, none⟩ .i64 fun n7 =>
  ldInt H6 ⟨s4, 3, none⟩ .i64 fun n8 =>
  ldInt H6 ⟨s4, 4, none⟩ .i64 fun n9 =>
  ldBool H6 ⟨s4, 5, none⟩ fun b1 =>
  R (.returned (.tuple ⟨[(.agg ⟨[(.int .i64 n5), (.int .i64 n6), (.int .i64 n7), (.int .i64 n8), (.int .i64 n9), (.bool b1)]⟩), (.bool true)]⟩)) H6
theorem L0_step {l : Option Addr} {ln : Nat} {lc : Nat} {s4 : Nat} {i : Int} {H : Heap} {R : Ending → Heap → Prop} (h : L0n l ln lc s4 i H R) : L0 l ln lc s4 i H R :=
  goL_of_den (an := an) (fuel := 100000) (X := L0n l ln lc s4 i H R) mixed fn (by kernel_rfl) (fun ρ0 => by kernel_rfl) h
def go (l : Option Addr) (ln : Nat) (lc : Nat) (xat : Int) (H : Heap) (R : Ending → Heap → Prop) : Prop :=
  newD H (.cells ⟨[(.int .i64 (0 : Int)), (.int .i64 (0 : Int)), (.int .i64 (0 : Int)), (.int .i64 (0 : Int)), (.int .i64 (0 : Int)), (.bool false)]⟩ 46) fun r H1 =>
  callD Try.prog 52 [(.slice l ln lc), (.int .i64 xat)] H1 (panK R) fun v H2 =>
  tInt v .i64 fun n =>
  iteB (decide (n < (0 : Int))) (
    st1 H2 ⟨r, 0, none⟩ (.int .i64 (0 : Int)) fun H3 =>
    st1 H3 ⟨r, 1, none⟩ (.int .i64 (0 : Int)) fun H4 =>
    st1 H4 ⟨r, 2, none⟩ (.int .i64 (0 : Int)) fun H5 =>
    st1 H5 ⟨r, 3, none⟩ (.int .i64 (0 : Int)) fun H6 =>
    st1 H6 ⟨r, 4, none⟩ (.int .i64 (0 : Int)) fun H7 =>
    st1 H7 ⟨r, 5, none⟩ (.bool false) fun H8 =>
    ldInt H8 ⟨r, 0, none⟩ .i64 fun n1 =>
    ldInt H8 ⟨r, 1, none⟩ .i64 fun n2 =>
    ldInt H8 ⟨r, 2, none⟩ .i64 fun n3 =>
    ldInt H8 ⟨r, 3, none⟩ .i64 fun n4 =>
    ldInt H8 ⟨r, 4, none⟩ .i64 fun n5 =>
    ldBool H8 ⟨r, 5, none⟩ fun b =>
    R (.returned (.tuple ⟨[(.agg ⟨[(.int .i64 n1), (.int .i64 n2), (.int .i64 n3), (.int .i64 n4), (.int .i64 n5), (.bool b)]⟩), (.bool false)]⟩)) H8) <|
  idxD l ln n fun a =>
  ldBool H2 (Addr.add (Addr.add a (Int.toNat n * 6)) 5) fun b1 =>
  iteB b1 (
    st1 H2 ⟨r, 0, none⟩ (.int .i64 (0 : Int)) fun H9 =>
    st1 H9 ⟨r, 1, none⟩ (.int .i64 (0 : Int)) fun H10 =>
    st1 H10 ⟨r, 2, none⟩ (.int .i64 (0 : Int)) fun H11 =>
    st1 H11 ⟨r, 3, none⟩ (.int .i64 (0 : Int)) fun H12 =>
    st1 H12 ⟨r, 4, none⟩ (.int .i64 (0 : Int)) fun H13 =>
    st1 H13 ⟨r, 5, none⟩ (.bool false) fun H14 =>
    ldInt H14 ⟨r, 0, none⟩ .i64 fun n6 =>
    ldInt H14 ⟨r, 1, none⟩ .i64 fun n7 =>
    ldInt H14 ⟨r, 2, none⟩ .i64 fun n8 =>
    ldInt H14 ⟨r, 3, none⟩ .i64 fun n9 =>
    ldInt H14 ⟨r, 4, none⟩ .i64 fun n10 =>
    ldBool H14 ⟨r, 5, none⟩ fun b2 =>
    R (.returned (.tuple ⟨[(.agg ⟨[(.int .i64 n6), (.int .i64 n7), (.int .i64 n8), (.int .i64 n9), (.int .i64 n10), (.bool b2)]⟩), (.bool false)]⟩)) H14) <|
  L0 l ln lc r n H2 R
theorem calls {l : Option Addr} {ln : Nat} {lc : Nat} {xat : Int} {H : Heap} {R : Ending → Heap → Prop} (h : go l ln lc xat H R) : CallsH Try.prog 30 ⟨[(.slice l ln lc), (.int .i64 xat)]⟩ H R :=
  callsH_of_den (an := an) (fuel := 100000) (X := go l ln lc xat H R) (c := body) mixed fn (by kernel_rfl) (by kernel_rfl) (by kernel_rfl) ok (by kernel_rfl) h
end F30
/-! ### 31 "pub-stadtholder/spec.Since" -/
namespace F31
def an : Ann := { kinds := [], taus := [(5, [[0, 1, 3, 2, 4, 5, 6, 7, 8, 9, 10, 11, 12, 13, 14, 15, 16, 17, 19, 20, 18, 21, 22, 23, 24]])], pairs := [], lab := [(40000004, [0, 1, 5, 8, 9, 10]), (60000007, [0, 1, 5, 7, 8, 9, 10]), (40000008, [0, 1, 5, 8, 9, 10])] }
noncomputable def body : Code := (Try.f31.body).getD .skip
theorem fn : Try.prog.funcs[31]? = some Try.f31 := by kernel_rfl
theorem ok : codeOk an 47 body = true := by kernel_rfl
noncomputable def L0t : List Item := [.code (sub [1, 1, 0, 1, 0, 0] body), .inLoop (sub [1, 1, 0, 1, 0, 0] body), .inBlock 0, .code (sub [1, 1, 1] body)]
def L0 (l : Option Addr) (ln : Nat) (lc : Nat) (xat : Int) (out : Option Addr) (outn : Nat) (outc : Nat) (s8 : Option Addr) (s8n : Nat) (s8c : Nat) (s9 : Int) (s10 : Int) (H : Heap) (R : Ending → Heap → Prop) : Prop :=
  GoL Try.prog 31 47 L0t [0, 1, 5, 8, 9, 10] [(.slice l ln lc), (.int .i64 xat), (.slice out outn outc), (.slice s8 s8n s8c), (.int .i64 s9), (.int .i64 s10)] H R
noncomputable def L1t : List Item := [.code (sub [1, 1, 0, 1, 0, 0, 1, 1, 0, 0, 1, 1, 0] body), .inBlock 1, .code (sub [1, 1, 0, 1, 0, 0, 1, 1, 1] body), .inLoop (sub [1, 1, 0, 1, 0, 0] body), .inBlock 0, .code (sub [1, 1, 1] body)]
def L1 (l : Option Addr) (ln : Nat) (lc : Nat) (xat : Int) (out : Option Addr) (outn : Nat) (outc : Nat) (v : Nat) (s8 : Option Addr) (s8n : Nat) (s8c : Nat) (s9 : Int) (s10 : Int) (H : Heap) (R : Ending → Heap → Prop) : Prop :=
  GoL Try.prog 31 47 L1t [0, 1, 5, 7, 8, 9, 10] [(.slice l ln lc), (.int .i64 xat), (.slice out outn outc), (.pointer (some ⟨v, 0, none⟩)), (.slice s8 s8n s8c), (.int .i64 s9), (.int .i64 s10)] H R
noncomputable def L2t : List Item := [.code (sub [1, 1, 0, 1, 0, 0, 1, 1, 1] body), .inLoop (sub [1, 1, 0, 1, 0, 0] body), .inBlock 0, .code (sub [1, 1, 1] body)]
def L2 (l : Option Addr) (ln : Nat) (lc : Nat) (xat : Int) (out : Option Addr) (outn : Nat) (outc : Nat) (s8 : Option Addr) (s8n : Nat) (s8c : Nat) (s9 : Int) (s10 : Int) (H : Heap) (R : Ending → Heap → Prop) : Prop :=
  GoL Try.prog 31 47 L2t [0, 1, 5, 8, 9, 10] [(.slice l ln lc), (.int .i64 xat), (.slice out outn outc), (.slice s8 s8n s8c), (.int .i64 s9), (.int .i64 s10)] H R
def L0n (l : Option Addr) (ln : Nat) (lc : Nat) (xat : Int) (out : Option Addr) (outn : Nat) (outc : Nat) (s8 : Option Addr) (s8n : Nat) (s8c : Nat) (s9 : Int) (s10 : Int) (H : Heap) (R : Ending → Heap → Prop) : Prop :=
  iteB (decide (s10 < s9)) (
    idxD s8 s8n s10 fun a =>
    ldInt H (Addr.add a (Int.toNat s10 * 6)) .i64 fun n =>
    ldInt H (Addr.add (Addr.add a (Int.toNat s10 * 6)) 1) .i64 fun n1 =>
    ldInt H (Addr.add (Addr.add a (Int.toNat s10 * 6)) 2) .i64 fun n2 =>
    ldInt H (Addr.add (Addr.add a (Int.toNat s10 * 6)) 3) .i64 fun n3 =>
    ldInt H (Addr.add (Addr.add a (Int.toNat s10 * 6)) 4) .i64 fun n4 =>
    ldBool H (Addr.add (Addr.add a (Int.toNat s10 * 6)) 5) fun b =>
    newD H (.cells ⟨[(.int .i64 (0 : Int)), (.int .i64 (0 : Int)), (.int .i64 (0 : Int)), (.int .i64 (0 : Int)), (.int .i64 (0 : Int)), (.bool false)]⟩ 46) fun r H1 =>
    st1 H1 ⟨r, 0, none⟩ (.int .i64 n) fun H2 =>
    st1 H2 ⟨r, 1, none⟩ (.int .i64 n1) fun H3 =>
    st1 H3 ⟨r, 2, none⟩ (.int .i64 n2) fun H4 =>
    st1 H4 ⟨r, 3, none⟩ (.int .i64 n3) fun H5 =>
    st1 H5 ⟨r, 4, none⟩ (.int .i64 n4) fun H6 =>
    st1 H6 ⟨r, 5, none⟩ (.bool b) fun H7 =>
    ldInt H7 ⟨r, 0, none⟩ .i64 fun n5 =>
    iteB (decide (n5 ≥ xat)) (
      iteB (s10 == (IntKind.wrap .i64 (((ln : Nat) : Int) - (1 : Int)))) (
        L1 l ln lc xat out outn outc r s8 s8n s8c s9 s10 H7 R) <|
      idxD l ln (IntKind.wrap .i64 (s10 + (1 : Int))) fun a1 =>
      ldInt H7 (Addr.add a1 (Int.toNat (IntKind.wrap .i64 (s10 + (1 : Int))) * 6)) .i64 fun n6 =>
      ldInt H7 ⟨r, 0, none⟩ .i64 fun n7 =>
      iteB (n6 != n7) (
        L1 l ln lc xat out outn outc r s8 s8n s8c s9 s10 H7 R) <|
      L2 l ln lc xat out outn outc s8 s8n s8c s9 s10 H7 R) <|
    L2 l ln lc xat out outn outc s8 s8n s8c s9 s10 H7 R) <|
  R (.returned (.slice out outn outc)) H
theorem L0_step {l : Option Addr} {ln : Nat} {lc : Nat} {xat : Int} {out : Option Addr} {outn : Nat} {outc : Nat} {s8 : Option Addr} {s8n : Nat} {s8c : Nat} {s9 : Int} {s10 : Int} {H : Heap} {R : Ending → Heap → Prop} (h : L0n l ln lc xat out outn outc s8 s8n s8c s9 s10 H R) : L0 l ln lc xat out outn outc s8 s8n s8c s9 s10 H R :=
  goL_of_den (an := an) (fuel := 100000) (X := L0n l ln lc xat out outn outc s8 s8n s8c s9 s10 H R) mixed fn (by kernel_rfl) (fun ρ0 => by kernel_rfl) h
def L1n (l : Option Addr) (ln : Nat) (lc : Nat) (xat : Int) (out : Option Addr) (outn : Nat) (outc : Nat) (v : Nat) (s8 : Option Addr) (s8n : Nat) (s8c : Nat) (s9 : Int) (s10 : Int) (H : Heap) (R : Ending → Heap → Prop) : Prop :=
  ldInt H ⟨v, 0, none⟩ .i64 fun n =>
  ldInt H ⟨v, 1, none⟩ .i64 fun n1 =>
  newD H (.cells ⟨[(.int .i64 n), (.int .i64 n1)]⟩ 31) fun r H1 =>
  apD H1 2 16 [(.int .i64 (0 : Int)), (.int .i64 (0 : Int))] 31 out outn outc (some ⟨r, 0, none⟩) 1 fun q qn qc H2 =>
  L2 l ln lc xat q qn qc s8 s8n s8c s9 s10 H2 R
theorem L1_step {l : Option Addr} {ln : Nat} {lc : Nat} {xat : Int} {out : Option Addr} {outn : Nat} {outc : Nat} {v : Nat} {s8 : Option Addr} {s8n : Nat} {s8c : Nat} {s9 : Int} {s10 : Int} {H : Heap} {R : Ending → Heap → Prop} (h : L1n l ln lc xat out outn outc v s8 s8n s8c s9 s10 H R) : L1 l ln lc xat out outn outc v s8 s8n s8c s9 s10 H R :=
  goL_of_den (an := an) (fuel := 100000) (X := L1n l ln lc xat out outn outc v s8 s8n s8c s9 s10 H R) mixed fn (by kernel_rfl) (fun ρ0 => by kernel_rfl) h
def L2n (l : Option Addr) (ln : Nat) (lc : Nat) (xat : Int) (out : Option Addr) (outn : Nat) (outc : Nat) (s8 : Option Addr) (s8n : Nat) (s8c : Nat) (s9 : Int) (s10 : Int) (H : Heap) (R : Ending → Heap → Prop) : Prop :=
  L0 l ln lc xat out outn outc s8 s8n s8c s9 (IntKind.wrap .i64 (s10 + (1 : Int))) H R
theorem L2_step {l : Option Addr} {ln : Nat} {lc : Nat} {xat : Int} {out : Option Addr} {outn : Nat} {outc : Nat} {s8 : Option Addr} {s8n : Nat} {s8c : Nat} {s9 : Int} {s10 : Int} {H : Heap} {R : Ending → Heap → Prop} (h : L2n l ln lc xat out outn outc s8 s8n s8c s9 s10 H R) : L2 l ln lc xat out outn outc s8 s8n s8c s9 s10 H R :=
  goL_of_den (an := an) (fuel := 100000) (X := L2n l ln lc xat out outn outc s8 s8n s8c s9 s10 H R) mixed fn (by kernel_rfl) (fun ρ0 => by kernel_rfl) h
def go (l : Option Addr) (ln : Nat) (lc : Nat) (xat : Int) (H : Heap) (R : Ending → Heap → Prop) : Prop :=
  L0 l ln lc xat none 0 0 l ln lc ((ln : Nat) : Int) (0 : Int) H R
theorem calls {l : Option Addr} {ln : Nat} {lc : Nat} {xat : Int} {H : Heap} {R : Ending → Heap → Prop} (h : go l ln lc xat H R) : CallsH Try.prog 31 ⟨[(.slice l ln lc), (.int .i64 xat)]⟩ H R :=
  callsH_of_den (an := an) (fuel := 100000) (X := go l ln lc xat H R) (c := body) mixed fn (by kernel_rfl) (by kernel_rfl) (by kernel_rfl) ok (by kernel_rfl) h
end F31
/-! ### 32 "pub-stadtholder/spec.Kept" -/
namespace F32
def an : Ann := { kinds := [], taus := [], pairs := [], lab := [(40000004, [0, 1, 2, 7, 10, 11, 12]), (60000007, [0, 1, 2, 7, 9, 10, 11, 12]), (40000008, [0, 1, 2, 7, 10, 11, 12])] }
noncomputable def body : Code := (Try.f32.body).getD .skip
theorem fn : Try.prog.funcs[32]? = some Try.f32 := by kernel_rfl
theorem ok : codeOk an 43 body = true := by kernel_rfl
noncomputable def L0t : List Item := [.code (sub [1, 1, 0, 1, 0, 0] body), .inLoop (sub [1, 1, 0, 1, 0, 0] body), .inBlock 0, .code (sub [1, 1, 1] body)]
def L0 (l : Option Addr) (ln : Nat) (lc : Nat) (xat : Int) (ends : Bool) (out : Option Addr) (outn : Nat) (outc : Nat) (s10 : Option Addr) (s10n : Nat) (s10c : Nat) (s11 : Int) (s12 : Int) (H : Heap) (R : Ending → Heap → Prop) : Prop :=
  GoL Try.prog 32 43 L0t [0, 1, 2, 7, 10, 11, 12] [(.slice l ln lc), (.int .i64 xat), (.bool ends), (.slice out outn outc), (.slice s10 s10n s10c), (.int .i64 s11), (.int .i64 s12)] H R
noncomputable def L1t : List Item := [.code (sub [1, 1, 0, 1, 0, 0, 1, 1, 0, 0, 1, 1, 0] body), .inBlock 1, .code (sub [1, 1, 0, 1, 0, 0, 1, 1, 1] body), .inLoop (sub [1, 1, 0, 1, 0, 0] body), .inBlock 0, .code (sub [1, 1, 1] body)]
def L1 (l : Option Addr) (ln : Nat) (lc : Nat) (xat : Int) (ends : Bool) (out : Option Addr) (outn : Nat) (outc : Nat) (v : Nat) (s10 : Option Addr) (s10n : Nat) (s10c : Nat) (s11 : Int) (s12 : Int) (H : Heap) (R : Ending → Heap → Prop) : Prop :=
  GoL Try.prog 32 43 L1t [0, 1, 2, 7, 9, 10, 11, 12] [(.slice l ln lc), (.int .i64 xat), (.bool ends), (.slice out outn outc), (.pointer (some ⟨v, 0, none⟩)), (.slice s10 s10n s10c), (.int .i64 s11), (.int .i64 s12)] H R
noncomputable def L2t : List Item := [.code (sub [1, 1, 0, 1, 0, 0, 1, 1, 1] body), .inLoop (sub [1, 1, 0, 1, 0, 0] body), .inBlock 0, .code (sub [1, 1, 1] body)]
def L2 (l : Option Addr) (ln : Nat) (lc : Nat) (xat : Int) (ends : Bool) (out : Option Addr) (outn : Nat) (outc : Nat) (s10 : Option Addr) (s10n : Nat) (s10c : Nat) (s11 : Int) (s12 : Int) (H : Heap) (R : Ending → Heap → Prop) : Prop :=
  GoL Try.prog 32 43 L2t [0, 1, 2, 7, 10, 11, 12] [(.slice l ln lc), (.int .i64 xat), (.bool ends), (.slice out outn outc), (.slice s10 s10n s10c), (.int .i64 s11), (.int .i64 s12)] H R
def L0n (l : Option Addr) (ln : Nat) (lc : Nat) (xat : Int) (ends : Bool) (out : Option Addr) (outn : Nat) (outc : Nat) (s10 : Option Addr) (s10n : Nat) (s10c : Nat) (s11 : Int) (s12 : Int) (H : Heap) (R : Ending → Heap → Prop) : Prop :=
  iteB (decide (s12 < s11)) (
    idxD s10 s10n s12 fun a =>
    ldInt H (Addr.add a (Int.toNat s12 * 6)) .i64 fun n =>
    ldInt H (Addr.add (Addr.add a (Int.toNat s12 * 6)) 1) .i64 fun n1 =>
    ldInt H (Addr.add (Addr.add a (Int.toNat s12 * 6)) 2) .i64 fun n2 =>
    ldInt H (Addr.add (Addr.add a (Int.toNat s12 * 6)) 3) .i64 fun n3 =>
    ldInt H (Addr.add (Addr.add a (Int.toNat s12 * 6)) 4) .i64 fun n4 =>
    ldBool H (Addr.add (Addr.add a (Int.toNat s12 * 6)) 5) fun b =>
    newD H (.cells ⟨[(.int .i64 (0 : Int)), (.int .i64 (0 : Int)), (.int .i64 (0 : Int)), (.int .i64 (0 : Int)), (.int .i64 (0 : Int)), (.bool false)]⟩ 46) fun r H1 =>
    st1 H1 ⟨r, 0, none⟩ (.int .i64 n) fun H2 =>
    st1 H2 ⟨r, 1, none⟩ (.int .i64 n1) fun H3 =>
    st1 H3 ⟨r, 2, none⟩ (.int .i64 n2) fun H4 =>
    st1 H4 ⟨r, 3, none⟩ (.int .i64 n3) fun H5 =>
    st1 H5 ⟨r, 4, none⟩ (.int .i64 n4) fun H6 =>
    st1 H6 ⟨r, 5, none⟩ (.bool b) fun H7 =>
    ldInt H7 ⟨r, 0, none⟩ .i64 fun n5 =>
    iteB (decide (n5 ≤ xat)) (
      callD Try.prog 24 [(.slice l ln lc), (.int .i64 s12), (.int .i64 xat)] H7 (panK R) fun v H8 =>
      tBool v fun b1 =>
      iteB b1 (
        iteB ends (
          L1 l ln lc xat ends out outn outc r s10 s10n s10c s11 s12 H8 R) <|
        ldBool H8 ⟨r, 5, none⟩ fun b2 =>
        iteB (!b2) (
          L1 l ln lc xat ends out outn outc r s10 s10n s10c s11 s12 H8 R) <|
        L2 l ln lc xat ends out outn outc s10 s10n s10c s11 s12 H8 R) <|
      L2 l ln lc xat ends out outn outc s10 s10n s10c s11 s12 H8 R) <|
    L2 l ln lc xat ends out outn outc s10 s10n s10c s11 s12 H7 R) <|
  R (.returned (.slice out outn outc)) H
theorem L0_step {l : Option Addr} {ln : Nat} {lc : Nat} {xat : Int} {ends : Bool} {out : Option Addr} {outn : Nat} {outc : Nat} {s10 : Option Addr} {s10n : Nat} {s10c : Nat} {s11 : Int} {s12 : Int} {H : Heap} {R : Ending → Heap → Prop} (h : L0n l ln lc xat ends out outn outc s10 s10n s10c s11 s12 H R) : L0 l ln lc xat ends out outn outc s10 s10n s10c s11 s12 H R :=
  goL_of_den (an := an) (fuel := 100000) (X := L0n l ln lc xat ends out outn outc s10 s10n s10c s11 s12 H R) mixed fn (by kernel_rfl) (fun ρ0 => by kernel_rfl) h
def L1n (l : Option Addr) (ln : Nat) (lc : Nat) (xat : Int) (ends : Bool) (out : Option Addr) (outn : Nat) (outc : Nat) (v : Nat) (s10 : Option Addr) (s10n : Nat) (s10c : Nat) (s11 : Int) (s12 : Int) (H : Heap) (R : Ending → Heap → Prop) : Prop :=
  ldInt H ⟨v, 0, none⟩ .i64 fun n =>
  ldInt H ⟨v, 1, none⟩ .i64 fun n1 =>
  newD H (.cells ⟨[(.int .i64 n), (.int .i64 n1)]⟩ 31) fun r H1 =>
  apD H1 2 16 [(.int .i64 (0 : Int)), (.int .i64 (0 : Int))] 31 out outn outc (some ⟨r, 0, none⟩) 1 fun q qn qc H2 =>
  L2 l ln lc xat ends q qn qc s10 s10n s10c s11 s12 H2 R
theorem L1_step {l : Option Addr} {ln : Nat} {lc : Nat} {xat : Int} {ends : Bool} {out : Option Addr} {outn : Nat} {outc : Nat} {v : Nat} {s10 : Option Addr} {s10n : Nat} {s10c : Nat} {s11 : Int} {s12 : Int} {H : Heap} {R : Ending → Heap → Prop} (h : L1n l ln lc xat ends out outn outc v s10 s10n s10c s11 s12 H R) : L1 l ln lc xat ends out outn outc v s10 s10n s10c s11 s12 H R :=
  goL_of_den (an := an) (fuel := 100000) (X := L1n l ln lc xat ends out outn outc v s10 s10n s10c s11 s12 H R) mixed fn (by kernel_rfl) (fun ρ0 => by kernel_rfl) h
def L2n (l : Option Addr) (ln : Nat) (lc : Nat) (xat : Int) (ends : Bool) (out : Option Addr) (outn : Nat) (outc : Nat) (s10 : Option Addr) (s10n : Nat) (s10c : Nat) (s11 : Int) (s12 : Int) (H : Heap) (R : Ending → Heap → Prop) : Prop :=
  L0 l ln lc xat ends out outn outc s10 s10n s10c s11 (IntKind.wrap .i64 (s12 + (1 : Int))) H R
theorem L2_step {l : Option Addr} {ln : Nat} {lc : Nat} {xat : Int} {ends : Bool} {out : Option Addr} {outn : Nat} {outc : Nat} {s10 : Option Addr} {s10n : Nat} {s10c : Nat} {s11 : Int} {s12 : Int} {H : Heap} {R : Ending → Heap → Prop} (h : L2n l ln lc xat ends out outn outc s10 s10n s10c s11 s12 H R) : L2 l ln lc xat ends out outn outc s10 s10n s10c s11 s12 H R :=
  goL_of_den (an := an) (fuel := 100000) (X := L2n l ln lc xat ends out outn outc s10 s10n s10c s11 s12 H R) mixed fn (by kernel_rfl) (fun ρ0 => by kernel_rfl) h
def go (l : Option Addr) (ln : Nat) (lc : Nat) (xat : Int) (ends : Bool) (H : Heap) (R : Ending → Heap → Prop) : Prop :=
  L0 l ln lc xat ends none 0 0 l ln lc ((ln : Nat) : Int) (0 : Int) H R
theorem calls {l : Option Addr} {ln : Nat} {lc : Nat} {xat : Int} {ends : Bool} {H : Heap} {R : Ending → Heap → Prop} (h : go l ln lc xat ends H R) : CallsH Try.prog 32 ⟨[(.slice l ln lc), (.int .i64 xat), (.bool ends)]⟩ H R :=
  callsH_of_den (an := an) (fuel := 100000) (X := go l ln lc xat ends H R) (c := body) mixed fn (by kernel_rfl) (by kernel_rfl) (by kernel_rfl) ok (by kernel_rfl) h
end F32
/-! ### 33 "pub-stadtholder/pub/etcdserver/storage/mvcc.zzIn" -/
namespace F33
def an : Ann := { kinds := [(5011, .grow), (5013, .grow)], taus := [(5, [[0, 1, 2, 3, 5, 7, 9, 4, 6, 8, 10, 11, 12, 13, 14, 15, 16, 17]])], pairs := [], lab := [(40000004, [5, 14, 15, 16])] }
noncomputable def body : Code := (Try.f33.body).getD .skip
theorem fn : Try.prog.funcs[33]? = some Try.f33 := by kernel_rfl
theorem ok : codeOk an 39 body = true := by kernel_rfl
noncomputable def L0t : List Item := [.code (sub [1, 1, 0, 1, 0, 0] body), .inLoop (sub [1, 1, 0, 1, 0, 0] body), .inBlock 0, .code (sub [1, 1, 1] body)]
def L0 (ki : Nat) (s14 : Option Addr) (s14n : Nat) (s14c : Nat) (s15 : Int) (s16 : Int) (H : Heap) (R : Ending → Heap → Prop) : Prop :=
  GoL Try.prog 33 39 L0t [5, 14, 15, 16] [(.pointer (some ⟨ki, 0, none⟩)), (.slice s14 s14n s14c), (.int .i64 s15), (.int .i64 s16)] H R
def L0n (ki : Nat) (s14 : Option Addr) (s14n : Nat) (s14c : Nat) (s15 : Int) (s16 : Int) (H : Heap) (R : Ending → Heap → Prop) : Prop :=
  iteB (decide (s16 < s15)) (
    idxD s14 s14n s16 fun a =>
    ldInt H (Addr.add a (Int.toNat s16 * 4)) .i64 fun n =>
    ldInt H (Addr.add (Addr.add a (Int.toNat s16 * 4)) 1) .i64 fun n1 =>
    ldInt H (Addr.add (Addr.add a (Int.toNat s16 * 4)) 2) .i64 fun n2 =>
    ldSl H (Addr.add (Addr.add a (Int.toNat s16 * 4)) 3) fun q qn qc =>
    newD H (.cells ⟨[(.int .i64 (0 : Int)), (.int .i64 (0 : Int)), (.int .i64 (0 : Int)), (.slice none 0 0)]⟩ 84) fun r H1 =>
    st1 H1 ⟨r, 0, none⟩ (.int .i64 n) fun H2 =>
    st1 H2 ⟨r, 1, none⟩ (.int .i64 n1) fun H3 =>
    st1 H3 ⟨r, 2, none⟩ (.int .i64 n2) fun H4 =>
    st1 H4 ⟨r, 3, none⟩ (.slice q qn qc) fun H5 =>
    ldSl H5 ⟨ki, 3, none⟩ fun q1 q1n q1c =>
    ldInt H5 ⟨r, 0, none⟩ .i64 fun n3 =>
    ldInt H5 ⟨r, 1, none⟩ .i64 fun n4 =>
    ldInt H5 ⟨r, 2, none⟩ .i64 fun n5 =>
    ldSl H5 ⟨r, 3, none⟩ fun q2 q2n q2c =>
    apD H5 2 16 [(.int .i64 (0 : Int)), (.int .i64 (0 : Int))] 60 none 0 0 q2 q2n fun q3 q3n q3c H6 =>
    andD (ExtH H5 H6) <|
    newD H6 (.cells ⟨[(.int .i64 n3), (.int .i64 n4), (.int .i64 n5), (.slice q3 q3n q3c)]⟩ 105) fun r1 H7 =>
    apD H7 4 48 [(.int .i64 (0 : Int)), (.int .i64 (0 : Int)), (.int .i64 (0 : Int)), (.slice none 0 0)] 105 q1 q1n q1c (some ⟨r1, 0, none⟩) 1 fun q4 q4n q4c H8 =>
    st1 H8 ⟨ki, 3, none⟩ (.slice q4 q4n q4c) fun H9 =>
    L0 ki s14 s14n s14c s15 (IntKind.wrap .i64 (s16 + (1 : Int))) H9 R) <|
  R (.returned (.pointer (some ⟨ki, 0, none⟩))) H
theorem L0_step {ki : Nat} {s14 : Option Addr} {s14n : Nat} {s14c : Nat} {s15 : Int} {s16 : Int} {H : Heap} {R : Ending → Heap → Prop} (h : L0n ki s14 s14n s14c s15 s16 H R) : L0 ki s14 s14n s14c s15 s16 H R :=
  goL_of_den (an := an) (fuel := 100000) (X := L0n ki s14 s14n s14c s15 s16 H R) mixed fn (by kernel_rfl) (fun ρ0 => by kernel_rfl) h
def go (key : Option Addr) (keyn : Nat) (keyc : Nat) (k_0 : Int) (k_1 : Int) (k_2 : Option Addr) (k_2n : Nat) (k_2c : Nat) (H : Heap) (R : Ending → Heap → Prop) : Prop :=
  newD H (.cells ⟨[(.int .i64 k_0), (.int .i64 k_1), (.slice k_2 k_2n k_2c)]⟩ 63) fun r H1 =>
  ldInt H1 ⟨r, 0, none⟩ .i64 fun n =>
  ldInt H1 ⟨r, 1, none⟩ .i64 fun n1 =>
  newD H1 (.cells ⟨[(.slice key keyn keyc), (.int .i64 n), (.int .i64 n1), (.slice none 0 0)]⟩ 110) fun r1 H2 =>
  ldSl H2 ⟨r, 2, none⟩ fun q qn qc =>
  L0 r1 q qn qc ((qn : Nat) : Int) (0 : Int) H2 R
theorem calls {key : Option Addr} {keyn : Nat} {keyc : Nat} {k_0 : Int} {k_1 : Int} {k_2 : Option Addr} {k_2n : Nat} {k_2c : Nat} {H : Heap} {R : Ending → Heap → Prop} (h : go key keyn keyc k_0 k_1 k_2 k_2n k_2c H R) : CallsH Try.prog 33 ⟨[(.slice key keyn keyc), (.agg ⟨[(.int .i64 k_0), (.int .i64 k_1), (.slice k_2 k_2n k_2c)]⟩)]⟩ H R :=
  callsH_of_den (an := an) (fuel := 100000) (X := go key keyn keyc k_0 k_1 k_2 k_2n k_2c H R) (c := body) mixed fn (by kernel_rfl) (by kernel_rfl) (by kernel_rfl) ok (by kernel_rfl) h
end F33
/-! ### 34 "pub-stadtholder/impl.revIn" -/
namespace F34
def an : Ann := { kinds := [], taus := [], pairs := [], lab := [] }
noncomputable def body : Code := (Try.f34.body).getD .skip
theorem fn : Try.prog.funcs[34]? = some Try.f34 := by kernel_rfl
theorem ok : codeOk an 8 body = true := by kernel_rfl
def go (r_0 : Int) (r_1 : Int) (H : Heap) (R : Ending → Heap → Prop) : Prop :=
  newD H (.cells ⟨[(.int .i64 r_0), (.int .i64 r_1)]⟩ 31) fun r H1 =>
  newD H1 (.cells ⟨[(.int .i64 (0 : Int)), (.int .i64 (0 : Int))]⟩ 60) fun r1 H2 =>
  ldInt H2 ⟨r, 0, none⟩ .i64 fun n =>
  ldInt H2 ⟨r, 1, none⟩ .i64 fun n1 =>
  st1 H2 ⟨r1, 0, none⟩ (.int .i64 n) fun H3 =>
  st1 H3 ⟨r1, 1, none⟩ (.int .i64 n1) fun H4 =>
  ldInt H4 ⟨r1, 0, none⟩ .i64 fun n2 =>
  ldInt H4 ⟨r1, 1, none⟩ .i64 fun n3 =>
  R (.returned (.agg ⟨[(.int .i64 n2), (.int .i64 n3)]⟩)) H4
theorem calls {r_0 : Int} {r_1 : Int} {H : Heap} {R : Ending → Heap → Prop} (h : go r_0 r_1 H R) : CallsH Try.prog 34 ⟨[(.agg ⟨[(.int .i64 r_0), (.int .i64 r_1)]⟩)]⟩ H R :=
  callsH_of_den (an := an) (fuel := 100000) (X := go r_0 r_1 H R) (c := body) mixed fn (by kernel_rfl) (by kernel_rfl) (by kernel_rfl) ok (by kernel_rfl) h
end F34
/-! ### 36 "(pub-stadtholder/pub/etcdserver/storage/mvcc.ZzKeyIndex).Put" -/
namespace F36
def an : Ann := { kinds := [], taus := [], pairs := [], lab := [] }
noncomputable def body : Code := (Try.f36.body).getD .skip
theorem fn : Try.prog.funcs[36]? = some Try.f36 := by kernel_rfl
theorem ok : codeOk an 11 body = true := by kernel_rfl
def go (z_0 : Option Addr) (r_0 : Int) (r_1 : Int) (H : Heap) (R : Ending → Heap → Prop) : Prop :=
  newD H (.cells ⟨[(.pointer z_0)]⟩ 57) fun r H1 =>
  newD H1 (.cells ⟨[(.int .i64 r_0), (.int .i64 r_1)]⟩ 60) fun r1 H2 =>
  ldPtr H2 ⟨r, 0, none⟩ fun p =>
  ldInt H2 ⟨r1, 0, none⟩ .i64 fun n =>
  ldInt H2 ⟨r1, 1, none⟩ .i64 fun n1 =>
  callD Try.prog 55 [(.pointer p), (.pointer none), (.int .i64 n), (.int .i64 n1)] H2 (panK R) fun v H3 =>
  tTup v fun l =>
  tNil l <|
  R (.returned (.tuple ⟨[]⟩)) H3
theorem calls {z_0 : Option Addr} {r_0 : Int} {r_1 : Int} {H : Heap} {R : Ending → Heap → Prop} (h : go z_0 r_0 r_1 H R) : CallsH Try.prog 36 ⟨[(.agg ⟨[(.pointer z_0)]⟩), (.agg ⟨[(.int .i64 r_0), (.int .i64 r_1)]⟩)]⟩ H R :=
  callsH_of_den (an := an) (fuel := 100000) (X := go z_0 r_0 r_1 H R) (c := body) mixed fn (by kernel_rfl) (by kernel_rfl) (by kernel_rfl) ok (by kernel_rfl) h
end F36
/-! ### 37 "(pub-stadtholder/pub/etcdserver/storage/mvcc.ZzKeyIndex).Tombstone" -/
namespace F37
def an : Ann := { kinds := [], taus := [], pairs := [], lab := [] }
noncomputable def body : Code := (Try.f37.body).getD .skip
theorem fn : Try.prog.funcs[37]? = some Try.f37 := by kernel_rfl
theorem ok : codeOk an 12 body = true := by kernel_rfl
def go (z_0 : Option Addr) (r_0 : Int) (r_1 : Int) (H : Heap) (R : Ending → Heap → Prop) : Prop :=
  newD H (.cells ⟨[(.pointer z_0)]⟩ 57) fun r H1 =>
  newD H1 (.cells ⟨[(.int .i64 r_0), (.int .i64 r_1)]⟩ 60) fun r1 H2 =>
  ldPtr H2 ⟨r, 0, none⟩ fun p =>
  ldInt H2 ⟨r1, 0, none⟩ .i64 fun n =>
  ldInt H2 ⟨r1, 1, none⟩ .i64 fun n1 =>
  callD Try.prog 56 [(.pointer p), (.pointer none), (.int .i64 n), (.int .i64 n1)] H2 (panK R) fun v H3 =>
  tIf v fun i =>
  R (.returned (IV.v i)) H3
theorem calls {z_0 : Option Addr} {r_0 : Int} {r_1 : Int} {H : Heap} {R : Ending → Heap → Prop} (h : go z_0 r_0 r_1 H R) : CallsH Try.prog 37 ⟨[(.agg ⟨[(.pointer z_0)]⟩), (.agg ⟨[(.int .i64 r_0), (.int .i64 r_1)]⟩)]⟩ H R :=
  callsH_of_den (an := an) (fuel := 100000) (X := go z_0 r_0 r_1 H R) (c := body) mixed fn (by kernel_rfl) (by kernel_rfl) (by kernel_rfl) ok (by kernel_rfl) h
end F37
/-! ### 38 "(pub-stadtholder/pub/etcdserver/storage/mvcc.ZzKeyIndex).Restore" -/
namespace F38
def an : Ann := { kinds := [], taus := [], pairs := [], lab := [] }
noncomputable def body : Code := (Try.f38.body).getD .skip
theorem fn : Try.prog.funcs[38]? = some Try.f38 := by kernel_rfl
theorem ok : codeOk an 14 body = true := by kernel_rfl
def go (z_0 : Option Addr) (created_0 : Int) (created_1 : Int) (modified_0 : Int) (modified_1 : Int) (ver : Int) (H : Heap) (R : Ending → Heap → Prop) : Prop :=
  newD H (.cells ⟨[(.pointer z_0)]⟩ 57) fun r H1 =>
  newD H1 (.cells ⟨[(.int .i64 created_0), (.int .i64 created_1)]⟩ 60) fun r1 H2 =>
  newD H2 (.cells ⟨[(.int .i64 modified_0), (.int .i64 modified_1)]⟩ 60) fun r2 H3 =>
  ldPtr H3 ⟨r, 0, none⟩ fun p =>
  ldInt H3 ⟨r1, 0, none⟩ .i64 fun n =>
  ldInt H3 ⟨r1, 1, none⟩ .i64 fun n1 =>
  ldInt H3 ⟨r2, 0, none⟩ .i64 fun n2 =>
  ldInt H3 ⟨r2, 1, none⟩ .i64 fun n3 =>
  callD Try.prog 57 [(.pointer p), (.pointer none), (.agg ⟨[(.int .i64 n), (.int .i64 n1)]⟩), (.agg ⟨[(.int .i64 n2), (.int .i64 n3)]⟩), (.int .i64 ver)] H3 (panK R) fun v H4 =>
  tTup v fun l =>
  tNil l <|
  R (.returned (.tuple ⟨[]⟩)) H4
theorem calls {z_0 : Option Addr} {created_0 : Int} {created_1 : Int} {modified_0 : Int} {modified_1 : Int} {ver : Int} {H : Heap} {R : Ending → Heap → Prop} (h : go z_0 created_0 created_1 modified_0 modified_1 ver H R) : CallsH Try.prog 38 ⟨[(.agg ⟨[(.pointer z_0)]⟩), (.agg ⟨[(.int .i64 created_0), (.int .i64 created_1)]⟩), (.agg ⟨[(.int .i64 modified_0), (.int .i64 modified_1)]⟩), (.int .i64 ver)]⟩ H R :=
  callsH_of_den (an := an) (fuel := 100000) (X := go z_0 created_0 created_1 modified_0 modified_1 ver H R) (c := body) mixed fn (by kernel_rfl) (by kernel_rfl) (by kernel_rfl) ok (by kernel_rfl) h
end F38
/-! ### 39 "(pub-stadtholder/pub/etcdserver/storage/mvcc.ZzKeyIndex).RestoreTombstone" -/
namespace F39
def an : Ann := { kinds := [], taus := [], pairs := [], lab := [] }
noncomputable def body : Code := (Try.f39.body).getD .skip
theorem fn : Try.prog.funcs[39]? = some Try.f39 := by kernel_rfl
theorem ok : codeOk an 11 body = true := by kernel_rfl
def go (z_0 : Option Addr) (r_0 : Int) (r_1 : Int) (H : Heap) (R : Ending → Heap → Prop) : Prop :=
  newD H (.cells ⟨[(.pointer z_0)]⟩ 57) fun r H1 =>
  newD H1 (.cells ⟨[(.int .i64 r_0), (.int .i64 r_1)]⟩ 60) fun r1 H2 =>
  ldPtr H2 ⟨r, 0, none⟩ fun p =>
  ldInt H2 ⟨r1, 0, none⟩ .i64 fun n =>
  ldInt H2 ⟨r1, 1, none⟩ .i64 fun n1 =>
  callD Try.prog 58 [(.pointer p), (.pointer none), (.int .i64 n), (.int .i64 n1)] H2 (panK R) fun v H3 =>
  tTup v fun l =>
  tNil l <|
  R (.returned (.tuple ⟨[]⟩)) H3
theorem calls {z_0 : Option Addr} {r_0 : Int} {r_1 : Int} {H : Heap} {R : Ending → Heap → Prop} (h : go z_0 r_0 r_1 H R) : CallsH Try.prog 39 ⟨[(.agg ⟨[(.pointer z_0)]⟩), (.agg ⟨[(.int .i64 r_0), (.int .i64 r_1)]⟩)]⟩ H R :=
  callsH_of_den (an := an) (fuel := 100000) (X := go z_0 r_0 r_1 H R) (c := body) mixed fn (by kernel_rfl) (by kernel_rfl) (by kernel_rfl) ok (by kernel_rfl) h
end F39
/-! ### 40 "(pub-stadtholder/pub/etcdserver/storage/mvcc.ZzKeyIndex).Get" -/
namespace F40
def an : Ann := { kinds := [], taus := [], pairs := [], lab := [] }
noncomputable def body : Code := (Try.f40.body).getD .skip
theorem fn : Try.prog.funcs[40]? = some Try.f40 := by kernel_rfl
theorem ok : codeOk an 16 body = true := by kernel_rfl
def go (z_0 : Option Addr) (xat : Int) (H : Heap) (R : Ending → Heap → Prop) : Prop :=
  newD H (.cells ⟨[(.pointer z_0)]⟩ 57) fun r H1 =>
  newD H1 (.cells ⟨[(.int .i64 (0 : Int)), (.int .i64 (0 : Int))]⟩ 60) fun r1 H2 =>
  newD H2 (.cells ⟨[(.int .i64 (0 : Int)), (.int .i64 (0 : Int))]⟩ 60) fun r2 H3 =>
  ldPtr H3 ⟨r, 0, none⟩ fun p =>
  callD Try.prog 59 [(.pointer p), (.pointer none), (.int .i64 xat)] H3 (panK R) fun v H4 =>
  tTup v fun l =>
  tCons l fun c l1 =>
  tAgg c fun l2 =>
  tCons l2 fun c1 l3 =>
  tInt c1 .i64 fun n =>
  tCons l3 fun c2 l4 =>
  tInt c2 .i64 fun n1 =>
  tNil l4 <|
  tCons l1 fun c3 l5 =>
  tAgg c3 fun l6 =>
  tCons l6 fun c4 l7 =>
  tInt c4 .i64 fun n2 =>
  tCons l7 fun c5 l8 =>
  tInt c5 .i64 fun n3 =>
  tNil l8 <|
  tCons l5 fun c6 l9 =>
  tInt c6 .i64 fun n4 =>
  tCons l9 fun c7 l10 =>
  tIf c7 fun i =>
  tNil l10 <|
  st1 H4 ⟨r1, 0, none⟩ (.int .i64 n) fun H5 =>
  st1 H5 ⟨r1, 1, none⟩ (.int .i64 n1) fun H6 =>
  st1 H6 ⟨r2, 0, none⟩ (.int .i64 n2) fun H7 =>
  st1 H7 ⟨r2, 1, none⟩ (.int .i64 n3) fun H8 =>
  ldInt H8 ⟨r1, 0, none⟩ .i64 fun n5 =>
  ldInt H8 ⟨r1, 1, none⟩ .i64 fun n6 =>
  ldInt H8 ⟨r2, 0, none⟩ .i64 fun n7 =>
  ldInt H8 ⟨r2, 1, none⟩ .i64 fun n8 =>
  R (.returned (.tuple ⟨[(.agg ⟨[(.int .i64 n5), (.int .i64 n6)]⟩), (.agg ⟨[(.int .i64 n7), (.int .i64 n8)]⟩), (.int .i64 n4), (IV.v i)]⟩)) H8
theorem calls {z_0 : Option Addr} {xat : Int} {H : Heap} {R : Ending → Heap → Prop} (h : go z_0 xat H R) : CallsH Try.prog 40 ⟨[(.agg ⟨[(.pointer z_0)]⟩), (.int .i64 xat)]⟩ H R :=
  callsH_of_den (an := an) (fuel := 100000) (X := go z_0 xat H R) (c := body) mixed fn (by kernel_rfl) (by kernel_rfl) (by kernel_rfl) ok (by kernel_rfl) h
end F40
/-! ### 41 "pub-stadtholder/impl.revOut" -/
namespace F41
def an : Ann := { kinds := [], taus := [], pairs := [], lab := [] }
noncomputable def body : Code := (Try.f41.body).getD .skip
theorem fn : Try.prog.funcs[41]? = some Try.f41 := by kernel_rfl
theorem ok : codeOk an 8 body = true := by kernel_rfl
def go (r_0 : Int) (r_1 : Int) (H : Heap) (R : Ending → Heap → Prop) : Prop :=
  newD H (.cells ⟨[(.int .i64 r_0), (.int .i64 r_1)]⟩ 60) fun r H1 =>
  newD H1 (.cells ⟨[(.int .i64 (0 : Int)), (.int .i64 (0 : Int))]⟩ 31) fun r1 H2 =>
  ldInt H2 ⟨r, 0, none⟩ .i64 fun n =>
  ldInt H2 ⟨r, 1, none⟩ .i64 fun n1 =>
  st1 H2 ⟨r1, 0, none⟩ (.int .i64 n) fun H3 =>
  st1 H3 ⟨r1, 1, none⟩ (.int .i64 n1) fun H4 =>
  ldInt H4 ⟨r1, 0, none⟩ .i64 fun n2 =>
  ldInt H4 ⟨r1, 1, none⟩ .i64 fun n3 =>
  R (.returned (.agg ⟨[(.int .i64 n2), (.int .i64 n3)]⟩)) H4
theorem calls {r_0 : Int} {r_1 : Int} {H : Heap} {R : Ending → Heap → Prop} (h : go r_0 r_1 H R) : CallsH Try.prog 41 ⟨[(.agg ⟨[(.int .i64 r_0), (.int .i64 r_1)]⟩)]⟩ H R :=
  callsH_of_den (an := an) (fuel := 100000) (X := go r_0 r_1 H R) (c := body) mixed fn (by kernel_rfl) (by kernel_rfl) (by kernel_rfl) ok (by kernel_rfl) h
end F41
/-! ### 42 "pub-stadtholder/impl.revsOut" -/
namespace F42
def an : Ann := { kinds := [], taus := [], pairs := [], lab := [(40000004, [0, 3, 4])] }
noncomputable def body : Code := (Try.f42.body).getD .skip
theorem fn : Try.prog.funcs[42]? = some Try.f42 := by kernel_rfl
theorem ok : codeOk an 20 body = true := by kernel_rfl
noncomputable def L0t : List Item := [.code (sub [1, 1, 0, 1, 0, 0] body), .inLoop (sub [1, 1, 0, 1, 0, 0] body), .inBlock 0, .code (sub [1, 1, 1] body)]
def L0 (l : Option Addr) (ln : Nat) (lc : Nat) (out : Option Addr) (outn : Nat) (outc : Nat) (i : Int) (H : Heap) (R : Ending → Heap → Prop) : Prop :=
  GoL Try.prog 42 20 L0t [0, 3, 4] [(.slice l ln lc), (.slice out outn outc), (.int .i64 i)] H R
def L0n (l : Option Addr) (ln : Nat) (lc : Nat) (out : Option Addr) (outn : Nat) (outc : Nat) (i : Int) (H : Heap) (R : Ending → Heap → Prop) : Prop :=
  iteB (decide (i < ((ln : Nat) : Int))) (
    idxD l ln i fun a =>
    ldInt H (Addr.add a (Int.toNat i * 2)) .i64 fun n =>
    ldInt H (Addr.add (Addr.add a (Int.toNat i * 2)) 1) .i64 fun n1 =>
    callD Try.prog 41 [(.agg ⟨[(.int .i64 n), (.int .i64 n1)]⟩)] H (panK R) fun v H1 =>
    tAgg v fun l1 =>
    tCons l1 fun c l2 =>
    tInt c .i64 fun n2 =>
    tCons l2 fun c1 l3 =>
    tInt c1 .i64 fun n3 =>
    tNil l3 <|
    newD H1 (.cells ⟨[(.int .i64 n2), (.int .i64 n3)]⟩ 31) fun r H2 =>
    apD H2 2 16 [(.int .i64 (0 : Int)), (.int .i64 (0 : Int))] 31 out outn outc (some ⟨r, 0, none⟩) 1 fun q qn qc H3 =>
    L0 l ln lc q qn qc (IntKind.wrap .i64 (i + (1 : Int))) H3 R) <|
  R (.returned (.slice out outn outc)) H
theorem L0_step {l : Option Addr} {ln : Nat} {lc : Nat} {out : Option Addr} {outn : Nat} {outc : Nat} {i : Int} {H : Heap} {R : Ending → Heap → Prop} (h : L0n l ln lc out outn outc i H R) : L0 l ln lc out outn outc i H R :=
  goL_of_den (an := an) (fuel := 100000) (X := L0n l ln lc out outn outc i H R) mixed fn (by kernel_rfl) (fun ρ0 => by kernel_rfl) h
def go (l : Option Addr) (ln : Nat) (lc : Nat) (H : Heap) (R : Ending → Heap → Prop) : Prop :=
  L0 l ln lc none 0 0 (0 : Int) H R
theorem calls {l : Option Addr} {ln : Nat} {lc : Nat} {H : Heap} {R : Ending → Heap → Prop} (h : go l ln lc H R) : CallsH Try.prog 42 ⟨[(.slice l ln lc)]⟩ H R :=
  callsH_of_den (an := an) (fuel := 100000) (X := go l ln lc H R) (c := body) mixed fn (by kernel_rfl) (by kernel_rfl) (by kernel_rfl) ok (by kernel_rfl) h
end F42
/-! ### 43 "(pub-stadtholder/pub/etcdserver/storage/mvcc.ZzKeyIndex).Since" -/
namespace F43
def an : Ann := { kinds := [], taus := [], pairs := [], lab := [] }
noncomputable def body : Code := (Try.f43.body).getD .skip
theorem fn : Try.prog.funcs[43]? = some Try.f43 := by kernel_rfl
theorem ok : codeOk an 9 body = true := by kernel_rfl
def go (z_0 : Option Addr) (xat : Int) (H : Heap) (R : Ending → Heap → Prop) : Prop :=
  newD H (.cells ⟨[(.pointer z_0)]⟩ 57) fun r H1 =>
  ldPtr H1 ⟨r, 0, none⟩ fun p =>
  callD Try.prog 60 [(.pointer p), (.pointer none), (.int .i64 xat)] H1 (panK R) fun v H2 =>
  tSl v fun q qn qc =>
  R (.returned (.slice q qn qc)) H2
theorem calls {z_0 : Option Addr} {xat : Int} {H : Heap} {R : Ending → Heap → Prop} (h : go z_0 xat H R) : CallsH Try.prog 43 ⟨[(.agg ⟨[(.pointer z_0)]⟩), (.int .i64 xat)]⟩ H R :=
  callsH_of_den (an := an) (fuel := 100000) (X := go z_0 xat H R) (c := body) mixed fn (by kernel_rfl) (by kernel_rfl) (by kernel_rfl) ok (by kernel_rfl) h
end F43
/-! ### 44 "pub-stadtholder/impl.kept" -/
namespace F44
def an : Ann := { kinds := [(2001, .heavy 0), (3000, .heavy 96), (4000, .heavy 96)], taus := [], pairs := [], lab := [(40000004, [3, 6])] }
noncomputable def body : Code := (Try.f44.body).getD .skip
theorem fn : Try.prog.funcs[44]? = some Try.f44 := by kernel_rfl
theorem ok : codeOk an 19 body = true := by kernel_rfl
noncomputable def L0t : List Item := [.code (sub [1, 1, 0, 1, 0, 0] body), .inLoop (sub [1, 1, 0, 1, 0, 0] body), .inBlock 0, .code (sub [1, 1, 1] body)]
def L0 (out : Option Addr) (outn : Nat) (outc : Nat) (s6 : Option Addr) (H : Heap) (R : Ending → Heap → Prop) : Prop :=
  GoL Try.prog 44 19 L0t [3, 6] [(.slice out outn outc), (.pointer s6)] H R
def L0n (out : Option Addr) (outn : Nat) (outc : Nat) (s6 : Option Addr) (H : Heap) (R : Ending → Heap → Prop) : Prop :=
  valD Try.prog (Instr.next (.pointer s6) false 0) H (panK R) fun v H1 =>
  tTup v fun l =>
  tCons l fun c l1 =>
  tBool c fun b =>
  iteB b (
    tCons l1 fun c1 l2 =>
    tAgg c1 fun l4 =>
    tCons l4 fun c3 l5 =>
    tInt c3 .i64 fun n =>
    tCons l5 fun c4 l6 =>
    tInt c4 .i64 fun n1 =>
    tNil l6 <|
    tCons l2 fun c2 l3 =>
    tAgg c2 fun l7 =>
    tNil l7 <|
    tNil l3 <|
    valD Try.prog (Instr.entry (.pointer s6)) H1 (panK R) fun v1 H2 =>
    tTup v1 fun l8 =>
    tCons l8 fun c5 l9 =>
    tAgg c5 fun l11 =>
    tCons l11 fun c7 l12 =>
    tInt c7 .i64 fun n2 =>
    tCons l12 fun c8 l13 =>
    tInt c8 .i64 fun n3 =>
    tNil l13 <|
    tCons l9 fun c6 l10 =>
    tAgg c6 fun l14 =>
    tNil l14 <|
    tNil l10 <|
    newD H2 (.cells ⟨[(.int .i64 (0 : Int)), (.int .i64 (0 : Int))]⟩ 60) fun r H3 =>
    st1 H3 ⟨r, 0, none⟩ (.int .i64 n2) fun H4 =>
    st1 H4 ⟨r, 1, none⟩ (.int .i64 n3) fun H5 =>
    ldInt H5 ⟨r, 0, none⟩ .i64 fun n4 =>
    ldInt H5 ⟨r, 1, none⟩ .i64 fun n5 =>
    callD Try.prog 41 [(.agg ⟨[(.int .i64 n4), (.int .i64 n5)]⟩)] H5 (panK R) fun v2 H6 =>
    tAgg v2 fun l15 =>
    tCons l15 fun c9 l16 =>
    tInt c9 .i64 fun n6 =>
    tCons l16 fun c10 l17 =>
    tInt c10 .i64 fun n7 =>
    tNil l17 <|
    newD H6 (.cells ⟨[(.int .i64 n6), (.int .i64 n7)]⟩ 31) fun r1 H7 =>
    apD H7 2 16 [(.int .i64 (0 : Int)), (.int .i64 (0 : Int))] 31 out outn outc (some ⟨r1, 0, none⟩) 1 fun q qn qc H8 =>
    L0 q qn qc s6 H8 R) <|
  tNil l1 <|
  callD Try.prog 61 [(.slice out outn outc), (.func (.func 62) ⟨[]⟩ ⟨[]⟩)] H1 (panK R) fun v3 H9 =>
  tTup v3 fun l18 =>
  tNil l18 <|
  R (.returned (.slice out outn outc)) H9
theorem L0_step {out : Option Addr} {outn : Nat} {outc : Nat} {s6 : Option Addr} {H : Heap} {R : Ending → Heap → Prop} (h : L0n out outn outc s6 H R) : L0 out outn outc s6 H R :=
  goL_of_den (an := an) (fuel := 100000) (X := L0n out outn outc s6 H R) mixed fn (by kernel_rfl) (fun ρ0 => by kernel_rfl) h
def go (m : Option Nat) (H : Heap) (R : Ending → Heap → Prop) : Prop :=
  valD Try.prog (Instr.range 96 (.map m)) H (panK R) fun v H1 =>
  tPtr v fun p =>
  L0 none 0 0 p H1 R
theorem calls {m : Option Nat} {H : Heap} {R : Ending → Heap → Prop} (h : go m H R) : CallsH Try.prog 44 ⟨[(.map m)]⟩ H R :=
  callsH_of_den (an := an) (fuel := 100000) (X := go m H R) (c := body) mixed fn (by kernel_rfl) (by kernel_rfl) (by kernel_rfl) ok (by kernel_rfl) h
end F44
/-! ### 45 "(pub-stadtholder/pub/etcdserver/storage/mvcc.ZzKeyIndex).Compact" -/
namespace F45
def an : Ann := { kinds := [], taus := [], pairs := [], lab := [] }
noncomputable def body : Code := (Try.f45.body).getD .skip
theorem fn : Try.prog.funcs[45]? = some Try.f45 := by kernel_rfl
theorem ok : codeOk an 13 body = true := by kernel_rfl
def go (z_0 : Option Addr) (xat : Int) (H : Heap) (R : Ending → Heap → Prop) : Prop :=
  newD H (.cells ⟨[(.pointer z_0)]⟩ 57) fun r H1 =>
  newD H1 (.map #[] 0) fun r1 H2 =>
  ldPtr H2 ⟨r, 0, none⟩ fun p =>
  callD Try.prog 63 [(.pointer p), (.pointer none), (.int .i64 xat), (.map (some r1))] H2 (panK R) fun v H3 =>
  tTup v fun l =>
  tNil l <|
  R (.returned (.map (some r1))) H3
theorem calls {z_0 : Option Addr} {xat : Int} {H : Heap} {R : Ending → Heap → Prop} (h : go z_0 xat H R) : CallsH Try.prog 45 ⟨[(.agg ⟨[(.pointer z_0)]⟩), (.int .i64 xat)]⟩ H R :=
  callsH_of_den (an := an) (fuel := 100000) (X := go z_0 xat H R) (c := body) mixed fn (by kernel_rfl) (by kernel_rfl) (by kernel_rfl) ok (by kernel_rfl) h
end F45
/-! ### 46 "(pub-stadtholder/pub/etcdserver/storage/mvcc.ZzKeyIndex).Keep" -/
namespace F46
def an : Ann := { kinds := [], taus := [], pairs := [], lab := [] }
noncomputable def body : Code := (Try.f46.body).getD .skip
theorem fn : Try.prog.funcs[46]? = some Try.f46 := by kernel_rfl
theorem ok : codeOk an 13 body = true := by kernel_rfl
def go (z_0 : Option Addr) (xat : Int) (H : Heap) (R : Ending → Heap → Prop) : Prop :=
  newD H (.cells ⟨[(.pointer z_0)]⟩ 57) fun r H1 =>
  newD H1 (.map #[] 0) fun r1 H2 =>
  ldPtr H2 ⟨r, 0, none⟩ fun p =>
  callD Try.prog 64 [(.pointer p), (.int .i64 xat), (.map (some r1))] H2 (panK R) fun v H3 =>
  tTup v fun l =>
  tNil l <|
  R (.returned (.map (some r1))) H3
theorem calls {z_0 : Option Addr} {xat : Int} {H : Heap} {R : Ending → Heap → Prop} (h : go z_0 xat H R) : CallsH Try.prog 46 ⟨[(.agg ⟨[(.pointer z_0)]⟩), (.int .i64 xat)]⟩ H R :=
  callsH_of_den (an := an) (fuel := 100000) (X := go z_0 xat H R) (c := body) mixed fn (by kernel_rfl) (by kernel_rfl) (by kernel_rfl) ok (by kernel_rfl) h
end F46
/-! ### 47 "(pub-stadtholder/pub/etcdserver/storage/mvcc.ZzKeyIndex).Empty" -/
namespace F47
def an : Ann := { kinds := [], taus := [], pairs := [], lab := [] }
noncomputable def body : Code := (Try.f47.body).getD .skip
theorem fn : Try.prog.funcs[47]? = some Try.f47 := by kernel_rfl
theorem ok : codeOk an 6 body = true := by kernel_rfl
def go (z_0 : Option Addr) (H : Heap) (R : Ending → Heap → Prop) : Prop :=
  newD H (.cells ⟨[(.pointer z_0)]⟩ 57) fun r H1 =>
  ldPtr H1 ⟨r, 0, none⟩ fun p =>
  callD Try.prog 65 [(.pointer p)] H1 (panK R) fun v H2 =>
  tBool v fun b =>
  R (.returned (.bool b)) H2
theorem calls {z_0 : Option Addr} {H : Heap} {R : Ending → Heap → Prop} (h : go z_0 H R) : CallsH Try.prog 47 ⟨[(.agg ⟨[(.pointer z_0)]⟩)]⟩ H R :=
  callsH_of_den (an := an) (fuel := 100000) (X := go z_0 H R) (c := body) mixed fn (by kernel_rfl) (by kernel_rfl) (by kernel_rfl) ok (by kernel_rfl) h
end F47
/-! ### 48 "pub-stadtholder/impl.dumpOut" -/
namespace F48
def an : Ann := { kinds := [(6006, .grow), (6009, .grow), (6011, .grow)], taus := [(6, [[0, 2, 4, 7, 1, 3, 5, 8, 6, 9, 10, 11, 12, 13, 14]])], pairs := [], lab := [(40000004, [1, 2, 3, 4])] }
noncomputable def body : Code := (Try.f48.body).getD .skip
theorem fn : Try.prog.funcs[48]? = some Try.f48 := by kernel_rfl
theorem ok : codeOk an 37 body = true := by kernel_rfl
noncomputable def L0t : List Item := [.code (sub [1, 1, 0, 1, 0, 0] body), .inLoop (sub [1, 1, 0, 1, 0, 0] body), .inBlock 0, .code (sub [1, 1, 1] body)]
def L0 (k : Nat) (s2 : Nat) (d : Nat) (i : Int) (H : Heap) (R : Ending → Heap → Prop) : Prop :=
  GoL Try.prog 48 37 L0t [1, 2, 3, 4] [(.pointer (some ⟨k, 0, none⟩)), (.pointer (some ⟨s2, 0, none⟩)), (.pointer (some ⟨d, 0, none⟩)), (.int .i64 i)] H R
def L0n (k : Nat) (s2 : Nat) (d : Nat) (i : Int) (H : Heap) (R : Ending → Heap → Prop) : Prop :=
  ldSl H ⟨k, 2, none⟩ fun q qn qc =>
  iteB (decide (i < ((qn : Nat) : Int))) (
    ldSl H ⟨k, 2, none⟩ fun q1 q1n q1c =>
    idxD q1 q1n i fun a =>
    ldInt H (Addr.add a (Int.toNat i * 4)) .i64 fun n =>
    ldInt H (Addr.add (Addr.add a (Int.toNat i * 4)) 1) .i64 fun n1 =>
    ldInt H (Addr.add (Addr.add a (Int.toNat i * 4)) 2) .i64 fun n2 =>
    ldSl H (Addr.add (Addr.add a (Int.toNat i * 4)) 3) fun q2 q2n q2c =>
    newD H (.cells ⟨[(.int .i64 (0 : Int)), (.int .i64 (0 : Int)), (.int .i64 (0 : Int)), (.slice none 0 0)]⟩ 84) fun r H1 =>
    st1 H1 ⟨r, 0, none⟩ (.int .i64 n) fun H2 =>
    st1 H2 ⟨r, 1, none⟩ (.int .i64 n1) fun H3 =>
    st1 H3 ⟨r, 2, none⟩ (.int .i64 n2) fun H4 =>
    st1 H4 ⟨r, 3, none⟩ (.slice q2 q2n q2c) fun H5 =>
    ldSl H5 ⟨d, 2, none⟩ fun q3 q3n q3c =>
    ldInt H5 ⟨r, 0, none⟩ .i64 fun n3 =>
    ldInt H5 ⟨r, 1, none⟩ .i64 fun n4 =>
    ldInt H5 ⟨r, 2, none⟩ .i64 fun n5 =>
    ldSl H5 ⟨r, 3, none⟩ fun q4 q4n q4c =>
    callD Try.prog 41 [(.agg ⟨[(.int .i64 n4), (.int .i64 n5)]⟩)] H5 nope fun v H6 =>
    tAgg v fun l =>
    tCons l fun c l1 =>
    tInt c .i64 fun n6 =>
    tCons l1 fun c1 l2 =>
    tInt c1 .i64 fun n7 =>
    tNil l2 <|
    andD (ExtH H5 H6) <|
    callD Try.prog 42 [(.slice q4 q4n q4c)] H6 nope fun v1 H7 =>
    tSl v1 fun q5 q5n q5c =>
    andD (ExtH H6 H7) <|
    newD H7 (.cells ⟨[(.int .i64 n3), (.int .i64 n6), (.int .i64 n7), (.slice q5 q5n q5c)]⟩ 69) fun r1 H8 =>
    apD H8 4 48 [(.int .i64 (0 : Int)), (.int .i64 (0 : Int)), (.int .i64 (0 : Int)), (.slice none 0 0)] 69 q3 q3n q3c (some ⟨r1, 0, none⟩) 1 fun q6 q6n q6c H9 =>
    st1 H9 ⟨d, 2, none⟩ (.slice q6 q6n q6c) fun H10 =>
    L0 k s2 d (IntKind.wrap .i64 (i + (1 : Int))) H10 R) <|
  ldInt H ⟨d, 0, none⟩ .i64 fun n8 =>
  ldInt H ⟨d, 1, none⟩ .i64 fun n9 =>
  ldSl H ⟨d, 2, none⟩ fun q7 q7n q7c =>
  st1 H ⟨s2, 0, none⟩ (.int .i64 n8) fun H11 =>
  st1 H11 ⟨s2, 1, none⟩ (.int .i64 n9) fun H12 =>
  st1 H12 ⟨s2, 2, none⟩ (.slice q7 q7n q7c) fun H13 =>
  ldInt H13 ⟨s2, 0, none⟩ .i64 fun n10 =>
  ldInt H13 ⟨s2, 1, none⟩ .i64 fun n11 =>
  ldSl H13 ⟨s2, 2, none⟩ fun q8 q8n q8c =>
  R (.returned (.agg ⟨[(.int .i64 n10), (.int .i64 n11), (.slice q8 q8n q8c)]⟩)) H13
theorem L0_step {k : Nat} {s2 : Nat} {d : Nat} {i : Int} {H : Heap} {R : Ending → Heap → Prop} (h : L0n k s2 d i H R) : L0 k s2 d i H R :=
  goL_of_den (an := an) (fuel := 100000) (X := L0n k s2 d i H R) mixed fn (by kernel_rfl) (fun ρ0 => by kernel_rfl) h
def go (k_0 : Int) (k_1 : Int) (k_2 : Option Addr) (k_2n : Nat) (k_2c : Nat) (H : Heap) (R : Ending → Heap → Prop) : Prop :=
  newD H (.cells ⟨[(.int .i64 k_0), (.int .i64 k_1), (.slice k_2 k_2n k_2c)]⟩ 63) fun r H1 =>
  newD H1 (.cells ⟨[(.int .i64 (0 : Int)), (.int .i64 (0 : Int)), (.slice none 0 0)]⟩ 34) fun r1 H2 =>
  ldInt H2 ⟨r, 0, none⟩ .i64 fun n =>
  ldInt H2 ⟨r, 1, none⟩ .i64 fun n1 =>
  callD Try.prog 41 [(.agg ⟨[(.int .i64 n), (.int .i64 n1)]⟩)] H2 (panK R) fun v H3 =>
  tAgg v fun l =>
  tCons l fun c l1 =>
  tInt c .i64 fun n2 =>
  tCons l1 fun c1 l2 =>
  tInt c1 .i64 fun n3 =>
  tNil l2 <|
  newD H3 (.cells ⟨[(.int .i64 (0 : Int)), (.int .i64 (0 : Int)), (.slice none 0 0)]⟩ 34) fun r2 H4 =>
  st1 H4 ⟨r2, 0, none⟩ (.int .i64 n2) fun H5 =>
  st1 H5 ⟨r2, 1, none⟩ (.int .i64 n3) fun H6 =>
  st1 H6 ⟨r2, 2, none⟩ (.slice none 0 0) fun H7 =>
  L0 r r1 r2 (0 : Int) H7 R
theorem calls {k_0 : Int} {k_1 : Int} {k_2 : Option Addr} {k_2n : Nat} {k_2c : Nat} {H : Heap} {R : Ending → Heap → Prop} (h : go k_0 k_1 k_2 k_2n k_2c H R) : CallsH Try.prog 48 ⟨[(.agg ⟨[(.int .i64 k_0), (.int .i64 k_1), (.slice k_2 k_2n k_2c)]⟩)]⟩ H R :=
  callsH_of_den (an := an) (fuel := 100000) (X := go k_0 k_1 k_2 k_2n k_2c H R) (c := body) mixed fn (by kernel_rfl) (by kernel_rfl) (by kernel_rfl) ok (by kernel_rfl) h
end F48
/-! ### 49 "(pub-stadtholder/pub/etcdserver/storage/mvcc.ZzKeyIndex).Dump" -/
namespace F49
def an : Ann := { kinds := [], taus := [], pairs := [], lab := [] }
noncomputable def body : Code := (Try.f49.body).getD .skip
theorem fn : Try.prog.funcs[49]? = some Try.f49 := by kernel_rfl
theorem ok : codeOk an 6 body = true := by kernel_rfl
def go (z_0 : Option Addr) (H : Heap) (R : Ending → Heap → Prop) : Prop :=
  newD H (.cells ⟨[(.pointer z_0)]⟩ 57) fun r H1 =>
  newD H1 (.cells ⟨[(.int .i64 (0 : Int)), (.int .i64 (0 : Int)), (.slice none 0 0)]⟩ 63) fun r1 H2 =>
  ldPtr H2 ⟨r, 0, none⟩ fun p =>
  callD Try.prog 66 [(.pointer p)] H2 (panK R) fun v H3 =>
  tAgg v fun l =>
  tCons l fun c l1 =>
  tInt c .i64 fun n =>
  tCons l1 fun c1 l2 =>
  tInt c1 .i64 fun n1 =>
  tCons l2 fun c2 l3 =>
  tSl c2 fun q qn qc =>
  tNil l3 <|
  st1 H3 ⟨r1, 0, none⟩ (.int .i64 n) fun H4 =>
  st1 H4 ⟨r1, 1, none⟩ (.int .i64 n1) fun H5 =>
  st1 H5 ⟨r1, 2, none⟩ (.slice q qn qc) fun H6 =>
  ldInt H6 ⟨r1, 0, none⟩ .i64 fun n2 =>
  ldInt H6 ⟨r1, 1, none⟩ .i64 fun n3 =>
  ldSl H6 ⟨r1, 2, none⟩ fun q1 q1n q1c =>
  R (.returned (.agg ⟨[(.int .i64 n2), (.int .i64 n3), (.slice q1 q1n q1c)]⟩)) H6
theorem calls {z_0 : Option Addr} {H : Heap} {R : Ending → Heap → Prop} (h : go z_0 H R) : CallsH Try.prog 49 ⟨[(.agg ⟨[(.pointer z_0)]⟩)]⟩ H R :=
  callsH_of_den (an := an) (fuel := 100000) (X := go z_0 H R) (c := body) mixed fn (by kernel_rfl) (by kernel_rfl) (by kernel_rfl) ok (by kernel_rfl) h
end F49
/-! ### 50 "pub-stadtholder/laws.ixSameRevs" -/
namespace F50
def an : Ann := { kinds := [], taus := [(6, [[0, 1, 2, 4, 5, 6, 3, 7, 8]])], pairs := [], lab := [(40000005, [0, 1, 12, 13])] }
noncomputable def body : Code := (Try.f50.body).getD .skip
theorem fn : Try.prog.funcs[50]? = some Try.f50 := by kernel_rfl
theorem ok : codeOk an 26 body = true := by kernel_rfl
noncomputable def L0t : List Item := [.code (sub [1, 1, 0, 1, 0, 0] body), .inLoop (sub [1, 1, 0, 1, 0, 0] body), .inBlock 0, .code (sub [1, 1, 1] body)]
def L0 (a : Option Addr) (an1 : Nat) (ac : Nat) (b : Option Addr) (bn : Nat) (bc : Nat) (s12 : Int) (s13 : Int) (H : Heap) (R : Ending → Heap → Prop) : Prop :=
  GoL Try.prog 50 26 L0t [0, 1, 12, 13] [(.slice a an1 ac), (.slice b bn bc), (.int .i64 s12), (.int .i64 s13)] H R
def L0n (a : Option Addr) (an1 : Nat) (ac : Nat) (b : Option Addr) (bn : Nat) (bc : Nat) (s12 : Int) (s13 : Int) (H : Heap) (R : Ending → Heap → Prop) : Prop :=
  iteB (decide (s13 < s12)) (
    idxD a an1 s13 fun a1 =>
    idxD b bn s13 fun a2 =>
    ldInt H (Addr.add a1 (Int.toNat s13 * 2)) .i64 fun n =>
    ldInt H (Addr.add (Addr.add a1 (Int.toNat s13 * 2)) 1) .i64 fun n1 =>
    ldInt H (Addr.add a2 (Int.toNat s13 * 2)) .i64 fun n2 =>
    ldInt H (Addr.add (Addr.add a2 (Int.toNat s13 * 2)) 1) .i64 fun n3 =>
    rawB Try.prog .neq 31 (.agg ⟨[(.int .i64 n), (.int .i64 n1)]⟩) (.agg ⟨[(.int .i64 n2), (.int .i64 n3)]⟩) fun b1 =>
    iteB (!b1) (
      R (.returned (.bool false)) H) <|
    L0 a an1 ac b bn bc s12 (IntKind.wrap .i64 (s13 + (1 : Int))) H R) <|
  R (.returned (.bool true)) H
theorem L0_step {a : Option Addr} {an1 : Nat} {ac : Nat} {b : Option Addr} {bn : Nat} {bc : Nat} {s12 : Int} {s13 : Int} {H : Heap} {R : Ending → Heap → Prop} (h : L0n a an1 ac b bn bc s12 s13 H R) : L0 a an1 ac b bn bc s12 s13 H R :=
  goL_of_den (an := an) (fuel := 100000) (X := L0n a an1 ac b bn bc s12 s13 H R) mixed fn (by kernel_rfl) (fun ρ0 => by kernel_rfl) h
def go (a : Option Addr) (an1 : Nat) (ac : Nat) (b : Option Addr) (bn : Nat) (bc : Nat) (H : Heap) (R : Ending → Heap → Prop) : Prop :=
  iteB (((an1 : Nat) : Int) != ((bn : Nat) : Int)) (
    R (.returned (.bool false)) H) <|
  L0 a an1 ac b bn bc ((an1 : Nat) : Int) (0 : Int) H R
theorem calls {a : Option Addr} {an1 : Nat} {ac : Nat} {b : Option Addr} {bn : Nat} {bc : Nat} {H : Heap} {R : Ending → Heap → Prop} (h : go a an1 ac b bn bc H R) : CallsH Try.prog 50 ⟨[(.slice a an1 ac), (.slice b bn bc)]⟩ H R :=
  callsH_of_den (an := an) (fuel := 100000) (X := go a an1 ac b bn bc H R) (c := body) mixed fn (by kernel_rfl) (by kernel_rfl) (by kernel_rfl) ok (by kernel_rfl) h
end F50
/-! ### 51 "pub-stadtholder/laws.ixSameDump" -/
namespace F51
def an : Ann := { kinds := [], taus := [], pairs := [], lab := [(10000004, [2, 3]), (40000005, [3, 23, 24, 25]), (40000010, [3, 23, 24, 25])] }
noncomputable def body : Code := (Try.f51.body).getD .skip
theorem fn : Try.prog.funcs[51]? = some Try.f51 := by kernel_rfl
theorem ok : codeOk an 56 body = true := by kernel_rfl
noncomputable def L0t : List Item := [.code (sub [1, 1] body)]
def L0 (a : Nat) (b : Nat) (H : Heap) (R : Ending → Heap → Prop) : Prop :=
  GoL Try.prog 51 56 L0t [2, 3] [(.pointer (some ⟨a, 0, none⟩)), (.pointer (some ⟨b, 0, none⟩))] H R
noncomputable def L1t : List Item := [.code (sub [1, 1, 0, 1, 0, 0] body), .inLoop (sub [1, 1, 0, 1, 0, 0] body), .inBlock 0, .code (sub [1, 1, 1] body)]
def L1 (b : Nat) (s23 : Option Addr) (s23n : Nat) (s23c : Nat) (s24 : Int) (s25 : Int) (H : Heap) (R : Ending → Heap → Prop) : Prop :=
  GoL Try.prog 51 56 L1t [3, 23, 24, 25] [(.pointer (some ⟨b, 0, none⟩)), (.slice s23 s23n s23c), (.int .i64 s24), (.int .i64 s25)] H R
noncomputable def L2t : List Item := [.code (sub [1, 1, 0, 1, 0, 0, 1, 1, 1] body), .inLoop (sub [1, 1, 0, 1, 0, 0] body), .inBlock 0, .code (sub [1, 1, 1] body)]
def L2 (b : Nat) (s23 : Option Addr) (s23n : Nat) (s23c : Nat) (s24 : Int) (s25 : Int) (H : Heap) (R : Ending → Heap → Prop) : Prop :=
  GoL Try.prog 51 56 L2t [3, 23, 24, 25] [(.pointer (some ⟨b, 0, none⟩)), (.slice s23 s23n s23c), (.int .i64 s24), (.int .i64 s25)] H R
def L0n (a : Nat) (b : Nat) (H : Heap) (R : Ending → Heap → Prop) : Prop :=
  ldSl H ⟨a, 2, none⟩ fun q qn qc =>
  L1 b q qn qc ((qn : Nat) : Int) (0 : Int) H R
theorem L0_step {a : Nat} {b : Nat} {H : Heap} {R : Ending → Heap → Prop} (h : L0n a b H R) : L0 a b H R :=
  goL_of_den (an := an) (fuel := 100000) (X := L0n a b H R) mixed fn (by kernel_rfl) (fun ρ0 => by kernel_rfl) h
def L1n (b : Nat) (s23 : Option Addr) (s23n : Nat) (s23c : Nat) (s24 : Int) (s25 : Int) (H : Heap) (R : Ending → Heap → Prop) : Prop :=
  iteB (decide (s25 < s24)) (
    idxD s23 s23n s25 fun a =>
    ldInt H (Addr.add a (Int.toNat s25 * 4)) .i64 fun n =>
    ldInt H (Addr.add (Addr.add a (Int.toNat s25 * 4)) 1) .i64 fun n1 =>
    ldInt H (Addr.add (Addr.add a (Int.toNat s25 * 4)) 2) .i64 fun n2 =>
    ldSl H (Addr.add (Addr.add a (Int.toNat s25 * 4)) 3) fun q qn qc =>
    newD H (.cells ⟨[(.int .i64 (0 : Int)), (.int .i64 (0 : Int)), (.int .i64 (0 : Int)), (.slice none 0 0)]⟩ 69) fun r H1 =>
    st1 H1 ⟨r, 0, none⟩ (.int .i64 n) fun H2 =>
    st1 H2 ⟨r, 1, none⟩ (.int .i64 n1) fun H3 =>
    st1 H3 ⟨r, 2, none⟩ (.int .i64 n2) fun H4 =>
    st1 H4 ⟨r, 3, none⟩ (.slice q qn qc) fun H5 =>
    ldSl H5 ⟨b, 2, none⟩ fun q1 q1n q1c =>
    idxD q1 q1n s25 fun a1 =>
    ldInt H5 (Addr.add a1 (Int.toNat s25 * 4)) .i64 fun n3 =>
    ldInt H5 (Addr.add (Addr.add a1 (Int.toNat s25 * 4)) 1) .i64 fun n4 =>
    ldInt H5 (Addr.add (Addr.add a1 (Int.toNat s25 * 4)) 2) .i64 fun n5 =>
    ldSl H5 (Addr.add (Addr.add a1 (Int.toNat s25 * 4)) 3) fun q2 q2n q2c =>
    newD H5 (.cells ⟨[(.int .i64 (0 : Int)), (.int .i64 (0 : Int)), (.int .i64 (0 : Int)), (.slice none 0 0)]⟩ 69) fun r1 H6 =>
    st1 H6 ⟨r1, 0, none⟩ (.int .i64 n3) fun H7 =>
    st1 H7 ⟨r1, 1, none⟩ (.int .i64 n4) fun H8 =>
    st1 H8 ⟨r1, 2, none⟩ (.int .i64 n5) fun H9 =>
    st1 H9 ⟨r1, 3, none⟩ (.slice q2 q2n q2c) fun H10 =>
    ldInt H10 ⟨r, 0, none⟩ .i64 fun n6 =>
    ldInt H10 ⟨r1, 0, none⟩ .i64 fun n7 =>
    iteB (n6 != n7) (
      R (.returned (.bool false)) H10) <|
    ldInt H10 ⟨r, 1, none⟩ .i64 fun n8 =>
    ldInt H10 ⟨r, 2, none⟩ .i64 fun n9 =>
    ldInt H10 ⟨r1, 1, none⟩ .i64 fun n10 =>
    ldInt H10 ⟨r1, 2, none⟩ .i64 fun n11 =>
    rawB Try.prog .neq 31 (.agg ⟨[(.int .i64 n8), (.int .i64 n9)]⟩) (.agg ⟨[(.int .i64 n10), (.int .i64 n11)]⟩) fun b1 =>
    iteB (!b1) (
      R (.returned (.bool false)) H10) <|
    ldSl H10 ⟨r, 3, none⟩ fun q3 q3n q3c =>
    ldSl H10 ⟨r1, 3, none⟩ fun q4 q4n q4c =>
    callD Try.prog 50 [(.slice q3 q3n q3c), (.slice q4 q4n q4c)] H10 (panK R) fun v H11 =>
    tBool v fun b2 =>
    iteB (!b2) (
      R (.returned (.bool false)) H11) <|
    L2 b s23 s23n s23c s24 s25 H11 R) <|
  R (.returned (.bool true)) H
theorem L1_step {b : Nat} {s23 : Option Addr} {s23n : Nat} {s23c : Nat} {s24 : Int} {s25 : Int} {H : Heap} {R : Ending → Heap → Prop} (h : L1n b s23 s23n s23c s24 s25 H R) : L1 b s23 s23n s23c s24 s25 H R :=
  goL_of_den (an := an) (fuel := 100000) (X := L1n b s23 s23n s23c s24 s25 H R) mixed fn (by kernel_rfl) (fun ρ0 => by kernel_rfl) h
def L2n (b : Nat) (s23 : Option Addr) (s23n : Nat) (s23c : Nat) (s24 : Int) (s25 : Int) (H : Heap) (R : Ending → Heap → Prop) : Prop :=
  L1 b s23 s23n s23c s24 (IntKind.wrap .i64 (s25 + (1 : Int))) H R
theorem L2_step {b : Nat} {s23 : Option Addr} {s23n : Nat} {s23c : Nat} {s24 : Int} {s25 : Int} {H : Heap} {R : Ending → Heap → Prop} (h : L2n b s23 s23n s23c s24 s25 H R) : L2 b s23 s23n s23c s24 s25 H R :=
  goL_of_den (an := an) (fuel := 100000) (X := L2n b s23 s23n s23c s24 s25 H R) mixed fn (by kernel_rfl) (fun ρ0 => by kernel_rfl) h
def go (a_0 : Int) (a_1 : Int) (a_2 : Option Addr) (a_2n : Nat) (a_2c : Nat) (b_0 : Int) (b_1 : Int) (b_2 : Option Addr) (b_2n : Nat) (b_2c : Nat) (H : Heap) (R : Ending → Heap → Prop) : Prop :=
  newD H (.cells ⟨[(.int .i64 a_0), (.int .i64 a_1), (.slice a_2 a_2n a_2c)]⟩ 34) fun r H1 =>
  newD H1 (.cells ⟨[(.int .i64 b_0), (.int .i64 b_1), (.slice b_2 b_2n b_2c)]⟩ 34) fun r1 H2 =>
  ldInt H2 ⟨r, 0, none⟩ .i64 fun n =>
  ldInt H2 ⟨r, 1, none⟩ .i64 fun n1 =>
  ldInt H2 ⟨r1, 0, none⟩ .i64 fun n2 =>
  ldInt H2 ⟨r1, 1, none⟩ .i64 fun n3 =>
  rawB Try.prog .neq 31 (.agg ⟨[(.int .i64 n), (.int .i64 n1)]⟩) (.agg ⟨[(.int .i64 n2), (.int .i64 n3)]⟩) fun b =>
  iteB (!b) (
    R (.returned (.bool false)) H2) <|
  ldSl H2 ⟨r, 2, none⟩ fun q qn qc =>
  ldSl H2 ⟨r1, 2, none⟩ fun q1 q1n q1c =>
  iteB (((qn : Nat) : Int) != ((q1n : Nat) : Int)) (
    R (.returned (.bool false)) H2) <|
  L0 r r1 H2 R
theorem calls {a_0 : Int} {a_1 : Int} {a_2 : Option Addr} {a_2n : Nat} {a_2c : Nat} {b_0 : Int} {b_1 : Int} {b_2 : Option Addr} {b_2n : Nat} {b_2c : Nat} {H : Heap} {R : Ending → Heap → Prop} (h : go a_0 a_1 a_2 a_2n a_2c b_0 b_1 b_2 b_2n b_2c H R) : CallsH Try.prog 51 ⟨[(.agg ⟨[(.int .i64 a_0), (.int .i64 a_1), (.slice a_2 a_2n a_2c)]⟩), (.agg ⟨[(.int .i64 b_0), (.int .i64 b_1), (.slice b_2 b_2n b_2c)]⟩)]⟩ H R :=
  callsH_of_den (an := an) (fuel := 100000) (X := go a_0 a_1 a_2 a_2n a_2c b_0 b_1 b_2 b_2n b_2c H R) (c := body) mixed fn (by kernel_rfl) (by kernel_rfl) (by kernel_rfl) ok (by kernel_rfl) h
end F51
/-! ### 52 "pub-stadtholder/spec.Last" -/
namespace F52
def an : Ann := { kinds := [], taus := [], pairs := [], lab := [(40000003, [0, 1, 5]), (40000004, [0, 1, 5])] }
noncomputable def body : Code := (Try.f52.body).getD .skip
theorem fn : Try.prog.funcs[52]? = some Try.f52 := by kernel_rfl
theorem ok : codeOk an 24 body = true := by kernel_rfl
noncomputable def L0t : List Item := [.code (sub [1, 1, 0, 0, 0] body), .inLoop (sub [1, 1, 0, 0, 0] body), .inBlock 0, .code (sub [1, 1, 1] body)]
def L0 (l : Option Addr) (ln : Nat) (lc : Nat) (xat : Int) (i : Int) (H : Heap) (R : Ending → Heap → Prop) : Prop :=
  GoL Try.prog 52 24 L0t [0, 1, 5] [(.slice l ln lc), (.int .i64 xat), (.int .i64 i)] H R
noncomputable def L1t : List Item := [.code (sub [1, 1, 0, 0, 0, 1] body), .inLoop (sub [1, 1, 0, 0, 0] body), .inBlock 0, .code (sub [1, 1, 1] body)]
def L1 (l : Option Addr) (ln : Nat) (lc : Nat) (xat : Int) (i : Int) (H : Heap) (R : Ending → Heap → Prop) : Prop :=
  GoL Try.prog 52 24 L1t [0, 1, 5] [(.slice l ln lc), (.int .i64 xat), (.int .i64 i)] H R
def L0n (l : Option Addr) (ln : Nat) (lc : Nat) (xat : Int) (i : Int) (H : Heap) (R : Ending → Heap → Prop) : Prop :=
  iteB (decide (i ≥ (0 : Int))) (
    idxD l ln i fun a =>
    ldInt H (Addr.add a (Int.toNat i * 6)) .i64 fun n =>
    iteB (decide (n > xat)) (
      L1 l ln lc xat i H R) <|
    R (.returned (.int .i64 i)) H) <|
  R (.returned (.int .i64 i)) H
theorem L0_step {l : Option Addr} {ln : Nat} {lc : Nat} {xat : Int} {i : Int} {H : Heap} {R : Ending → Heap → Prop} (h : L0n l ln lc xat i H R) : L0 l ln lc xat i H R :=
  goL_of_den (an := an) (fuel := 100000) (X := L0n l ln lc xat i H R) mixed fn (by kernel_rfl) (fun ρ0 => by kernel_rfl) h
def L1n (l : Option Addr) (ln : Nat) (lc : Nat) (xat : Int) (i : Int) (H : Heap) (R : Ending → Heap → Prop) : Prop :=
  L0 l ln lc xat (IntKind.wrap .i64 (i - (1 : Int))) H R
theorem L1_step {l : Option Addr} {ln : Nat} {lc : Nat} {xat : Int} {i : Int} {H : Heap} {R : Ending → Heap → Prop} (h : L1n l ln lc xat i H R) : L1 l ln lc xat i H R :=
  goL_of_den (an := an) (fuel := 100000) (X := L1n l ln lc xat i H R) mixed fn (by kernel_rfl) (fun ρ0 => by kernel_rfl) h
def go (l : Option Addr) (ln : Nat) (lc : Nat) (xat : Int) (H : Heap) (R : Ending → Heap → Prop) : Prop :=
  L0 l ln lc xat (IntKind.wrap .i64 (((ln : Nat) : Int) - (1 : Int))) H R
theorem calls {l : Option Addr} {ln : Nat} {lc : Nat} {xat : Int} {H : Heap} {R : Ending → Heap → Prop} (h : go l ln lc xat H R) : CallsH Try.prog 52 ⟨[(.slice l ln lc), (.int .i64 xat)]⟩ H R :=
  callsH_of_den (an := an) (fuel := 100000) (X := go l ln lc xat H R) (c := body) mixed fn (by kernel_rfl) (by kernel_rfl) (by kernel_rfl) ok (by kernel_rfl) h
end F52
/-! ### 53 "(*pub-stadtholder/pub/etcdserver/storage/mvcc.generation).walk" -/
namespace F53
def an : Ann := { kinds := [], taus := [], pairs := [], lab := [(40000004, [0, 1, 5, 17, 18])] }
noncomputable def body : Code := (Try.f53.body).getD .skip
theorem fn : Try.prog.funcs[53]? = some Try.f53 := by kernel_rfl
theorem ok : codeOk an 40 body = true := by kernel_rfl
noncomputable def L0t : List Item := [.code (sub [1, 1, 0, 1, 0, 0] body), .inLoop (sub [1, 1, 0, 1, 0, 0] body), .inBlock 0, .code (sub [1, 1, 1] body)]
def L0 (g : Option Addr) (f : FV) (l : Int) (s17 : Int) (s18 : Int) (H : Heap) (R : Ending → Heap → Prop) : Prop :=
  GoL Try.prog 53 40 L0t [0, 1, 5, 17, 18] [(.pointer g), (FV.v f), (.int .i64 l), (.int .i64 s17), (.int .i64 s18)] H R
def L0n (g : Option Addr) (f : FV) (l : Int) (s17 : Int) (s18 : Int) (H : Heap) (R : Ending → Heap → Prop) : Prop :=
  iteB (decide (s18 < s17)) (
    nilD g fun a =>
    ldSl H (Addr.add a 3) fun q qn qc =>
    idxD q qn (IntKind.wrap .i64 ((IntKind.wrap .i64 (l - s18)) - (1 : Int))) fun a1 =>
    ldInt H (Addr.add a1 (Int.toNat (IntKind.wrap .i64 ((IntKind.wrap .i64 (l - s18)) - (1 : Int))) * 2)) .i64 fun n =>
    ldInt H (Addr.add (Addr.add a1 (Int.toNat (IntKind.wrap .i64 ((IntKind.wrap .i64 (l - s18)) - (1 : Int))) * 2)) 1) .i64 fun n1 =>
    callV Try.prog (FV.v f) [(.agg ⟨[(.int .i64 n), (.int .i64 n1)]⟩)] H (panK R) fun v H1 =>
    tBool v fun b =>
    iteB (!b) (
      R (.returned (.int .i64 (IntKind.wrap .i64 ((IntKind.wrap .i64 (l - s18)) - (1 : Int))))) H1) <|
    L0 g f l s17 (IntKind.wrap .i64 (s18 + (1 : Int))) H1 R) <|
  R (.returned (.int .i64 (-1 : Int))) H
theorem L0_step {g : Option Addr} {f : FV} {l : Int} {s17 : Int} {s18 : Int} {H : Heap} {R : Ending → Heap → Prop} (h : L0n g f l s17 s18 H R) : L0 g f l s17 s18 H R :=
  goL_of_den (an := an) (fuel := 100000) (X := L0n g f l s17 s18 H R) mixed fn (by kernel_rfl) (fun ρ0 => by kernel_rfl) h
def go (g : Option Addr) (f : FV) (H : Heap) (R : Ending → Heap → Prop) : Prop :=
  nilD g fun a =>
  ldSl H (Addr.add a 3) fun q qn qc =>
  nilD g fun a1 =>
  ldSl H (Addr.add a1 3) fun q1 q1n q1c =>
  L0 g f ((qn : Nat) : Int) ((q1n : Nat) : Int) (0 : Int) H R
theorem calls {g : Option Addr} {f : FV} {H : Heap} {R : Ending → Heap → Prop} (h : go g f H R) : CallsH Try.prog 53 ⟨[(.pointer g), (FV.v f)]⟩ H R :=
  callsH_of_den (an := an) (fuel := 100000) (X := go g f H R) (c := body) mixed fn (by kernel_rfl) (by kernel_rfl) (by kernel_rfl) ok (by kernel_rfl) h
end F53
/-! ### 54 "pub-stadtholder/pub/etcdserver/storage/mvcc.ZzWalk$1" -/
namespace F54
def an : Ann := { kinds := [], taus := [], pairs := [], lab := [] }
noncomputable def body : Code := (Try.f54.body).getD .skip
theorem fn : Try.prog.funcs[54]? = some Try.f54 := by kernel_rfl
theorem ok : codeOk an 8 body = true := by kernel_rfl
def go (rev_0 : Int) (rev_1 : Int) (s1 : Addr) (H : Heap) (R : Ending → Heap → Prop) : Prop :=
  newD H (.cells ⟨[(.int .i64 rev_0), (.int .i64 rev_1)]⟩ 60) fun r H1 =>
  ldInt H1 ⟨r, 0, none⟩ .i64 fun n =>
  ldInt H1 s1 .i64 fun n1 =>
  R (.returned (.bool (decide (n > n1)))) H1
theorem calls {rev_0 : Int} {rev_1 : Int} {s1 : Addr} {H : Heap} {R : Ending → Heap → Prop} (h : go rev_0 rev_1 s1 H R) : CallsH Try.prog 54 ⟨[(.agg ⟨[(.int .i64 rev_0), (.int .i64 rev_1)]⟩), (.pointer (some s1))]⟩ H R :=
  callsH_of_den (an := an) (fuel := 100000) (X := go rev_0 rev_1 s1 H R) (c := body) mixed fn (by kernel_rfl) (by kernel_rfl) (by kernel_rfl) ok (by kernel_rfl) h
end F54
/-! ### 55 "(*pub-stadtholder/pub/etcdserver/storage/mvcc.keyIndex).put" -/
namespace F55
def an : Ann := { kinds := [(8006, .grow)], taus := [(1, [[1, 2, 3, 0, 4, 5, 6]]), (5, [[0, 1, 2, 4, 5, 6, 3, 7, 8, 9, 10, 11]]), (8, [[0, 1, 2, 3, 4, 5, 6, 7, 8, 9, 10]])], pairs := [], lab := [(10000004, [0, 8]), (10000006, [0, 8]), (10000009, [0, 8, 9])] }
noncomputable def body : Code := (Try.f55.body).getD .skip
theorem fn : Try.prog.funcs[55]? = some Try.f55 := by kernel_rfl
theorem ok : codeOk an 79 body = true := by kernel_rfl
noncomputable def L0t : List Item := [.code (sub [1, 1] body)]
def L0 (s0 : Option Addr) (s8 : Nat) (H : Heap) (R : Ending → Heap → Prop) : Prop :=
  GoL Try.prog 55 79 L0t [0, 8] [(.pointer s0), (.pointer (some ⟨s8, 0, none⟩))] H R
noncomputable def L1t : List Item := [.code (sub [1, 1, 1] body)]
def L1 (s0 : Option Addr) (s8 : Nat) (H : Heap) (R : Ending → Heap → Prop) : Prop :=
  GoL Try.prog 55 79 L1t [0, 8] [(.pointer s0), (.pointer (some ⟨s8, 0, none⟩))] H R
noncomputable def L2t : List Item := [.code (sub [1, 1, 1, 1, 1] body)]
def L2 (s0 : Option Addr) (s8 : Nat) (s9 : Addr) (H : Heap) (R : Ending → Heap → Prop) : Prop :=
  GoL Try.prog 55 79 L2t [0, 8, 9] [(.pointer s0), (.pointer (some ⟨s8, 0, none⟩)), (.pointer (some s9))] H R
def L0n (s0 : Option Addr) (s8 : Nat) (H : Heap) (R : Ending → Heap → Prop) : Prop :=
  nilD s0 fun a =>
  ldSl H (Addr.add a 3) fun q qn qc =>
  iteB (((qn : Nat) : Int) == (0 : Int)) (
    nilD s0 fun a1 =>
    ldSl H (Addr.add a1 3) fun q1 q1n q1c =>
    newD H (.cells ⟨[(.int .i64 (0 : Int)), (.int .i64 (0 : Int)), (.int .i64 (0 : Int)), (.slice none 0 0)]⟩ 105) fun r H1 =>
    apD H1 4 48 [(.int .i64 (0 : Int)), (.int .i64 (0 : Int)), (.int .i64 (0 : Int)), (.slice none 0 0)] 105 q1 q1n q1c (some ⟨r, 0, none⟩) 1 fun q2 q2n q2c H2 =>
    nilD s0 fun a2 =>
    st1 H2 (Addr.add a2 3) (.slice q2 q2n q2c) fun H3 =>
    L1 s0 s8 H3 R) <|
  L1 s0 s8 H R
theorem L0_step {s0 : Option Addr} {s8 : Nat} {H : Heap} {R : Ending → Heap → Prop} (h : L0n s0 s8 H R) : L0 s0 s8 H R :=
  goL_of_den (an := an) (fuel := 100000) (X := L0n s0 s8 H R) mixed fn (by kernel_rfl) (fun ρ0 => by kernel_rfl) h
def L1n (s0 : Option Addr) (s8 : Nat) (H : Heap) (R : Ending → Heap → Prop) : Prop :=
  nilD s0 fun a =>
  nilD s0 fun a1 =>
  ldSl H (Addr.add a 3) fun q qn qc =>
  ldSl H (Addr.add a1 3) fun q1 q1n q1c =>
  idxD q qn (IntKind.wrap .i64 (((q1n : Nat) : Int) - (1 : Int))) fun a2 =>
  ldSl H (Addr.add (Addr.add a2 (Int.toNat (IntKind.wrap .i64 (((q1n : Nat) : Int) - (1 : Int))) * 4)) 3) fun q2 q2n q2c =>
  iteB (((q2n : Nat) : Int) == (0 : Int)) (
    ldInt H ⟨s8, 0, none⟩ .i64 fun n =>
    ldInt H ⟨s8, 1, none⟩ .i64 fun n1 =>
    st1 H (Addr.add (Addr.add a2 (Int.toNat (IntKind.wrap .i64 (((q1n : Nat) : Int) - (1 : Int))) * 4)) 1) (.int .i64 n) fun H1 =>
    st1 H1 (Addr.add (Addr.add (Addr.add a2 (Int.toNat (IntKind.wrap .i64 (((q1n : Nat) : Int) - (1 : Int))) * 4)) 1) 1) (.int .i64 n1) fun H2 =>
    L2 s0 s8 (Addr.add a2 (Int.toNat (IntKind.wrap .i64 (((q1n : Nat) : Int) - (1 : Int))) * 4)) H2 R) <|
  L2 s0 s8 (Addr.add a2 (Int.toNat (IntKind.wrap .i64 (((q1n : Nat) : Int) - (1 : Int))) * 4)) H R
theorem L1_step {s0 : Option Addr} {s8 : Nat} {H : Heap} {R : Ending → Heap → Prop} (h : L1n s0 s8 H R) : L1 s0 s8 H R :=
  goL_of_den (an := an) (fuel := 100000) (X := L1n s0 s8 H R) mixed fn (by kernel_rfl) (fun ρ0 => by kernel_rfl) h
def L2n (s0 : Option Addr) (s8 : Nat) (s9 : Addr) (H : Heap) (R : Ending → Heap → Prop) : Prop :=
  ldSl H (Addr.add s9 3) fun q qn qc =>
  ldInt H ⟨s8, 0, none⟩ .i64 fun n =>
  ldInt H ⟨s8, 1, none⟩ .i64 fun n1 =>
  newD H (.cells ⟨[(.int .i64 n), (.int .i64 n1)]⟩ 60) fun r H1 =>
  apD H1 2 16 [(.int .i64 (0 : Int)), (.int .i64 (0 : Int))] 60 q qn qc (some ⟨r, 0, none⟩) 1 fun q1 q1n q1c H2 =>
  st1 H2 (Addr.add s9 3) (.slice q1 q1n q1c) fun H3 =>
  ldInt H3 s9 .i64 fun n2 =>
  st1 H3 s9 (.int .i64 (IntKind.wrap .i64 (n2 + (1 : Int)))) fun H4 =>
  ldInt H4 ⟨s8, 0, none⟩ .i64 fun n3 =>
  ldInt H4 ⟨s8, 1, none⟩ .i64 fun n4 =>
  nilD s0 fun a =>
  st1 H4 (Addr.add a 1) (.int .i64 n3) fun H5 =>
  st1 H5 (Addr.add (Addr.add a 1) 1) (.int .i64 n4) fun H6 =>
  R (.returned (.tuple ⟨[]⟩)) H6
theorem L2_step {s0 : Option Addr} {s8 : Nat} {s9 : Addr} {H : Heap} {R : Ending → Heap → Prop} (h : L2n s0 s8 s9 H R) : L2 s0 s8 s9 H R :=
  goL_of_den (an := an) (fuel := 100000) (X := L2n s0 s8 s9 H R) mixed fn (by kernel_rfl) (fun ρ0 => by kernel_rfl) h
def go (s0 : Option Addr) (s1 : Option Addr) (s2 : Int) (s3 : Int) (H : Heap) (R : Ending → Heap → Prop) : Prop :=
  newD H (.cells ⟨[(.int .i64 (0 : Int)), (.int .i64 (0 : Int))]⟩ 60) fun r H1 =>
  st1 H1 ⟨r, 0, none⟩ (.int .i64 s2) fun H2 =>
  st1 H2 ⟨r, 1, none⟩ (.int .i64 s3) fun H3 =>
  nilD s0 fun a =>
  ldInt H3 ⟨r, 0, none⟩ .i64 fun n =>
  ldInt H3 ⟨r, 1, none⟩ .i64 fun n1 =>
  ldInt H3 (Addr.add a 1) .i64 fun n2 =>
  ldInt H3 (Addr.add (Addr.add a 1) 1) .i64 fun n3 =>
  callD Try.prog 67 [(.agg ⟨[(.int .i64 n), (.int .i64 n1)]⟩), (.agg ⟨[(.int .i64 n2), (.int .i64 n3)]⟩)] H3 (panK R) fun v H4 =>
  tBool v fun b =>
  iteB (!b) (
    panD (.iface 9 (.string (ByteArray.mk #[39, 112, 117, 116, 39, 32, 119, 105, 116, 104, 32, 97, 110, 32, 117, 110, 101, 120, 112, 101, 99, 116, 101, 100, 32, 115, 109, 97, 108, 108, 101, 114, 32, 114, 101, 118, 105, 115, 105, 111, 110]))) H4 (panK R)) <|
  L0 s0 r H4 R
theorem calls {s0 : Option Addr} {s1 : Option Addr} {s2 : Int} {s3 : Int} {H : Heap} {R : Ending → Heap → Prop} (h : go s0 s1 s2 s3 H R) : CallsH Try.prog 55 ⟨[(.pointer s0), (.pointer s1), (.int .i64 s2), (.int .i64 s3)]⟩ H R :=
  callsH_of_den (an := an) (fuel := 100000) (X := go s0 s1 s2 s3 H R) (c := body) mixed fn (by kernel_rfl) (by kernel_rfl) (by kernel_rfl) ok (by kernel_rfl) h
end F55
/-! ### 56 "(*pub-stadtholder/pub/etcdserver/storage/mvcc.keyIndex).tombstone" -/
namespace F56
def an : Ann := { kinds := [], taus := [(3, [[0, 1, 2, 4, 5, 6, 3, 7, 8, 9, 10, 11]])], pairs := [], lab := [(10000004, [0, 1, 2, 3])] }
noncomputable def body : Code := (Try.f56.body).getD .skip
theorem fn : Try.prog.funcs[56]? = some Try.f56 := by kernel_rfl
theorem ok : codeOk an 40 body = true := by kernel_rfl
noncomputable def L0t : List Item := [.code (sub [1, 1] body)]
def L0 (ki : Option Addr) (lg : Option Addr) (main : Int) (sub1 : Int) (H : Heap) (R : Ending → Heap → Prop) : Prop :=
  GoL Try.prog 56 40 L0t [0, 1, 2, 3] [(.pointer ki), (.pointer lg), (.int .i64 main), (.int .i64 sub1)] H R
def L0n (ki : Option Addr) (lg : Option Addr) (main : Int) (sub1 : Int) (H : Heap) (R : Ending → Heap → Prop) : Prop :=
  nilD ki fun a =>
  nilD ki fun a1 =>
  ldSl H (Addr.add a 3) fun q qn qc =>
  ldSl H (Addr.add a1 3) fun q1 q1n q1c =>
  idxD q qn (IntKind.wrap .i64 (((q1n : Nat) : Int) - (1 : Int))) fun a2 =>
  callD Try.prog 68 [(.pointer (some (Addr.add a2 (Int.toNat (IntKind.wrap .i64 (((q1n : Nat) : Int) - (1 : Int))) * 4))))] H (panK R) fun v H1 =>
  tBool v fun b =>
  iteB b (
    R (.returned (.iface 122 (.string (ByteArray.mk #[109, 118, 99, 99, 58, 32, 114, 101, 118, 105, 115, 105, 111, 110, 32, 110, 111, 116, 32, 102, 111, 117, 110, 100])))) H1) <|
  callD Try.prog 55 [(.pointer ki), (.pointer lg), (.int .i64 main), (.int .i64 sub1)] H1 (panK R) fun v1 H2 =>
  tTup v1 fun l =>
  tNil l <|
  nilD ki fun a3 =>
  ldSl H2 (Addr.add a3 3) fun q2 q2n q2c =>
  newD H2 (.cells ⟨[(.int .i64 (0 : Int)), (.int .i64 (0 : Int)), (.int .i64 (0 : Int)), (.slice none 0 0)]⟩ 105) fun r H3 =>
  apD H3 4 48 [(.int .i64 (0 : Int)), (.int .i64 (0 : Int)), (.int .i64 (0 : Int)), (.slice none 0 0)] 105 q2 q2n q2c (some ⟨r, 0, none⟩) 1 fun q3 q3n q3c H4 =>
  nilD ki fun a4 =>
  st1 H4 (Addr.add a4 3) (.slice q3 q3n q3c) fun H5 =>
  R (.returned .nilIface) H5
theorem L0_step {ki : Option Addr} {lg : Option Addr} {main : Int} {sub1 : Int} {H : Heap} {R : Ending → Heap → Prop} (h : L0n ki lg main sub1 H R) : L0 ki lg main sub1 H R :=
  goL_of_den (an := an) (fuel := 100000) (X := L0n ki lg main sub1 H R) mixed fn (by kernel_rfl) (fun ρ0 => by kernel_rfl) h
def go (ki : Option Addr) (lg : Option Addr) (main : Int) (sub1 : Int) (H : Heap) (R : Ending → Heap → Prop) : Prop :=
  callD Try.prog 65 [(.pointer ki)] H (panK R) fun v H1 =>
  tBool v fun b =>
  iteB b (
    panD (.iface 9 (.string (ByteArray.mk #[39, 116, 111, 109, 98, 115, 116, 111, 110, 101, 39, 32, 103, 111, 116, 32, 97, 110, 32, 117, 110, 101, 120, 112, 101, 99, 116, 101, 100, 32, 101, 109, 112, 116, 121, 32, 107, 101, 121, 73, 110, 100, 101, 120]))) H1 (panK R)) <|
  L0 ki lg main sub1 H1 R
theorem calls {ki : Option Addr} {lg : Option Addr} {main : Int} {sub1 : Int} {H : Heap} {R : Ending → Heap → Prop} (h : go ki lg main sub1 H R) : CallsH Try.prog 56 ⟨[(.pointer ki), (.pointer lg), (.int .i64 main), (.int .i64 sub1)]⟩ H R :=
  callsH_of_den (an := an) (fuel := 100000) (X := go ki lg main sub1 H R) (c := body) mixed fn (by kernel_rfl) (by kernel_rfl) (by kernel_rfl) ok (by kernel_rfl) h
end F56
/-! ### 57 "(*pub-stadtholder/pub/etcdserver/storage/mvcc.keyIndex).restore" -/
namespace F57
def an : Ann := { kinds := [(5006, .grow)], taus := [(5, [[0, 1, 2, 3, 4, 5, 6, 7, 8, 9, 10]])], pairs := [], lab := [(10000004, [0, 4, 7, 8])] }
noncomputable def body : Code := (Try.f57.body).getD .skip
theorem fn : Try.prog.funcs[57]? = some Try.f57 := by kernel_rfl
theorem ok : codeOk an 37 body = true := by kernel_rfl
noncomputable def L0t : List Item := [.code (sub [1, 1] body)]
def L0 (ki : Option Addr) (ver : Int) (created : Nat) (modified : Nat) (H : Heap) (R : Ending → Heap → Prop) : Prop :=
  GoL Try.prog 57 37 L0t [0, 4, 7, 8] [(.pointer ki), (.int .i64 ver), (.pointer (some ⟨created, 0, none⟩)), (.pointer (some ⟨modified, 0, none⟩))] H R
def L0n (ki : Option Addr) (ver : Int) (created : Nat) (modified : Nat) (H : Heap) (R : Ending → Heap → Prop) : Prop :=
  ldInt H ⟨modified, 0, none⟩ .i64 fun n =>
  ldInt H ⟨modified, 1, none⟩ .i64 fun n1 =>
  nilD ki fun a =>
  st1 H (Addr.add a 1) (.int .i64 n) fun H1 =>
  st1 H1 (Addr.add (Addr.add a 1) 1) (.int .i64 n1) fun H2 =>
  ldInt H2 ⟨created, 0, none⟩ .i64 fun n2 =>
  ldInt H2 ⟨created, 1, none⟩ .i64 fun n3 =>
  ldInt H2 ⟨modified, 0, none⟩ .i64 fun n4 =>
  ldInt H2 ⟨modified, 1, none⟩ .i64 fun n5 =>
  newD H2 (.cells ⟨[(.int .i64 n4), (.int .i64 n5)]⟩ 60) fun r H3 =>
  newD H3 (.cells ⟨[(.int .i64 (0 : Int)), (.int .i64 (0 : Int)), (.int .i64 (0 : Int)), (.slice none 0 0)]⟩ 105) fun r1 H4 =>
  st1 H4 ⟨r1, 0, none⟩ (.int .i64 ver) fun H5 =>
  st1 H5 ⟨r1, 1, none⟩ (.int .i64 n2) fun H6 =>
  st1 H6 ⟨r1, 2, none⟩ (.int .i64 n3) fun H7 =>
  st1 H7 ⟨r1, 3, none⟩ (.slice (some ⟨r, 0, none⟩) 1 1) fun H8 =>
  nilD ki fun a1 =>
  ldSl H8 (Addr.add a1 3) fun q qn qc =>
  ldInt H8 ⟨r1, 0, none⟩ .i64 fun n6 =>
  ldInt H8 ⟨r1, 1, none⟩ .i64 fun n7 =>
  ldInt H8 ⟨r1, 2, none⟩ .i64 fun n8 =>
  ldSl H8 ⟨r1, 3, none⟩ fun q1 q1n q1c =>
  newD H8 (.cells ⟨[(.int .i64 n6), (.int .i64 n7), (.int .i64 n8), (.slice q1 q1n q1c)]⟩ 105) fun r2 H9 =>
  apD H9 4 48 [(.int .i64 (0 : Int)), (.int .i64 (0 : Int)), (.int .i64 (0 : Int)), (.slice none 0 0)] 105 q qn qc (some ⟨r2, 0, none⟩) 1 fun q2 q2n q2c H10 =>
  nilD ki fun a2 =>
  st1 H10 (Addr.add a2 3) (.slice q2 q2n q2c) fun H11 =>
  R (.returned (.tuple ⟨[]⟩)) H11
theorem L0_step {ki : Option Addr} {ver : Int} {created : Nat} {modified : Nat} {H : Heap} {R : Ending → Heap → Prop} (h : L0n ki ver created modified H R) : L0 ki ver created modified H R :=
  goL_of_den (an := an) (fuel := 100000) (X := L0n ki ver created modified H R) mixed fn (by kernel_rfl) (fun ρ0 => by kernel_rfl) h
def go (ki : Option Addr) (lg : Option Addr) (created_0 : Int) (created_1 : Int) (modified_0 : Int) (modified_1 : Int) (ver : Int) (H : Heap) (R : Ending → Heap → Prop) : Prop :=
  newD H (.cells ⟨[(.int .i64 created_0), (.int .i64 created_1)]⟩ 60) fun r H1 =>
  newD H1 (.cells ⟨[(.int .i64 modified_0), (.int .i64 modified_1)]⟩ 60) fun r1 H2 =>
  nilD ki fun a =>
  ldSl H2 (Addr.add a 3) fun q qn qc =>
  iteB (((qn : Nat) : Int) != (0 : Int)) (
    panD (.iface 9 (.string (ByteArray.mk #[39, 114, 101, 115, 116, 111, 114, 101, 39, 32, 103, 111, 116, 32, 97, 110, 32, 117, 110, 101, 120, 112, 101, 99, 116, 101, 100, 32, 110, 111, 110, 45, 101, 109, 112, 116, 121, 32, 103, 101, 110, 101, 114, 97, 116, 105, 111, 110, 115]))) H2 (panK R)) <|
  L0 ki ver r r1 H2 R
theorem calls {ki : Option Addr} {lg : Option Addr} {created_0 : Int} {created_1 : Int} {modified_0 : Int} {modified_1 : Int} {ver : Int} {H : Heap} {R : Ending → Heap → Prop} (h : go ki lg created_0 created_1 modified_0 modified_1 ver H R) : CallsH Try.prog 57 ⟨[(.pointer ki), (.pointer lg), (.agg ⟨[(.int .i64 created_0), (.int .i64 created_1)]⟩), (.agg ⟨[(.int .i64 modified_0), (.int .i64 modified_1)]⟩), (.int .i64 ver)]⟩ H R :=
  callsH_of_den (an := an) (fuel := 100000) (X := go ki lg created_0 created_1 modified_0 modified_1 ver H R) (c := body) mixed fn (by kernel_rfl) (by kernel_rfl) (by kernel_rfl) ok (by kernel_rfl) h
end F57
/-! ### 58 "(*pub-stadtholder/pub/etcdserver/storage/mvcc.keyIndex).restoreTombstone" -/
namespace F58
def an : Ann := { kinds := [], taus := [], pairs := [], lab := [] }
noncomputable def body : Code := (Try.f58.body).getD .skip
theorem fn : Try.prog.funcs[58]? = some Try.f58 := by kernel_rfl
theorem ok : codeOk an 25 body = true := by kernel_rfl
def go (ki : Option Addr) (lg : Option Addr) (main : Int) (sub1 : Int) (H : Heap) (R : Ending → Heap → Prop) : Prop :=
  callD Try.prog 57 [(.pointer ki), (.pointer lg), (.agg ⟨[(.int .i64 (0 : Int)), (.int .i64 (0 : Int))]⟩), (.agg ⟨[(.int .i64 main), (.int .i64 sub1)]⟩), (.int .i64 (1 : Int))] H (panK R) fun v H1 =>
  tTup v fun l =>
  tNil l <|
  nilD ki fun a =>
  ldSl H1 (Addr.add a 3) fun q qn qc =>
  newD H1 (.cells ⟨[(.int .i64 (0 : Int)), (.int .i64 (0 : Int)), (.int .i64 (0 : Int)), (.slice none 0 0)]⟩ 105) fun r H2 =>
  apD H2 4 48 [(.int .i64 (0 : Int)), (.int .i64 (0 : Int)), (.int .i64 (0 : Int)), (.slice none 0 0)] 105 q qn qc (some ⟨r, 0, none⟩) 1 fun q1 q1n q1c H3 =>
  nilD ki fun a1 =>
  st1 H3 (Addr.add a1 3) (.slice q1 q1n q1c) fun H4 =>
  R (.returned (.tuple ⟨[]⟩)) H4
theorem calls {ki : Option Addr} {lg : Option Addr} {main : Int} {sub1 : Int} {H : Heap} {R : Ending → Heap → Prop} (h : go ki lg main sub1 H R) : CallsH Try.prog 58 ⟨[(.pointer ki), (.pointer lg), (.int .i64 main), (.int .i64 sub1)]⟩ H R :=
  callsH_of_den (an := an) (fuel := 100000) (X := go ki lg main sub1 H R) (c := body) mixed fn (by kernel_rfl) (by kernel_rfl) (by kernel_rfl) ok (by kernel_rfl) h
end F58
/-! ### 59 "(*pub-stadtholder/pub/etcdserver/storage/mvcc.keyIndex).get" -/
namespace F59
def an : Ann := { kinds := [], taus := [(8, [[0, 1, 2, 4, 7, 8, 9, 11, 12, 13, 15, 16, 17, 20, 3, 5, 6, 10, 14, 18, 19, 21, 22, 23, 24, 25, 26, 27], [0, 1, 2, 4, 7, 8, 9, 11, 12, 13, 15, 16, 17, 20, 3, 5, 6, 10, 14, 24, 18, 19, 21, 22, 23, 25, 26, 27], [0, 1, 2, 4, 7, 8, 9, 11, 12, 13, 15, 16, 17, 20, 3, 5, 6, 10, 14, 24, 25, 18, 19, 21, 22, 23, 26, 27], [0, 1, 2, 4, 7, 8, 9, 11, 12, 13, 15, 16, 17, 20, 3, 5, 6, 10, 18, 19, 21, 22, 24, 14, 23, 25, 26, 27], [0, 1, 2, 4, 7, 8, 9, 11, 12, 13, 15, 16, 17, 20, 3, 5, 6, 10, 24, 14, 18, 19, 21, 22, 23, 25, 26, 27], [0, 1, 2, 4, 7, 8, 9, 11, 12, 13, 15, 16, 17, 20, 3, 5, 6, 10, 24, 14, 25, 18, 19, 21, 22, 23, 26, 27], [0, 1, 2, 4, 7, 8, 9, 11, 12, 13, 15, 16, 17, 20, 3, 5, 6, 10, 18, 19, 21, 22, 24, 25, 14, 23, 26, 27], [0, 1, 2, 4, 7, 8, 9, 11, 12, 13, 15, 16, 17, 20, 3, 5, 6, 10, 24, 18, 19, 21, 22, 25, 14, 23, 26, 27], [0, 1, 2, 4, 7, 8, 9, 11, 12, 13, 15, 16, 17, 20, 3, 5, 6, 10, 24, 25, 14, 18, 19, 21, 22, 23, 26, 27], [0, 1, 2, 4, 7, 8, 9, 11, 12, 13, 15, 16, 17, 20, 3, 5, 6, 14, 18, 19, 21, 22, 23, 24, 10, 25, 26, 27], [0, 1, 2, 4, 7, 8, 9, 11, 12, 13, 15, 16, 17, 20, 3, 5, 6, 14, 24, 10, 18, 19, 21, 22, 23, 25, 26, 27], [0, 1, 2, 4, 7, 8, 9, 11, 12, 13, 15, 16, 17, 20, 3, 5, 6, 14, 24, 10, 25, 18, 19, 21, 22, 23, 26, 27], [0, 1, 2, 4, 7, 8, 9, 11, 12, 13, 15, 16, 17, 20, 3, 5, 6, 18, 19, 21, 22, 24, 10, 14, 23, 25, 26, 27], [0, 1, 2, 4, 7, 8, 9, 11, 12, 13, 15, 16, 17, 20, 3, 5, 6, 24, 10, 14, 18, 19, 21, 22, 23, 25, 26, 27], [0, 1, 2, 4, 7, 8, 9, 11, 12, 13, 15, 16, 17, 20, 3, 5, 6, 24, 10, 14, 25, 18, 19, 21, 22, 23, 26, 27], [0, 1, 2, 4, 7, 8, 9, 11, 12, 13, 15, 16, 17, 20, 3, 5, 6, 18, 19, 21, 22, 24, 10, 25, 14, 23, 26, 27], [0, 1, 2, 4, 7, 8, 9, 11, 12, 13, 15, 16, 17, 20, 3, 5, 6, 24, 10, 18, 19, 21, 22, 25, 14, 23, 26, 27], [0, 1, 2, 4, 7, 8, 9, 11, 12, 13, 15, 16, 17, 20, 3, 5, 6, 24, 10, 25, 14, 18, 19, 21, 22, 23, 26, 27]])], pairs := [(8, [(10, 24), (14, 24), (14, 25), (18, 24), (18, 25)])], lab := [(10000004, [0, 5, 6, 7])] }
noncomputable def body : Code := (Try.f59.body).getD .skip
theorem fn : Try.prog.funcs[59]? = some Try.f59 := by kernel_rfl
theorem ok : codeOk an 55 body = true := by kernel_rfl
noncomputable def L0t : List Item := [.code (sub [1, 1] body)]
def L0 (ki : Option Addr) (atRev : Nat) (modified : Nat) (created : Nat) (H : Heap) (R : Ending → Heap → Prop) : Prop :=
  GoL Try.prog 59 55 L0t [0, 5, 6, 7] [(.pointer ki), (.pointer (some ⟨atRev, 0, none⟩)), (.pointer (some ⟨modified, 0, none⟩)), (.pointer (some ⟨created, 0, none⟩))] H R
def L0n (ki : Option Addr) (atRev : Nat) (modified : Nat) (created : Nat) (H : Heap) (R : Ending → Heap → Prop) : Prop :=
  ldInt H ⟨atRev, 0, none⟩ .i64 fun n =>
  callD Try.prog 69 [(.pointer ki), (.int .i64 n)] H (panK R) fun v H1 =>
  tPtr v fun p =>
  callD Try.prog 68 [(.pointer p)] H1 (panK R) fun v1 H2 =>
  tBool v1 fun b =>
  iteB b (
    st1 H2 ⟨modified, 0, none⟩ (.int .i64 (0 : Int)) fun H3 =>
    st1 H3 ⟨modified, 1, none⟩ (.int .i64 (0 : Int)) fun H4 =>
    st1 H4 ⟨created, 0, none⟩ (.int .i64 (0 : Int)) fun H5 =>
    st1 H5 ⟨created, 1, none⟩ (.int .i64 (0 : Int)) fun H6 =>
    ldInt H6 ⟨modified, 0, none⟩ .i64 fun n1 =>
    ldInt H6 ⟨modified, 1, none⟩ .i64 fun n2 =>
    ldInt H6 ⟨created, 0, none⟩ .i64 fun n3 =>
    ldInt H6 ⟨created, 1, none⟩ .i64 fun n4 =>
    R (.returned (.tuple ⟨[(.agg ⟨[(.int .i64 n1), (.int .i64 n2)]⟩), (.agg ⟨[(.int .i64 n3), (.int .i64 n4)]⟩), (.int .i64 (0 : Int)), (.iface 122 (.string (ByteArray.mk #[109, 118, 99, 99, 58, 32, 114, 101, 118, 105, 115, 105, 111, 110, 32, 110, 111, 116, 32, 102, 111, 117, 110, 100])))]⟩)) H6) <|
  callD Try.prog 53 [(.pointer p), (.func (.func 70) ⟨[]⟩ ⟨[(.pointer (some ⟨atRev, 0, none⟩))]⟩)] H2 (panK R) fun v2 H7 =>
  tInt v2 .i64 fun n5 =>
  iteB (n5 != (-1 : Int)) (
    (
      nilD p fun a =>
      nilD p fun a1 =>
      nilD p fun a2 =>
      nilD p fun a3 =>
      ldSl H7 (Addr.add a 3) fun q qn qc =>
      idxD q qn n5 fun a4 =>
      ldInt H7 (Addr.add a4 (Int.toNat n5 * 2)) .i64 fun n6 =>
      ldInt H7 (Addr.add (Addr.add a4 (Int.toNat n5 * 2)) 1) .i64 fun n7 =>
      ldInt H7 (Addr.add a1 1) .i64 fun n8 =>
      ldInt H7 (Addr.add (Addr.add a1 1) 1) .i64 fun n9 =>
      ldInt H7 a2 .i64 fun n10 =>
      ldSl H7 (Addr.add a3 3) fun q1 q1n q1c =>
      st1 H7 ⟨modified, 0, none⟩ (.int .i64 n6) fun H8 =>
      st1 H8 ⟨modified, 1, none⟩ (.int .i64 n7) fun H9 =>
      st1 H9 ⟨created, 0, none⟩ (.int .i64 n8) fun H10 =>
      st1 H10 ⟨created, 1, none⟩ (.int .i64 n9) fun H11 =>
      ldInt H11 ⟨modified, 0, none⟩ .i64 fun n11 =>
      ldInt H11 ⟨modified, 1, none⟩ .i64 fun n12 =>
      ldInt H11 ⟨created, 0, none⟩ .i64 fun n13 =>
      ldInt H11 ⟨created, 1, none⟩ .i64 fun n14 =>
      R (.returned (.tuple ⟨[(.agg ⟨[(.int .i64 n11), (.int .i64 n12)]⟩), (.agg ⟨[(.int .i64 n13), (.int .i64 n14)]⟩), (.int .i64 (IntKind.wrap .i64 (n10 - (IntKind.wrap .i64 ((IntKind.wrap .i64 (((q1n : Nat) : Int) - n5)) - (1 : Int)))))), .nilIface]⟩)) H11) ∧
    (
      nilD p fun a5 =>
      nilD p fun a6 =>
      nilD p fun a7 =>
      nilD p fun a8 =>
      ldSl H7 (Addr.add a5 3) fun q2 q2n q2c =>
      idxD q2 q2n n5 fun a9 =>
      ldInt H7 (Addr.add a9 (Int.toNat n5 * 2)) .i64 fun n15 =>
      ldInt H7 (Addr.add (Addr.add a9 (Int.toNat n5 * 2)) 1) .i64 fun n16 =>
      ldInt H7 (Addr.add a6 1) .i64 fun n17 =>
      ldInt H7 (Addr.add (Addr.add a6 1) 1) .i64 fun n18 =>
      ldInt H7 a7 .i64 fun n19 =>
      st1 H7 ⟨modified, 0, none⟩ (.int .i64 n15) fun H12 =>
      st1 H12 ⟨modified, 1, none⟩ (.int .i64 n16) fun H13 =>
      ldSl H13 (Addr.add a8 3) fun q3 q3n q3c =>
      st1 H13 ⟨created, 0, none⟩ (.int .i64 n17) fun H14 =>
      st1 H14 ⟨created, 1, none⟩ (.int .i64 n18) fun H15 =>
      ldInt H15 ⟨modified, 0, none⟩ .i64 fun n20 =>
      ldInt H15 ⟨modified, 1, none⟩ .i64 fun n21 =>
      ldInt H15 ⟨created, 0, none⟩ .i64 fun n22 =>
      ldInt H15 ⟨created, 1, none⟩ .i64 fun n23 =>
      R (.returned (.tuple ⟨[(.agg ⟨[(.int .i64 n20), (.int .i64 n21)]⟩), (.agg ⟨[(.int .i64 n22), (.int .i64 n23)]⟩), (.int .i64 (IntKind.wrap .i64 (n19 - (IntKind.wrap .i64 ((IntKind.wrap .i64 (((q3n : Nat) : Int) - n5)) - (1 : Int)))))), .nilIface]⟩)) H15) ∧
    (
      nilD p fun a10 =>
      nilD p fun a11 =>
      nilD p fun a12 =>
      nilD p fun a13 =>
      ldSl H7 (Addr.add a10 3) fun q4 q4n q4c =>
      idxD q4 q4n n5 fun a14 =>
      ldInt H7 (Addr.add a14 (Int.toNat n5 * 2)) .i64 fun n24 =>
      ldInt H7 (Addr.add (Addr.add a14 (Int.toNat n5 * 2)) 1) .i64 fun n25 =>
      ldInt H7 (Addr.add a11 1) .i64 fun n26 =>
      ldInt H7 (Addr.add (Addr.add a11 1) 1) .i64 fun n27 =>
      ldInt H7 a12 .i64 fun n28 =>
      st1 H7 ⟨modified, 0, none⟩ (.int .i64 n24) fun H16 =>
      st1 H16 ⟨modified, 1, none⟩ (.int .i64 n25) fun H17 =>
      st1 H17 ⟨created, 0, none⟩ (.int .i64 n26) fun H18 =>
      st1 H18 ⟨created, 1, none⟩ (.int .i64 n27) fun H19 =>
      ldSl H19 (Addr.add a13 3) fun q5 q5n q5c =>
      ldInt H19 ⟨modified, 0, none⟩ .i64 fun n29 =>
      ldInt H19 ⟨modified, 1, none⟩ .i64 fun n30 =>
      ldInt H19 ⟨created, 0, none⟩ .i64 fun n31 =>
      ldInt H19 ⟨created, 1, none⟩ .i64 fun n32 =>
      R (.returned (.tuple ⟨[(.agg ⟨[(.int .i64 n29), (.int .i64 n30)]⟩), (.agg ⟨[(.int .i64 n31), (.int .i64 n32)]⟩), (.int .i64 (IntKind.wrap .i64 (n28 - (IntKind.wrap .i64 ((IntKind.wrap .i64 (((q5n : Nat) : Int) - n5)) - (1 : Int)))))), .nilIface]⟩)) H19) ∧
    (
      nilD p fun a15 =>
      nilD p fun a16 =>
      nilD p fun a17 =>
      nilD p fun a18 =>
      ldSl H7 (Addr.add a15 3) fun q6 q6n q6c =>
      idxD q6 q6n n5 fun a19 =>
      ldInt H7 (Addr.add a19 (Int.toNat n5 * 2)) .i64 fun n33 =>
      ldInt H7 (Addr.add (Addr.add a19 (Int.toNat n5 * 2)) 1) .i64 fun n34 =>
      ldInt H7 (Addr.add a16 1) .i64 fun n35 =>
      ldInt H7 (Addr.add (Addr.add a16 1) 1) .i64 fun n36 =>
      ldSl H7 (Addr.add a18 3) fun q7 q7n q7c =>
      st1 H7 ⟨modified, 0, none⟩ (.int .i64 n33) fun H20 =>
      st1 H20 ⟨modified, 1, none⟩ (.int .i64 n34) fun H21 =>
      ldInt H21 a17 .i64 fun n37 =>
      st1 H21 ⟨created, 0, none⟩ (.int .i64 n35) fun H22 =>
      st1 H22 ⟨created, 1, none⟩ (.int .i64 n36) fun H23 =>
      ldInt H23 ⟨modified, 0, none⟩ .i64 fun n38 =>
      ldInt H23 ⟨modified, 1, none⟩ .i64 fun n39 =>
      ldInt H23 ⟨created, 0, none⟩ .i64 fun n40 =>
      ldInt H23 ⟨created, 1, none⟩ .i64 fun n41 =>
      R (.returned (.tuple ⟨[(.agg ⟨[(.int .i64 n38), (.int .i64 n39)]⟩), (.agg ⟨[(.int .i64 n40), (.int .i64 n41)]⟩), (.int .i64 (IntKind.wrap .i64 (n37 - (IntKind.wrap .i64 ((IntKind.wrap .i64 (((q7n : Nat) : Int) - n5)) - (1 : Int)))))), .nilIface]⟩)) H23) ∧
    (
      nilD p fun a20 =>
      nilD p fun a21 =>
      nilD p fun a22 =>
      nilD p fun a23 =>
      ldSl H7 (Addr.add a20 3) fun q8 q8n q8c =>
      idxD q8 q8n n5 fun a24 =>
      ldInt H7 (Addr.add a24 (Int.toNat n5 * 2)) .i64 fun n42 =>
      ldInt H7 (Addr.add (Addr.add a24 (Int.toNat n5 * 2)) 1) .i64 fun n43 =>
      ldInt H7 (Addr.add a21 1) .i64 fun n44 =>
      ldInt H7 (Addr.add (Addr.add a21 1) 1) .i64 fun n45 =>
      st1 H7 ⟨modified, 0, none⟩ (.int .i64 n42) fun H24 =>
      st1 H24 ⟨modified, 1, none⟩ (.int .i64 n43) fun H25 =>
      ldInt H25 a22 .i64 fun n46 =>
      ldSl H25 (Addr.add a23 3) fun q9 q9n q9c =>
      st1 H25 ⟨created, 0, none⟩ (.int .i64 n44) fun H26 =>
      st1 H26 ⟨created, 1, none⟩ (.int .i64 n45) fun H27 =>
      ldInt H27 ⟨modified, 0, none⟩ .i64 fun n47 =>
      ldInt H27 ⟨modified, 1, none⟩ .i64 fun n48 =>
      ldInt H27 ⟨created, 0, none⟩ .i64 fun n49 =>
      ldInt H27 ⟨created, 1, none⟩ .i64 fun n50 =>
      R (.returned (.tuple ⟨[(.agg ⟨[(.int .i64 n47), (.int .i64 n48)]⟩), (.agg ⟨[(.int .i64 n49), (.int .i64 n50)]⟩), (.int .i64 (IntKind.wrap .i64 (n46 - (IntKind.wrap .i64 ((IntKind.wrap .i64 (((q9n : Nat) : Int) - n5)) - (1 : Int)))))), .nilIface]⟩)) H27) ∧
    (
      nilD p fun a25 =>
      nilD p fun a26 =>
      nilD p fun a27 =>
      nilD p fun a28 =>
      ldSl H7 (Addr.add a25 3) fun q10 q10n q10c =>
      idxD q10 q10n n5 fun a29 =>
      ldInt H7 (Addr.add a29 (Int.toNat n5 * 2)) .i64 fun n51 =>
      ldInt H7 (Addr.add (Addr.add a29 (Int.toNat n5 * 2)) 1) .i64 fun n52 =>
      ldInt H7 (Addr.add a26 1) .i64 fun n53 =>
      ldInt H7 (Addr.add (Addr.add a26 1) 1) .i64 fun n54 =>
      st1 H7 ⟨modified, 0, none⟩ (.int .i64 n51) fun H28 =>
      st1 H28 ⟨modified, 1, none⟩ (.int .i64 n52) fun H29 =>
      ldInt H29 a27 .i64 fun n55 =>
      st1 H29 ⟨created, 0, none⟩ (.int .i64 n53) fun H30 =>
      st1 H30 ⟨created, 1, none⟩ (.int .i64 n54) fun H31 =>
      ldSl H31 (Addr.add a28 3) fun q11 q11n q11c =>
      ldInt H31 ⟨modified, 0, none⟩ .i64 fun n56 =>
      ldInt H31 ⟨modified, 1, none⟩ .i64 fun n57 =>
      ldInt H31 ⟨created, 0, none⟩ .i64 fun n58 =>
      ldInt H31 ⟨created, 1, none⟩ .i64 fun n59 =>
      R (.returned (.tuple ⟨[(.agg ⟨[(.int .i64 n56), (.int .i64 n57)]⟩), (.agg ⟨[(.int .i64 n58), (.int .i64 n59)]⟩), (.int .i64 (IntKind.wrap .i64 (n55 - (IntKind.wrap .i64 ((IntKind.wrap .i64 (((q11n : Nat) : Int) - n5)) - (1 : Int)))))), .nilIface]⟩)) H31) ∧
    (
      nilD p fun a30 =>
      nilD p fun a31 =>
      nilD p fun a32 =>
      nilD p fun a33 =>
      ldSl H7 (Addr.add a30 3) fun q12 q12n q12c =>
      idxD q12 q12n n5 fun a34 =>
      ldInt H7 (Addr.add a34 (Int.toNat n5 * 2)) .i64 fun n60 =>
      ldInt H7 (Addr.add (Addr.add a34 (Int.toNat n5 * 2)) 1) .i64 fun n61 =>
      ldInt H7 (Addr.add a31 1) .i64 fun n62 =>
      ldInt H7 (Addr.add (Addr.add a31 1) 1) .i64 fun n63 =>
      ldSl H7 (Addr.add a33 3) fun q13 q13n q13c =>
      st1 H7 ⟨modified, 0, none⟩ (.int .i64 n60) fun H32 =>
      st1 H32 ⟨modified, 1, none⟩ (.int .i64 n61) fun H33 =>
      st1 H33 ⟨created, 0, none⟩ (.int .i64 n62) fun H34 =>
      st1 H34 ⟨created, 1, none⟩ (.int .i64 n63) fun H35 =>
      ldInt H35 a32 .i64 fun n64 =>
      ldInt H35 ⟨modified, 0, none⟩ .i64 fun n65 =>
      ldInt H35 ⟨modified, 1, none⟩ .i64 fun n66 =>
      ldInt H35 ⟨created, 0, none⟩ .i64 fun n67 =>
      ldInt H35 ⟨created, 1, none⟩ .i64 fun n68 =>
      R (.returned (.tuple ⟨[(.agg ⟨[(.int .i64 n65), (.int .i64 n66)]⟩), (.agg ⟨[(.int .i64 n67), (.int .i64 n68)]⟩), (.int .i64 (IntKind.wrap .i64 (n64 - (IntKind.wrap .i64 ((IntKind.wrap .i64 (((q13n : Nat) : Int) - n5)) - (1 : Int)))))), .nilIface]⟩)) H35) ∧
    (
      nilD p fun a35 =>
      nilD p fun a36 =>
      nilD p fun a37 =>
      nilD p fun a38 =>
      ldSl H7 (Addr.add a35 3) fun q14 q14n q14c =>
      idxD q14 q14n n5 fun a39 =>
      ldInt H7 (Addr.add a39 (Int.toNat n5 * 2)) .i64 fun n69 =>
      ldInt H7 (Addr.add (Addr.add a39 (Int.toNat n5 * 2)) 1) .i64 fun n70 =>
      ldInt H7 (Addr.add a36 1) .i64 fun n71 =>
      ldInt H7 (Addr.add (Addr.add a36 1) 1) .i64 fun n72 =>
      st1 H7 ⟨modified, 0, none⟩ (.int .i64 n69) fun H36 =>
      st1 H36 ⟨modified, 1, none⟩ (.int .i64 n70) fun H37 =>
      ldSl H37 (Addr.add a38 3) fun q15 q15n q15c =>
      st1 H37 ⟨created, 0, none⟩ (.int .i64 n71) fun H38 =>
      st1 H38 ⟨created, 1, none⟩ (.int .i64 n72) fun H39 =>
      ldInt H39 a37 .i64 fun n73 =>
      ldInt H39 ⟨modified, 0, none⟩ .i64 fun n74 =>
      ldInt H39 ⟨modified, 1, none⟩ .i64 fun n75 =>
      ldInt H39 ⟨created, 0, none⟩ .i64 fun n76 =>
      ldInt H39 ⟨created, 1, none⟩ .i64 fun n77 =>
      R (.returned (.tuple ⟨[(.agg ⟨[(.int .i64 n74), (.int .i64 n75)]⟩), (.agg ⟨[(.int .i64 n76), (.int .i64 n77)]⟩), (.int .i64 (IntKind.wrap .i64 (n73 - (IntKind.wrap .i64 ((IntKind.wrap .i64 (((q15n : Nat) : Int) - n5)) - (1 : Int)))))), .nilIface]⟩)) H39) ∧
    (
      nilD p fun a40 =>
      nilD p fun a41 =>
      nilD p fun a42 =>
      nilD p fun a43 =>
      ldSl H7 (Addr.add a40 3) fun q16 q16n q16c =>
      idxD q16 q16n n5 fun a44 =>
      ldInt H7 (Addr.add a44 (Int.toNat n5 * 2)) .i64 fun n78 =>
      ldInt H7 (Addr.add (Addr.add a44 (Int.toNat n5 * 2)) 1) .i64 fun n79 =>
      ldInt H7 (Addr.add a41 1) .i64 fun n80 =>
      ldInt H7 (Addr.add (Addr.add a41 1) 1) .i64 fun n81 =>
      st1 H7 ⟨modified, 0, none⟩ (.int .i64 n78) fun H40 =>
      st1 H40 ⟨modified, 1, none⟩ (.int .i64 n79) fun H41 =>
      st1 H41 ⟨created, 0, none⟩ (.int .i64 n80) fun H42 =>
      st1 H42 ⟨created, 1, none⟩ (.int .i64 n81) fun H43 =>
      ldInt H43 a42 .i64 fun n82 =>
      ldSl H43 (Addr.add a43 3) fun q17 q17n q17c =>
      ldInt H43 ⟨modified, 0, none⟩ .i64 fun n83 =>
      ldInt H43 ⟨modified, 1, none⟩ .i64 fun n84 =>
      ldInt H43 ⟨created, 0, none⟩ .i64 fun n85 =>
      ldInt H43 ⟨created, 1, none⟩ .i64 fun n86 =>
      R (.returned (.tuple ⟨[(.agg ⟨[(.int .i64 n83), (.int .i64 n84)]⟩), (.agg ⟨[(.int .i64 n85), (.int .i64 n86)]⟩), (.int .i64 (IntKind.wrap .i64 (n82 - (IntKind.wrap .i64 ((IntKind.wrap .i64 (((q17n : Nat) : Int) - n5)) - (1 : Int)))))), .nilIface]⟩)) H43) ∧
    (
      nilD p fun a45 =>
      nilD p fun a46 =>
      nilD p fun a47 =>
      nilD p fun a48 =>
      ldSl H7 (Addr.add a45 3) fun q18 q18n q18c =>
      idxD q18 q18n n5 fun a49 =>
      ldInt H7 (Addr.add a49 (Int.toNat n5 * 2)) .i64 fun n87 =>
      ldInt H7 (Addr.add (Addr.add a49 (Int.toNat n5 * 2)) 1) .i64 fun n88 =>
      ldInt H7 a47 .i64 fun n89 =>
      ldSl H7 (Addr.add a48 3) fun q19 q19n q19c =>
      st1 H7 ⟨modified, 0, none⟩ (.int .i64 n87) fun H44 =>
      st1 H44 ⟨modified, 1, none⟩ (.int .i64 n88) fun H45 =>
      ldInt H45 (Addr.add a46 1) .i64 fun n90 =>
      ldInt H45 (Addr.add (Addr.add a46 1) 1) .i64 fun n91 =>
      st1 H45 ⟨created, 0, none⟩ (.int .i64 n90) fun H46 =>
      st1 H46 ⟨created, 1, none⟩ (.int .i64 n91) fun H47 =>
      ldInt H47 ⟨modified, 0, none⟩ .i64 fun n92 =>
      ldInt H47 ⟨modified, 1, none⟩ .i64 fun n93 =>
      ldInt H47 ⟨created, 0, none⟩ .i64 fun n94 =>
      ldInt H47 ⟨created, 1, none⟩ .i64 fun n95 =>
      R (.returned (.tuple ⟨[(.agg ⟨[(.int .i64 n92), (.int .i64 n93)]⟩), (.agg ⟨[(.int .i64 n94), (.int .i64 n95)]⟩), (.int .i64 (IntKind.wrap .i64 (n89 - (IntKind.wrap .i64 ((IntKind.wrap .i64 (((q19n : Nat) : Int) - n5)) - (1 : Int)))))), .nilIface]⟩)) H47) ∧
    (
      nilD p fun a50 =>
      nilD p fun a51 =>
      nilD p fun a52 =>
      nilD p fun a53 =>
      ldSl H7 (Addr.add a50 3) fun q20 q20n q20c =>
      idxD q20 q20n n5 fun a54 =>
      ldInt H7 (Addr.add a54 (Int.toNat n5 * 2)) .i64 fun n96 =>
      ldInt H7 (Addr.add (Addr.add a54 (Int.toNat n5 * 2)) 1) .i64 fun n97 =>
      ldInt H7 a52 .i64 fun n98 =>
      st1 H7 ⟨modified, 0, none⟩ (.int .i64 n96) fun H48 =>
      st1 H48 ⟨modified, 1, none⟩ (.int .i64 n97) fun H49 =>
      ldInt H49 (Addr.add a51 1) .i64 fun n99 =>
      ldInt H49 (Addr.add (Addr.add a51 1) 1) .i64 fun n100 =>
      ldSl H49 (Addr.add a53 3) fun q21 q21n q21c =>
      st1 H49 ⟨created, 0, none⟩ (.int .i64 n99) fun H50 =>
      st1 H50 ⟨created, 1, none⟩ (.int .i64 n100) fun H51 =>
      ldInt H51 ⟨modified, 0, none⟩ .i64 fun n101 =>
      ldInt H51 ⟨modified, 1, none⟩ .i64 fun n102 =>
      ldInt H51 ⟨created, 0, none⟩ .i64 fun n103 =>
      ldInt H51 ⟨created, 1, none⟩ .i64 fun n104 =>
      R (.returned (.tuple ⟨[(.agg ⟨[(.int .i64 n101), (.int .i64 n102)]⟩), (.agg ⟨[(.int .i64 n103), (.int .i64 n104)]⟩), (.int .i64 (IntKind.wrap .i64 (n98 - (IntKind.wrap .i64 ((IntKind.wrap .i64 (((q21n : Nat) : Int) - n5)) - (1 : Int)))))), .nilIface]⟩)) H51) ∧
    (
      nilD p fun a55 =>
      nilD p fun a56 =>
      nilD p fun a57 =>
      nilD p fun a58 =>
      ldSl H7 (Addr.add a55 3) fun q22 q22n q22c =>
      idxD q22 q22n n5 fun a59 =>
      ldInt H7 (Addr.add a59 (Int.toNat n5 * 2)) .i64 fun n105 =>
      ldInt H7 (Addr.add (Addr.add a59 (Int.toNat n5 * 2)) 1) .i64 fun n106 =>
      ldInt H7 a57 .i64 fun n107 =>
      st1 H7 ⟨modified, 0, none⟩ (.int .i64 n105) fun H52 =>
      st1 H52 ⟨modified, 1, none⟩ (.int .i64 n106) fun H53 =>
      ldInt H53 (Addr.add a56 1) .i64 fun n108 =>
      ldInt H53 (Addr.add (Addr.add a56 1) 1) .i64 fun n109 =>
      st1 H53 ⟨created, 0, none⟩ (.int .i64 n108) fun H54 =>
      st1 H54 ⟨created, 1, none⟩ (.int .i64 n109) fun H55 =>
      ldSl H55 (Addr.add a58 3) fun q23 q23n q23c =>
      ldInt H55 ⟨modified, 0, none⟩ .i64 fun n110 =>
      ldInt H55 ⟨modified, 1, none⟩ .i64 fun n111 =>
      ldInt H55 ⟨created, 0, none⟩ .i64 fun n112 =>
      ldInt H55 ⟨created, 1, none⟩ .i64 fun n113 =>
      R (.returned (.tuple ⟨[(.agg ⟨[(.int .i64 n110), (.int .i64 n111)]⟩), (.agg ⟨[(.int .i64 n112), (.int .i64 n113)]⟩), (.int .i64 (IntKind.wrap .i64 (n107 - (IntKind.wrap .i64 ((IntKind.wrap .i64 (((q23n : Nat) : Int) - n5)) - (1 : Int)))))), .nilIface]⟩)) H55) ∧
    (
      nilD p fun a60 =>
      nilD p fun a61 =>
      nilD p fun a62 =>
      nilD p fun a63 =>
      ldSl H7 (Addr.add a60 3) fun q24 q24n q24c =>
      idxD q24 q24n n5 fun a64 =>
      ldInt H7 (Addr.add a64 (Int.toNat n5 * 2)) .i64 fun n114 =>
      ldInt H7 (Addr.add (Addr.add a64 (Int.toNat n5 * 2)) 1) .i64 fun n115 =>
      ldSl H7 (Addr.add a63 3) fun q25 q25n q25c =>
      st1 H7 ⟨modified, 0, none⟩ (.int .i64 n114) fun H56 =>
      st1 H56 ⟨modified, 1, none⟩ (.int .i64 n115) fun H57 =>
      ldInt H57 (Addr.add a61 1) .i64 fun n116 =>
      ldInt H57 (Addr.add (Addr.add a61 1) 1) .i64 fun n117 =>
      ldInt H57 a62 .i64 fun n118 =>
      st1 H57 ⟨created, 0, none⟩ (.int .i64 n116) fun H58 =>
      st1 H58 ⟨created, 1, none⟩ (.int .i64 n117) fun H59 =>
      ldInt H59 ⟨modified, 0, none⟩ .i64 fun n119 =>
      ldInt H59 ⟨modified, 1, none⟩ .i64 fun n120 =>
      ldInt H59 ⟨created, 0, none⟩ .i64 fun n121 =>
      ldInt H59 ⟨created, 1, none⟩ .i64 fun n122 =>
      R (.returned (.tuple ⟨[(.agg ⟨[(.int .i64 n119), (.int .i64 n120)]⟩), (.agg ⟨[(.int .i64 n121), (.int .i64 n122)]⟩), (.int .i64 (IntKind.wrap .i64 (n118 - (IntKind.wrap .i64 ((IntKind.wrap .i64 (((q25n : Nat) : Int) - n5)) - (1 : Int)))))), .nilIface]⟩)) H59) ∧
    (
      nilD p fun a65 =>
      nilD p fun a66 =>
      nilD p fun a67 =>
      nilD p fun a68 =>
      ldSl H7 (Addr.add a65 3) fun q26 q26n q26c =>
      idxD q26 q26n n5 fun a69 =>
      ldInt H7 (Addr.add a69 (Int.toNat n5 * 2)) .i64 fun n123 =>
      ldInt H7 (Addr.add (Addr.add a69 (Int.toNat n5 * 2)) 1) .i64 fun n124 =>
      st1 H7 ⟨modified, 0, none⟩ (.int .i64 n123) fun H60 =>
      st1 H60 ⟨modified, 1, none⟩ (.int .i64 n124) fun H61 =>
      ldInt H61 (Addr.add a66 1) .i64 fun n125 =>
      ldInt H61 (Addr.add (Addr.add a66 1) 1) .i64 fun n126 =>
      ldInt H61 a67 .i64 fun n127 =>
      ldSl H61 (Addr.add a68 3) fun q27 q27n q27c =>
      st1 H61 ⟨created, 0, none⟩ (.int .i64 n125) fun H62 =>
      st1 H62 ⟨created, 1, none⟩ (.int .i64 n126) fun H63 =>
      ldInt H63 ⟨modified, 0, none⟩ .i64 fun n128 =>
      ldInt H63 ⟨modified, 1, none⟩ .i64 fun n129 =>
      ldInt H63 ⟨created, 0, none⟩ .i64 fun n130 =>
      ldInt H63 ⟨created, 1, none⟩ .i64 fun n131 =>
      R (.returned (.tuple ⟨[(.agg ⟨[(.int .i64 n128), (.int .i64 n129)]⟩), (.agg ⟨[(.int .i64 n130), (.int .i64 n131)]⟩), (.int .i64 (IntKind.wrap .i64 (n127 - (IntKind.wrap .i64 ((IntKind.wrap .i64 (((q27n : Nat) : Int) - n5)) - (1 : Int)))))), .nilIface]⟩)) H63) ∧
    (
      nilD p fun a70 =>
      nilD p fun a71 =>
      nilD p fun a72 =>
      nilD p fun a73 =>
      ldSl H7 (Addr.add a70 3) fun q28 q28n q28c =>
      idxD q28 q28n n5 fun a74 =>
      ldInt H7 (Addr.add a74 (Int.toNat n5 * 2)) .i64 fun n132 =>
      ldInt H7 (Addr.add (Addr.add a74 (Int.toNat n5 * 2)) 1) .i64 fun n133 =>
      st1 H7 ⟨modified, 0, none⟩ (.int .i64 n132) fun H64 =>
      st1 H64 ⟨modified, 1, none⟩ (.int .i64 n133) fun H65 =>
      ldInt H65 (Addr.add a71 1) .i64 fun n134 =>
      ldInt H65 (Addr.add (Addr.add a71 1) 1) .i64 fun n135 =>
      ldInt H65 a72 .i64 fun n136 =>
      st1 H65 ⟨created, 0, none⟩ (.int .i64 n134) fun H66 =>
      st1 H66 ⟨created, 1, none⟩ (.int .i64 n135) fun H67 =>
      ldSl H67 (Addr.add a73 3) fun q29 q29n q29c =>
      ldInt H67 ⟨modified, 0, none⟩ .i64 fun n137 =>
      ldInt H67 ⟨modified, 1, none⟩ .i64 fun n138 =>
      ldInt H67 ⟨created, 0, none⟩ .i64 fun n139 =>
      ldInt H67 ⟨created, 1, none⟩ .i64 fun n140 =>
      R (.returned (.tuple ⟨[(.agg ⟨[(.int .i64 n137), (.int .i64 n138)]⟩), (.agg ⟨[(.int .i64 n139), (.int .i64 n140)]⟩), (.int .i64 (IntKind.wrap .i64 (n136 - (IntKind.wrap .i64 ((IntKind.wrap .i64 (((q29n : Nat) : Int) - n5)) - (1 : Int)))))), .nilIface]⟩)) H67) ∧
    (
      nilD p fun a75 =>
      nilD p fun a76 =>
      nilD p fun a77 =>
      nilD p fun a78 =>
      ldSl H7 (Addr.add a75 3) fun q30 q30n q30c =>
      idxD q30 q30n n5 fun a79 =>
      ldInt H7 (Addr.add a79 (Int.toNat n5 * 2)) .i64 fun n141 =>
      ldInt H7 (Addr.add (Addr.add a79 (Int.toNat n5 * 2)) 1) .i64 fun n142 =>
      ldSl H7 (Addr.add a78 3) fun q31 q31n q31c =>
      st1 H7 ⟨modified, 0, none⟩ (.int .i64 n141) fun H68 =>
      st1 H68 ⟨modified, 1, none⟩ (.int .i64 n142) fun H69 =>
      ldInt H69 (Addr.add a76 1) .i64 fun n143 =>
      ldInt H69 (Addr.add (Addr.add a76 1) 1) .i64 fun n144 =>
      st1 H69 ⟨created, 0, none⟩ (.int .i64 n143) fun H70 =>
      st1 H70 ⟨created, 1, none⟩ (.int .i64 n144) fun H71 =>
      ldInt H71 a77 .i64 fun n145 =>
      ldInt H71 ⟨modified, 0, none⟩ .i64 fun n146 =>
      ldInt H71 ⟨modified, 1, none⟩ .i64 fun n147 =>
      ldInt H71 ⟨created, 0, none⟩ .i64 fun n148 =>
      ldInt H71 ⟨created, 1, none⟩ .i64 fun n149 =>
      R (.returned (.tuple ⟨[(.agg ⟨[(.int .i64 n146), (.int .i64 n147)]⟩), (.agg ⟨[(.int .i64 n148), (.int .i64 n149)]⟩), (.int .i64 (IntKind.wrap .i64 (n145 - (IntKind.wrap .i64 ((IntKind.wrap .i64 (((q31n : Nat) : Int) - n5)) - (1 : Int)))))), .nilIface]⟩)) H71) ∧
    (
      nilD p fun a80 =>
      nilD p fun a81 =>
      nilD p fun a82 =>
      nilD p fun a83 =>
      ldSl H7 (Addr.add a80 3) fun q32 q32n q32c =>
      idxD q32 q32n n5 fun a84 =>
      ldInt H7 (Addr.add a84 (Int.toNat n5 * 2)) .i64 fun n150 =>
      ldInt H7 (Addr.add (Addr.add a84 (Int.toNat n5 * 2)) 1) .i64 fun n151 =>
      st1 H7 ⟨modified, 0, none⟩ (.int .i64 n150) fun H72 =>
      st1 H72 ⟨modified, 1, none⟩ (.int .i64 n151) fun H73 =>
      ldInt H73 (Addr.add a81 1) .i64 fun n152 =>
      ldInt H73 (Addr.add (Addr.add a81 1) 1) .i64 fun n153 =>
      ldSl H73 (Addr.add a83 3) fun q33 q33n q33c =>
      st1 H73 ⟨created, 0, none⟩ (.int .i64 n152) fun H74 =>
      st1 H74 ⟨created, 1, none⟩ (.int .i64 n153) fun H75 =>
      ldInt H75 a82 .i64 fun n154 =>
      ldInt H75 ⟨modified, 0, none⟩ .i64 fun n155 =>
      ldInt H75 ⟨modified, 1, none⟩ .i64 fun n156 =>
      ldInt H75 ⟨created, 0, none⟩ .i64 fun n157 =>
      ldInt H75 ⟨created, 1, none⟩ .i64 fun n158 =>
      R (.returned (.tuple ⟨[(.agg ⟨[(.int .i64 n155), (.int .i64 n156)]⟩), (.agg ⟨[(.int .i64 n157), (.int .i64 n158)]⟩), (.int .i64 (IntKind.wrap .i64 (n154 - (IntKind.wrap .i64 ((IntKind.wrap .i64 (((q33n : Nat) : Int) - n5)) - (1 : Int)))))), .nilIface]⟩)) H75) ∧
    (
      nilD p fun a85 =>
      nilD p fun a86 =>
      nilD p fun a87 =>
      nilD p fun a88 =>
      ldSl H7 (Addr.add a85 3) fun q34 q34n q34c =>
      idxD q34 q34n n5 fun a89 =>
      ldInt H7 (Addr.add a89 (Int.toNat n5 * 2)) .i64 fun n159 =>
      ldInt H7 (Addr.add (Addr.add a89 (Int.toNat n5 * 2)) 1) .i64 fun n160 =>
      st1 H7 ⟨modified, 0, none⟩ (.int .i64 n159) fun H76 =>
      st1 H76 ⟨modified, 1, none⟩ (.int .i64 n160) fun H77 =>
      ldInt H77 (Addr.add a86 1) .i64 fun n161 =>
      ldInt H77 (Addr.add (Addr.add a86 1) 1) .i64 fun n162 =>
      st1 H77 ⟨created, 0, none⟩ (.int .i64 n161) fun H78 =>
      st1 H78 ⟨created, 1, none⟩ (.int .i64 n162) fun H79 =>
      ldInt H79 a87 .i64 fun n163 =>
      ldSl H79 (Addr.add a88 3) fun q35 q35n q35c =>
      ldInt H79 ⟨modified, 0, none⟩ .i64 fun n164 =>
      ldInt H79 ⟨modified, 1, none⟩ .i64 fun n165 =>
      ldInt H79 ⟨created, 0, none⟩ .i64 fun n166 =>
      ldInt H79 ⟨created, 1, none⟩ .i64 fun n167 =>
      R (.returned (.tuple ⟨[(.agg ⟨[(.int .i64 n164), (.int .i64 n165)]⟩), (.agg ⟨[(.int .i64 n166), (.int .i64 n167)]⟩), (.int .i64 (IntKind.wrap .i64 (n163 - (IntKind.wrap .i64 ((IntKind.wrap .i64 (((q35n : Nat) : Int) - n5)) - (1 : Int)))))), .nilIface]⟩)) H79)) <|
  st1 H7 ⟨modified, 0, none⟩ (.int .i64 (0 : Int)) fun H80 =>
  st1 H80 ⟨modified, 1, none⟩ (.int .i64 (0 : Int)) fun H81 =>
  st1 H81 ⟨created, 0, none⟩ (.int .i64 (0 : Int)) fun H82 =>
  st1 H82 ⟨created, 1, none⟩ (.int .i64 (0 : Int)) fun H83 =>
  ldInt H83 ⟨modified, 0, none⟩ .i64 fun n168 =>
  ldInt H83 ⟨modified, 1, none⟩ .i64 fun n169 =>
  ldInt H83 ⟨created, 0, none⟩ .i64 fun n170 =>
  ldInt H83 ⟨created, 1, none⟩ .i64 fun n171 =>
  R (.returned (.tuple ⟨[(.agg ⟨[(.int .i64 n168), (.int .i64 n169)]⟩), (.agg ⟨[(.int .i64 n170), (.int .i64 n171)]⟩), (.int .i64 (0 : Int)), (.iface 122 (.string (ByteArray.mk #[109, 118, 99, 99, 58, 32, 114, 101, 118, 105, 115, 105, 111, 110, 32, 110, 111, 116, 32, 102, 111, 117, 110, 100])))]⟩)) H83
theorem L0_step {ki : Option Addr} {atRev : Nat} {modified : Nat} {created : Nat} {H : Heap} {R : Ending → Heap → Prop} (h : L0n ki atRev modified created H R) : L0 ki atRev modified created H R :=
  goL_of_den (an := an) (fuel := 100000) (X := L0n ki atRev modified created H R) mixed fn (by kernel_rfl) (fun ρ0 => by kernel_rfl) h
def go (ki : Option Addr) (lg : Option Addr) (atRev : Int) (H : Heap) (R : Ending → Heap → Prop) : Prop :=
  newD H (.cells ⟨[(.int .i64 atRev)]⟩ 2) fun r H1 =>
  newD H1 (.cells ⟨[(.int .i64 (0 : Int)), (.int .i64 (0 : Int))]⟩ 60) fun r1 H2 =>
  newD H2 (.cells ⟨[(.int .i64 (0 : Int)), (.int .i64 (0 : Int))]⟩ 60) fun r2 H3 =>
  callD Try.prog 65 [(.pointer ki)] H3 (panK R) fun v H4 =>
  tBool v fun b =>
  iteB b (
    panD (.iface 9 (.string (ByteArray.mk #[39, 103, 101, 116, 39, 32, 103, 111, 116, 32, 97, 110, 32, 117, 110, 101, 120, 112, 101, 99, 116, 101, 100, 32, 101, 109, 112, 116, 121, 32, 107, 101, 121, 73, 110, 100, 101, 120]))) H4 (panK R)) <|
  L0 ki r r1 r2 H4 R
theorem calls {ki : Option Addr} {lg : Option Addr} {atRev : Int} {H : Heap} {R : Ending → Heap → Prop} (h : go ki lg atRev H R) : CallsH Try.prog 59 ⟨[(.pointer ki), (.pointer lg), (.int .i64 atRev)]⟩ H R :=
  callsH_of_den (an := an) (fuel := 100000) (X := go ki lg atRev H R) (c := body) mixed fn (by kernel_rfl) (by kernel_rfl) (by kernel_rfl) ok (by kernel_rfl) h
end F59
/-! ### 60 "(*pub-stadtholder/pub/etcdserver/storage/mvcc.keyIndex).since" -/
namespace F60
def an : Ann := { kinds := [], taus := [], pairs := [], lab := [(10000004, [0, 2]), (40000007, [0, 7, 8]), (10000012, [0, 7, 8]), (40000014, [0, 7, 8, 10, 11]), (80000017, [0, 7, 8, 10, 11, 57, 58, 59]), (80000024, [0, 7, 8, 10, 11, 57, 58, 59]), (40000008, [0, 7, 8])] }
noncomputable def body : Code := (Try.f60.body).getD .skip
theorem fn : Try.prog.funcs[60]? = some Try.f60 := by kernel_rfl
theorem ok : codeOk an 84 body = true := by kernel_rfl
noncomputable def L0t : List Item := [.code (sub [1, 1] body)]
def L0 (s0 : Option Addr) (s2 : Int) (H : Heap) (R : Ending → Heap → Prop) : Prop :=
  GoL Try.prog 60 84 L0t [0, 2] [(.pointer s0), (.int .i64 s2)] H R
noncomputable def L1t : List Item := [.code (sub [1, 1, 1, 1, 0, 1, 0, 0] body), .inLoop (sub [1, 1, 1, 1, 0, 1, 0, 0] body), .inBlock 0, .code (sub [1, 1, 1, 1, 1] body)]
def L1 (s0 : Option Addr) (s7 : Nat) (s8 : Int) (H : Heap) (R : Ending → Heap → Prop) : Prop :=
  GoL Try.prog 60 84 L1t [0, 7, 8] [(.pointer s0), (.pointer (some ⟨s7, 0, none⟩)), (.int .i64 s8)] H R
noncomputable def L2t : List Item := [.code (sub [1, 1, 1, 1, 1] body)]
def L2 (s0 : Option Addr) (s7 : Nat) (s8 : Int) (H : Heap) (R : Ending → Heap → Prop) : Prop :=
  GoL Try.prog 60 84 L2t [0, 7, 8] [(.pointer s0), (.pointer (some ⟨s7, 0, none⟩)), (.int .i64 s8)] H R
noncomputable def L3t : List Item := [.code (sub [1, 1, 1, 1, 1, 1, 1, 0, 0, 0] body), .inLoop (sub [1, 1, 1, 1, 1, 1, 1, 0, 0, 0] body), .inBlock 2, .code (sub [1, 1, 1, 1, 1, 1, 1, 1] body)]
def L3 (s0 : Option Addr) (s7 : Nat) (s8 : Int) (s10 : Option Addr) (s10n : Nat) (s10c : Nat) (s11 : Int) (H : Heap) (R : Ending → Heap → Prop) : Prop :=
  GoL Try.prog 60 84 L3t [0, 7, 8, 10, 11] [(.pointer s0), (.pointer (some ⟨s7, 0, none⟩)), (.int .i64 s8), (.slice s10 s10n s10c), (.int .i64 s11)] H R
noncomputable def L4t : List Item := [.code (sub [1, 1, 1, 1, 1, 1, 1, 0, 0, 0, 1, 0, 0, 1, 0, 0] body), .inLoop (sub [1, 1, 1, 1, 1, 1, 1, 0, 0, 0, 1, 0, 0, 1, 0, 0] body), .inBlock 4, .inBlock 3, .code (sub [1, 1, 1, 1, 1, 1, 1, 0, 0, 0, 1, 1] body), .inLoop (sub [1, 1, 1, 1, 1, 1, 1, 0, 0, 0] body), .inBlock 2, .code (sub [1, 1, 1, 1, 1, 1, 1, 1] body)]
def L4 (s0 : Option Addr) (s7 : Nat) (s8 : Int) (s10 : Option Addr) (s10n : Nat) (s10c : Nat) (s11 : Int) (s57 : Option Addr) (s57n : Nat) (s57c : Nat) (s58 : Int) (s59 : Int) (H : Heap) (R : Ending → Heap → Prop) : Prop :=
  GoL Try.prog 60 84 L4t [0, 7, 8, 10, 11, 57, 58, 59] [(.pointer s0), (.pointer (some ⟨s7, 0, none⟩)), (.int .i64 s8), (.slice s10 s10n s10c), (.int .i64 s11), (.slice s57 s57n s57c), (.int .i64 s58), (.int .i64 s59)] H R
noncomputable def L5t : List Item := [.code (sub [1, 1, 1, 1, 1, 1, 1, 0, 0, 0, 1, 0, 0, 1, 0, 0, 1, 1, 1] body), .inLoop (sub [1, 1, 1, 1, 1, 1, 1, 0, 0, 0, 1, 0, 0, 1, 0, 0] body), .inBlock 4, .inBlock 3, .code (sub [1, 1, 1, 1, 1, 1, 1, 0, 0, 0, 1, 1] body), .inLoop (sub [1, 1, 1, 1, 1, 1, 1, 0, 0, 0] body), .inBlock 2, .code (sub [1, 1, 1, 1, 1, 1, 1, 1] body)]
def L5 (s0 : Option Addr) (s7 : Nat) (s8 : Int) (s10 : Option Addr) (s10n : Nat) (s10c : Nat) (s11 : Int) (s57 : Option Addr) (s57n : Nat) (s57c : Nat) (s58 : Int) (s59 : Int) (H : Heap) (R : Ending → Heap → Prop) : Prop :=
  GoL Try.prog 60 84 L5t [0, 7, 8, 10, 11, 57, 58, 59] [(.pointer s0), (.pointer (some ⟨s7, 0, none⟩)), (.int .i64 s8), (.slice s10 s10n s10c), (.int .i64 s11), (.slice s57 s57n s57c), (.int .i64 s58), (.int .i64 s59)] H R
noncomputable def L6t : List Item := [.code (sub [1, 1, 1, 1, 0, 1, 0, 0, 1, 1] body), .inLoop (sub [1, 1, 1, 1, 0, 1, 0, 0] body), .inBlock 0, .code (sub [1, 1, 1, 1, 1] body)]
def L6 (s0 : Option Addr) (s7 : Nat) (s8 : Int) (H : Heap) (R : Ending → Heap → Prop) : Prop :=
  GoL Try.prog 60 84 L6t [0, 7, 8] [(.pointer s0), (.pointer (some ⟨s7, 0, none⟩)), (.int .i64 s8)] H R
def L0n (s0 : Option Addr) (s2 : Int) (H : Heap) (R : Ending → Heap → Prop) : Prop :=
  newD H (.cells ⟨[(.int .i64 (0 : Int)), (.int .i64 (0 : Int))]⟩ 60) fun r H1 =>
  st1 H1 ⟨r, 0, none⟩ (.int .i64 s2) fun H2 =>
  st1 H2 ⟨r, 1, none⟩ (.int .i64 (0 : Int)) fun H3 =>
  nilD s0 fun a =>
  ldSl H3 (Addr.add a 3) fun q qn qc =>
  L1 s0 r (IntKind.wrap .i64 (((qn : Nat) : Int) - (1 : Int))) H3 R
theorem L0_step {s0 : Option Addr} {s2 : Int} {H : Heap} {R : Ending → Heap → Prop} (h : L0n s0 s2 H R) : L0 s0 s2 H R :=
  goL_of_den (an := an) (fuel := 100000) (X := L0n s0 s2 H R) mixed fn (by kernel_rfl) (fun ρ0 => by kernel_rfl) h
def L1n (s0 : Option Addr) (s7 : Nat) (s8 : Int) (H : Heap) (R : Ending → Heap → Prop) : Prop :=
  iteB (decide (s8 > (0 : Int))) (
    nilD s0 fun a =>
    ldSl H (Addr.add a 3) fun q qn qc =>
    idxD q qn s8 fun a1 =>
    ldInt H (Addr.add a1 (Int.toNat s8 * 4)) .i64 fun n =>
    ldInt H (Addr.add (Addr.add a1 (Int.toNat s8 * 4)) 1) .i64 fun n1 =>
    ldInt H (Addr.add (Addr.add a1 (Int.toNat s8 * 4)) 2) .i64 fun n2 =>
    ldSl H (Addr.add (Addr.add a1 (Int.toNat s8 * 4)) 3) fun q1 q1n q1c =>
    newD H (.cells ⟨[(.int .i64 (0 : Int)), (.int .i64 (0 : Int)), (.int .i64 (0 : Int)), (.slice none 0 0)]⟩ 105) fun r H1 =>
    st1 H1 ⟨r, 0, none⟩ (.int .i64 n) fun H2 =>
    st1 H2 ⟨r, 1, none⟩ (.int .i64 n1) fun H3 =>
    st1 H3 ⟨r, 2, none⟩ (.int .i64 n2) fun H4 =>
    st1 H4 ⟨r, 3, none⟩ (.slice q1 q1n q1c) fun H5 =>
    callD Try.prog 68 [(.pointer (some ⟨r, 0, none⟩))] H5 (panK R) fun v H6 =>
    tBool v fun b =>
    iteB b (
      L6 s0 s7 s8 H6 R) <|
    ldInt H6 ⟨s7, 0, none⟩ .i64 fun n3 =>
    ldInt H6 ⟨s7, 1, none⟩ .i64 fun n4 =>
    ldInt H6 ⟨r, 1, none⟩ .i64 fun n5 =>
    ldInt H6 ⟨r, 2, none⟩ .i64 fun n6 =>
    callD Try.prog 67 [(.agg ⟨[(.int .i64 n3), (.int .i64 n4)]⟩), (.agg ⟨[(.int .i64 n5), (.int .i64 n6)]⟩)] H6 (panK R) fun v1 H7 =>
    tBool v1 fun b1 =>
    iteB b1 (
      L2 s0 s7 s8 H7 R) <|
    L6 s0 s7 s8 H7 R) <|
  L2 s0 s7 s8 H R
theorem L1_step {s0 : Option Addr} {s7 : Nat} {s8 : Int} {H : Heap} {R : Ending → Heap → Prop} (h : L1n s0 s7 s8 H R) : L1 s0 s7 s8 H R :=
  goL_of_den (an := an) (fuel := 100000) (X := L1n s0 s7 s8 H R) mixed fn (by kernel_rfl) (fun ρ0 => by kernel_rfl) h
def L2n (s0 : Option Addr) (s7 : Nat) (s8 : Int) (H : Heap) (R : Ending → Heap → Prop) : Prop :=
  L3 s0 s7 s8 none 0 0 (0 : Int) H R
theorem L2_step {s0 : Option Addr} {s7 : Nat} {s8 : Int} {H : Heap} {R : Ending → Heap → Prop} (h : L2n s0 s7 s8 H R) : L2 s0 s7 s8 H R :=
  goL_of_den (an := an) (fuel := 100000) (X := L2n s0 s7 s8 H R) mixed fn (by kernel_rfl) (fun ρ0 => by kernel_rfl) h
def L3n (s0 : Option Addr) (s7 : Nat) (s8 : Int) (s10 : Option Addr) (s10n : Nat) (s10c : Nat) (s11 : Int) (H : Heap) (R : Ending → Heap → Prop) : Prop :=
  nilD s0 fun a =>
  ldSl H (Addr.add a 3) fun q qn qc =>
  iteB (decide (s8 < ((qn : Nat) : Int))) (
    nilD s0 fun a1 =>
    ldSl H (Addr.add a1 3) fun q1 q1n q1c =>
    idxD q1 q1n s8 fun a2 =>
    ldSl H (Addr.add (Addr.add a2 (Int.toNat s8 * 4)) 3) fun q2 q2n q2c =>
    L4 s0 s7 s8 s10 s10n s10c s11 q2 q2n q2c ((q2n : Nat) : Int) (0 : Int) H R) <|
  R (.returned (.slice s10 s10n s10c)) H
theorem L3_step {s0 : Option Addr} {s7 : Nat} {s8 : Int} {s10 : Option Addr} {s10n : Nat} {s10c : Nat} {s11 : Int} {H : Heap} {R : Ending → Heap → Prop} (h : L3n s0 s7 s8 s10 s10n s10c s11 H R) : L3 s0 s7 s8 s10 s10n s10c s11 H R :=
  goL_of_den (an := an) (fuel := 100000) (X := L3n s0 s7 s8 s10 s10n s10c s11 H R) mixed fn (by kernel_rfl) (fun ρ0 => by kernel_rfl) h
def L4n (s0 : Option Addr) (s7 : Nat) (s8 : Int) (s10 : Option Addr) (s10n : Nat) (s10c : Nat) (s11 : Int) (s57 : Option Addr) (s57n : Nat) (s57c : Nat) (s58 : Int) (s59 : Int) (H : Heap) (R : Ending → Heap → Prop) : Prop :=
  iteB (decide (s59 < s58)) (
    idxD s57 s57n s59 fun a =>
    ldInt H (Addr.add a (Int.toNat s59 * 2)) .i64 fun n =>
    ldInt H (Addr.add (Addr.add a (Int.toNat s59 * 2)) 1) .i64 fun n1 =>
    newD H (.cells ⟨[(.int .i64 (0 : Int)), (.int .i64 (0 : Int))]⟩ 60) fun r H1 =>
    st1 H1 ⟨r, 0, none⟩ (.int .i64 n) fun H2 =>
    st1 H2 ⟨r, 1, none⟩ (.int .i64 n1) fun H3 =>
    ldInt H3 ⟨s7, 0, none⟩ .i64 fun n2 =>
    ldInt H3 ⟨s7, 1, none⟩ .i64 fun n3 =>
    ldInt H3 ⟨r, 0, none⟩ .i64 fun n4 =>
    ldInt H3 ⟨r, 1, none⟩ .i64 fun n5 =>
    callD Try.prog 67 [(.agg ⟨[(.int .i64 n2), (.int .i64 n3)]⟩), (.agg ⟨[(.int .i64 n4), (.int .i64 n5)]⟩)] H3 (panK R) fun v H4 =>
    tBool v fun b =>
    iteB b (
      L5 s0 s7 s8 s10 s10n s10c s11 s57 s57n s57c s58 s59 H4 R) <|
    ldInt H4 ⟨r, 0, none⟩ .i64 fun n6 =>
    iteB (n6 == s11) (
      ldInt H4 ⟨r, 0, none⟩ .i64 fun n7 =>
      ldInt H4 ⟨r, 1, none⟩ .i64 fun n8 =>
      idxD s10 s10n (IntKind.wrap .i64 (((s10n : Nat) : Int) - (1 : Int))) fun a1 =>
      st1 H4 (Addr.add a1 (Int.toNat (IntKind.wrap .i64 (((s10n : Nat) : Int) - (1 : Int))) * 2)) (.int .i64 n7) fun H5 =>
      st1 H5 (Addr.add (Addr.add a1 (Int.toNat (IntKind.wrap .i64 (((s10n : Nat) : Int) - (1 : Int))) * 2)) 1) (.int .i64 n8) fun H6 =>
      L5 s0 s7 s8 s10 s10n s10c s11 s57 s57n s57c s58 s59 H6 R) <|
    ldInt H4 ⟨r, 0, none⟩ .i64 fun n9 =>
    ldInt H4 ⟨r, 1, none⟩ .i64 fun n10 =>
    newD H4 (.cells ⟨[(.int .i64 n9), (.int .i64 n10)]⟩ 60) fun r1 H7 =>
    apD H7 2 16 [(.int .i64 (0 : Int)), (.int .i64 (0 : Int))] 60 s10 s10n s10c (some ⟨r1, 0, none⟩) 1 fun q qn qc H8 =>
    ldInt H8 ⟨r, 0, none⟩ .i64 fun n11 =>
    L5 s0 s7 s8 q qn qc n11 s57 s57n s57c s58 s59 H8 R) <|
  L3 s0 s7 (IntKind.wrap .i64 (s8 + (1 : Int))) s10 s10n s10c s11 H R
theorem L4_step {s0 : Option Addr} {s7 : Nat} {s8 : Int} {s10 : Option Addr} {s10n : Nat} {s10c : Nat} {s11 : Int} {s57 : Option Addr} {s57n : Nat} {s57c : Nat} {s58 : Int} {s59 : Int} {H : Heap} {R : Ending → Heap → Prop} (h : L4n s0 s7 s8 s10 s10n s10c s11 s57 s57n s57c s58 s59 H R) : L4 s0 s7 s8 s10 s10n s10c s11 s57 s57n s57c s58 s59 H R :=
  goL_of_den (an := an) (fuel := 100000) (X := L4n s0 s7 s8 s10 s10n s10c s11 s57 s57n s57c s58 s59 H R) mixed fn (by kernel_rfl) (fun ρ0 => by kernel_rfl) h
def L5n (s0 : Option Addr) (s7 : Nat) (s8 : Int) (s10 : Option Addr) (s10n : Nat) (s10c : Nat) (s11 : Int) (s57 : Option Addr) (s57n : Nat) (s57c : Nat) (s58 : Int) (s59 : Int) (H : Heap) (R : Ending → Heap → Prop) : Prop :=
  L4 s0 s7 s8 s10 s10n s10c s11 s57 s57n s57c s58 (IntKind.wrap .i64 (s59 + (1 : Int))) H R
theorem L5_step {s0 : Option Addr} {s7 : Nat} {s8 : Int} {s10 : Option Addr} {s10n : Nat} {s10c : Nat} {s11 : Int} {s57 : Option Addr} {s57n : Nat} {s57c : Nat} {s58 : Int} {s59 : Int} {H : Heap} {R : Ending → Heap → Prop} (h : L5n s0 s7 s8 s10 s10n s10c s11 s57 s57n s57c s58 s59 H R) : L5 s0 s7 s8 s10 s10n s10c s11 s57 s57n s57c s58 s59 H R :=
  goL_of_den (an := an) (fuel := 100000) (X := L5n s0 s7 s8 s10 s10n s10c s11 s57 s57n s57c s58 s59 H R) mixed fn (by kernel_rfl) (fun ρ0 => by kernel_rfl) h
def L6n (s0 : Option Addr) (s7 : Nat) (s8 : Int) (H : Heap) (R : Ending → Heap → Prop) : Prop :=
  L1 s0 s7 (IntKind.wrap .i64 (s8 - (1 : Int))) H R
theorem L6_step {s0 : Option Addr} {s7 : Nat} {s8 : Int} {H : Heap} {R : Ending → Heap → Prop} (h : L6n s0 s7 s8 H R) : L6 s0 s7 s8 H R :=
  goL_of_den (an := an) (fuel := 100000) (X := L6n s0 s7 s8 H R) mixed fn (by kernel_rfl) (fun ρ0 => by kernel_rfl) h
def go (s0 : Option Addr) (s1 : Option Addr) (s2 : Int) (H : Heap) (R : Ending → Heap → Prop) : Prop :=
  callD Try.prog 65 [(.pointer s0)] H (panK R) fun v H1 =>
  tBool v fun b =>
  iteB b (
    panD (.iface 9 (.string (ByteArray.mk #[39, 115, 105, 110, 99, 101, 39, 32, 103, 111, 116, 32, 97, 110, 32, 117, 110, 101, 120, 112, 101, 99, 116, 101, 100, 32, 101, 109, 112, 116, 121, 32, 107, 101, 121, 73, 110, 100, 101, 120]))) H1 (panK R)) <|
  L0 s0 s2 H1 R
theorem calls {s0 : Option Addr} {s1 : Option Addr} {s2 : Int} {H : Heap} {R : Ending → Heap → Prop} (h : go s0 s1 s2 H R) : CallsH Try.prog 60 ⟨[(.pointer s0), (.pointer s1), (.int .i64 s2)]⟩ H R :=
  callsH_of_den (an := an) (fuel := 100000) (X := go s0 s1 s2 H R) (c := body) mixed fn (by kernel_rfl) (by kernel_rfl) (by kernel_rfl) ok (by kernel_rfl) h
end F60
/-! ### 61 "slices.SortFunc[[]pub-stadtholder/impl.Rev,pub-stadtholder/impl.Rev]" -/
namespace F61
def an : Ann := { kinds := [], taus := [], pairs := [], lab := [] }
noncomputable def body : Code := (Try.f61.body).getD .skip
theorem fn : Try.prog.funcs[61]? = some Try.f61 := by kernel_rfl
theorem ok : codeOk an 14 body = true := by kernel_rfl
def go (x : Option Addr) (xn : Nat) (xc : Nat) (cmp : FV) (H : Heap) (R : Ending → Heap → Prop) : Prop :=
  callD Try.prog 72 [(.int .u64 (IntKind.wrap .u64 ((xn : Nat) : Int)))] H (panK R) fun v H1 =>
  tInt v .i64 fun n =>
  callD Try.prog 71 [(.slice x xn xc), (.int .i64 (0 : Int)), (.int .i64 ((xn : Nat) : Int)), (.int .i64 n), (FV.v cmp)] H1 (panK R) fun v1 H2 =>
  tTup v1 fun l =>
  tNil l <|
  R (.returned (.tuple ⟨[]⟩)) H2
theorem calls {x : Option Addr} {xn : Nat} {xc : Nat} {cmp : FV} {H : Heap} {R : Ending → Heap → Prop} (h : go x xn xc cmp H R) : CallsH Try.prog 61 ⟨[(.slice x xn xc), (FV.v cmp)]⟩ H R :=
  callsH_of_den (an := an) (fuel := 100000) (X := go x xn xc cmp H R) (c := body) mixed fn (by kernel_rfl) (by kernel_rfl) (by kernel_rfl) ok (by kernel_rfl) h
end F61
/-! ### 62 "pub-stadtholder/impl.kept$1" -/
namespace F62
def an : Ann := { kinds := [], taus := [], pairs := [], lab := [(30000004, [2, 3])] }
noncomputable def body : Code := (Try.f62.body).getD .skip
theorem fn : Try.prog.funcs[62]? = some Try.f62 := by kernel_rfl
theorem ok : codeOk an 29 body = true := by kernel_rfl
noncomputable def L0t : List Item := [.code (sub [1, 0, 0, 1, 1] body), .inBlock 0, .code (sub [1, 1] body)]
def L0 (a : Nat) (b : Nat) (H : Heap) (R : Ending → Heap → Prop) : Prop :=
  GoL Try.prog 62 29 L0t [2, 3] [(.pointer (some ⟨a, 0, none⟩)), (.pointer (some ⟨b, 0, none⟩))] H R
def L0n (a : Nat) (b : Nat) (H : Heap) (R : Ending → Heap → Prop) : Prop :=
  ldInt H ⟨a, 0, none⟩ .i64 fun n =>
  ldInt H ⟨a, 1, none⟩ .i64 fun n1 =>
  ldInt H ⟨b, 0, none⟩ .i64 fun n2 =>
  ldInt H ⟨b, 1, none⟩ .i64 fun n3 =>
  rawB Try.prog .eql 31 (.agg ⟨[(.int .i64 n), (.int .i64 n1)]⟩) (.agg ⟨[(.int .i64 n2), (.int .i64 n3)]⟩) fun b1 =>
  iteB b1 (
    R (.returned (.int .i64 (0 : Int))) H) <|
  R (.returned (.int .i64 (1 : Int))) H
theorem L0_step {a : Nat} {b : Nat} {H : Heap} {R : Ending → Heap → Prop} (h : L0n a b H R) : L0 a b H R :=
  goL_of_den (an := an) (fuel := 100000) (X := L0n a b H R) mixed fn (by kernel_rfl) (fun ρ0 => by kernel_rfl) h
def go (a_0 : Int) (a_1 : Int) (b_0 : Int) (b_1 : Int) (H : Heap) (R : Ending → Heap → Prop) : Prop :=
  newD H (.cells ⟨[(.int .i64 a_0), (.int .i64 a_1)]⟩ 31) fun r H1 =>
  newD H1 (.cells ⟨[(.int .i64 b_0), (.int .i64 b_1)]⟩ 31) fun r1 H2 =>
  ldInt H2 ⟨r, 0, none⟩ .i64 fun n =>
  ldInt H2 ⟨r1, 0, none⟩ .i64 fun n1 =>
  iteB (decide (n < n1)) (
    R (.returned (.int .i64 (-1 : Int))) H2) <|
  ldInt H2 ⟨r, 0, none⟩ .i64 fun n2 =>
  ldInt H2 ⟨r1, 0, none⟩ .i64 fun n3 =>
  iteB (n2 == n3) (
    ldInt H2 ⟨r, 1, none⟩ .i64 fun n4 =>
    ldInt H2 ⟨r1, 1, none⟩ .i64 fun n5 =>
    iteB (decide (n4 < n5)) (
      R (.returned (.int .i64 (-1 : Int))) H2) <|
    L0 r r1 H2 R) <|
  L0 r r1 H2 R
theorem calls {a_0 : Int} {a_1 : Int} {b_0 : Int} {b_1 : Int} {H : Heap} {R : Ending → Heap → Prop} (h : go a_0 a_1 b_0 b_1 H R) : CallsH Try.prog 62 ⟨[(.agg ⟨[(.int .i64 a_0), (.int .i64 a_1)]⟩), (.agg ⟨[(.int .i64 b_0), (.int .i64 b_1)]⟩)]⟩ H R :=
  callsH_of_den (an := an) (fuel := 100000) (X := go a_0 a_1 b_0 b_1 H R) (c := body) mixed fn (by kernel_rfl) (by kernel_rfl) (by kernel_rfl) ok (by kernel_rfl) h
end F62
/-! ### 63 "(*pub-stadtholder/pub/etcdserver/storage/mvcc.keyIndex).compact" -/
namespace F63
def an : Ann := { kinds := [], taus := [], pairs := [], lab := [(10000003, [0, 2, 3]), (10000008, [0, 8])] }
noncomputable def body : Code := (Try.f63.body).getD .skip
theorem fn : Try.prog.funcs[63]? = some Try.f63 := by kernel_rfl
theorem ok : codeOk an 50 body = true := by kernel_rfl
noncomputable def L0t : List Item := [.code (sub [1] body)]
def L0 (ki : Option Addr) (atRev : Int) (available : Option Nat) (H : Heap) (R : Ending → Heap → Prop) : Prop :=
  GoL Try.prog 63 50 L0t [0, 2, 3] [(.pointer ki), (.int .i64 atRev), (.map available)] H R
noncomputable def L1t : List Item := [.code (sub [1, 1, 1, 1] body)]
def L1 (ki : Option Addr) (genIdx : Int) (H : Heap) (R : Ending → Heap → Prop) : Prop :=
  GoL Try.prog 63 50 L1t [0, 8] [(.pointer ki), (.int .i64 genIdx)] H R
def L0n (ki : Option Addr) (atRev : Int) (available : Option Nat) (H : Heap) (R : Ending → Heap → Prop) : Prop :=
  callD Try.prog 73 [(.pointer ki), (.int .i64 atRev), (.map available)] H (panK R) fun v H1 =>
  tTup v fun l =>
  tCons l fun c l1 =>
  tInt c .i64 fun n =>
  tCons l1 fun c1 l2 =>
  tInt c1 .i64 fun n1 =>
  tNil l2 <|
  nilD ki fun a =>
  ldSl H1 (Addr.add a 3) fun q qn qc =>
  idxD q qn n fun a1 =>
  callD Try.prog 68 [(.pointer (some (Addr.add a1 (Int.toNat n * 4))))] H1 (panK R) fun v1 H2 =>
  tBool v1 fun b =>
  iteB (!b) (
    iteB (n1 != (-1 : Int)) (
      ldSl H2 (Addr.add (Addr.add a1 (Int.toNat n * 4)) 3) fun q1 q1n q1c =>
      bndD n1 q1n fun k =>
      st1 H2 (Addr.add (Addr.add a1 (Int.toNat n * 4)) 3) (.slice (slP q1 k q1c 2) (q1n - k) (q1c - k)) fun H3 =>
      L1 ki n H3 R) <|
    L1 ki n H2 R) <|
  L1 ki n H2 R
theorem L0_step {ki : Option Addr} {atRev : Int} {available : Option Nat} {H : Heap} {R : Ending → Heap → Prop} (h : L0n ki atRev available H R) : L0 ki atRev available H R :=
  goL_of_den (an := an) (fuel := 100000) (X := L0n ki atRev available H R) mixed fn (by kernel_rfl) (fun ρ0 => by kernel_rfl) h
def L1n (ki : Option Addr) (genIdx : Int) (H : Heap) (R : Ending → Heap → Prop) : Prop :=
  nilD ki fun a =>
  ldSl H (Addr.add a 3) fun q qn qc =>
  bndD genIdx qn fun k =>
  nilD ki fun a1 =>
  st1 H (Addr.add a1 3) (.slice (slP q k qc 4) (qn - k) (qc - k)) fun H1 =>
  R (.returned (.tuple ⟨[]⟩)) H1
theorem L1_step {ki : Option Addr} {genIdx : Int} {H : Heap} {R : Ending → Heap → Prop} (h : L1n ki genIdx H R) : L1 ki genIdx H R :=
  goL_of_den (an := an) (fuel := 100000) (X := L1n ki genIdx H R) mixed fn (by kernel_rfl) (fun ρ0 => by kernel_rfl) h
def go (ki : Option Addr) (lg : Option Addr) (atRev : Int) (available : Option Nat) (H : Heap) (R : Ending → Heap → Prop) : Prop :=
  callD Try.prog 65 [(.pointer ki)] H (panK R) fun v H1 =>
  tBool v fun b =>
  iteB b (
    panD (.iface 9 (.string (ByteArray.mk #[39, 99, 111, 109, 112, 97, 99, 116, 39, 32, 103, 111, 116, 32, 97, 110, 32, 117, 110, 101, 120, 112, 101, 99, 116, 101, 100, 32, 101, 109, 112, 116, 121, 32, 107, 101, 121, 73, 110, 100, 101, 120]))) H1 (panK R)) <|
  L0 ki atRev available H1 R
theorem calls {ki : Option Addr} {lg : Option Addr} {atRev : Int} {available : Option Nat} {H : Heap} {R : Ending → Heap → Prop} (h : go ki lg atRev available H R) : CallsH Try.prog 63 ⟨[(.pointer ki), (.pointer lg), (.int .i64 atRev), (.map available)]⟩ H R :=
  callsH_of_den (an := an) (fuel := 100000) (X := go ki lg atRev available H R) (c := body) mixed fn (by kernel_rfl) (by kernel_rfl) (by kernel_rfl) ok (by kernel_rfl) h
end F63
/-! ### 64 "(*pub-stadtholder/pub/etcdserver/storage/mvcc.keyIndex).keep" -/
namespace F64
def an : Ann := { kinds := [(5008, .heavy 0)], taus := [], pairs := [], lab := [(10000006, [2, 7, 8])] }
noncomputable def body : Code := (Try.f64.body).getD .skip
theorem fn : Try.prog.funcs[64]? = some Try.f64 := by kernel_rfl
theorem ok : codeOk an 53 body = true := by kernel_rfl
noncomputable def L0t : List Item := [.code (sub [1, 1, 1, 1, 0, 1, 0] body)]
def L0 (available : Option Nat) (revIndex : Int) (g : Addr) (H : Heap) (R : Ending → Heap → Prop) : Prop :=
  GoL Try.prog 64 53 L0t [2, 7, 8] [(.map available), (.int .i64 revIndex), (.pointer (some g))] H R
def L0n (available : Option Nat) (revIndex : Int) (g : Addr) (H : Heap) (R : Ending → Heap → Prop) : Prop :=
  ldSl H (Addr.add g 3) fun q qn qc =>
  idxD q qn revIndex fun a =>
  ldInt H (Addr.add a (Int.toNat revIndex * 2)) .i64 fun n =>
  ldInt H (Addr.add (Addr.add a (Int.toNat revIndex * 2)) 1) .i64 fun n1 =>
  valD Try.prog (Builtin.delete_ #[96, 60] 0 ⟨[(.map available), (.agg ⟨[(.int .i64 n), (.int .i64 n1)]⟩)]⟩) H (panK R) fun v H1 =>
  tTup v fun l =>
  tNil l <|
  R (.returned (.tuple ⟨[]⟩)) H1
theorem L0_step {available : Option Nat} {revIndex : Int} {g : Addr} {H : Heap} {R : Ending → Heap → Prop} (h : L0n available revIndex g H R) : L0 available revIndex g H R :=
  goL_of_den (an := an) (fuel := 100000) (X := L0n available revIndex g H R) mixed fn (by kernel_rfl) (fun ρ0 => by kernel_rfl) h
def go (ki : Option Addr) (atRev : Int) (available : Option Nat) (H : Heap) (R : Ending → Heap → Prop) : Prop :=
  callD Try.prog 65 [(.pointer ki)] H (panK R) fun v H1 =>
  tBool v fun b =>
  iteB b (
    R (.returned (.tuple ⟨[]⟩)) H1) <|
  callD Try.prog 73 [(.pointer ki), (.int .i64 atRev), (.map available)] H1 (panK R) fun v1 H2 =>
  tTup v1 fun l =>
  tCons l fun c l1 =>
  tInt c .i64 fun n =>
  tCons l1 fun c1 l2 =>
  tInt c1 .i64 fun n1 =>
  tNil l2 <|
  nilD ki fun a =>
  ldSl H2 (Addr.add a 3) fun q qn qc =>
  idxD q qn n fun a1 =>
  callD Try.prog 68 [(.pointer (some (Addr.add a1 (Int.toNat n * 4))))] H2 (panK R) fun v2 H3 =>
  tBool v2 fun b1 =>
  iteB (!b1) (
    ldSl H3 (Addr.add (Addr.add a1 (Int.toNat n * 4)) 3) fun q1 q1n q1c =>
    iteB (n1 == (IntKind.wrap .i64 (((q1n : Nat) : Int) - (1 : Int)))) (
      nilD ki fun a2 =>
      ldSl H3 (Addr.add a2 3) fun q2 q2n q2c =>
      iteB (n != (IntKind.wrap .i64 (((q2n : Nat) : Int) - (1 : Int)))) (
        L0 available n1 (Addr.add a1 (Int.toNat n * 4)) H3 R) <|
      R (.returned (.tuple ⟨[]⟩)) H3) <|
    R (.returned (.tuple ⟨[]⟩)) H3) <|
  R (.returned (.tuple ⟨[]⟩)) H3
theorem calls {ki : Option Addr} {atRev : Int} {available : Option Nat} {H : Heap} {R : Ending → Heap → Prop} (h : go ki atRev available H R) : CallsH Try.prog 64 ⟨[(.pointer ki), (.int .i64 atRev), (.map available)]⟩ H R :=
  callsH_of_den (an := an) (fuel := 100000) (X := go ki atRev available H R) (c := body) mixed fn (by kernel_rfl) (by kernel_rfl) (by kernel_rfl) ok (by kernel_rfl) h
end F64
/-! ### 65 "(*pub-stadtholder/pub/etcdserver/storage/mvcc.keyIndex).isEmpty" -/
namespace F65
def an : Ann := { kinds := [], taus := [], pairs := [], lab := [] }
noncomputable def body : Code := (Try.f65.body).getD .skip
theorem fn : Try.prog.funcs[65]? = some Try.f65 := by kernel_rfl
theorem ok : codeOk an 17 body = true := by kernel_rfl
def go (ki : Option Addr) (H : Heap) (R : Ending → Heap → Prop) : Prop :=
  nilD ki fun a =>
  ldSl H (Addr.add a 3) fun q qn qc =>
  iteB (((qn : Nat) : Int) == (1 : Int)) (
    nilD ki fun a1 =>
    ldSl H (Addr.add a1 3) fun q1 q1n q1c =>
    idxD q1 q1n (0 : Int) fun a2 =>
    callD Try.prog 68 [(.pointer (some (Addr.add a2 (Int.toNat (0 : Int) * 4))))] H (panK R) fun v H1 =>
    tBool v fun b =>
    R (.returned (.bool b)) H1) <|
  R (.returned (.bool false)) H
theorem calls {ki : Option Addr} {H : Heap} {R : Ending → Heap → Prop} (h : go ki H R) : CallsH Try.prog 65 ⟨[(.pointer ki)]⟩ H R :=
  callsH_of_den (an := an) (fuel := 100000) (X := go ki H R) (c := body) mixed fn (by kernel_rfl) (by kernel_rfl) (by kernel_rfl) ok (by kernel_rfl) h
end F65
/-! ### 66 "pub-stadtholder/pub/etcdserver/storage/mvcc.zzOut" -/
namespace F66
def an : Ann := { kinds := [(5008, .grow), (5010, .grow)], taus := [(5, [[0, 2, 4, 6, 1, 3, 5, 7, 8, 9, 10, 11, 12, 13]])], pairs := [], lab := [(40000004, [2, 3, 14, 15, 16])] }
noncomputable def body : Code := (Try.f66.body).getD .skip
theorem fn : Try.prog.funcs[66]? = some Try.f66 := by kernel_rfl
theorem ok : codeOk an 35 body = true := by kernel_rfl
noncomputable def L0t : List Item := [.code (sub [1, 1, 0, 1, 0, 0] body), .inLoop (sub [1, 1, 0, 1, 0, 0] body), .inBlock 0, .code (sub [1, 1, 1] body)]
def L0 (s2 : Nat) (k : Nat) (s14 : Option Addr) (s14n : Nat) (s14c : Nat) (s15 : Int) (s16 : Int) (H : Heap) (R : Ending → Heap → Prop) : Prop :=
  GoL Try.prog 66 35 L0t [2, 3, 14, 15, 16] [(.pointer (some ⟨s2, 0, none⟩)), (.pointer (some ⟨k, 0, none⟩)), (.slice s14 s14n s14c), (.int .i64 s15), (.int .i64 s16)] H R
def L0n (s2 : Nat) (k : Nat) (s14 : Option Addr) (s14n : Nat) (s14c : Nat) (s15 : Int) (s16 : Int) (H : Heap) (R : Ending → Heap → Prop) : Prop :=
  iteB (decide (s16 < s15)) (
    idxD s14 s14n s16 fun a =>
    ldInt H (Addr.add a (Int.toNat s16 * 4)) .i64 fun n =>
    ldInt H (Addr.add (Addr.add a (Int.toNat s16 * 4)) 1) .i64 fun n1 =>
    ldInt H (Addr.add (Addr.add a (Int.toNat s16 * 4)) 2) .i64 fun n2 =>
    ldSl H (Addr.add (Addr.add a (Int.toNat s16 * 4)) 3) fun q qn qc =>
    newD H (.cells ⟨[(.int .i64 (0 : Int)), (.int .i64 (0 : Int)), (.int .i64 (0 : Int)), (.slice none 0 0)]⟩ 105) fun r H1 =>
    st1 H1 ⟨r, 0, none⟩ (.int .i64 n) fun H2 =>
    st1 H2 ⟨r, 1, none⟩ (.int .i64 n1) fun H3 =>
    st1 H3 ⟨r, 2, none⟩ (.int .i64 n2) fun H4 =>
    st1 H4 ⟨r, 3, none⟩ (.slice q qn qc) fun H5 =>
    ldSl H5 ⟨k, 2, none⟩ fun q1 q1n q1c =>
    ldInt H5 ⟨r, 0, none⟩ .i64 fun n3 =>
    ldInt H5 ⟨r, 1, none⟩ .i64 fun n4 =>
    ldInt H5 ⟨r, 2, none⟩ .i64 fun n5 =>
    ldSl H5 ⟨r, 3, none⟩ fun q2 q2n q2c =>
    apD H5 2 16 [(.int .i64 (0 : Int)), (.int .i64 (0 : Int))] 60 none 0 0 q2 q2n fun q3 q3n q3c H6 =>
    andD (ExtH H5 H6) <|
    newD H6 (.cells ⟨[(.int .i64 n3), (.int .i64 n4), (.int .i64 n5), (.slice q3 q3n q3c)]⟩ 84) fun r1 H7 =>
    apD H7 4 48 [(.int .i64 (0 : Int)), (.int .i64 (0 : Int)), (.int .i64 (0 : Int)), (.slice none 0 0)] 84 q1 q1n q1c (some ⟨r1, 0, none⟩) 1 fun q4 q4n q4c H8 =>
    st1 H8 ⟨k, 2, none⟩ (.slice q4 q4n q4c) fun H9 =>
    L0 s2 k s14 s14n s14c s15 (IntKind.wrap .i64 (s16 + (1 : Int))) H9 R) <|
  ldInt H ⟨k, 0, none⟩ .i64 fun n6 =>
  ldInt H ⟨k, 1, none⟩ .i64 fun n7 =>
  ldSl H ⟨k, 2, none⟩ fun q5 q5n q5c =>
  st1 H ⟨s2, 0, none⟩ (.int .i64 n6) fun H10 =>
  st1 H10 ⟨s2, 1, none⟩ (.int .i64 n7) fun H11 =>
  st1 H11 ⟨s2, 2, none⟩ (.slice q5 q5n q5c) fun H12 =>
  ldInt H12 ⟨s2, 0, none⟩ .i64 fun n8 =>
  ldInt H12 ⟨s2, 1, none⟩ .i64 fun n9 =>
  ldSl H12 ⟨s2, 2, none⟩ fun q6 q6n q6c =>
  R (.returned (.agg ⟨[(.int .i64 n8), (.int .i64 n9), (.slice q6 q6n q6c)]⟩)) H12
theorem L0_step {s2 : Nat} {k : Nat} {s14 : Option Addr} {s14n : Nat} {s14c : Nat} {s15 : Int} {s16 : Int} {H : Heap} {R : Ending → Heap → Prop} (h : L0n s2 k s14 s14n s14c s15 s16 H R) : L0 s2 k s14 s14n s14c s15 s16 H R :=
  goL_of_den (an := an) (fuel := 100000) (X := L0n s2 k s14 s14n s14c s15 s16 H R) mixed fn (by kernel_rfl) (fun ρ0 => by kernel_rfl) h
def go (ki : Option Addr) (H : Heap) (R : Ending → Heap → Prop) : Prop :=
  newD H (.cells ⟨[(.int .i64 (0 : Int)), (.int .i64 (0 : Int)), (.slice none 0 0)]⟩ 63) fun r H1 =>
  nilD ki fun a =>
  ldInt H1 (Addr.add a 1) .i64 fun n =>
  ldInt H1 (Addr.add (Addr.add a 1) 1) .i64 fun n1 =>
  newD H1 (.cells ⟨[(.int .i64 (0 : Int)), (.int .i64 (0 : Int)), (.slice none 0 0)]⟩ 63) fun r1 H2 =>
  st1 H2 ⟨r1, 0, none⟩ (.int .i64 n) fun H3 =>
  st1 H3 ⟨r1, 1, none⟩ (.int .i64 n1) fun H4 =>
  st1 H4 ⟨r1, 2, none⟩ (.slice none 0 0) fun H5 =>
  nilD ki fun a1 =>
  ldSl H5 (Addr.add a1 3) fun q qn qc =>
  L0 r r1 q qn qc ((qn : Nat) : Int) (0 : Int) H5 R
theorem calls {ki : Option Addr} {H : Heap} {R : Ending → Heap → Prop} (h : go ki H R) : CallsH Try.prog 66 ⟨[(.pointer ki)]⟩ H R :=
  callsH_of_den (an := an) (fuel := 100000) (X := go ki H R) (c := body) mixed fn (by kernel_rfl) (by kernel_rfl) (by kernel_rfl) ok (by kernel_rfl) h
end F66
/-! ### 67 "(pub-stadtholder/pub/etcdserver/storage/mvcc.Revision).GreaterThan" -/
namespace F67
def an : Ann := { kinds := [], taus := [], pairs := [], lab := [] }
noncomputable def body : Code := (Try.f67.body).getD .skip
theorem fn : Try.prog.funcs[67]? = some Try.f67 := by kernel_rfl
theorem ok : codeOk an 20 body = true := by kernel_rfl
def go (a_0 : Int) (a_1 : Int) (b_0 : Int) (b_1 : Int) (H : Heap) (R : Ending → Heap → Prop) : Prop :=
  newD H (.cells ⟨[(.int .i64 a_0), (.int .i64 a_1)]⟩ 60) fun r H1 =>
  newD H1 (.cells ⟨[(.int .i64 b_0), (.int .i64 b_1)]⟩ 60) fun r1 H2 =>
  ldInt H2 ⟨r, 0, none⟩ .i64 fun n =>
  ldInt H2 ⟨r1, 0, none⟩ .i64 fun n1 =>
  iteB (decide (n > n1)) (
    R (.returned (.bool true)) H2) <|
  ldInt H2 ⟨r, 0, none⟩ .i64 fun n2 =>
  ldInt H2 ⟨r1, 0, none⟩ .i64 fun n3 =>
  iteB (decide (n2 < n3)) (
    R (.returned (.bool false)) H2) <|
  ldInt H2 ⟨r, 1, none⟩ .i64 fun n4 =>
  ldInt H2 ⟨r1, 1, none⟩ .i64 fun n5 =>
  R (.returned (.bool (decide (n4 > n5)))) H2
theorem calls {a_0 : Int} {a_1 : Int} {b_0 : Int} {b_1 : Int} {H : Heap} {R : Ending → Heap → Prop} (h : go a_0 a_1 b_0 b_1 H R) : CallsH Try.prog 67 ⟨[(.agg ⟨[(.int .i64 a_0), (.int .i64 a_1)]⟩), (.agg ⟨[(.int .i64 b_0), (.int .i64 b_1)]⟩)]⟩ H R :=
  callsH_of_den (an := an) (fuel := 100000) (X := go a_0 a_1 b_0 b_1 H R) (c := body) mixed fn (by kernel_rfl) (by kernel_rfl) (by kernel_rfl) ok (by kernel_rfl) h
end F67
/-! ### 68 "(*pub-stadtholder/pub/etcdserver/storage/mvcc.generation).isEmpty" -/
namespace F68
def an : Ann := { kinds := [], taus := [], pairs := [], lab := [] }
noncomputable def body : Code := (Try.f68.body).getD .skip
theorem fn : Try.prog.funcs[68]? = some Try.f68 := by kernel_rfl
theorem ok : codeOk an 13 body = true := by kernel_rfl
def go (g : Option Addr) (H : Heap) (R : Ending → Heap → Prop) : Prop :=
  iteB (Option.isNone g) (
    R (.returned (.bool true)) H) <|
  nilD g fun a =>
  ldSl H (Addr.add a 3) fun q qn qc =>
  R (.returned (.bool (((qn : Nat) : Int) == (0 : Int)))) H
theorem calls {g : Option Addr} {H : Heap} {R : Ending → Heap → Prop} (h : go g H R) : CallsH Try.prog 68 ⟨[(.pointer g)]⟩ H R :=
  callsH_of_den (an := an) (fuel := 100000) (X := go g H R) (c := body) mixed fn (by kernel_rfl) (by kernel_rfl) (by kernel_rfl) ok (by kernel_rfl) h
end F68
/-! ### 69 "(*pub-stadtholder/pub/etcdserver/storage/mvcc.keyIndex).findGeneration" -/
namespace F69
def an : Ann := { kinds := [], taus := [], pairs := [], lab := [(40000004, [0, 1, 5, 6]), (50000012, [0, 1, 5, 6, 7])] }
noncomputable def body : Code := (Try.f69.body).getD .skip
theorem fn : Try.prog.funcs[69]? = some Try.f69 := by kernel_rfl
theorem ok : codeOk an 67 body = true := by kernel_rfl
noncomputable def L0t : List Item := [.code (sub [1, 1, 1, 0, 0, 0] body), .inLoop (sub [1, 1, 1, 0, 0, 0] body), .inBlock 0, .code (sub [1, 1, 1, 1] body)]
def L0 (s0 : Option Addr) (s1 : Int) (s5 : Int) (s6 : Int) (H : Heap) (R : Ending → Heap → Prop) : Prop :=
  GoL Try.prog 69 67 L0t [0, 1, 5, 6] [(.pointer s0), (.int .i64 s1), (.int .i64 s5), (.int .i64 s6)] H R
noncomputable def L1t : List Item := [.code (sub [1, 1, 1, 0, 0, 0, 1, 0, 1, 1, 1] body), .inBlock 1, .inLoop (sub [1, 1, 1, 0, 0, 0] body), .inBlock 0, .code (sub [1, 1, 1, 1] body)]
def L1 (s0 : Option Addr) (s1 : Int) (s5 : Int) (s6 : Int) (s7 : Nat) (H : Heap) (R : Ending → Heap → Prop) : Prop :=
  GoL Try.prog 69 67 L1t [0, 1, 5, 6, 7] [(.pointer s0), (.int .i64 s1), (.int .i64 s5), (.int .i64 s6), (.pointer (some ⟨s7, 0, none⟩))] H R
def L0n (s0 : Option Addr) (s1 : Int) (s5 : Int) (s6 : Int) (H : Heap) (R : Ending → Heap → Prop) : Prop :=
  iteB (decide (s6 ≥ (0 : Int))) (
    nilD s0 fun a =>
    ldSl H (Addr.add a 3) fun q qn qc =>
    idxD q qn s6 fun a1 =>
    ldSl H (Addr.add (Addr.add a1 (Int.toNat s6 * 4)) 3) fun q1 q1n q1c =>
    iteB (((q1n : Nat) : Int) == (0 : Int)) (
      L0 s0 s1 s5 (IntKind.wrap .i64 (s6 - (1 : Int))) H R) <|
    nilD s0 fun a2 =>
    ldSl H (Addr.add a2 3) fun q2 q2n q2c =>
    idxD q2 q2n s6 fun a3 =>
    ldInt H (Addr.add a3 (Int.toNat s6 * 4)) .i64 fun n =>
    ldInt H (Addr.add (Addr.add a3 (Int.toNat s6 * 4)) 1) .i64 fun n1 =>
    ldInt H (Addr.add (Addr.add a3 (Int.toNat s6 * 4)) 2) .i64 fun n2 =>
    ldSl H (Addr.add (Addr.add a3 (Int.toNat s6 * 4)) 3) fun q3 q3n q3c =>
    newD H (.cells ⟨[(.int .i64 (0 : Int)), (.int .i64 (0 : Int)), (.int .i64 (0 : Int)), (.slice none 0 0)]⟩ 105) fun r H1 =>
    st1 H1 ⟨r, 0, none⟩ (.int .i64 n) fun H2 =>
    st1 H2 ⟨r, 1, none⟩ (.int .i64 n1) fun H3 =>
    st1 H3 ⟨r, 2, none⟩ (.int .i64 n2) fun H4 =>
    st1 H4 ⟨r, 3, none⟩ (.slice q3 q3n q3c) fun H5 =>
    iteB (s6 != s5) (
      ldSl H5 ⟨r, 3, none⟩ fun q4 q4n q4c =>
      ldSl H5 ⟨r, 3, none⟩ fun q5 q5n q5c =>
      idxD q4 q4n (IntKind.wrap .i64 (((q5n : Nat) : Int) - (1 : Int))) fun a4 =>
      ldInt H5 (Addr.add a4 (Int.toNat (IntKind.wrap .i64 (((q5n : Nat) : Int) - (1 : Int))) * 2)) .i64 fun n3 =>
      iteB (decide (n3 ≤ s1)) (
        R (.returned (.pointer none)) H5) <|
      L1 s0 s1 s5 s6 r H5 R) <|
    L1 s0 s1 s5 s6 r H5 R) <|
  R (.returned (.pointer none)) H
theorem L0_step {s0 : Option Addr} {s1 : Int} {s5 : Int} {s6 : Int} {H : Heap} {R : Ending → Heap → Prop} (h : L0n s0 s1 s5 s6 H R) : L0 s0 s1 s5 s6 H R :=
  goL_of_den (an := an) (fuel := 100000) (X := L0n s0 s1 s5 s6 H R) mixed fn (by kernel_rfl) (fun ρ0 => by kernel_rfl) h
def L1n (s0 : Option Addr) (s1 : Int) (s5 : Int) (s6 : Int) (s7 : Nat) (H : Heap) (R : Ending → Heap → Prop) : Prop :=
  ldSl H ⟨s7, 3, none⟩ fun q qn qc =>
  idxD q qn (0 : Int) fun a =>
  ldInt H (Addr.add a (Int.toNat (0 : Int) * 2)) .i64 fun n =>
  iteB (decide (n ≤ s1)) (
    nilD s0 fun a1 =>
    ldSl H (Addr.add a1 3) fun q1 q1n q1c =>
    idxD q1 q1n s6 fun a2 =>
    R (.returned (.pointer (some (Addr.add a2 (Int.toNat s6 * 4))))) H) <|
  L0 s0 s1 s5 (IntKind.wrap .i64 (s6 - (1 : Int))) H R
theorem L1_step {s0 : Option Addr} {s1 : Int} {s5 : Int} {s6 : Int} {s7 : Nat} {H : Heap} {R : Ending → Heap → Prop} (h : L1n s0 s1 s5 s6 s7 H R) : L1 s0 s1 s5 s6 s7 H R :=
  goL_of_den (an := an) (fuel := 100000) (X := L1n s0 s1 s5 s6 s7 H R) mixed fn (by kernel_rfl) (fun ρ0 => by kernel_rfl) h
def go (s0 : Option Addr) (s1 : Int) (H : Heap) (R : Ending → Heap → Prop) : Prop :=
  nilD s0 fun a =>
  ldSl H (Addr.add a 3) fun q qn qc =>
  L0 s0 s1 (IntKind.wrap .i64 (((qn : Nat) : Int) - (1 : Int))) (IntKind.wrap .i64 (((qn : Nat) : Int) - (1 : Int))) H R
theorem calls {s0 : Option Addr} {s1 : Int} {H : Heap} {R : Ending → Heap → Prop} (h : go s0 s1 H R) : CallsH Try.prog 69 ⟨[(.pointer s0), (.int .i64 s1)]⟩ H R :=
  callsH_of_den (an := an) (fuel := 100000) (X := go s0 s1 H R) (c := body) mixed fn (by kernel_rfl) (by kernel_rfl) (by kernel_rfl) ok (by kernel_rfl) h
end F69
/-! ### 70 "(*pub-stadtholder/pub/etcdserver/storage/mvcc.keyIndex).get$1" -/
namespace F70
def an : Ann := { kinds := [], taus := [], pairs := [], lab := [] }
noncomputable def body : Code := (Try.f70.body).getD .skip
theorem fn : Try.prog.funcs[70]? = some Try.f70 := by kernel_rfl
theorem ok : codeOk an 8 body = true := by kernel_rfl
def go (rev_0 : Int) (rev_1 : Int) (s1 : Addr) (H : Heap) (R : Ending → Heap → Prop) : Prop :=
  newD H (.cells ⟨[(.int .i64 rev_0), (.int .i64 rev_1)]⟩ 60) fun r H1 =>
  ldInt H1 ⟨r, 0, none⟩ .i64 fun n =>
  ldInt H1 s1 .i64 fun n1 =>
  R (.returned (.bool (decide (n > n1)))) H1
theorem calls {rev_0 : Int} {rev_1 : Int} {s1 : Addr} {H : Heap} {R : Ending → Heap → Prop} (h : go rev_0 rev_1 s1 H R) : CallsH Try.prog 70 ⟨[(.agg ⟨[(.int .i64 rev_0), (.int .i64 rev_1)]⟩), (.pointer (some s1))]⟩ H R :=
  callsH_of_den (an := an) (fuel := 100000) (X := go rev_0 rev_1 s1 H R) (c := body) mixed fn (by kernel_rfl) (by kernel_rfl) (by kernel_rfl) ok (by kernel_rfl) h
end F70
/-! ### 73 "(*pub-stadtholder/pub/etcdserver/storage/mvcc.keyIndex).doCompact" -/
namespace F73
def an : Ann := { kinds := [], taus := [(2, [[0, 1, 2, 5, 3, 4, 6]]), (4, [[0, 1, 2, 4, 5, 6, 3, 7, 8, 9, 10, 11, 12, 13]])], pairs := [], lab := [(40000004, [0, 4, 6, 8, 9]), (10000009, [6, 8, 9])] }
noncomputable def body : Code := (Try.f73.body).getD .skip
theorem fn : Try.prog.funcs[73]? = some Try.f73 := by kernel_rfl
theorem ok : codeOk an 54 body = true := by kernel_rfl
noncomputable def L0t : List Item := [.code (sub [1, 1, 1, 0, 0, 0] body), .inLoop (sub [1, 1, 1, 0, 0, 0] body), .inBlock 0, .code (sub [1, 1, 1, 1] body)]
def L0 (ki : Option Addr) (atRev : Nat) (genIdx : Int) (f_c0 : Nat) (f_c1 : Nat) (g : Addr) (H : Heap) (R : Ending → Heap → Prop) : Prop :=
  GoL Try.prog 73 54 L0t [0, 4, 6, 8, 9] [(.pointer ki), (.pointer (some ⟨atRev, 0, none⟩)), (.int .i64 genIdx), (.func (.func 84) ⟨[]⟩ ⟨[(.pointer (some ⟨f_c0, 0, none⟩)), (.pointer (some ⟨f_c1, 0, none⟩))]⟩), (.pointer (some g))] H R
noncomputable def L1t : List Item := [.code (sub [1, 1, 1, 1] body)]
def L1 (genIdx : Int) (f_c0 : Nat) (f_c1 : Nat) (g : Addr) (H : Heap) (R : Ending → Heap → Prop) : Prop :=
  GoL Try.prog 73 54 L1t [6, 8, 9] [(.int .i64 genIdx), (.func (.func 84) ⟨[]⟩ ⟨[(.pointer (some ⟨f_c0, 0, none⟩)), (.pointer (some ⟨f_c1, 0, none⟩))]⟩), (.pointer (some g))] H R
def L0n (ki : Option Addr) (atRev : Nat) (genIdx : Int) (f_c0 : Nat) (f_c1 : Nat) (g : Addr) (H : Heap) (R : Ending → Heap → Prop) : Prop :=
  nilD ki fun a =>
  ldSl H (Addr.add a 3) fun q qn qc =>
  iteB (decide (genIdx < (IntKind.wrap .i64 (((qn : Nat) : Int) - (1 : Int))))) (
    ldSl H (Addr.add g 3) fun q1 q1n q1c =>
    ldSl H (Addr.add g 3) fun q2 q2n q2c =>
    idxD q1 q1n (IntKind.wrap .i64 (((q2n : Nat) : Int) - (1 : Int))) fun a1 =>
    ldInt H (Addr.add a1 (Int.toNat (IntKind.wrap .i64 (((q2n : Nat) : Int) - (1 : Int))) * 2)) .i64 fun n =>
    ldInt H ⟨atRev, 0, none⟩ .i64 fun n1 =>
    iteB (decide (n ≥ n1)) (
      L1 genIdx f_c0 f_c1 g H R) <|
    nilD ki fun a2 =>
    ldSl H (Addr.add a2 3) fun q3 q3n q3c =>
    idxD q3 q3n (IntKind.wrap .i64 (genIdx + (1 : Int))) fun a3 =>
    L0 ki atRev (IntKind.wrap .i64 (genIdx + (1 : Int))) f_c0 f_c1 (Addr.add a3 (Int.toNat (IntKind.wrap .i64 (genIdx + (1 : Int))) * 4)) H R) <|
  L1 genIdx f_c0 f_c1 g H R
theorem L0_step {ki : Option Addr} {atRev : Nat} {genIdx : Int} {f_c0 : Nat} {f_c1 : Nat} {g : Addr} {H : Heap} {R : Ending → Heap → Prop} (h : L0n ki atRev genIdx f_c0 f_c1 g H R) : L0 ki atRev genIdx f_c0 f_c1 g H R :=
  goL_of_den (an := an) (fuel := 100000) (X := L0n ki atRev genIdx f_c0 f_c1 g H R) mixed fn (by kernel_rfl) (fun ρ0 => by kernel_rfl) h
def L1n (genIdx : Int) (f_c0 : Nat) (f_c1 : Nat) (g : Addr) (H : Heap) (R : Ending → Heap → Prop) : Prop :=
  callD Try.prog 53 [(.pointer (some g)), (.func (.func 84) ⟨[]⟩ ⟨[(.pointer (some ⟨f_c0, 0, none⟩)), (.pointer (some ⟨f_c1, 0, none⟩))]⟩)] H (panK R) fun v H1 =>
  tInt v .i64 fun n =>
  R (.returned (.tuple ⟨[(.int .i64 genIdx), (.int .i64 n)]⟩)) H1
theorem L1_step {genIdx : Int} {f_c0 : Nat} {f_c1 : Nat} {g : Addr} {H : Heap} {R : Ending → Heap → Prop} (h : L1n genIdx f_c0 f_c1 g H R) : L1 genIdx f_c0 f_c1 g H R :=
  goL_of_den (an := an) (fuel := 100000) (X := L1n genIdx f_c0 f_c1 g H R) mixed fn (by kernel_rfl) (fun ρ0 => by kernel_rfl) h
def go (ki : Option Addr) (atRev : Int) (available : Option Nat) (H : Heap) (R : Ending → Heap → Prop) : Prop :=
  newD H (.cells ⟨[(.int .i64 atRev)]⟩ 2) fun r H1 =>
  newD H1 (.cells ⟨[(.map available)]⟩ 96) fun r1 H2 =>
  nilD ki fun a =>
  ldSl H2 (Addr.add a 3) fun q qn qc =>
  idxD q qn (0 : Int) fun a1 =>
  L0 ki r (0 : Int) r r1 (Addr.add a1 (Int.toNat (0 : Int) * 4)) H2 R
theorem calls {ki : Option Addr} {atRev : Int} {available : Option Nat} {H : Heap} {R : Ending → Heap → Prop} (h : go ki atRev available H R) : CallsH Try.prog 73 ⟨[(.pointer ki), (.int .i64 atRev), (.map available)]⟩ H R :=
  callsH_of_den (an := an) (fuel := 100000) (X := go ki atRev available H R) (c := body) mixed fn (by kernel_rfl) (by kernel_rfl) (by kernel_rfl) ok (by kernel_rfl) h
end F73
/-! ### 84 "(*pub-stadtholder/pub/etcdserver/storage/mvcc.keyIndex).doCompact$1" -/
namespace F84
def an : Ann := { kinds := [(2003, .heavy 0)], taus := [], pairs := [], lab := [] }
noncomputable def body : Code := (Try.f84.body).getD .skip
theorem fn : Try.prog.funcs[84]? = some Try.f84 := by kernel_rfl
theorem ok : codeOk an 12 body = true := by kernel_rfl
def go (rev_0 : Int) (rev_1 : Int) (s1 : Addr) (s2 : Addr) (H : Heap) (R : Ending → Heap → Prop) : Prop :=
  newD H (.cells ⟨[(.int .i64 rev_0), (.int .i64 rev_1)]⟩ 60) fun r H1 =>
  ldInt H1 ⟨r, 0, none⟩ .i64 fun n =>
  ldInt H1 s1 .i64 fun n1 =>
  iteB (decide (n ≤ n1)) (
    ldMap H1 s2 fun m =>
    ldInt H1 ⟨r, 0, none⟩ .i64 fun n2 =>
    ldInt H1 ⟨r, 1, none⟩ .i64 fun n3 =>
    uniD Try.prog (Instr.mapUpdate 96 (.map m) (.agg ⟨[(.int .i64 n2), (.int .i64 n3)]⟩) (.agg ⟨[]⟩)) H1 (panK R) fun H2 =>
    R (.returned (.bool false)) H2) <|
  R (.returned (.bool true)) H1
theorem calls {rev_0 : Int} {rev_1 : Int} {s1 : Addr} {s2 : Addr} {H : Heap} {R : Ending → Heap → Prop} (h : go rev_0 rev_1 s1 s2 H R) : CallsH Try.prog 84 ⟨[(.agg ⟨[(.int .i64 rev_0), (.int .i64 rev_1)]⟩), (.pointer (some s1)), (.pointer (some s2))]⟩ H R :=
  callsH_of_den (an := an) (fuel := 100000) (X := go rev_0 rev_1 s1 s2 H R) (c := body) mixed fn (by kernel_rfl) (by kernel_rfl) (by kernel_rfl) ok (by kernel_rfl) h
end F84
end Go.Proofs.Ytpjnmdeeoafclaa
