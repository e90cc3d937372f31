/- What functions of this seat do, each proved by a walk; no condition. -/
import Derived.Test.YtpjnmdeeoafclaaKB
import Derived.Test.YtpjnmdeeoafclaaDenD
import Derived.Test.YtpjnmdeeoafclaaProg
import Derived.KernelRfl
set_option linter.unusedVariables false
namespace Go.Proofs.Ytpjnmdeeoafclaa
open Go Go.Den Go.Proofs
/-! ### 21 "pub-stadtholder/impl.Key$1" -/
namespace G21
def an : Ann := { kinds := [(3007, .grow)], taus := [(3, [[3, 0, 1, 2, 4, 5, 6, 7, 8, 9], [3, 1, 2, 4, 5, 6, 0, 7, 8, 9]])], pairs := [(3, [(0, 6)])], lab := [(30000002, [0, 1, 2, 3]), (30000003, [0, 1, 2, 3])] }
noncomputable def body : Code := (Try.f21.body).getD .skip
theorem fn : Try.prog.funcs[21]? = some Try.f21 := by kernel_rfl
theorem ok : codeOk an 19 body = true := by kernel_rfl
noncomputable def L0t : List Item := [.code (sub [1, 0, 0] body), .inLoop (sub [1, 0, 0] body), .inBlock 0]
def L0 (s0 : Addr) (s1 : Addr) (s2 : Addr) (i : Int) (H : Heap) (R : Ending → Heap → Prop) : Prop :=
  GoL Try.prog 21 19 L0t [0, 1, 2, 3] [(.pointer (some s0)), (.pointer (some s1)), (.pointer (some s2)), (.int .i64 i)] H R
noncomputable def L1t : List Item := [.code (sub [1, 0, 0, 1, 1] body), .inLoop (sub [1, 0, 0] body), .inBlock 0]
def L1 (s0 : Addr) (s1 : Addr) (s2 : Addr) (i : Int) (H : Heap) (R : Ending → Heap → Prop) : Prop :=
  GoL Try.prog 21 19 L1t [0, 1, 2, 3] [(.pointer (some s0)), (.pointer (some s1)), (.pointer (some s2)), (.int .i64 i)] H R
def L0n (s0 : Addr) (s1 : Addr) (s2 : Addr) (i : Int) (H : Heap) (R : Ending → Heap → Prop) : Prop :=
  ldSl H s0 fun q qn qc =>
  iteB (decide (i < ((qn : Nat) : Int))) (
    (
      ldSl H s1 fun q1 q1n q1c =>
      ldPtr H s2 fun p =>
      ldSl H s0 fun q2 q2n q2c =>
      idxD q2 q2n i fun a =>
      ldInt H (Addr.add a (Int.toNat i * 7)) .i64 fun n =>
      ldInt H (Addr.add (Addr.add a (Int.toNat i * 7)) 1) .i64 fun n1 =>
      ldInt H (Addr.add (Addr.add a (Int.toNat i * 7)) 2) .i64 fun n2 =>
      ldInt H (Addr.add (Addr.add a (Int.toNat i * 7)) 3) .i64 fun n3 =>
      ldInt H (Addr.add (Addr.add a (Int.toNat i * 7)) 4) .i64 fun n4 =>
      ldInt H (Addr.add (Addr.add a (Int.toNat i * 7)) 5) .i64 fun n5 =>
      ldInt H (Addr.add (Addr.add a (Int.toNat i * 7)) 6) .i64 fun n6 =>
      callD Try.prog 22 [(.agg ⟨[(.pointer p)]⟩), (.agg ⟨[(.int .i64 n), (.int .i64 n1), (.int .i64 n2), (.int .i64 n3), (.int .i64 n4), (.int .i64 n5), (.int .i64 n6)]⟩)] H (panK R) fun v H1 =>
      tAgg v fun l =>
      tCons l fun c l1 =>
      tBool c fun b =>
      tCons l1 fun c1 l2 =>
      tInt c1 .i64 fun n7 =>
      tCons l2 fun c2 l3 =>
      tInt c2 .i64 fun n8 =>
      tCons l3 fun c3 l4 =>
      tInt c3 .i64 fun n9 =>
      tCons l4 fun c4 l5 =>
      tInt c4 .i64 fun n10 =>
      tCons l5 fun c5 l6 =>
      tInt c5 .i64 fun n11 =>
      tCons l6 fun c6 l7 =>
      tSl c6 fun q3 q3n q3c =>
      tCons l7 fun c7 l8 =>
      tInt c7 .i64 fun n12 =>
      tCons l8 fun c8 l9 =>
      tInt c8 .i64 fun n13 =>
      tCons l9 fun c9 l10 =>
      tSl c9 fun q4 q4n q4c =>
      tNil l10 <|
      newD H1 (.cells ⟨[(.bool b), (.int .i64 n7), (.int .i64 n8), (.int .i64 n9), (.int .i64 n10), (.int .i64 n11), (.slice q3 q3n q3c), (.int .i64 n12), (.int .i64 n13), (.slice q4 q4n q4c)]⟩ 42) fun r H2 =>
      apD H2 10 112 [(.bool false), (.int .i64 (0 : Int)), (.int .i64 (0 : Int)), (.int .i64 (0 : Int)), (.int .i64 (0 : Int)), (.int .i64 (0 : Int)), (.slice none 0 0), (.int .i64 (0 : Int)), (.int .i64 (0 : Int)), (.slice none 0 0)] 42 q1 q1n q1c (some ⟨r, 0, none⟩) 1 fun q5 q5n q5c H3 =>
      st1 H3 s1 (.slice q5 q5n q5c) fun H4 =>
      L1 s0 s1 s2 i H4 R) ∧
    (
      ldPtr H s2 fun p1 =>
      ldSl H s0 fun q6 q6n q6c =>
      idxD q6 q6n i fun a1 =>
      ldInt H (Addr.add a1 (Int.toNat i * 7)) .i64 fun n14 =>
      ldInt H (Addr.add (Addr.add a1 (Int.toNat i * 7)) 1) .i64 fun n15 =>
      ldInt H (Addr.add (Addr.add a1 (Int.toNat i * 7)) 2) .i64 fun n16 =>
      ldInt H (Addr.add (Addr.add a1 (Int.toNat i * 7)) 3) .i64 fun n17 =>
      ldInt H (Addr.add (Addr.add a1 (Int.toNat i * 7)) 4) .i64 fun n18 =>
      ldInt H (Addr.add (Addr.add a1 (Int.toNat i * 7)) 5) .i64 fun n19 =>
      ldInt H (Addr.add (Addr.add a1 (Int.toNat i * 7)) 6) .i64 fun n20 =>
      callD Try.prog 22 [(.agg ⟨[(.pointer p1)]⟩), (.agg ⟨[(.int .i64 n14), (.int .i64 n15), (.int .i64 n16), (.int .i64 n17), (.int .i64 n18), (.int .i64 n19), (.int .i64 n20)]⟩)] H (panK R) fun v1 H5 =>
      tAgg v1 fun l11 =>
      tCons l11 fun c10 l12 =>
      tBool c10 fun b1 =>
      tCons l12 fun c11 l13 =>
      tInt c11 .i64 fun n21 =>
      tCons l13 fun c12 l14 =>
      tInt c12 .i64 fun n22 =>
      tCons l14 fun c13 l15 =>
      tInt c13 .i64 fun n23 =>
      tCons l15 fun c14 l16 =>
      tInt c14 .i64 fun n24 =>
      tCons l16 fun c15 l17 =>
      tInt c15 .i64 fun n25 =>
      tCons l17 fun c16 l18 =>
      tSl c16 fun q7 q7n q7c =>
      tCons l18 fun c17 l19 =>
      tInt c17 .i64 fun n26 =>
      tCons l19 fun c18 l20 =>
      tInt c18 .i64 fun n27 =>
      tCons l20 fun c19 l21 =>
      tSl c19 fun q8 q8n q8c =>
      tNil l21 <|
      ldSl H5 s1 fun q9 q9n q9c =>
      newD H5 (.cells ⟨[(.bool b1), (.int .i64 n21), (.int .i64 n22), (.int .i64 n23), (.int .i64 n24), (.int .i64 n25), (.slice q7 q7n q7c), (.int .i64 n26), (.int .i64 n27), (.slice q8 q8n q8c)]⟩ 42) fun r1 H6 =>
      apD H6 10 112 [(.bool false), (.int .i64 (0 : Int)), (.int .i64 (0 : Int)), (.int .i64 (0 : Int)), (.int .i64 (0 : Int)), (.int .i64 (0 : Int)), (.slice none 0 0), (.int .i64 (0 : Int)), (.int .i64 (0 : Int)), (.slice none 0 0)] 42 q9 q9n q9c (some ⟨r1, 0, none⟩) 1 fun q10 q10n q10c H7 =>
      st1 H7 s1 (.slice q10 q10n q10c) fun H8 =>
      L1 s0 s1 s2 i H8 R)) <|
  R (.returned (.tuple ⟨[]⟩)) H
theorem L0_step {s0 : Addr} {s1 : Addr} {s2 : Addr} {i : Int} {H : Heap} {R : Ending → Heap → Prop} (h : L0n s0 s1 s2 i H R) : L0 s0 s1 s2 i H R :=
  goL_of_den (an := an) (fuel := 100000) (X := L0n s0 s1 s2 i H R) mixed fn (by kernel_rfl) (fun ρ0 => by kernel_rfl) h
def L1n (s0 : Addr) (s1 : Addr) (s2 : Addr) (i : Int) (H : Heap) (R : Ending → Heap → Prop) : Prop :=
  L0 s0 s1 s2 (IntKind.wrap .i64 (i + (1 : Int))) H R
theorem L1_step {s0 : Addr} {s1 : Addr} {s2 : Addr} {i : Int} {H : Heap} {R : Ending → Heap → Prop} (h : L1n s0 s1 s2 i H R) : L1 s0 s1 s2 i H R :=
  goL_of_den (an := an) (fuel := 100000) (X := L1n s0 s1 s2 i H R) mixed fn (by kernel_rfl) (fun ρ0 => by kernel_rfl) h
def go (s0 : Addr) (s1 : Addr) (s2 : Addr) (H : Heap) (R : Ending → Heap → Prop) : Prop :=
  L0 s0 s1 s2 (0 : Int) H R
theorem calls {s0 : Addr} {s1 : Addr} {s2 : Addr} {H : Heap} {R : Ending → Heap → Prop} (h : go s0 s1 s2 H R) : CallsH Try.prog 21 ⟨[(.pointer (some s0)), (.pointer (some s1)), (.pointer (some s2))]⟩ H R :=
  callsH_of_den (an := an) (fuel := 100000) (X := go s0 s1 s2 H R) (c := body) mixed fn (by kernel_rfl) (by kernel_rfl) (by kernel_rfl) ok (by kernel_rfl) h
end G21
/-! ### 71 "slices.pdqsortCmpFunc[pub-stadtholder/impl.Rev]" -/
namespace F71
def an : Ann := { kinds := [], taus := [(17, [[0, 1, 2, 3, 4, 5, 6, 7, 9, 10, 11, 8, 12, 13, 14, 15, 16]])], pairs := [], lab := [(30000003, [0, 1, 2, 3, 4, 10, 11]), (40000011, [0, 1, 2, 3, 4, 10, 11, 12]), (40000016, [0, 1, 2, 3, 4, 10, 11, 12, 13, 14]), (50000017, [0, 1, 2, 3, 4, 10, 11, 12, 13]), (40000018, [0, 1, 2, 3, 4, 10, 11, 12, 13]), (40000021, [0, 1, 2, 3, 4, 12, 13]), (50000019, [0, 1, 2, 3, 4, 10, 11, 13])] }
noncomputable def body : Code := (Try.f71.body).getD .skip
theorem fn : Try.prog.funcs[71]? = some Try.f71 := by kernel_rfl
theorem ok : codeOk an 148 body = true := by kernel_rfl
noncomputable def L0t : List Item := [.code (sub [1, 1, 0, 0] body), .inLoop (sub [1, 1, 0, 0] body), .inBlock 0]
def L0 (s0 : Option Addr) (s0n : Nat) (s0c : Nat) (s1 : Int) (s2 : Int) (s3 : Int) (s4 : FV) (s10 : Bool) (s11 : Bool) (H : Heap) (R : Ending → Heap → Prop) : Prop :=
  GoL Try.prog 71 148 L0t [0, 1, 2, 3, 4, 10, 11] [(.slice s0 s0n s0c), (.int .i64 s1), (.int .i64 s2), (.int .i64 s3), (FV.v s4), (.bool s10), (.bool s11)] H R
noncomputable def L1t : List Item := [.code (sub [1, 1, 0, 0, 0, 1, 1, 1, 1] body), .inBlock 1, .inLoop (sub [1, 1, 0, 0] body), .inBlock 0]
def L1 (s0 : Option Addr) (s0n : Nat) (s0c : Nat) (s1 : Int) (s2 : Int) (s3 : Int) (s4 : FV) (s10 : Bool) (s11 : Bool) (s12 : Int) (H : Heap) (R : Ending → Heap → Prop) : Prop :=
  GoL Try.prog 71 148 L1t [0, 1, 2, 3, 4, 10, 11, 12] [(.slice s0 s0n s0c), (.int .i64 s1), (.int .i64 s2), (.int .i64 s3), (FV.v s4), (.bool s10), (.bool s11), (.int .i64 s12)] H R
noncomputable def L2t : List Item := [.code (sub [1, 1, 0, 0, 0, 1, 1, 1, 1, 1, 1] body), .inBlock 1, .inLoop (sub [1, 1, 0, 0] body), .inBlock 0]
def L2 (s0 : Option Addr) (s0n : Nat) (s0c : Nat) (s1 : Int) (s2 : Int) (s3 : Int) (s4 : FV) (s10 : Bool) (s11 : Bool) (s12 : Int) (s13 : Int) (s14 : Int) (H : Heap) (R : Ending → Heap → Prop) : Prop :=
  GoL Try.prog 71 148 L2t [0, 1, 2, 3, 4, 10, 11, 12, 13, 14] [(.slice s0 s0n s0c), (.int .i64 s1), (.int .i64 s2), (.int .i64 s3), (FV.v s4), (.bool s10), (.bool s11), (.int .i64 s12), (.int .i64 s13), (.int .i64 s14)] H R
noncomputable def L3t : List Item := [.code (sub [1, 1, 0, 0, 0, 1, 1, 1, 1, 1, 1, 0, 1, 0] body), .code (sub [1, 1, 0, 0, 0, 1, 1, 1, 1, 1, 1, 1] body), .inBlock 1, .inLoop (sub [1, 1, 0, 0] body), .inBlock 0]
def L3 (s0 : Option Addr) (s0n : Nat) (s0c : Nat) (s1 : Int) (s2 : Int) (s3 : Int) (s4 : FV) (s10 : Bool) (s11 : Bool) (s12 : Int) (s13 : Int) (H : Heap) (R : Ending → Heap → Prop) : Prop :=
  GoL Try.prog 71 148 L3t [0, 1, 2, 3, 4, 10, 11, 12, 13] [(.slice s0 s0n s0c), (.int .i64 s1), (.int .i64 s2), (.int .i64 s3), (FV.v s4), (.bool s10), (.bool s11), (.int .i64 s12), (.int .i64 s13)] H R
noncomputable def L4t : List Item := [.code (sub [1, 1, 0, 0, 0, 1, 1, 1, 1, 1, 1, 1] body), .inBlock 1, .inLoop (sub [1, 1, 0, 0] body), .inBlock 0]
def L4 (s0 : Option Addr) (s0n : Nat) (s0c : Nat) (s1 : Int) (s2 : Int) (s3 : Int) (s4 : FV) (s10 : Bool) (s11 : Bool) (s12 : Int) (s13 : Int) (H : Heap) (R : Ending → Heap → Prop) : Prop :=
  GoL Try.prog 71 148 L4t [0, 1, 2, 3, 4, 10, 11, 12, 13] [(.slice s0 s0n s0c), (.int .i64 s1), (.int .i64 s2), (.int .i64 s3), (FV.v s4), (.bool s10), (.bool s11), (.int .i64 s12), (.int .i64 s13)] H R
noncomputable def L5t : List Item := [.code (sub [1, 1, 0, 0, 0, 1, 1, 1, 1, 1, 1, 1, 1] body), .inBlock 1, .inLoop (sub [1, 1, 0, 0] body), .inBlock 0]
def L5 (s0 : Option Addr) (s0n : Nat) (s0c : Nat) (s1 : Int) (s2 : Int) (s3 : Int) (s4 : FV) (s12 : Int) (s13 : Int) (H : Heap) (R : Ending → Heap → Prop) : Prop :=
  GoL Try.prog 71 148 L5t [0, 1, 2, 3, 4, 12, 13] [(.slice s0 s0n s0c), (.int .i64 s1), (.int .i64 s2), (.int .i64 s3), (FV.v s4), (.int .i64 s12), (.int .i64 s13)] H R
noncomputable def L6t : List Item := [.code (sub [1, 1, 0, 0, 0, 1, 1, 1, 1, 1, 1, 1, 0, 1, 0] body), .code (sub [1, 1, 0, 0, 0, 1, 1, 1, 1, 1, 1, 1, 1] body), .inBlock 1, .inLoop (sub [1, 1, 0, 0] body), .inBlock 0]
def L6 (s0 : Option Addr) (s0n : Nat) (s0c : Nat) (s1 : Int) (s2 : Int) (s3 : Int) (s4 : FV) (s10 : Bool) (s11 : Bool) (s13 : Int) (H : Heap) (R : Ending → Heap → Prop) : Prop :=
  GoL Try.prog 71 148 L6t [0, 1, 2, 3, 4, 10, 11, 13] [(.slice s0 s0n s0c), (.int .i64 s1), (.int .i64 s2), (.int .i64 s3), (FV.v s4), (.bool s10), (.bool s11), (.int .i64 s13)] H R
def L0n (s0 : Option Addr) (s0n : Nat) (s0c : Nat) (s1 : Int) (s2 : Int) (s3 : Int) (s4 : FV) (s10 : Bool) (s11 : Bool) (H : Heap) (R : Ending → Heap → Prop) : Prop :=
  iteB (decide ((IntKind.wrap .i64 (s2 - s1)) ≤ (12 : Int))) (
    callD Try.prog 74 [(.slice s0 s0n s0c), (.int .i64 s1), (.int .i64 s2), (FV.v s4)] H (panK R) fun v H1 =>
    tTup v fun l =>
    tNil l <|
    R (.returned (.tuple ⟨[]⟩)) H1) <|
  iteB (s3 == (0 : Int)) (
    callD Try.prog 75 [(.slice s0 s0n s0c), (.int .i64 s1), (.int .i64 s2), (FV.v s4)] H (panK R) fun v1 H2 =>
    tTup v1 fun l1 =>
    tNil l1 <|
    R (.returned (.tuple ⟨[]⟩)) H2) <|
  iteB (!s10) (
    callD Try.prog 76 [(.slice s0 s0n s0c), (.int .i64 s1), (.int .i64 s2), (FV.v s4)] H (panK R) fun v2 H3 =>
    tTup v2 fun l2 =>
    tNil l2 <|
    L1 s0 s0n s0c s1 s2 (IntKind.wrap .i64 (s3 - (1 : Int))) s4 s10 s11 (IntKind.wrap .i64 (s2 - s1)) H3 R) <|
  L1 s0 s0n s0c s1 s2 s3 s4 s10 s11 (IntKind.wrap .i64 (s2 - s1)) H R
theorem L0_step {s0 : Option Addr} {s0n : Nat} {s0c : Nat} {s1 : Int} {s2 : Int} {s3 : Int} {s4 : FV} {s10 : Bool} {s11 : Bool} {H : Heap} {R : Ending → Heap → Prop} (h : L0n s0 s0n s0c s1 s2 s3 s4 s10 s11 H R) : L0 s0 s0n s0c s1 s2 s3 s4 s10 s11 H R :=
  goL_of_den (an := an) (fuel := 100000) (X := L0n s0 s0n s0c s1 s2 s3 s4 s10 s11 H R) mixed fn (by kernel_rfl) (fun ρ0 => by kernel_rfl) h
def L1n (s0 : Option Addr) (s0n : Nat) (s0c : Nat) (s1 : Int) (s2 : Int) (s3 : Int) (s4 : FV) (s10 : Bool) (s11 : Bool) (s12 : Int) (H : Heap) (R : Ending → Heap → Prop) : Prop :=
  callD Try.prog 77 [(.slice s0 s0n s0c), (.int .i64 s1), (.int .i64 s2), (FV.v s4)] H (panK R) fun v H1 =>
  tTup v fun l =>
  tCons l fun c l1 =>
  tInt c .i64 fun n =>
  tCons l1 fun c1 l2 =>
  tInt c1 .i64 fun n1 =>
  tNil l2 <|
  iteB (n1 == (2 : Int)) (
    callD Try.prog 78 [(.slice s0 s0n s0c), (.int .i64 s1), (.int .i64 s2), (FV.v s4)] H1 (panK R) fun v1 H2 =>
    tTup v1 fun l3 =>
    tNil l3 <|
    L2 s0 s0n s0c s1 s2 s3 s4 s10 s11 s12 (IntKind.wrap .i64 ((IntKind.wrap .i64 (s2 - (1 : Int))) - (IntKind.wrap .i64 (n - s1)))) (1 : Int) H2 R) <|
  L2 s0 s0n s0c s1 s2 s3 s4 s10 s11 s12 n n1 H1 R
theorem L1_step {s0 : Option Addr} {s0n : Nat} {s0c : Nat} {s1 : Int} {s2 : Int} {s3 : Int} {s4 : FV} {s10 : Bool} {s11 : Bool} {s12 : Int} {H : Heap} {R : Ending → Heap → Prop} (h : L1n s0 s0n s0c s1 s2 s3 s4 s10 s11 s12 H R) : L1 s0 s0n s0c s1 s2 s3 s4 s10 s11 s12 H R :=
  goL_of_den (an := an) (fuel := 100000) (X := L1n s0 s0n s0c s1 s2 s3 s4 s10 s11 s12 H R) mixed fn (by kernel_rfl) (fun ρ0 => by kernel_rfl) h
def L2n (s0 : Option Addr) (s0n : Nat) (s0c : Nat) (s1 : Int) (s2 : Int) (s3 : Int) (s4 : FV) (s10 : Bool) (s11 : Bool) (s12 : Int) (s13 : Int) (s14 : Int) (H : Heap) (R : Ending → Heap → Prop) : Prop :=
  iteB s10 (
    iteB s11 (
      iteB (s14 == (1 : Int)) (
        L3 s0 s0n s0c s1 s2 s3 s4 s10 s11 s12 s13 H R) <|
      L4 s0 s0n s0c s1 s2 s3 s4 s10 s11 s12 s13 H R) <|
    L4 s0 s0n s0c s1 s2 s3 s4 s10 s11 s12 s13 H R) <|
  L4 s0 s0n s0c s1 s2 s3 s4 s10 s11 s12 s13 H R
theorem L2_step {s0 : Option Addr} {s0n : Nat} {s0c : Nat} {s1 : Int} {s2 : Int} {s3 : Int} {s4 : FV} {s10 : Bool} {s11 : Bool} {s12 : Int} {s13 : Int} {s14 : Int} {H : Heap} {R : Ending → Heap → Prop} (h : L2n s0 s0n s0c s1 s2 s3 s4 s10 s11 s12 s13 s14 H R) : L2 s0 s0n s0c s1 s2 s3 s4 s10 s11 s12 s13 s14 H R :=
  goL_of_den (an := an) (fuel := 100000) (X := L2n s0 s0n s0c s1 s2 s3 s4 s10 s11 s12 s13 s14 H R) mixed fn (by kernel_rfl) (fun ρ0 => by kernel_rfl) h
def L3n (s0 : Option Addr) (s0n : Nat) (s0c : Nat) (s1 : Int) (s2 : Int) (s3 : Int) (s4 : FV) (s10 : Bool) (s11 : Bool) (s12 : Int) (s13 : Int) (H : Heap) (R : Ending → Heap → Prop) : Prop :=
  callD Try.prog 79 [(.slice s0 s0n s0c), (.int .i64 s1), (.int .i64 s2), (FV.v s4)] H (panK R) fun v H1 =>
  tBool v fun b =>
  iteB b (
    R (.returned (.tuple ⟨[]⟩)) H1) <|
  L4 s0 s0n s0c s1 s2 s3 s4 s10 s11 s12 s13 H1 R
theorem L3_step {s0 : Option Addr} {s0n : Nat} {s0c : Nat} {s1 : Int} {s2 : Int} {s3 : Int} {s4 : FV} {s10 : Bool} {s11 : Bool} {s12 : Int} {s13 : Int} {H : Heap} {R : Ending → Heap → Prop} (h : L3n s0 s0n s0c s1 s2 s3 s4 s10 s11 s12 s13 H R) : L3 s0 s0n s0c s1 s2 s3 s4 s10 s11 s12 s13 H R :=
  goL_of_den (an := an) (fuel := 100000) (X := L3n s0 s0n s0c s1 s2 s3 s4 s10 s11 s12 s13 H R) mixed fn (by kernel_rfl) (fun ρ0 => by kernel_rfl) h
def L4n (s0 : Option Addr) (s0n : Nat) (s0c : Nat) (s1 : Int) (s2 : Int) (s3 : Int) (s4 : FV) (s10 : Bool) (s11 : Bool) (s12 : Int) (s13 : Int) (H : Heap) (R : Ending → Heap → Prop) : Prop :=
  iteB (decide (s1 > (0 : Int))) (
    idxD s0 s0n (IntKind.wrap .i64 (s1 - (1 : Int))) fun a =>
    idxD s0 s0n s13 fun a1 =>
    ldInt H (Addr.add a (Int.toNat (IntKind.wrap .i64 (s1 - (1 : Int))) * 2)) .i64 fun n =>
    ldInt H (Addr.add (Addr.add a (Int.toNat (IntKind.wrap .i64 (s1 - (1 : Int))) * 2)) 1) .i64 fun n1 =>
    ldInt H (Addr.add a1 (Int.toNat s13 * 2)) .i64 fun n2 =>
    ldInt H (Addr.add (Addr.add a1 (Int.toNat s13 * 2)) 1) .i64 fun n3 =>
    callV Try.prog (FV.v s4) [(.agg ⟨[(.int .i64 n), (.int .i64 n1)]⟩), (.agg ⟨[(.int .i64 n2), (.int .i64 n3)]⟩)] H (panK R) fun v H1 =>
    tInt v .i64 fun n4 =>
    iteB (!(decide (n4 < (0 : Int)))) (
      L6 s0 s0n s0c s1 s2 s3 s4 s10 s11 s13 H1 R) <|
    L5 s0 s0n s0c s1 s2 s3 s4 s12 s13 H1 R) <|
  L5 s0 s0n s0c s1 s2 s3 s4 s12 s13 H R
theorem L4_step {s0 : Option Addr} {s0n : Nat} {s0c : Nat} {s1 : Int} {s2 : Int} {s3 : Int} {s4 : FV} {s10 : Bool} {s11 : Bool} {s12 : Int} {s13 : Int} {H : Heap} {R : Ending → Heap → Prop} (h : L4n s0 s0n s0c s1 s2 s3 s4 s10 s11 s12 s13 H R) : L4 s0 s0n s0c s1 s2 s3 s4 s10 s11 s12 s13 H R :=
  goL_of_den (an := an) (fuel := 100000) (X := L4n s0 s0n s0c s1 s2 s3 s4 s10 s11 s12 s13 H R) mixed fn (by kernel_rfl) (fun ρ0 => by kernel_rfl) h
def L5n (s0 : Option Addr) (s0n : Nat) (s0c : Nat) (s1 : Int) (s2 : Int) (s3 : Int) (s4 : FV) (s12 : Int) (s13 : Int) (H : Heap) (R : Ending → Heap → Prop) : Prop :=
  callD Try.prog 81 [(.slice s0 s0n s0c), (.int .i64 s1), (.int .i64 s2), (.int .i64 s13), (FV.v s4)] H (panK R) fun v H1 =>
  tTup v fun l =>
  tCons l fun c l1 =>
  tInt c .i64 fun n =>
  tCons l1 fun c1 l2 =>
  tBool c1 fun b =>
  tNil l2 <|
  divD (8 : Int) <|
  iteB (decide ((IntKind.wrap .i64 (n - s1)) < (IntKind.wrap .i64 (s2 - n)))) (
    callD Try.prog 71 [(.slice s0 s0n s0c), (.int .i64 s1), (.int .i64 n), (.int .i64 s3), (FV.v s4)] H1 (panK R) fun v1 H2 =>
    tTup v1 fun l3 =>
    tNil l3 <|
    L0 s0 s0n s0c (IntKind.wrap .i64 (n + (1 : Int))) s2 s3 s4 (decide ((IntKind.wrap .i64 (n - s1)) ≥ (IntKind.wrap .i64 (Int.tdiv s12 (8 : Int))))) b H2 R) <|
  callD Try.prog 71 [(.slice s0 s0n s0c), (.int .i64 (IntKind.wrap .i64 (n + (1 : Int)))), (.int .i64 s2), (.int .i64 s3), (FV.v s4)] H1 (panK R) fun v2 H3 =>
  tTup v2 fun l4 =>
  tNil l4 <|
  L0 s0 s0n s0c s1 n s3 s4 (decide ((IntKind.wrap .i64 (s2 - n)) ≥ (IntKind.wrap .i64 (Int.tdiv s12 (8 : Int))))) b H3 R
theorem L5_step {s0 : Option Addr} {s0n : Nat} {s0c : Nat} {s1 : Int} {s2 : Int} {s3 : Int} {s4 : FV} {s12 : Int} {s13 : Int} {H : Heap} {R : Ending → Heap → Prop} (h : L5n s0 s0n s0c s1 s2 s3 s4 s12 s13 H R) : L5 s0 s0n s0c s1 s2 s3 s4 s12 s13 H R :=
  goL_of_den (an := an) (fuel := 100000) (X := L5n s0 s0n s0c s1 s2 s3 s4 s12 s13 H R) mixed fn (by kernel_rfl) (fun ρ0 => by kernel_rfl) h
def L6n (s0 : Option Addr) (s0n : Nat) (s0c : Nat) (s1 : Int) (s2 : Int) (s3 : Int) (s4 : FV) (s10 : Bool) (s11 : Bool) (s13 : Int) (H : Heap) (R : Ending → Heap → Prop) : Prop :=
  callD Try.prog 80 [(.slice s0 s0n s0c), (.int .i64 s1), (.int .i64 s2), (.int .i64 s13), (FV.v s4)] H (panK R) fun v H1 =>
  tInt v .i64 fun n =>
  L0 s0 s0n s0c n s2 s3 s4 s10 s11 H1 R
theorem L6_step {s0 : Option Addr} {s0n : Nat} {s0c : Nat} {s1 : Int} {s2 : Int} {s3 : Int} {s4 : FV} {s10 : Bool} {s11 : Bool} {s13 : Int} {H : Heap} {R : Ending → Heap → Prop} (h : L6n s0 s0n s0c s1 s2 s3 s4 s10 s11 s13 H R) : L6 s0 s0n s0c s1 s2 s3 s4 s10 s11 s13 H R :=
  goL_of_den (an := an) (fuel := 100000) (X := L6n s0 s0n s0c s1 s2 s3 s4 s10 s11 s13 H R) mixed fn (by kernel_rfl) (fun ρ0 => by kernel_rfl) h
def go (s0 : Option Addr) (s0n : Nat) (s0c : Nat) (s1 : Int) (s2 : Int) (s3 : Int) (s4 : FV) (H : Heap) (R : Ending → Heap → Prop) : Prop :=
  L0 s0 s0n s0c s1 s2 s3 s4 true true H R
theorem calls {s0 : Option Addr} {s0n : Nat} {s0c : Nat} {s1 : Int} {s2 : Int} {s3 : Int} {s4 : FV} {H : Heap} {R : Ending → Heap → Prop} (h : go s0 s0n s0c s1 s2 s3 s4 H R) : CallsH Try.prog 71 ⟨[(.slice s0 s0n s0c), (.int .i64 s1), (.int .i64 s2), (.int .i64 s3), (FV.v s4)]⟩ H R :=
  callsH_of_den (an := an) (fuel := 100000) (X := go s0 s0n s0c s1 s2 s3 s4 H R) (c := body) mixed fn (by kernel_rfl) (by kernel_rfl) (by kernel_rfl) ok (by kernel_rfl) h
end F71
/-! ### 72 "math/bits.Len" -/
namespace F72
def an : Ann := { kinds := [], taus := [], pairs := [], lab := [] }
noncomputable def body : Code := (Try.f72.body).getD .skip
theorem fn : Try.prog.funcs[72]? = some Try.f72 := by kernel_rfl
theorem ok : codeOk an 8 body = true := by kernel_rfl
def go (x : Int) (H : Heap) (R : Ending → Heap → Prop) : Prop :=
  callD Try.prog 83 [(.int .u64 x)] H (panK R) fun v H1 =>
  tInt v .i64 fun n =>
  R (.returned (.int .i64 n)) H1
theorem calls {x : Int} {H : Heap} {R : Ending → Heap → Prop} (h : go x H R) : CallsH Try.prog 72 ⟨[(.int .u64 x)]⟩ H R :=
  callsH_of_den (an := an) (fuel := 100000) (X := go x H R) (c := body) mixed fn (by kernel_rfl) (by kernel_rfl) (by kernel_rfl) ok (by kernel_rfl) h
end F72
/-! ### 74 "slices.insertionSortCmpFunc[pub-stadtholder/impl.Rev]" -/
namespace F74
def an : Ann := { kinds := [], taus := [(4, [[0, 1, 2, 3, 4, 5, 6, 7, 9, 10, 11, 12, 8, 13, 14, 15, 16]]), (6, [[0, 1, 2, 3, 4, 5, 6, 7, 8, 10, 11, 12, 9, 13, 14, 15, 16, 17]])], pairs := [], lab := [(30000002, [0, 1, 2, 3, 8]), (70000005, [0, 1, 2, 3, 8, 9]), (30000003, [0, 1, 2, 3, 8]), (70000007, [0, 1, 2, 3, 8, 9])] }
noncomputable def body : Code := (Try.f74.body).getD .skip
theorem fn : Try.prog.funcs[74]? = some Try.f74 := by kernel_rfl
theorem ok : codeOk an 53 body = true := by kernel_rfl
noncomputable def L0t : List Item := [.code (sub [1, 0, 0] body), .inLoop (sub [1, 0, 0] body), .inBlock 0]
def L0 (data : Option Addr) (datan : Nat) (datac : Nat) (a : Int) (b : Int) (cmp : FV) (i : Int) (H : Heap) (R : Ending → Heap → Prop) : Prop :=
  GoL Try.prog 74 53 L0t [0, 1, 2, 3, 8] [(.slice data datan datac), (.int .i64 a), (.int .i64 b), (FV.v cmp), (.int .i64 i)] H R
noncomputable def L1t : List Item := [.code (sub [1, 0, 0, 1, 0, 0, 1, 0, 0] body), .inLoop (sub [1, 0, 0, 1, 0, 0, 1, 0, 0] body), .inBlock 2, .inBlock 1, .code (sub [1, 0, 0, 1, 1] body), .inLoop (sub [1, 0, 0] body), .inBlock 0]
def L1 (data : Option Addr) (datan : Nat) (datac : Nat) (a : Int) (b : Int) (cmp : FV) (i : Int) (j : Int) (H : Heap) (R : Ending → Heap → Prop) : Prop :=
  GoL Try.prog 74 53 L1t [0, 1, 2, 3, 8, 9] [(.slice data datan datac), (.int .i64 a), (.int .i64 b), (FV.v cmp), (.int .i64 i), (.int .i64 j)] H R
noncomputable def L2t : List Item := [.code (sub [1, 0, 0, 1, 1] body), .inLoop (sub [1, 0, 0] body), .inBlock 0]
def L2 (data : Option Addr) (datan : Nat) (datac : Nat) (a : Int) (b : Int) (cmp : FV) (i : Int) (H : Heap) (R : Ending → Heap → Prop) : Prop :=
  GoL Try.prog 74 53 L2t [0, 1, 2, 3, 8] [(.slice data datan datac), (.int .i64 a), (.int .i64 b), (FV.v cmp), (.int .i64 i)] H R
noncomputable def L3t : List Item := [.code (sub [1, 0, 0, 1, 0, 0, 1, 0, 0, 1] body), .inLoop (sub [1, 0, 0, 1, 0, 0, 1, 0, 0] body), .inBlock 2, .inBlock 1, .code (sub [1, 0, 0, 1, 1] body), .inLoop (sub [1, 0, 0] body), .inBlock 0]
def L3 (data : Option Addr) (datan : Nat) (datac : Nat) (a : Int) (b : Int) (cmp : FV) (i : Int) (j : Int) (H : Heap) (R : Ending → Heap → Prop) : Prop :=
  GoL Try.prog 74 53 L3t [0, 1, 2, 3, 8, 9] [(.slice data datan datac), (.int .i64 a), (.int .i64 b), (FV.v cmp), (.int .i64 i), (.int .i64 j)] H R
def L0n (data : Option Addr) (datan : Nat) (datac : Nat) (a : Int) (b : Int) (cmp : FV) (i : Int) (H : Heap) (R : Ending → Heap → Prop) : Prop :=
  iteB (decide (i < b)) (
    L1 data datan datac a b cmp i i H R) <|
  R (.returned (.tuple ⟨[]⟩)) H
theorem L0_step {data : Option Addr} {datan : Nat} {datac : Nat} {a : Int} {b : Int} {cmp : FV} {i : Int} {H : Heap} {R : Ending → Heap → Prop} (h : L0n data datan datac a b cmp i H R) : L0 data datan datac a b cmp i H R :=
  goL_of_den (an := an) (fuel := 100000) (X := L0n data datan datac a b cmp i H R) mixed fn (by kernel_rfl) (fun ρ0 => by kernel_rfl) h
def L1n (data : Option Addr) (datan : Nat) (datac : Nat) (a : Int) (b : Int) (cmp : FV) (i : Int) (j : Int) (H : Heap) (R : Ending → Heap → Prop) : Prop :=
  iteB (decide (j > a)) (
    idxD data datan j fun a1 =>
    idxD data datan (IntKind.wrap .i64 (j - (1 : Int))) fun a2 =>
    ldInt H (Addr.add a1 (Int.toNat j * 2)) .i64 fun n =>
    ldInt H (Addr.add (Addr.add a1 (Int.toNat j * 2)) 1) .i64 fun n1 =>
    ldInt H (Addr.add a2 (Int.toNat (IntKind.wrap .i64 (j - (1 : Int))) * 2)) .i64 fun n2 =>
    ldInt H (Addr.add (Addr.add a2 (Int.toNat (IntKind.wrap .i64 (j - (1 : Int))) * 2)) 1) .i64 fun n3 =>
    callV Try.prog (FV.v cmp) [(.agg ⟨[(.int .i64 n), (.int .i64 n1)]⟩), (.agg ⟨[(.int .i64 n2), (.int .i64 n3)]⟩)] H (panK R) fun v H1 =>
    tInt v .i64 fun n4 =>
    iteB (decide (n4 < (0 : Int))) (
      L3 data datan datac a b cmp i j H1 R) <|
    L2 data datan datac a b cmp i H1 R) <|
  L2 data datan datac a b cmp i H R
theorem L1_step {data : Option Addr} {datan : Nat} {datac : Nat} {a : Int} {b : Int} {cmp : FV} {i : Int} {j : Int} {H : Heap} {R : Ending → Heap → Prop} (h : L1n data datan datac a b cmp i j H R) : L1 data datan datac a b cmp i j H R :=
  goL_of_den (an := an) (fuel := 100000) (X := L1n data datan datac a b cmp i j H R) mixed fn (by kernel_rfl) (fun ρ0 => by kernel_rfl) h
def L2n (data : Option Addr) (datan : Nat) (datac : Nat) (a : Int) (b : Int) (cmp : FV) (i : Int) (H : Heap) (R : Ending → Heap → Prop) : Prop :=
  L0 data datan datac a b cmp (IntKind.wrap .i64 (i + (1 : Int))) H R
theorem L2_step {data : Option Addr} {datan : Nat} {datac : Nat} {a : Int} {b : Int} {cmp : FV} {i : Int} {H : Heap} {R : Ending → Heap → Prop} (h : L2n data datan datac a b cmp i H R) : L2 data datan datac a b cmp i H R :=
  goL_of_den (an := an) (fuel := 100000) (X := L2n data datan datac a b cmp i H R) mixed fn (by kernel_rfl) (fun ρ0 => by kernel_rfl) h
def L3n (data : Option Addr) (datan : Nat) (datac : Nat) (a : Int) (b : Int) (cmp : FV) (i : Int) (j : Int) (H : Heap) (R : Ending → Heap → Prop) : Prop :=
  idxD data datan (IntKind.wrap .i64 (j - (1 : Int))) fun a1 =>
  idxD data datan j fun a2 =>
  ldInt H (Addr.add a1 (Int.toNat (IntKind.wrap .i64 (j - (1 : Int))) * 2)) .i64 fun n =>
  ldInt H (Addr.add (Addr.add a1 (Int.toNat (IntKind.wrap .i64 (j - (1 : Int))) * 2)) 1) .i64 fun n1 =>
  ldInt H (Addr.add a2 (Int.toNat j * 2)) .i64 fun n2 =>
  ldInt H (Addr.add (Addr.add a2 (Int.toNat j * 2)) 1) .i64 fun n3 =>
  idxD data datan j fun a3 =>
  st1 H (Addr.add a3 (Int.toNat j * 2)) (.int .i64 n) fun H1 =>
  st1 H1 (Addr.add (Addr.add a3 (Int.toNat j * 2)) 1) (.int .i64 n1) fun H2 =>
  idxD data datan (IntKind.wrap .i64 (j - (1 : Int))) fun a4 =>
  st1 H2 (Addr.add a4 (Int.toNat (IntKind.wrap .i64 (j - (1 : Int))) * 2)) (.int .i64 n2) fun H3 =>
  st1 H3 (Addr.add (Addr.add a4 (Int.toNat (IntKind.wrap .i64 (j - (1 : Int))) * 2)) 1) (.int .i64 n3) fun H4 =>
  L1 data datan datac a b cmp i (IntKind.wrap .i64 (j - (1 : Int))) H4 R
theorem L3_step {data : Option Addr} {datan : Nat} {datac : Nat} {a : Int} {b : Int} {cmp : FV} {i : Int} {j : Int} {H : Heap} {R : Ending → Heap → Prop} (h : L3n data datan datac a b cmp i j H R) : L3 data datan datac a b cmp i j H R :=
  goL_of_den (an := an) (fuel := 100000) (X := L3n data datan datac a b cmp i j H R) mixed fn (by kernel_rfl) (fun ρ0 => by kernel_rfl) h
def go (data : Option Addr) (datan : Nat) (datac : Nat) (a : Int) (b : Int) (cmp : FV) (H : Heap) (R : Ending → Heap → Prop) : Prop :=
  L0 data datan datac a b cmp (IntKind.wrap .i64 (a + (1 : Int))) H R
theorem calls {data : Option Addr} {datan : Nat} {datac : Nat} {a : Int} {b : Int} {cmp : FV} {H : Heap} {R : Ending → Heap → Prop} (h : go data datan datac a b cmp H R) : CallsH Try.prog 74 ⟨[(.slice data datan datac), (.int .i64 a), (.int .i64 b), (FV.v cmp)]⟩ H R :=
  callsH_of_den (an := an) (fuel := 100000) (X := go data datan datac a b cmp H R) (c := body) mixed fn (by kernel_rfl) (by kernel_rfl) (by kernel_rfl) ok (by kernel_rfl) h
end F74
/-! ### 83 "math/bits.Len64" -/
namespace F83
def an : Ann := { kinds := [], taus := [], pairs := [], lab := [(10000005, [0, 2]), (10000008, [0, 2]), (10000011, [0, 2])] }
noncomputable def body : Code := (Try.f83.body).getD .skip
theorem fn : Try.prog.funcs[83]? = some Try.f83 := by kernel_rfl
theorem ok : codeOk an 25 body = true := by kernel_rfl
noncomputable def L0t : List Item := [.code (sub [1, 1] body)]
def L0 (x : Int) (n : Int) (H : Heap) (R : Ending → Heap → Prop) : Prop :=
  GoL Try.prog 83 25 L0t [0, 2] [(.int .u64 x), (.int .i64 n)] H R
noncomputable def L1t : List Item := [.code (sub [1, 1, 1] body)]
def L1 (x : Int) (n : Int) (H : Heap) (R : Ending → Heap → Prop) : Prop :=
  GoL Try.prog 83 25 L1t [0, 2] [(.int .u64 x), (.int .i64 n)] H R
noncomputable def L2t : List Item := [.code (sub [1, 1, 1, 1] body)]
def L2 (x : Int) (n : Int) (H : Heap) (R : Ending → Heap → Prop) : Prop :=
  GoL Try.prog 83 25 L2t [0, 2] [(.int .u64 x), (.int .i64 n)] H R
def L0n (x : Int) (n : Int) (H : Heap) (R : Ending → Heap → Prop) : Prop :=
  iteB (decide (x ≥ (65536 : Int))) (
    shD (16 : Int) <|
    L1 (shrZ .u64 x (16 : Int)) (IntKind.wrap .i64 (n + (16 : Int))) H R) <|
  L1 x n H R
theorem L0_step {x : Int} {n : Int} {H : Heap} {R : Ending → Heap → Prop} (h : L0n x n H R) : L0 x n H R :=
  goL_of_den (an := an) (fuel := 100000) (X := L0n x n H R) mixed fn (by kernel_rfl) (fun ρ0 => by kernel_rfl) h
def L1n (x : Int) (n : Int) (H : Heap) (R : Ending → Heap → Prop) : Prop :=
  iteB (decide (x ≥ (256 : Int))) (
    shD (8 : Int) <|
    L2 (shrZ .u64 x (8 : Int)) (IntKind.wrap .i64 (n + (8 : Int))) H R) <|
  L2 x n H R
theorem L1_step {x : Int} {n : Int} {H : Heap} {R : Ending → Heap → Prop} (h : L1n x n H R) : L1 x n H R :=
  goL_of_den (an := an) (fuel := 100000) (X := L1n x n H R) mixed fn (by kernel_rfl) (fun ρ0 => by kernel_rfl) h
def L2n (x : Int) (n : Int) (H : Heap) (R : Ending → Heap → Prop) : Prop :=
  ixS (ByteArray.mk #[0, 1, 2, 2, 3, 3, 3, 3, 4, 4, 4, 4, 4, 4, 4, 4, 5, 5, 5, 5, 5, 5, 5, 5, 5, 5, 5, 5, 5, 5, 5, 5, 6, 6, 6, 6, 6, 6, 6, 6, 6, 6, 6, 6, 6, 6, 6, 6, 6, 6, 6, 6, 6, 6, 6, 6, 6, 6, 6, 6, 6, 6, 6, 6, 7, 7, 7, 7, 7, 7, 7, 7, 7, 7, 7, 7, 7, 7, 7, 7, 7, 7, 7, 7, 7, 7, 7, 7, 7, 7, 7, 7, 7, 7, 7, 7, 7, 7, 7, 7, 7, 7, 7, 7, 7, 7, 7, 7, 7, 7, 7, 7, 7, 7, 7, 7, 7, 7, 7, 7, 7, 7, 7, 7, 7, 7, 7, 7, 8, 8, 8, 8, 8, 8, 8, 8, 8, 8, 8, 8, 8, 8, 8, 8, 8, 8, 8, 8, 8, 8, 8, 8, 8, 8, 8, 8, 8, 8, 8, 8, 8, 8, 8, 8, 8, 8, 8, 8, 8, 8, 8, 8, 8, 8, 8, 8, 8, 8, 8, 8, 8, 8, 8, 8, 8, 8, 8, 8, 8, 8, 8, 8, 8, 8, 8, 8, 8, 8, 8, 8, 8, 8, 8, 8, 8, 8, 8, 8, 8, 8, 8, 8, 8, 8, 8, 8, 8, 8, 8, 8, 8, 8, 8, 8, 8, 8, 8, 8, 8, 8, 8, 8, 8, 8, 8, 8, 8, 8, 8, 8, 8, 8, 8, 8, 8, 8, 8, 8, 8, 8, 8, 8, 8, 8, 8, 8]) (IntKind.wrap .u8 x) fun b =>
  R (.returned (.int .i64 (IntKind.wrap .i64 (n + (IntKind.wrap .i64 ((UInt8.toNat b : Nat) : Int)))))) H
theorem L2_step {x : Int} {n : Int} {H : Heap} {R : Ending → Heap → Prop} (h : L2n x n H R) : L2 x n H R :=
  goL_of_den (an := an) (fuel := 100000) (X := L2n x n H R) mixed fn (by kernel_rfl) (fun ρ0 => by kernel_rfl) h
def go (x : Int) (H : Heap) (R : Ending → Heap → Prop) : Prop :=
  iteB (decide (x ≥ (4294967296 : Int))) (
    shD (32 : Int) <|
    L0 (shrZ .u64 x (32 : Int)) (32 : Int) H R) <|
  L0 x (0 : Int) H R
theorem calls {x : Int} {H : Heap} {R : Ending → Heap → Prop} (h : go x H R) : CallsH Try.prog 83 ⟨[(.int .u64 x)]⟩ H R :=
  callsH_of_den (an := an) (fuel := 100000) (X := go x H R) (c := body) mixed fn (by kernel_rfl) (by kernel_rfl) (by kernel_rfl) ok (by kernel_rfl) h
end F83
end Go.Proofs.Ytpjnmdeeoafclaa
