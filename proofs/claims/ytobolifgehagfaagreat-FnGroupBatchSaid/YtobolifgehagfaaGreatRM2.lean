/- What functions of this seat do, each proved by a walk; no condition. -/
import Derived.Test.YtobolifgehagfaaGreatQD2
import Derived.KernelRfl
set_option linter.unusedVariables false
namespace Go.Proofs.YtobolifgehagfaaGreat
open Go Go.Den Go.Proofs
/-! ### 47 "slices.SortFunc[[]pub-stadtholder/impl.Told,pub-stadtholder/impl.Told]" -/
namespace F47
def an : Ann := { kinds := [], taus := [], pairs := [], lab := [] }
noncomputable def body : Code := (Tryz.f47.body).getD .skip
theorem fn : Tryz.prog.funcs[47]? = some Tryz.f47 := by kernel_rfl
theorem ok : codeOk an 14 body = true := by kernel_rfl
def go (x : OA) (xn xc : Nat) (cmp : FV) (H : Heap) (R : EH) : Prop :=
 callD Tryz.prog 58 [(.int .u64 (IntKind.wrap .u64 ((xn : Nat) : Int)))] H (panK R) fun v H1 =>
 tInt v .i64 fun n =>
 callD Tryz.prog 61 [(.slice x xn xc), (.int .i64 (0 : Int)), (.int .i64 ((xn : Nat) : Int)), (.int .i64 n), (FV.v cmp)] H1 (panK R) fun v1 H2 =>
 tTup v1 fun l =>
 tNil l <|
 R (.returned (.tuple ⟨[]⟩)) H2
theorem calls {x : OA} {xn xc : Nat} {cmp : FV} {H : Heap} {R : EH} (h : go x xn xc cmp H R) : CallsH Tryz.prog 47 ⟨[(.slice x xn xc), (FV.v cmp)]⟩ H R :=
 callsH_of_den (an := an) (fuel := 100000) (X := go x xn xc cmp H R) (c := body) mixed fn (by kernel_rfl) (by kernel_rfl) (by kernel_rfl) ok (by kernel_rfl) h
end F47
/-! ### 61 "slices.pdqsortCmpFunc[pub-stadtholder/impl.Told]" -/
namespace F61
def an : Ann := { kinds := [], taus := [(17, [[0, 1, 2, 3, 4, 5, 6, 7, 9, 10, 11, 8, 12, 13, 14, 15, 16]])], pairs := [], lab := [(30000003, [0, 1, 2, 3, 4, 10, 11]), (40000011, [0, 1, 2, 3, 4, 10, 11, 12]), (40000016, [0, 1, 2, 3, 4, 10, 11, 12, 13, 14]), (50000017, [0, 1, 2, 3, 4, 10, 11, 12, 13]), (40000018, [0, 1, 2, 3, 4, 10, 11, 12, 13]), (40000021, [0, 1, 2, 3, 4, 12, 13]), (50000019, [0, 1, 2, 3, 4, 10, 11, 13])] }
noncomputable def body : Code := (Tryz.f61.body).getD .skip
theorem fn : Tryz.prog.funcs[61]? = some Tryz.f61 := by kernel_rfl
theorem ok : codeOk an 148 body = true := by kernel_rfl
noncomputable def L0t : List Item := [.code (sub [1, 1, 0, 0] body), .inLoop (sub [1, 1, 0, 0] body), .inBlock 0]
def L0 (s0 : OA) (s0n s0c : Nat) (s1 s2 s3 : Int) (s4 : FV) (s10 s11 : Bool) (H : Heap) (R : EH) : Prop :=
 GoL Tryz.prog 61 148 L0t [0, 1, 2, 3, 4, 10, 11] [(.slice s0 s0n s0c), (.int .i64 s1), (.int .i64 s2), (.int .i64 s3), (FV.v s4), (.bool s10), (.bool s11)] H R
noncomputable def L1t : List Item := [.code (sub [1, 1, 0, 0, 0, 1, 1, 1, 1] body), .inBlock 1, .inLoop (sub [1, 1, 0, 0] body), .inBlock 0]
def L1 (s0 : OA) (s0n s0c : Nat) (s1 s2 s3 : Int) (s4 : FV) (s10 s11 : Bool) (s12 : Int) (H : Heap) (R : EH) : Prop :=
 GoL Tryz.prog 61 148 L1t [0, 1, 2, 3, 4, 10, 11, 12] [(.slice s0 s0n s0c), (.int .i64 s1), (.int .i64 s2), (.int .i64 s3), (FV.v s4), (.bool s10), (.bool s11), (.int .i64 s12)] H R
noncomputable def L2t : List Item := [.code (sub [1, 1, 0, 0, 0, 1, 1, 1, 1, 1, 1] body), .inBlock 1, .inLoop (sub [1, 1, 0, 0] body), .inBlock 0]
def L2 (s0 : OA) (s0n s0c : Nat) (s1 s2 s3 : Int) (s4 : FV) (s10 s11 : Bool) (s12 s13 s14 : Int) (H : Heap) (R : EH) : Prop :=
 GoL Tryz.prog 61 148 L2t [0, 1, 2, 3, 4, 10, 11, 12, 13, 14] [(.slice s0 s0n s0c), (.int .i64 s1), (.int .i64 s2), (.int .i64 s3), (FV.v s4), (.bool s10), (.bool s11), (.int .i64 s12), (.int .i64 s13), (.int .i64 s14)] H R
noncomputable def L3t : List Item := [.code (sub [1, 1, 0, 0, 0, 1, 1, 1, 1, 1, 1, 0, 1, 0] body), .code (sub [1, 1, 0, 0, 0, 1, 1, 1, 1, 1, 1, 1] body), .inBlock 1, .inLoop (sub [1, 1, 0, 0] body), .inBlock 0]
def L3 (s0 : OA) (s0n s0c : Nat) (s1 s2 s3 : Int) (s4 : FV) (s10 s11 : Bool) (s12 s13 : Int) (H : Heap) (R : EH) : Prop :=
 GoL Tryz.prog 61 148 L3t [0, 1, 2, 3, 4, 10, 11, 12, 13] [(.slice s0 s0n s0c), (.int .i64 s1), (.int .i64 s2), (.int .i64 s3), (FV.v s4), (.bool s10), (.bool s11), (.int .i64 s12), (.int .i64 s13)] H R
noncomputable def L4t : List Item := [.code (sub [1, 1, 0, 0, 0, 1, 1, 1, 1, 1, 1, 1] body), .inBlock 1, .inLoop (sub [1, 1, 0, 0] body), .inBlock 0]
def L4 (s0 : OA) (s0n s0c : Nat) (s1 s2 s3 : Int) (s4 : FV) (s10 s11 : Bool) (s12 s13 : Int) (H : Heap) (R : EH) : Prop :=
 GoL Tryz.prog 61 148 L4t [0, 1, 2, 3, 4, 10, 11, 12, 13] [(.slice s0 s0n s0c), (.int .i64 s1), (.int .i64 s2), (.int .i64 s3), (FV.v s4), (.bool s10), (.bool s11), (.int .i64 s12), (.int .i64 s13)] H R
noncomputable def L5t : List Item := [.code (sub [1, 1, 0, 0, 0, 1, 1, 1, 1, 1, 1, 1, 1] body), .inBlock 1, .inLoop (sub [1, 1, 0, 0] body), .inBlock 0]
def L5 (s0 : OA) (s0n s0c : Nat) (s1 s2 s3 : Int) (s4 : FV) (s12 s13 : Int) (H : Heap) (R : EH) : Prop :=
 GoL Tryz.prog 61 148 L5t [0, 1, 2, 3, 4, 12, 13] [(.slice s0 s0n s0c), (.int .i64 s1), (.int .i64 s2), (.int .i64 s3), (FV.v s4), (.int .i64 s12), (.int .i64 s13)] H R
noncomputable def L6t : List Item := [.code (sub [1, 1, 0, 0, 0, 1, 1, 1, 1, 1, 1, 1, 0, 1, 0] body), .code (sub [1, 1, 0, 0, 0, 1, 1, 1, 1, 1, 1, 1, 1] body), .inBlock 1, .inLoop (sub [1, 1, 0, 0] body), .inBlock 0]
def L6 (s0 : OA) (s0n s0c : Nat) (s1 s2 s3 : Int) (s4 : FV) (s10 s11 : Bool) (s13 : Int) (H : Heap) (R : EH) : Prop :=
 GoL Tryz.prog 61 148 L6t [0, 1, 2, 3, 4, 10, 11, 13] [(.slice s0 s0n s0c), (.int .i64 s1), (.int .i64 s2), (.int .i64 s3), (FV.v s4), (.bool s10), (.bool s11), (.int .i64 s13)] H R
def L0n (s0 : OA) (s0n s0c : Nat) (s1 s2 s3 : Int) (s4 : FV) (s10 s11 : Bool) (H : Heap) (R : EH) : Prop :=
 iteB (decide ((IntKind.wrap .i64 (s2 - s1)) ≤ (12 : Int))) (
 callD Tryz.prog 82 [(.slice s0 s0n s0c), (.int .i64 s1), (.int .i64 s2), (FV.v s4)] H (panK R) fun v H1 =>
 tTup v fun l =>
 tNil l <|
 R (.returned (.tuple ⟨[]⟩)) H1) <|
 iteB (s3 == (0 : Int)) (
 callD Tryz.prog 83 [(.slice s0 s0n s0c), (.int .i64 s1), (.int .i64 s2), (FV.v s4)] H (panK R) fun v1 H2 =>
 tTup v1 fun l1 =>
 tNil l1 <|
 R (.returned (.tuple ⟨[]⟩)) H2) <|
 iteB (!s10) (
 callD Tryz.prog 84 [(.slice s0 s0n s0c), (.int .i64 s1), (.int .i64 s2), (FV.v s4)] H (panK R) fun v2 H3 =>
 tTup v2 fun l2 =>
 tNil l2 <|
 L1 s0 s0n s0c s1 s2 (IntKind.wrap .i64 (s3 - (1 : Int))) s4 s10 s11 (IntKind.wrap .i64 (s2 - s1)) H3 R) <|
 L1 s0 s0n s0c s1 s2 s3 s4 s10 s11 (IntKind.wrap .i64 (s2 - s1)) H R
theorem L0_step {s0 : OA} {s0n s0c : Nat} {s1 s2 s3 : Int} {s4 : FV} {s10 s11 : Bool} {H : Heap} {R : EH} (h : L0n s0 s0n s0c s1 s2 s3 s4 s10 s11 H R) : L0 s0 s0n s0c s1 s2 s3 s4 s10 s11 H R :=
 goL_of_den (an := an) (fuel := 100000) (X := L0n s0 s0n s0c s1 s2 s3 s4 s10 s11 H R) mixed fn (by kernel_rfl) (fun ρ0 => by kernel_rfl) h
def L1n (s0 : OA) (s0n s0c : Nat) (s1 s2 s3 : Int) (s4 : FV) (s10 s11 : Bool) (s12 : Int) (H : Heap) (R : EH) : Prop :=
 callD Tryz.prog 85 [(.slice s0 s0n s0c), (.int .i64 s1), (.int .i64 s2), (FV.v s4)] H (panK R) fun v H1 =>
 tTup v fun l =>
 tCons l fun c l1 =>
 tInt c .i64 fun n =>
 tCons l1 fun c1 l2 =>
 tInt c1 .i64 fun n1 =>
 tNil l2 <|
 iteB (n1 == (2 : Int)) (
 callD Tryz.prog 86 [(.slice s0 s0n s0c), (.int .i64 s1), (.int .i64 s2), (FV.v s4)] H1 (panK R) fun v1 H2 =>
 tTup v1 fun l3 =>
 tNil l3 <|
 L2 s0 s0n s0c s1 s2 s3 s4 s10 s11 s12 (IntKind.wrap .i64 ((IntKind.wrap .i64 (s2 - (1 : Int))) - (IntKind.wrap .i64 (n - s1)))) (1 : Int) H2 R) <|
 L2 s0 s0n s0c s1 s2 s3 s4 s10 s11 s12 n n1 H1 R
theorem L1_step {s0 : OA} {s0n s0c : Nat} {s1 s2 s3 : Int} {s4 : FV} {s10 s11 : Bool} {s12 : Int} {H : Heap} {R : EH} (h : L1n s0 s0n s0c s1 s2 s3 s4 s10 s11 s12 H R) : L1 s0 s0n s0c s1 s2 s3 s4 s10 s11 s12 H R :=
 goL_of_den (an := an) (fuel := 100000) (X := L1n s0 s0n s0c s1 s2 s3 s4 s10 s11 s12 H R) mixed fn (by kernel_rfl) (fun ρ0 => by kernel_rfl) h
def L2n (s0 : OA) (s0n s0c : Nat) (s1 s2 s3 : Int) (s4 : FV) (s10 s11 : Bool) (s12 s13 s14 : Int) (H : Heap) (R : EH) : Prop :=
 iteB s10 (
 iteB s11 (
 iteB (s14 == (1 : Int)) (
 L3 s0 s0n s0c s1 s2 s3 s4 s10 s11 s12 s13 H R) <|
 L4 s0 s0n s0c s1 s2 s3 s4 s10 s11 s12 s13 H R) <|
 L4 s0 s0n s0c s1 s2 s3 s4 s10 s11 s12 s13 H R) <|
 L4 s0 s0n s0c s1 s2 s3 s4 s10 s11 s12 s13 H R
theorem L2_step {s0 : OA} {s0n s0c : Nat} {s1 s2 s3 : Int} {s4 : FV} {s10 s11 : Bool} {s12 s13 s14 : Int} {H : Heap} {R : EH} (h : L2n s0 s0n s0c s1 s2 s3 s4 s10 s11 s12 s13 s14 H R) : L2 s0 s0n s0c s1 s2 s3 s4 s10 s11 s12 s13 s14 H R :=
 goL_of_den (an := an) (fuel := 100000) (X := L2n s0 s0n s0c s1 s2 s3 s4 s10 s11 s12 s13 s14 H R) mixed fn (by kernel_rfl) (fun ρ0 => by kernel_rfl) h
def L3n (s0 : OA) (s0n s0c : Nat) (s1 s2 s3 : Int) (s4 : FV) (s10 s11 : Bool) (s12 s13 : Int) (H : Heap) (R : EH) : Prop :=
 callD Tryz.prog 87 [(.slice s0 s0n s0c), (.int .i64 s1), (.int .i64 s2), (FV.v s4)] H (panK R) fun v H1 =>
 tBool v fun b =>
 iteB b (
 R (.returned (.tuple ⟨[]⟩)) H1) <|
 L4 s0 s0n s0c s1 s2 s3 s4 s10 s11 s12 s13 H1 R
theorem L3_step {s0 : OA} {s0n s0c : Nat} {s1 s2 s3 : Int} {s4 : FV} {s10 s11 : Bool} {s12 s13 : Int} {H : Heap} {R : EH} (h : L3n s0 s0n s0c s1 s2 s3 s4 s10 s11 s12 s13 H R) : L3 s0 s0n s0c s1 s2 s3 s4 s10 s11 s12 s13 H R :=
 goL_of_den (an := an) (fuel := 100000) (X := L3n s0 s0n s0c s1 s2 s3 s4 s10 s11 s12 s13 H R) mixed fn (by kernel_rfl) (fun ρ0 => by kernel_rfl) h
def L4n (s0 : OA) (s0n s0c : Nat) (s1 s2 s3 : Int) (s4 : FV) (s10 s11 : Bool) (s12 s13 : Int) (H : Heap) (R : EH) : Prop :=
 iteB (decide (s1 > (0 : Int))) (
 idxD s0 s0n (IntKind.wrap .i64 (s1 - (1 : Int))) fun a =>
 idxD s0 s0n s13 fun a1 =>
 ldInt H (Addr.add a (Int.toNat (IntKind.wrap .i64 (s1 - (1 : Int))) * 4)) .i64 fun n =>
 ldSl H (Addr.add (Addr.add a (Int.toNat (IntKind.wrap .i64 (s1 - (1 : Int))) * 4)) 1) fun q qn qc =>
 ldInt H (Addr.add (Addr.add a (Int.toNat (IntKind.wrap .i64 (s1 - (1 : Int))) * 4)) 2) .i64 fun n1 =>
 ldInt H (Addr.add (Addr.add a (Int.toNat (IntKind.wrap .i64 (s1 - (1 : Int))) * 4)) 3) .i64 fun n2 =>
 ldInt H (Addr.add a1 (Int.toNat s13 * 4)) .i64 fun n3 =>
 ldSl H (Addr.add (Addr.add a1 (Int.toNat s13 * 4)) 1) fun q1 q1n q1c =>
 ldInt H (Addr.add (Addr.add a1 (Int.toNat s13 * 4)) 2) .i64 fun n4 =>
 ldInt H (Addr.add (Addr.add a1 (Int.toNat s13 * 4)) 3) .i64 fun n5 =>
 callV Tryz.prog (FV.v s4) [(.agg ⟨[(.int .i64 n), (.slice q qn qc), (.int .i64 n1), (.int .i64 n2)]⟩), (.agg ⟨[(.int .i64 n3), (.slice q1 q1n q1c), (.int .i64 n4), (.int .i64 n5)]⟩)] H (panK R) fun v H1 =>
 tInt v .i64 fun n6 =>
 iteB (!(decide (n6 < (0 : Int)))) (
 L6 s0 s0n s0c s1 s2 s3 s4 s10 s11 s13 H1 R) <|
 L5 s0 s0n s0c s1 s2 s3 s4 s12 s13 H1 R) <|
 L5 s0 s0n s0c s1 s2 s3 s4 s12 s13 H R
theorem L4_step {s0 : OA} {s0n s0c : Nat} {s1 s2 s3 : Int} {s4 : FV} {s10 s11 : Bool} {s12 s13 : Int} {H : Heap} {R : EH} (h : L4n s0 s0n s0c s1 s2 s3 s4 s10 s11 s12 s13 H R) : L4 s0 s0n s0c s1 s2 s3 s4 s10 s11 s12 s13 H R :=
 goL_of_den (an := an) (fuel := 100000) (X := L4n s0 s0n s0c s1 s2 s3 s4 s10 s11 s12 s13 H R) mixed fn (by kernel_rfl) (fun ρ0 => by kernel_rfl) h
def L5n (s0 : OA) (s0n s0c : Nat) (s1 s2 s3 : Int) (s4 : FV) (s12 s13 : Int) (H : Heap) (R : EH) : Prop :=
 callD Tryz.prog 89 [(.slice s0 s0n s0c), (.int .i64 s1), (.int .i64 s2), (.int .i64 s13), (FV.v s4)] H (panK R) fun v H1 =>
 tTup v fun l =>
 tCons l fun c l1 =>
 tInt c .i64 fun n =>
 tCons l1 fun c1 l2 =>
 tBool c1 fun b =>
 tNil l2 <|
 divD (8 : Int) <|
 iteB (decide ((IntKind.wrap .i64 (n - s1)) < (IntKind.wrap .i64 (s2 - n)))) (
 callD Tryz.prog 61 [(.slice s0 s0n s0c), (.int .i64 s1), (.int .i64 n), (.int .i64 s3), (FV.v s4)] H1 (panK R) fun v1 H2 =>
 tTup v1 fun l3 =>
 tNil l3 <|
 L0 s0 s0n s0c (IntKind.wrap .i64 (n + (1 : Int))) s2 s3 s4 (decide ((IntKind.wrap .i64 (n - s1)) ≥ (IntKind.wrap .i64 (Int.tdiv s12 (8 : Int))))) b H2 R) <|
 callD Tryz.prog 61 [(.slice s0 s0n s0c), (.int .i64 (IntKind.wrap .i64 (n + (1 : Int)))), (.int .i64 s2), (.int .i64 s3), (FV.v s4)] H1 (panK R) fun v2 H3 =>
 tTup v2 fun l4 =>
 tNil l4 <|
 L0 s0 s0n s0c s1 n s3 s4 (decide ((IntKind.wrap .i64 (s2 - n)) ≥ (IntKind.wrap .i64 (Int.tdiv s12 (8 : Int))))) b H3 R
theorem L5_step {s0 : OA} {s0n s0c : Nat} {s1 s2 s3 : Int} {s4 : FV} {s12 s13 : Int} {H : Heap} {R : EH} (h : L5n s0 s0n s0c s1 s2 s3 s4 s12 s13 H R) : L5 s0 s0n s0c s1 s2 s3 s4 s12 s13 H R :=
 goL_of_den (an := an) (fuel := 100000) (X := L5n s0 s0n s0c s1 s2 s3 s4 s12 s13 H R) mixed fn (by kernel_rfl) (fun ρ0 => by kernel_rfl) h
def L6n (s0 : OA) (s0n s0c : Nat) (s1 s2 s3 : Int) (s4 : FV) (s10 s11 : Bool) (s13 : Int) (H : Heap) (R : EH) : Prop :=
 callD Tryz.prog 88 [(.slice s0 s0n s0c), (.int .i64 s1), (.int .i64 s2), (.int .i64 s13), (FV.v s4)] H (panK R) fun v H1 =>
 tInt v .i64 fun n =>
 L0 s0 s0n s0c n s2 s3 s4 s10 s11 H1 R
theorem L6_step {s0 : OA} {s0n s0c : Nat} {s1 s2 s3 : Int} {s4 : FV} {s10 s11 : Bool} {s13 : Int} {H : Heap} {R : EH} (h : L6n s0 s0n s0c s1 s2 s3 s4 s10 s11 s13 H R) : L6 s0 s0n s0c s1 s2 s3 s4 s10 s11 s13 H R :=
 goL_of_den (an := an) (fuel := 100000) (X := L6n s0 s0n s0c s1 s2 s3 s4 s10 s11 s13 H R) mixed fn (by kernel_rfl) (fun ρ0 => by kernel_rfl) h
def go (s0 : OA) (s0n s0c : Nat) (s1 s2 s3 : Int) (s4 : FV) (H : Heap) (R : EH) : Prop :=
 L0 s0 s0n s0c s1 s2 s3 s4 true true H R
theorem calls {s0 : OA} {s0n s0c : Nat} {s1 s2 s3 : Int} {s4 : FV} {H : Heap} {R : EH} (h : go s0 s0n s0c s1 s2 s3 s4 H R) : CallsH Tryz.prog 61 ⟨[(.slice s0 s0n s0c), (.int .i64 s1), (.int .i64 s2), (.int .i64 s3), (FV.v s4)]⟩ H R :=
 callsH_of_den (an := an) (fuel := 100000) (X := go s0 s0n s0c s1 s2 s3 s4 H R) (c := body) mixed fn (by kernel_rfl) (by kernel_rfl) (by kernel_rfl) ok (by kernel_rfl) h
end F61
/-! ### 82 "slices.insertionSortCmpFunc[pub-stadtholder/impl.Told]" -/
namespace F82
def an : Ann := { kinds := [], taus := [(4, [[0, 1, 2, 3, 4, 5, 6, 7, 9, 10, 11, 12, 8, 13, 14, 15, 16]]), (6, [[0, 1, 2, 3, 4, 5, 6, 7, 8, 10, 11, 12, 9, 13, 14, 15, 16, 17]])], pairs := [], lab := [(30000002, [0, 1, 2, 3, 8]), (70000005, [0, 1, 2, 3, 8, 9]), (30000003, [0, 1, 2, 3, 8]), (70000007, [0, 1, 2, 3, 8, 9])] }
noncomputable def body : Code := (Tryz.f82.body).getD .skip
theorem fn : Tryz.prog.funcs[82]? = some Tryz.f82 := by kernel_rfl
theorem ok : codeOk an 53 body = true := by kernel_rfl
noncomputable def L0t : List Item := [.code (sub [1, 0, 0] body), .inLoop (sub [1, 0, 0] body), .inBlock 0]
def L0 (data : OA) (datan datac : Nat) (a b : Int) (cmp : FV) (i : Int) (H : Heap) (R : EH) : Prop :=
 GoL Tryz.prog 82 53 L0t [0, 1, 2, 3, 8] [(.slice data datan datac), (.int .i64 a), (.int .i64 b), (FV.v cmp), (.int .i64 i)] H R
noncomputable def L1t : List Item := [.code (sub [1, 0, 0, 1, 0, 0, 1, 0, 0] body), .inLoop (sub [1, 0, 0, 1, 0, 0, 1, 0, 0] body), .inBlock 2, .inBlock 1, .code (sub [1, 0, 0, 1, 1] body), .inLoop (sub [1, 0, 0] body), .inBlock 0]
def L1 (data : OA) (datan datac : Nat) (a b : Int) (cmp : FV) (i j : Int) (H : Heap) (R : EH) : Prop :=
 GoL Tryz.prog 82 53 L1t [0, 1, 2, 3, 8, 9] [(.slice data datan datac), (.int .i64 a), (.int .i64 b), (FV.v cmp), (.int .i64 i), (.int .i64 j)] H R
noncomputable def L2t : List Item := [.code (sub [1, 0, 0, 1, 1] body), .inLoop (sub [1, 0, 0] body), .inBlock 0]
def L2 (data : OA) (datan datac : Nat) (a b : Int) (cmp : FV) (i : Int) (H : Heap) (R : EH) : Prop :=
 GoL Tryz.prog 82 53 L2t [0, 1, 2, 3, 8] [(.slice data datan datac), (.int .i64 a), (.int .i64 b), (FV.v cmp), (.int .i64 i)] H R
noncomputable def L3t : List Item := [.code (sub [1, 0, 0, 1, 0, 0, 1, 0, 0, 1] body), .inLoop (sub [1, 0, 0, 1, 0, 0, 1, 0, 0] body), .inBlock 2, .inBlock 1, .code (sub [1, 0, 0, 1, 1] body), .inLoop (sub [1, 0, 0] body), .inBlock 0]
def L3 (data : OA) (datan datac : Nat) (a b : Int) (cmp : FV) (i j : Int) (H : Heap) (R : EH) : Prop :=
 GoL Tryz.prog 82 53 L3t [0, 1, 2, 3, 8, 9] [(.slice data datan datac), (.int .i64 a), (.int .i64 b), (FV.v cmp), (.int .i64 i), (.int .i64 j)] H R
def L0n (data : OA) (datan datac : Nat) (a b : Int) (cmp : FV) (i : Int) (H : Heap) (R : EH) : Prop :=
 iteB (decide (i < b)) (
 L1 data datan datac a b cmp i i H R) <|
 R (.returned (.tuple ⟨[]⟩)) H
theorem L0_step {data : OA} {datan datac : Nat} {a b : Int} {cmp : FV} {i : Int} {H : Heap} {R : EH} (h : L0n data datan datac a b cmp i H R) : L0 data datan datac a b cmp i H R :=
 goL_of_den (an := an) (fuel := 100000) (X := L0n data datan datac a b cmp i H R) mixed fn (by kernel_rfl) (fun ρ0 => by kernel_rfl) h
def L1n (data : OA) (datan datac : Nat) (a b : Int) (cmp : FV) (i j : Int) (H : Heap) (R : EH) : Prop :=
 iteB (decide (j > a)) (
 idxD data datan j fun a1 =>
 idxD data datan (IntKind.wrap .i64 (j - (1 : Int))) fun a2 =>
 ldInt H (Addr.add a1 (Int.toNat j * 4)) .i64 fun n =>
 ldSl H (Addr.add (Addr.add a1 (Int.toNat j * 4)) 1) fun q qn qc =>
 ldInt H (Addr.add (Addr.add a1 (Int.toNat j * 4)) 2) .i64 fun n1 =>
 ldInt H (Addr.add (Addr.add a1 (Int.toNat j * 4)) 3) .i64 fun n2 =>
 ldInt H (Addr.add a2 (Int.toNat (IntKind.wrap .i64 (j - (1 : Int))) * 4)) .i64 fun n3 =>
 ldSl H (Addr.add (Addr.add a2 (Int.toNat (IntKind.wrap .i64 (j - (1 : Int))) * 4)) 1) fun q1 q1n q1c =>
 ldInt H (Addr.add (Addr.add a2 (Int.toNat (IntKind.wrap .i64 (j - (1 : Int))) * 4)) 2) .i64 fun n4 =>
 ldInt H (Addr.add (Addr.add a2 (Int.toNat (IntKind.wrap .i64 (j - (1 : Int))) * 4)) 3) .i64 fun n5 =>
 callV Tryz.prog (FV.v cmp) [(.agg ⟨[(.int .i64 n), (.slice q qn qc), (.int .i64 n1), (.int .i64 n2)]⟩), (.agg ⟨[(.int .i64 n3), (.slice q1 q1n q1c), (.int .i64 n4), (.int .i64 n5)]⟩)] H (panK R) fun v H1 =>
 tInt v .i64 fun n6 =>
 iteB (decide (n6 < (0 : Int))) (
 L3 data datan datac a b cmp i j H1 R) <|
 L2 data datan datac a b cmp i H1 R) <|
 L2 data datan datac a b cmp i H R
theorem L1_step {data : OA} {datan datac : Nat} {a b : Int} {cmp : FV} {i j : Int} {H : Heap} {R : EH} (h : L1n data datan datac a b cmp i j H R) : L1 data datan datac a b cmp i j H R :=
 goL_of_den (an := an) (fuel := 100000) (X := L1n data datan datac a b cmp i j H R) mixed fn (by kernel_rfl) (fun ρ0 => by kernel_rfl) h
def L2n (data : OA) (datan datac : Nat) (a b : Int) (cmp : FV) (i : Int) (H : Heap) (R : EH) : Prop :=
 L0 data datan datac a b cmp (IntKind.wrap .i64 (i + (1 : Int))) H R
theorem L2_step {data : OA} {datan datac : Nat} {a b : Int} {cmp : FV} {i : Int} {H : Heap} {R : EH} (h : L2n data datan datac a b cmp i H R) : L2 data datan datac a b cmp i H R :=
 goL_of_den (an := an) (fuel := 100000) (X := L2n data datan datac a b cmp i H R) mixed fn (by kernel_rfl) (fun ρ0 => by kernel_rfl) h
def L3n (data : OA) (datan datac : Nat) (a b : Int) (cmp : FV) (i j : Int) (H : Heap) (R : EH) : Prop :=
 idxD data datan (IntKind.wrap .i64 (j - (1 : Int))) fun a1 =>
 idxD data datan j fun a2 =>
 ldInt H (Addr.add a1 (Int.toNat (IntKind.wrap .i64 (j - (1 : Int))) * 4)) .i64 fun n =>
 ldSl H (Addr.add (Addr.add a1 (Int.toNat (IntKind.wrap .i64 (j - (1 : Int))) * 4)) 1) fun q qn qc =>
 ldInt H (Addr.add (Addr.add a1 (Int.toNat (IntKind.wrap .i64 (j - (1 : Int))) * 4)) 2) .i64 fun n1 =>
 ldInt H (Addr.add (Addr.add a1 (Int.toNat (IntKind.wrap .i64 (j - (1 : Int))) * 4)) 3) .i64 fun n2 =>
 ldInt H (Addr.add a2 (Int.toNat j * 4)) .i64 fun n3 =>
 ldSl H (Addr.add (Addr.add a2 (Int.toNat j * 4)) 1) fun q1 q1n q1c =>
 ldInt H (Addr.add (Addr.add a2 (Int.toNat j * 4)) 2) .i64 fun n4 =>
 ldInt H (Addr.add (Addr.add a2 (Int.toNat j * 4)) 3) .i64 fun n5 =>
 idxD data datan j fun a3 =>
 st1 H (Addr.add a3 (Int.toNat j * 4)) (.int .i64 n) fun H1 =>
 st1 H1 (Addr.add (Addr.add a3 (Int.toNat j * 4)) 1) (.slice q qn qc) fun H2 =>
 st1 H2 (Addr.add (Addr.add a3 (Int.toNat j * 4)) 2) (.int .i64 n1) fun H3 =>
 st1 H3 (Addr.add (Addr.add a3 (Int.toNat j * 4)) 3) (.int .i64 n2) fun H4 =>
 idxD data datan (IntKind.wrap .i64 (j - (1 : Int))) fun a4 =>
 st1 H4 (Addr.add a4 (Int.toNat (IntKind.wrap .i64 (j - (1 : Int))) * 4)) (.int .i64 n3) fun H5 =>
 st1 H5 (Addr.add (Addr.add a4 (Int.toNat (IntKind.wrap .i64 (j - (1 : Int))) * 4)) 1) (.slice q1 q1n q1c) fun H6 =>
 st1 H6 (Addr.add (Addr.add a4 (Int.toNat (IntKind.wrap .i64 (j - (1 : Int))) * 4)) 2) (.int .i64 n4) fun H7 =>
 st1 H7 (Addr.add (Addr.add a4 (Int.toNat (IntKind.wrap .i64 (j - (1 : Int))) * 4)) 3) (.int .i64 n5) fun H8 =>
 L1 data datan datac a b cmp i (IntKind.wrap .i64 (j - (1 : Int))) H8 R
theorem L3_step {data : OA} {datan datac : Nat} {a b : Int} {cmp : FV} {i j : Int} {H : Heap} {R : EH} (h : L3n data datan datac a b cmp i j H R) : L3 data datan datac a b cmp i j H R :=
 goL_of_den (an := an) (fuel := 100000) (X := L3n data datan datac a b cmp i j H R) mixed fn (by kernel_rfl) (fun ρ0 => by kernel_rfl) h
def go (data : OA) (datan datac : Nat) (a b : Int) (cmp : FV) (H : Heap) (R : EH) : Prop :=
 L0 data datan datac a b cmp (IntKind.wrap .i64 (a + (1 : Int))) H R
theorem calls {data : OA} {datan datac : Nat} {a b : Int} {cmp : FV} {H : Heap} {R : EH} (h : go data datan datac a b cmp H R) : CallsH Tryz.prog 82 ⟨[(.slice data datan datac), (.int .i64 a), (.int .i64 b), (FV.v cmp)]⟩ H R :=
 callsH_of_den (an := an) (fuel := 100000) (X := go data datan datac a b cmp H R) (c := body) mixed fn (by kernel_rfl) (by kernel_rfl) (by kernel_rfl) ok (by kernel_rfl) h
end F82
/-! ### 83 "slices.heapSortCmpFunc[pub-stadtholder/impl.Told]" -/
namespace F83
def an : Ann := { kinds := [], taus := [(10, [[0, 1, 2, 3, 4, 5, 6, 7, 8, 9, 10, 12, 13, 14, 11, 15, 16, 17, 18, 19]])], pairs := [], lab := [(40000005, [0, 3, 8, 9, 10, 11]), (30000009, [0, 3, 8, 9, 12])] }
noncomputable def body : Code := (Tryz.f83.body).getD .skip
theorem fn : Tryz.prog.funcs[83]? = some Tryz.f83 := by kernel_rfl
theorem ok : codeOk an 60 body = true := by kernel_rfl
noncomputable def L0t : List Item := [.code (sub [1, 1, 1, 0, 1, 0, 0] body), .inLoop (sub [1, 1, 1, 0, 1, 0, 0] body), .inBlock 0, .code (sub [1, 1, 1, 1] body)]
def L0 (data : OA) (datan datac : Nat) (cmp : FV) (first lo hi i : Int) (H : Heap) (R : EH) : Prop :=
 GoL Tryz.prog 83 60 L0t [0, 3, 8, 9, 10, 11] [(.slice data datan datac), (FV.v cmp), (.int .i64 first), (.int .i64 lo), (.int .i64 hi), (.int .i64 i)] H R
noncomputable def L1t : List Item := [.code (sub [1, 1, 1, 1, 1, 0, 0] body), .inLoop (sub [1, 1, 1, 1, 1, 0, 0] body), .inBlock 2]
def L1 (data : OA) (datan datac : Nat) (cmp : FV) (first lo i : Int) (H : Heap) (R : EH) : Prop :=
 GoL Tryz.prog 83 60 L1t [0, 3, 8, 9, 12] [(.slice data datan datac), (FV.v cmp), (.int .i64 first), (.int .i64 lo), (.int .i64 i)] H R
def L0n (data : OA) (datan datac : Nat) (cmp : FV) (first lo hi i : Int) (H : Heap) (R : EH) : Prop :=
 iteB (decide (i ≥ (0 : Int))) (
 callD Tryz.prog 96 [(.slice data datan datac), (.int .i64 i), (.int .i64 hi), (.int .i64 first), (FV.v cmp)] H (panK R) fun v H1 =>
 tTup v fun l =>
 tNil l <|
 L0 data datan datac cmp first lo hi (IntKind.wrap .i64 (i - (1 : Int))) H1 R) <|
 L1 data datan datac cmp first lo (IntKind.wrap .i64 (hi - (1 : Int))) H R
theorem L0_step {data : OA} {datan datac : Nat} {cmp : FV} {first lo hi i : Int} {H : Heap} {R : EH} (h : L0n data datan datac cmp first lo hi i H R) : L0 data datan datac cmp first lo hi i H R :=
 goL_of_den (an := an) (fuel := 100000) (X := L0n data datan datac cmp first lo hi i H R) mixed fn (by kernel_rfl) (fun ρ0 => by kernel_rfl) h
def L1n (data : OA) (datan datac : Nat) (cmp : FV) (first lo i : Int) (H : Heap) (R : EH) : Prop :=
 iteB (decide (i ≥ (0 : Int))) (
 idxD data datan (IntKind.wrap .i64 (first + i)) fun a =>
 idxD data datan first fun a1 =>
 ldInt H (Addr.add a (Int.toNat (IntKind.wrap .i64 (first + i)) * 4)) .i64 fun n =>
 ldSl H (Addr.add (Addr.add a (Int.toNat (IntKind.wrap .i64 (first + i)) * 4)) 1) fun q qn qc =>
 ldInt H (Addr.add (Addr.add a (Int.toNat (IntKind.wrap .i64 (first + i)) * 4)) 2) .i64 fun n1 =>
 ldInt H (Addr.add (Addr.add a (Int.toNat (IntKind.wrap .i64 (first + i)) * 4)) 3) .i64 fun n2 =>
 ldInt H (Addr.add a1 (Int.toNat first * 4)) .i64 fun n3 =>
 ldSl H (Addr.add (Addr.add a1 (Int.toNat first * 4)) 1) fun q1 q1n q1c =>
 ldInt H (Addr.add (Addr.add a1 (Int.toNat first * 4)) 2) .i64 fun n4 =>
 ldInt H (Addr.add (Addr.add a1 (Int.toNat first * 4)) 3) .i64 fun n5 =>
 idxD data datan first fun a2 =>
 st1 H (Addr.add a2 (Int.toNat first * 4)) (.int .i64 n) fun H1 =>
 st1 H1 (Addr.add (Addr.add a2 (Int.toNat first * 4)) 1) (.slice q qn qc) fun H2 =>
 st1 H2 (Addr.add (Addr.add a2 (Int.toNat first * 4)) 2) (.int .i64 n1) fun H3 =>
 st1 H3 (Addr.add (Addr.add a2 (Int.toNat first * 4)) 3) (.int .i64 n2) fun H4 =>
 idxD data datan (IntKind.wrap .i64 (first + i)) fun a3 =>
 st1 H4 (Addr.add a3 (Int.toNat (IntKind.wrap .i64 (first + i)) * 4)) (.int .i64 n3) fun H5 =>
 st1 H5 (Addr.add (Addr.add a3 (Int.toNat (IntKind.wrap .i64 (first + i)) * 4)) 1) (.slice q1 q1n q1c) fun H6 =>
 st1 H6 (Addr.add (Addr.add a3 (Int.toNat (IntKind.wrap .i64 (first + i)) * 4)) 2) (.int .i64 n4) fun H7 =>
 st1 H7 (Addr.add (Addr.add a3 (Int.toNat (IntKind.wrap .i64 (first + i)) * 4)) 3) (.int .i64 n5) fun H8 =>
 callD Tryz.prog 96 [(.slice data datan datac), (.int .i64 lo), (.int .i64 i), (.int .i64 first), (FV.v cmp)] H8 (panK R) fun v H9 =>
 tTup v fun l =>
 tNil l <|
 L1 data datan datac cmp first lo (IntKind.wrap .i64 (i - (1 : Int))) H9 R) <|
 R (.returned (.tuple ⟨[]⟩)) H
theorem L1_step {data : OA} {datan datac : Nat} {cmp : FV} {first lo i : Int} {H : Heap} {R : EH} (h : L1n data datan datac cmp first lo i H R) : L1 data datan datac cmp first lo i H R :=
 goL_of_den (an := an) (fuel := 100000) (X := L1n data datan datac cmp first lo i H R) mixed fn (by kernel_rfl) (fun ρ0 => by kernel_rfl) h
def go (data : OA) (datan datac : Nat) (a b : Int) (cmp : FV) (H : Heap) (R : EH) : Prop :=
 divD (2 : Int) <|
 L0 data datan datac cmp a (0 : Int) (IntKind.wrap .i64 (b - a)) (IntKind.wrap .i64 (Int.tdiv (IntKind.wrap .i64 ((IntKind.wrap .i64 (b - a)) - (1 : Int))) (2 : Int))) H R
theorem calls {data : OA} {datan datac : Nat} {a b : Int} {cmp : FV} {H : Heap} {R : EH} (h : go data datan datac a b cmp H R) : CallsH Tryz.prog 83 ⟨[(.slice data datan datac), (.int .i64 a), (.int .i64 b), (FV.v cmp)]⟩ H R :=
 callsH_of_den (an := an) (fuel := 100000) (X := go data datan datac a b cmp H R) (c := body) mixed fn (by kernel_rfl) (by kernel_rfl) (by kernel_rfl) ok (by kernel_rfl) h
end F83
/-! ### 84 "slices.breakPatternsCmpFunc[pub-stadtholder/impl.Told]" -/
namespace F84
def an : Ann := { kinds := [], taus := [(10, [[0, 1, 2, 3, 4, 5, 6, 7, 8, 9, 10, 12, 13, 14, 11, 15, 16, 17, 18, 19]])], pairs := [], lab := [(30000006, [0, 1, 8, 9, 10, 11]), (50000011, [0, 1, 8, 9, 10, 11, 12])] }
noncomputable def body : Code := (Tryz.f84.body).getD .skip
theorem fn : Tryz.prog.funcs[84]? = some Tryz.f84 := by kernel_rfl
theorem ok : codeOk an 67 body = true := by kernel_rfl
noncomputable def L0t : List Item := [.code (sub [1, 1, 0, 1, 1, 1, 0, 0] body), .inLoop (sub [1, 1, 0, 1, 1, 1, 0, 0] body), .inBlock 0]
def L0 (s0 : OA) (s0n s0c : Nat) (s1 s8 : Int) (s9 : Nat) (s10 s11 : Int) (H : Heap) (R : EH) : Prop :=
 GoL Tryz.prog 84 67 L0t [0, 1, 8, 9, 10, 11] [(.slice s0 s0n s0c), (.int .i64 s1), (.int .i64 s8), (.pointer (some ⟨s9, 0, none⟩)), (.int .u64 s10), (.int .i64 s11)] H R
noncomputable def L1t : List Item := [.code (sub [1, 1, 0, 1, 1, 1, 0, 0, 1, 0, 0, 1, 1] body), .inBlock 1, .code (sub [1, 1, 0, 1, 1, 1, 0, 0, 1, 1] body), .inLoop (sub [1, 1, 0, 1, 1, 1, 0, 0] body), .inBlock 0]
def L1 (s0 : OA) (s0n s0c : Nat) (s1 s8 : Int) (s9 : Nat) (s10 s11 s12 : Int) (H : Heap) (R : EH) : Prop :=
 GoL Tryz.prog 84 67 L1t [0, 1, 8, 9, 10, 11, 12] [(.slice s0 s0n s0c), (.int .i64 s1), (.int .i64 s8), (.pointer (some ⟨s9, 0, none⟩)), (.int .u64 s10), (.int .i64 s11), (.int .i64 s12)] H R
def L0n (s0 : OA) (s0n s0c : Nat) (s1 s8 : Int) (s9 : Nat) (s10 s11 : Int) (H : Heap) (R : EH) : Prop :=
 divD (4 : Int) <|
 iteB (decide (s11 ≤ (IntKind.wrap .i64 ((IntKind.wrap .i64 (s1 + (IntKind.wrap .i64 ((IntKind.wrap .i64 (Int.tdiv s8 (4 : Int))) * (2 : Int))))) + (1 : Int))))) (
 callD Tryz.prog 92 [(.pointer (some ⟨s9, 0, none⟩))] H (panK R) fun v H1 =>
 tInt v .u64 fun n =>
 iteB (decide ((IntKind.wrap .i64 (andZ .u64 n (IntKind.wrap .u64 (s10 - (1 : Int))))) ≥ s8)) (
 L1 s0 s0n s0c s1 s8 s9 s10 s11 (IntKind.wrap .i64 ((IntKind.wrap .i64 (andZ .u64 n (IntKind.wrap .u64 (s10 - (1 : Int))))) - s8)) H1 R) <|
 L1 s0 s0n s0c s1 s8 s9 s10 s11 (IntKind.wrap .i64 (andZ .u64 n (IntKind.wrap .u64 (s10 - (1 : Int))))) H1 R) <|
 R (.returned (.tuple ⟨[]⟩)) H
theorem L0_step {s0 : OA} {s0n s0c : Nat} {s1 s8 : Int} {s9 : Nat} {s10 s11 : Int} {H : Heap} {R : EH} (h : L0n s0 s0n s0c s1 s8 s9 s10 s11 H R) : L0 s0 s0n s0c s1 s8 s9 s10 s11 H R :=
 goL_of_den (an := an) (fuel := 100000) (X := L0n s0 s0n s0c s1 s8 s9 s10 s11 H R) mixed fn (by kernel_rfl) (fun ρ0 => by kernel_rfl) h
def L1n (s0 : OA) (s0n s0c : Nat) (s1 s8 : Int) (s9 : Nat) (s10 s11 s12 : Int) (H : Heap) (R : EH) : Prop :=
 idxD s0 s0n (IntKind.wrap .i64 (s1 + s12)) fun a =>
 idxD s0 s0n s11 fun a1 =>
 ldInt H (Addr.add a (Int.toNat (IntKind.wrap .i64 (s1 + s12)) * 4)) .i64 fun n =>
 ldSl H (Addr.add (Addr.add a (Int.toNat (IntKind.wrap .i64 (s1 + s12)) * 4)) 1) fun q qn qc =>
 ldInt H (Addr.add (Addr.add a (Int.toNat (IntKind.wrap .i64 (s1 + s12)) * 4)) 2) .i64 fun n1 =>
 ldInt H (Addr.add (Addr.add a (Int.toNat (IntKind.wrap .i64 (s1 + s12)) * 4)) 3) .i64 fun n2 =>
 ldInt H (Addr.add a1 (Int.toNat s11 * 4)) .i64 fun n3 =>
 ldSl H (Addr.add (Addr.add a1 (Int.toNat s11 * 4)) 1) fun q1 q1n q1c =>
 ldInt H (Addr.add (Addr.add a1 (Int.toNat s11 * 4)) 2) .i64 fun n4 =>
 ldInt H (Addr.add (Addr.add a1 (Int.toNat s11 * 4)) 3) .i64 fun n5 =>
 idxD s0 s0n s11 fun a2 =>
 st1 H (Addr.add a2 (Int.toNat s11 * 4)) (.int .i64 n) fun H1 =>
 st1 H1 (Addr.add (Addr.add a2 (Int.toNat s11 * 4)) 1) (.slice q qn qc) fun H2 =>
 st1 H2 (Addr.add (Addr.add a2 (Int.toNat s11 * 4)) 2) (.int .i64 n1) fun H3 =>
 st1 H3 (Addr.add (Addr.add a2 (Int.toNat s11 * 4)) 3) (.int .i64 n2) fun H4 =>
 idxD s0 s0n (IntKind.wrap .i64 (s1 + s12)) fun a3 =>
 st1 H4 (Addr.add a3 (Int.toNat (IntKind.wrap .i64 (s1 + s12)) * 4)) (.int .i64 n3) fun H5 =>
 st1 H5 (Addr.add (Addr.add a3 (Int.toNat (IntKind.wrap .i64 (s1 + s12)) * 4)) 1) (.slice q1 q1n q1c) fun H6 =>
 st1 H6 (Addr.add (Addr.add a3 (Int.toNat (IntKind.wrap .i64 (s1 + s12)) * 4)) 2) (.int .i64 n4) fun H7 =>
 st1 H7 (Addr.add (Addr.add a3 (Int.toNat (IntKind.wrap .i64 (s1 + s12)) * 4)) 3) (.int .i64 n5) fun H8 =>
 L0 s0 s0n s0c s1 s8 s9 s10 (IntKind.wrap .i64 (s11 + (1 : Int))) H8 R
theorem L1_step {s0 : OA} {s0n s0c : Nat} {s1 s8 : Int} {s9 : Nat} {s10 s11 s12 : Int} {H : Heap} {R : EH} (h : L1n s0 s0n s0c s1 s8 s9 s10 s11 s12 H R) : L1 s0 s0n s0c s1 s8 s9 s10 s11 s12 H R :=
 goL_of_den (an := an) (fuel := 100000) (X := L1n s0 s0n s0c s1 s8 s9 s10 s11 s12 H R) mixed fn (by kernel_rfl) (fun ρ0 => by kernel_rfl) h
def go (s0 : OA) (s0n s0c : Nat) (s1 s2 : Int) (s3 : FV) (H : Heap) (R : EH) : Prop :=
 iteB (decide ((IntKind.wrap .i64 (s2 - s1)) ≥ (8 : Int))) (
 newD H (.cells ⟨[(.int .u64 (0 : Int))]⟩ 182) fun r H1 =>
 st1 H1 ⟨r, 0, none⟩ (.int .u64 (IntKind.wrap .u64 (IntKind.wrap .i64 (s2 - s1)))) fun H2 =>
 callD Tryz.prog 91 [(.int .i64 (IntKind.wrap .i64 (s2 - s1)))] H2 (panK R) fun v H3 =>
 tInt v .u64 fun n =>
 divD (4 : Int) <|
 L0 s0 s0n s0c s1 (IntKind.wrap .i64 (s2 - s1)) r n (IntKind.wrap .i64 ((IntKind.wrap .i64 (s1 + (IntKind.wrap .i64 ((IntKind.wrap .i64 (Int.tdiv (IntKind.wrap .i64 (s2 - s1)) (4 : Int))) * (2 : Int))))) - (1 : Int))) H3 R) <|
 R (.returned (.tuple ⟨[]⟩)) H
theorem calls {s0 : OA} {s0n s0c : Nat} {s1 s2 : Int} {s3 : FV} {H : Heap} {R : EH} (h : go s0 s0n s0c s1 s2 s3 H R) : CallsH Tryz.prog 84 ⟨[(.slice s0 s0n s0c), (.int .i64 s1), (.int .i64 s2), (FV.v s3)]⟩ H R :=
 callsH_of_den (an := an) (fuel := 100000) (X := go s0 s0n s0c s1 s2 s3 H R) (c := body) mixed fn (by kernel_rfl) (by kernel_rfl) (by kernel_rfl) ok (by kernel_rfl) h
end F84
/-! ### 85 "slices.choosePivotCmpFunc[pub-stadtholder/impl.Told]" -/
namespace F85
def an : Ann := { kinds := [], taus := [], pairs := [], lab := [(20000012, [0, 3, 11, 12, 13, 14]), (10000013, [11, 13])] }
noncomputable def body : Code := (Tryz.f85.body).getD .skip
theorem fn : Tryz.prog.funcs[85]? = some Tryz.f85 := by kernel_rfl
theorem ok : codeOk an 63 body = true := by kernel_rfl
noncomputable def L0t : List Item := [.code (sub [1, 1, 1, 1, 1, 1, 0, 1, 0, 1] body), .code (sub [1, 1, 1, 1, 1, 1, 1] body)]
def L0 (data : OA) (datan datac : Nat) (cmp : FV) (swaps : Nat) (i j k : Int) (H : Heap) (R : EH) : Prop :=
 GoL Tryz.prog 85 63 L0t [0, 3, 11, 12, 13, 14] [(.slice data datan datac), (FV.v cmp), (.pointer (some ⟨swaps, 0, none⟩)), (.int .i64 i), (.int .i64 j), (.int .i64 k)] H R
noncomputable def L1t : List Item := [.code (sub [1, 1, 1, 1, 1, 1, 1] body)]
def L1 (swaps : Nat) (j : Int) (H : Heap) (R : EH) : Prop :=
 GoL Tryz.prog 85 63 L1t [11, 13] [(.pointer (some ⟨swaps, 0, none⟩)), (.int .i64 j)] H R
def L0n (data : OA) (datan datac : Nat) (cmp : FV) (swaps : Nat) (i j k : Int) (H : Heap) (R : EH) : Prop :=
 callD Tryz.prog 98 [(.slice data datan datac), (.int .i64 i), (.int .i64 j), (.int .i64 k), (.pointer (some ⟨swaps, 0, none⟩)), (FV.v cmp)] H (panK R) fun v H1 =>
 tInt v .i64 fun n =>
 L1 swaps n H1 R
theorem L0_step {data : OA} {datan datac : Nat} {cmp : FV} {swaps : Nat} {i j k : Int} {H : Heap} {R : EH} (h : L0n data datan datac cmp swaps i j k H R) : L0 data datan datac cmp swaps i j k H R :=
 goL_of_den (an := an) (fuel := 100000) (X := L0n data datan datac cmp swaps i j k H R) mixed fn (by kernel_rfl) (fun ρ0 => by kernel_rfl) h
def L1n (swaps : Nat) (j : Int) (H : Heap) (R : EH) : Prop :=
 ldInt H ⟨swaps, 0, none⟩ .i64 fun n =>
 iteB (n == (0 : Int)) (
 R (.returned (.tuple ⟨[(.int .i64 j), (.int .i64 (1 : Int))]⟩)) H) <|
 iteB (n == (12 : Int)) (
 R (.returned (.tuple ⟨[(.int .i64 j), (.int .i64 (2 : Int))]⟩)) H) <|
 R (.returned (.tuple ⟨[(.int .i64 j), (.int .i64 (0 : Int))]⟩)) H
theorem L1_step {swaps : Nat} {j : Int} {H : Heap} {R : EH} (h : L1n swaps j H R) : L1 swaps j H R :=
 goL_of_den (an := an) (fuel := 100000) (X := L1n swaps j H R) mixed fn (by kernel_rfl) (fun ρ0 => by kernel_rfl) h
def go (data : OA) (datan datac : Nat) (a b : Int) (cmp : FV) (H : Heap) (R : EH) : Prop :=
 newD H (.cells ⟨[(.int .i64 (0 : Int))]⟩ 3) fun r H1 =>
 divD (4 : Int) <|
 divD (4 : Int) <|
 divD (4 : Int) <|
 iteB (decide ((IntKind.wrap .i64 (b - a)) ≥ (8 : Int))) (
 iteB (decide ((IntKind.wrap .i64 (b - a)) ≥ (50 : Int))) (
 callD Tryz.prog 97 [(.slice data datan datac), (.int .i64 (IntKind.wrap .i64 (a + (IntKind.wrap .i64 ((IntKind.wrap .i64 (Int.tdiv (IntKind.wrap .i64 (b - a)) (4 : Int))) * (1 : Int)))))), (.pointer (some ⟨r, 0, none⟩)), (FV.v cmp)] H1 (panK R) fun v H2 =>
 tInt v .i64 fun n =>
 callD Tryz.prog 97 [(.slice data datan datac), (.int .i64 (IntKind.wrap .i64 (a + (IntKind.wrap .i64 ((IntKind.wrap .i64 (Int.tdiv (IntKind.wrap .i64 (b - a)) (4 : Int))) * (2 : Int)))))), (.pointer (some ⟨r, 0, none⟩)), (FV.v cmp)] H2 (panK R) fun v1 H3 =>
 tInt v1 .i64 fun n1 =>
 callD Tryz.prog 97 [(.slice data datan datac), (.int .i64 (IntKind.wrap .i64 (a + (IntKind.wrap .i64 ((IntKind.wrap .i64 (Int.tdiv (IntKind.wrap .i64 (b - a)) (4 : Int))) * (3 : Int)))))), (.pointer (some ⟨r, 0, none⟩)), (FV.v cmp)] H3 (panK R) fun v2 H4 =>
 tInt v2 .i64 fun n2 =>
 L0 data datan datac cmp r n n1 n2 H4 R) <|
 L0 data datan datac cmp r (IntKind.wrap .i64 (a + (IntKind.wrap .i64 ((IntKind.wrap .i64 (Int.tdiv (IntKind.wrap .i64 (b - a)) (4 : Int))) * (1 : Int))))) (IntKind.wrap .i64 (a + (IntKind.wrap .i64 ((IntKind.wrap .i64 (Int.tdiv (IntKind.wrap .i64 (b - a)) (4 : Int))) * (2 : Int))))) (IntKind.wrap .i64 (a + (IntKind.wrap .i64 ((IntKind.wrap .i64 (Int.tdiv (IntKind.wrap .i64 (b - a)) (4 : Int))) * (3 : Int))))) H1 R) <|
 L1 r (IntKind.wrap .i64 (a + (IntKind.wrap .i64 ((IntKind.wrap .i64 (Int.tdiv (IntKind.wrap .i64 (b - a)) (4 : Int))) * (2 : Int))))) H1 R
theorem calls {data : OA} {datan datac : Nat} {a b : Int} {cmp : FV} {H : Heap} {R : EH} (h : go data datan datac a b cmp H R) : CallsH Tryz.prog 85 ⟨[(.slice data datan datac), (.int .i64 a), (.int .i64 b), (FV.v cmp)]⟩ H R :=
 callsH_of_den (an := an) (fuel := 100000) (X := go data datan datac a b cmp H R) (c := body) mixed fn (by kernel_rfl) (by kernel_rfl) (by kernel_rfl) ok (by kernel_rfl) h
end F85
/-! ### 86 "slices.reverseRangeCmpFunc[pub-stadtholder/impl.Told]" -/
namespace F86
def an : Ann := { kinds := [], taus := [(3, [[0, 1, 2, 3, 4, 5, 6, 8, 9, 10, 7, 11, 12, 13, 14, 15]])], pairs := [], lab := [(30000003, [0, 8, 9])] }
noncomputable def body : Code := (Tryz.f86.body).getD .skip
theorem fn : Tryz.prog.funcs[86]? = some Tryz.f86 := by kernel_rfl
theorem ok : codeOk an 34 body = true := by kernel_rfl
noncomputable def L0t : List Item := [.code (sub [1, 1, 0, 0] body), .inLoop (sub [1, 1, 0, 0] body), .inBlock 0]
def L0 (data : OA) (datan datac : Nat) (i j : Int) (H : Heap) (R : EH) : Prop :=
 GoL Tryz.prog 86 34 L0t [0, 8, 9] [(.slice data datan datac), (.int .i64 i), (.int .i64 j)] H R
def L0n (data : OA) (datan datac : Nat) (i j : Int) (H : Heap) (R : EH) : Prop :=
 iteB (decide (i < j)) (
 idxD data datan j fun a =>
 idxD data datan i fun a1 =>
 ldInt H (Addr.add a (Int.toNat j * 4)) .i64 fun n =>
 ldSl H (Addr.add (Addr.add a (Int.toNat j * 4)) 1) fun q qn qc =>
 ldInt H (Addr.add (Addr.add a (Int.toNat j * 4)) 2) .i64 fun n1 =>
 ldInt H (Addr.add (Addr.add a (Int.toNat j * 4)) 3) .i64 fun n2 =>
 ldInt H (Addr.add a1 (Int.toNat i * 4)) .i64 fun n3 =>
 ldSl H (Addr.add (Addr.add a1 (Int.toNat i * 4)) 1) fun q1 q1n q1c =>
 ldInt H (Addr.add (Addr.add a1 (Int.toNat i * 4)) 2) .i64 fun n4 =>
 ldInt H (Addr.add (Addr.add a1 (Int.toNat i * 4)) 3) .i64 fun n5 =>
 idxD data datan i fun a2 =>
 st1 H (Addr.add a2 (Int.toNat i * 4)) (.int .i64 n) fun H1 =>
 st1 H1 (Addr.add (Addr.add a2 (Int.toNat i * 4)) 1) (.slice q qn qc) fun H2 =>
 st1 H2 (Addr.add (Addr.add a2 (Int.toNat i * 4)) 2) (.int .i64 n1) fun H3 =>
 st1 H3 (Addr.add (Addr.add a2 (Int.toNat i * 4)) 3) (.int .i64 n2) fun H4 =>
 idxD data datan j fun a3 =>
 st1 H4 (Addr.add a3 (Int.toNat j * 4)) (.int .i64 n3) fun H5 =>
 st1 H5 (Addr.add (Addr.add a3 (Int.toNat j * 4)) 1) (.slice q1 q1n q1c) fun H6 =>
 st1 H6 (Addr.add (Addr.add a3 (Int.toNat j * 4)) 2) (.int .i64 n4) fun H7 =>
 st1 H7 (Addr.add (Addr.add a3 (Int.toNat j * 4)) 3) (.int .i64 n5) fun H8 =>
 L0 data datan datac (IntKind.wrap .i64 (i + (1 : Int))) (IntKind.wrap .i64 (j - (1 : Int))) H8 R) <|
 R (.returned (.tuple ⟨[]⟩)) H
theorem L0_step {data : OA} {datan datac : Nat} {i j : Int} {H : Heap} {R : EH} (h : L0n data datan datac i j H R) : L0 data datan datac i j H R :=
 goL_of_den (an := an) (fuel := 100000) (X := L0n data datan datac i j H R) mixed fn (by kernel_rfl) (fun ρ0 => by kernel_rfl) h
def go (data : OA) (datan datac : Nat) (a b : Int) (cmp : FV) (H : Heap) (R : EH) : Prop :=
 L0 data datan datac a (IntKind.wrap .i64 (b - (1 : Int))) H R
theorem calls {data : OA} {datan datac : Nat} {a b : Int} {cmp : FV} {H : Heap} {R : EH} (h : go data datan datac a b cmp H R) : CallsH Tryz.prog 86 ⟨[(.slice data datan datac), (.int .i64 a), (.int .i64 b), (FV.v cmp)]⟩ H R :=
 callsH_of_den (an := an) (fuel := 100000) (X := go data datan datac a b cmp H R) (c := body) mixed fn (by kernel_rfl) (by kernel_rfl) (by kernel_rfl) ok (by kernel_rfl) h
end F86
/-! ### 87 "slices.partialInsertionSortCmpFunc[pub-stadtholder/impl.Told]" -/
namespace F87
def an : Ann := { kinds := [], taus := [(5, [[0, 1, 2, 3, 4, 5, 6, 7, 9, 10, 11, 12, 8, 13, 14, 15, 16, 17]]), (11, [[0, 1, 2, 3, 4, 5, 6, 7, 8, 10, 11, 12, 9, 13, 14, 15, 16, 17]]), (16, [[0, 1, 2, 3, 5, 6, 7, 8, 4, 9, 10, 11, 12]]), (17, [[0, 1, 2, 3, 4, 5, 6, 7, 8, 10, 11, 12, 9, 13, 14, 15, 16, 17]]), (22, [[0, 1, 2, 3, 5, 6, 7, 8, 4, 9, 10, 11, 12]]), (23, [[0, 1, 2, 3, 4, 5, 6, 7, 8, 10, 11, 12, 9, 13, 14, 15, 16, 17]])], pairs := [], lab := [(40000004, [0, 1, 2, 3, 9, 10]), (90000006, [0, 1, 2, 3, 9, 10]), (60000008, [0, 1, 2, 3, 9, 10]), (90000015, [0, 1, 2, 3, 9, 10, 11]), (60000019, [0, 1, 2, 3, 9, 10]), (80000021, [0, 1, 2, 3, 9, 10, 12]), (40000005, [0, 1, 2, 3, 9, 10]), (90000007, [0, 1, 2, 3, 9, 10])] }
noncomputable def body : Code := (Tryz.f87.body).getD .skip
theorem fn : Tryz.prog.funcs[87]? = some Tryz.f87 := by kernel_rfl
theorem ok : codeOk an 141 body = true := by kernel_rfl
noncomputable def L0t : List Item := [.code (sub [1, 1, 0, 1, 0, 0] body), .inLoop (sub [1, 1, 0, 1, 0, 0] body), .inBlock 0, .code (sub [1, 1, 1] body)]
def L0 (s0 : OA) (s0n s0c : Nat) (s1 s2 : Int) (s3 : FV) (s9 s10 : Int) (H : Heap) (R : EH) : Prop :=
 GoL Tryz.prog 87 141 L0t [0, 1, 2, 3, 9, 10] [(.slice s0 s0n s0c), (.int .i64 s1), (.int .i64 s2), (FV.v s3), (.int .i64 s9), (.int .i64 s10)] H R
noncomputable def L1t : List Item := [.code (sub [1, 1, 0, 1, 0, 0, 1, 0, 0, 0, 0, 0] body), .inLoop (sub [1, 1, 0, 1, 0, 0, 1, 0, 0, 0, 0, 0] body), .inBlock 2, .code (sub [1, 1, 0, 1, 0, 0, 1, 0, 0, 1] body), .inBlock 1, .code (sub [1, 1, 0, 1, 0, 0, 1, 1] body), .inLoop (sub [1, 1, 0, 1, 0, 0] body), .inBlock 0, .code (sub [1, 1, 1] body)]
def L1 (s0 : OA) (s0n s0c : Nat) (s1 s2 : Int) (s3 : FV) (s9 s10 : Int) (H : Heap) (R : EH) : Prop :=
 GoL Tryz.prog 87 141 L1t [0, 1, 2, 3, 9, 10] [(.slice s0 s0n s0c), (.int .i64 s1), (.int .i64 s2), (FV.v s3), (.int .i64 s9), (.int .i64 s10)] H R
noncomputable def L2t : List Item := [.code (sub [1, 1, 0, 1, 0, 0, 1, 0, 0, 1] body), .inBlock 1, .code (sub [1, 1, 0, 1, 0, 0, 1, 1] body), .inLoop (sub [1, 1, 0, 1, 0, 0] body), .inBlock 0, .code (sub [1, 1, 1] body)]
def L2 (s0 : OA) (s0n s0c : Nat) (s1 s2 : Int) (s3 : FV) (s9 s10 : Int) (H : Heap) (R : EH) : Prop :=
 GoL Tryz.prog 87 141 L2t [0, 1, 2, 3, 9, 10] [(.slice s0 s0n s0c), (.int .i64 s1), (.int .i64 s2), (FV.v s3), (.int .i64 s9), (.int .i64 s10)] H R
noncomputable def L3t : List Item := [.code (sub [1, 1, 0, 1, 0, 0, 1, 0, 0, 1, 1, 1, 1, 0, 1, 0, 1, 0, 0] body), .inLoop (sub [1, 1, 0, 1, 0, 0, 1, 0, 0, 1, 1, 1, 1, 0, 1, 0, 1, 0, 0] body), .inBlock 4, .code (sub [1, 1, 0, 1, 0, 0, 1, 0, 0, 1, 1, 1, 1, 1] body), .inBlock 1, .code (sub [1, 1, 0, 1, 0, 0, 1, 1] body), .inLoop (sub [1, 1, 0, 1, 0, 0] body), .inBlock 0, .code (sub [1, 1, 1] body)]
def L3 (s0 : OA) (s0n s0c : Nat) (s1 s2 : Int) (s3 : FV) (s9 s10 s11 : Int) (H : Heap) (R : EH) : Prop :=
 GoL Tryz.prog 87 141 L3t [0, 1, 2, 3, 9, 10, 11] [(.slice s0 s0n s0c), (.int .i64 s1), (.int .i64 s2), (FV.v s3), (.int .i64 s9), (.int .i64 s10), (.int .i64 s11)] H R
noncomputable def L4t : List Item := [.code (sub [1, 1, 0, 1, 0, 0, 1, 0, 0, 1, 1, 1, 1, 1] body), .inBlock 1, .code (sub [1, 1, 0, 1, 0, 0, 1, 1] body), .inLoop (sub [1, 1, 0, 1, 0, 0] body), .inBlock 0, .code (sub [1, 1, 1] body)]
def L4 (s0 : OA) (s0n s0c : Nat) (s1 s2 : Int) (s3 : FV) (s9 s10 : Int) (H : Heap) (R : EH) : Prop :=
 GoL Tryz.prog 87 141 L4t [0, 1, 2, 3, 9, 10] [(.slice s0 s0n s0c), (.int .i64 s1), (.int .i64 s2), (FV.v s3), (.int .i64 s9), (.int .i64 s10)] H R
noncomputable def L5t : List Item := [.code (sub [1, 1, 0, 1, 0, 0, 1, 0, 0, 1, 1, 1, 1, 1, 1, 0, 1, 0, 0] body), .inLoop (sub [1, 1, 0, 1, 0, 0, 1, 0, 0, 1, 1, 1, 1, 1, 1, 0, 1, 0, 0] body), .inBlock 6, .inBlock 1, .code (sub [1, 1, 0, 1, 0, 0, 1, 1] body), .inLoop (sub [1, 1, 0, 1, 0, 0] body), .inBlock 0, .code (sub [1, 1, 1] body)]
def L5 (s0 : OA) (s0n s0c : Nat) (s1 s2 : Int) (s3 : FV) (s9 s10 s12 : Int) (H : Heap) (R : EH) : Prop :=
 GoL Tryz.prog 87 141 L5t [0, 1, 2, 3, 9, 10, 12] [(.slice s0 s0n s0c), (.int .i64 s1), (.int .i64 s2), (FV.v s3), (.int .i64 s9), (.int .i64 s10), (.int .i64 s12)] H R
noncomputable def L6t : List Item := [.code (sub [1, 1, 0, 1, 0, 0, 1, 1] body), .inLoop (sub [1, 1, 0, 1, 0, 0] body), .inBlock 0, .code (sub [1, 1, 1] body)]
def L6 (s0 : OA) (s0n s0c : Nat) (s1 s2 : Int) (s3 : FV) (s9 s10 : Int) (H : Heap) (R : EH) : Prop :=
 GoL Tryz.prog 87 141 L6t [0, 1, 2, 3, 9, 10] [(.slice s0 s0n s0c), (.int .i64 s1), (.int .i64 s2), (FV.v s3), (.int .i64 s9), (.int .i64 s10)] H R
noncomputable def L7t : List Item := [.code (sub [1, 1, 0, 1, 0, 0, 1, 0, 0, 0, 0, 0, 1] body), .inLoop (sub [1, 1, 0, 1, 0, 0, 1, 0, 0, 0, 0, 0] body), .inBlock 2, .code (sub [1, 1, 0, 1, 0, 0, 1, 0, 0, 1] body), .inBlock 1, .code (sub [1, 1, 0, 1, 0, 0, 1, 1] body), .inLoop (sub [1, 1, 0, 1, 0, 0] body), .inBlock 0, .code (sub [1, 1, 1] body)]
def L7 (s0 : OA) (s0n s0c : Nat) (s1 s2 : Int) (s3 : FV) (s9 s10 : Int) (H : Heap) (R : EH) : Prop :=
 GoL Tryz.prog 87 141 L7t [0, 1, 2, 3, 9, 10] [(.slice s0 s0n s0c), (.int .i64 s1), (.int .i64 s2), (FV.v s3), (.int .i64 s9), (.int .i64 s10)] H R
def L0n (s0 : OA) (s0n s0c : Nat) (s1 s2 : Int) (s3 : FV) (s9 s10 : Int) (H : Heap) (R : EH) : Prop :=
 iteB (decide (s10 < (5 : Int))) (
 L1 s0 s0n s0c s1 s2 s3 s9 s10 H R) <|
 R (.returned (.bool false)) H
theorem L0_step {s0 : OA} {s0n s0c : Nat} {s1 s2 : Int} {s3 : FV} {s9 s10 : Int} {H : Heap} {R : EH} (h : L0n s0 s0n s0c s1 s2 s3 s9 s10 H R) : L0 s0 s0n s0c s1 s2 s3 s9 s10 H R :=
 goL_of_den (an := an) (fuel := 100000) (X := L0n s0 s0n s0c s1 s2 s3 s9 s10 H R) mixed fn (by kernel_rfl) (fun ρ0 => by kernel_rfl) h
def L1n (s0 : OA) (s0n s0c : Nat) (s1 s2 : Int) (s3 : FV) (s9 s10 : Int) (H : Heap) (R : EH) : Prop :=
 iteB (decide (s9 < s2)) (
 idxD s0 s0n s9 fun a =>
 idxD s0 s0n (IntKind.wrap .i64 (s9 - (1 : Int))) fun a1 =>
 ldInt H (Addr.add a (Int.toNat s9 * 4)) .i64 fun n =>
 ldSl H (Addr.add (Addr.add a (Int.toNat s9 * 4)) 1) fun q qn qc =>
 ldInt H (Addr.add (Addr.add a (Int.toNat s9 * 4)) 2) .i64 fun n1 =>
 ldInt H (Addr.add (Addr.add a (Int.toNat s9 * 4)) 3) .i64 fun n2 =>
 ldInt H (Addr.add a1 (Int.toNat (IntKind.wrap .i64 (s9 - (1 : Int))) * 4)) .i64 fun n3 =>
 ldSl H (Addr.add (Addr.add a1 (Int.toNat (IntKind.wrap .i64 (s9 - (1 : Int))) * 4)) 1) fun q1 q1n q1c =>
 ldInt H (Addr.add (Addr.add a1 (Int.toNat (IntKind.wrap .i64 (s9 - (1 : Int))) * 4)) 2) .i64 fun n4 =>
 ldInt H (Addr.add (Addr.add a1 (Int.toNat (IntKind.wrap .i64 (s9 - (1 : Int))) * 4)) 3) .i64 fun n5 =>
 callV Tryz.prog (FV.v s3) [(.agg ⟨[(.int .i64 n), (.slice q qn qc), (.int .i64 n1), (.int .i64 n2)]⟩), (.agg ⟨[(.int .i64 n3), (.slice q1 q1n q1c), (.int .i64 n4), (.int .i64 n5)]⟩)] H (panK R) fun v H1 =>
 tInt v .i64 fun n6 =>
 iteB (!(decide (n6 < (0 : Int)))) (
 L7 s0 s0n s0c s1 s2 s3 s9 s10 H1 R) <|
 L2 s0 s0n s0c s1 s2 s3 s9 s10 H1 R) <|
 L2 s0 s0n s0c s1 s2 s3 s9 s10 H R
theorem L1_step {s0 : OA} {s0n s0c : Nat} {s1 s2 : Int} {s3 : FV} {s9 s10 : Int} {H : Heap} {R : EH} (h : L1n s0 s0n s0c s1 s2 s3 s9 s10 H R) : L1 s0 s0n s0c s1 s2 s3 s9 s10 H R :=
 goL_of_den (an := an) (fuel := 100000) (X := L1n s0 s0n s0c s1 s2 s3 s9 s10 H R) mixed fn (by kernel_rfl) (fun ρ0 => by kernel_rfl) h
def L2n (s0 : OA) (s0n s0c : Nat) (s1 s2 : Int) (s3 : FV) (s9 s10 : Int) (H : Heap) (R : EH) : Prop :=
 iteB (s9 == s2) (
 R (.returned (.bool true)) H) <|
 iteB (decide ((IntKind.wrap .i64 (s2 - s1)) < (50 : Int))) (
 R (.returned (.bool false)) H) <|
 idxD s0 s0n (IntKind.wrap .i64 (s9 - (1 : Int))) fun a =>
 idxD s0 s0n s9 fun a1 =>
 ldInt H (Addr.add a (Int.toNat (IntKind.wrap .i64 (s9 - (1 : Int))) * 4)) .i64 fun n =>
 ldSl H (Addr.add (Addr.add a (Int.toNat (IntKind.wrap .i64 (s9 - (1 : Int))) * 4)) 1) fun q qn qc =>
 ldInt H (Addr.add (Addr.add a (Int.toNat (IntKind.wrap .i64 (s9 - (1 : Int))) * 4)) 2) .i64 fun n1 =>
 ldInt H (Addr.add (Addr.add a (Int.toNat (IntKind.wrap .i64 (s9 - (1 : Int))) * 4)) 3) .i64 fun n2 =>
 ldInt H (Addr.add a1 (Int.toNat s9 * 4)) .i64 fun n3 =>
 ldSl H (Addr.add (Addr.add a1 (Int.toNat s9 * 4)) 1) fun q1 q1n q1c =>
 ldInt H (Addr.add (Addr.add a1 (Int.toNat s9 * 4)) 2) .i64 fun n4 =>
 ldInt H (Addr.add (Addr.add a1 (Int.toNat s9 * 4)) 3) .i64 fun n5 =>
 idxD s0 s0n s9 fun a2 =>
 st1 H (Addr.add a2 (Int.toNat s9 * 4)) (.int .i64 n) fun H1 =>
 st1 H1 (Addr.add (Addr.add a2 (Int.toNat s9 * 4)) 1) (.slice q qn qc) fun H2 =>
 st1 H2 (Addr.add (Addr.add a2 (Int.toNat s9 * 4)) 2) (.int .i64 n1) fun H3 =>
 st1 H3 (Addr.add (Addr.add a2 (Int.toNat s9 * 4)) 3) (.int .i64 n2) fun H4 =>
 idxD s0 s0n (IntKind.wrap .i64 (s9 - (1 : Int))) fun a3 =>
 st1 H4 (Addr.add a3 (Int.toNat (IntKind.wrap .i64 (s9 - (1 : Int))) * 4)) (.int .i64 n3) fun H5 =>
 st1 H5 (Addr.add (Addr.add a3 (Int.toNat (IntKind.wrap .i64 (s9 - (1 : Int))) * 4)) 1) (.slice q1 q1n q1c) fun H6 =>
 st1 H6 (Addr.add (Addr.add a3 (Int.toNat (IntKind.wrap .i64 (s9 - (1 : Int))) * 4)) 2) (.int .i64 n4) fun H7 =>
 st1 H7 (Addr.add (Addr.add a3 (Int.toNat (IntKind.wrap .i64 (s9 - (1 : Int))) * 4)) 3) (.int .i64 n5) fun H8 =>
 iteB (decide ((IntKind.wrap .i64 (s9 - s1)) ≥ (2 : Int))) (
 L3 s0 s0n s0c s1 s2 s3 s9 s10 (IntKind.wrap .i64 (s9 - (1 : Int))) H8 R) <|
 L4 s0 s0n s0c s1 s2 s3 s9 s10 H8 R
theorem L2_step {s0 : OA} {s0n s0c : Nat} {s1 s2 : Int} {s3 : FV} {s9 s10 : Int} {H : Heap} {R : EH} (h : L2n s0 s0n s0c s1 s2 s3 s9 s10 H R) : L2 s0 s0n s0c s1 s2 s3 s9 s10 H R :=
 goL_of_den (an := an) (fuel := 100000) (X := L2n s0 s0n s0c s1 s2 s3 s9 s10 H R) mixed fn (by kernel_rfl) (fun ρ0 => by kernel_rfl) h
def L3n (s0 : OA) (s0n s0c : Nat) (s1 s2 : Int) (s3 : FV) (s9 s10 s11 : Int) (H : Heap) (R : EH) : Prop :=
 iteB (decide (s11 ≥ (1 : Int))) (
 idxD s0 s0n s11 fun a =>
 idxD s0 s0n (IntKind.wrap .i64 (s11 - (1 : Int))) fun a1 =>
 ldInt H (Addr.add a (Int.toNat s11 * 4)) .i64 fun n =>
 ldSl H (Addr.add (Addr.add a (Int.toNat s11 * 4)) 1) fun q qn qc =>
 ldInt H (Addr.add (Addr.add a (Int.toNat s11 * 4)) 2) .i64 fun n1 =>
 ldInt H (Addr.add (Addr.add a (Int.toNat s11 * 4)) 3) .i64 fun n2 =>
 ldInt H (Addr.add a1 (Int.toNat (IntKind.wrap .i64 (s11 - (1 : Int))) * 4)) .i64 fun n3 =>
 ldSl H (Addr.add (Addr.add a1 (Int.toNat (IntKind.wrap .i64 (s11 - (1 : Int))) * 4)) 1) fun q1 q1n q1c =>
 ldInt H (Addr.add (Addr.add a1 (Int.toNat (IntKind.wrap .i64 (s11 - (1 : Int))) * 4)) 2) .i64 fun n4 =>
 ldInt H (Addr.add (Addr.add a1 (Int.toNat (IntKind.wrap .i64 (s11 - (1 : Int))) * 4)) 3) .i64 fun n5 =>
 callV Tryz.prog (FV.v s3) [(.agg ⟨[(.int .i64 n), (.slice q qn qc), (.int .i64 n1), (.int .i64 n2)]⟩), (.agg ⟨[(.int .i64 n3), (.slice q1 q1n q1c), (.int .i64 n4), (.int .i64 n5)]⟩)] H (panK R) fun v H1 =>
 tInt v .i64 fun n6 =>
 iteB (!(decide (n6 < (0 : Int)))) (
 L4 s0 s0n s0c s1 s2 s3 s9 s10 H1 R) <|
 idxD s0 s0n (IntKind.wrap .i64 (s11 - (1 : Int))) fun a2 =>
 idxD s0 s0n s11 fun a3 =>
 ldInt H1 (Addr.add a2 (Int.toNat (IntKind.wrap .i64 (s11 - (1 : Int))) * 4)) .i64 fun n7 =>
 ldSl H1 (Addr.add (Addr.add a2 (Int.toNat (IntKind.wrap .i64 (s11 - (1 : Int))) * 4)) 1) fun q2 q2n q2c =>
 ldInt H1 (Addr.add (Addr.add a2 (Int.toNat (IntKind.wrap .i64 (s11 - (1 : Int))) * 4)) 2) .i64 fun n8 =>
 ldInt H1 (Addr.add (Addr.add a2 (Int.toNat (IntKind.wrap .i64 (s11 - (1 : Int))) * 4)) 3) .i64 fun n9 =>
 ldInt H1 (Addr.add a3 (Int.toNat s11 * 4)) .i64 fun n10 =>
 ldSl H1 (Addr.add (Addr.add a3 (Int.toNat s11 * 4)) 1) fun q3 q3n q3c =>
 ldInt H1 (Addr.add (Addr.add a3 (Int.toNat s11 * 4)) 2) .i64 fun n11 =>
 ldInt H1 (Addr.add (Addr.add a3 (Int.toNat s11 * 4)) 3) .i64 fun n12 =>
 idxD s0 s0n s11 fun a4 =>
 st1 H1 (Addr.add a4 (Int.toNat s11 * 4)) (.int .i64 n7) fun H2 =>
 st1 H2 (Addr.add (Addr.add a4 (Int.toNat s11 * 4)) 1) (.slice q2 q2n q2c) fun H3 =>
 st1 H3 (Addr.add (Addr.add a4 (Int.toNat s11 * 4)) 2) (.int .i64 n8) fun H4 =>
 st1 H4 (Addr.add (Addr.add a4 (Int.toNat s11 * 4)) 3) (.int .i64 n9) fun H5 =>
 idxD s0 s0n (IntKind.wrap .i64 (s11 - (1 : Int))) fun a5 =>
 st1 H5 (Addr.add a5 (Int.toNat (IntKind.wrap .i64 (s11 - (1 : Int))) * 4)) (.int .i64 n10) fun H6 =>
 st1 H6 (Addr.add (Addr.add a5 (Int.toNat (IntKind.wrap .i64 (s11 - (1 : Int))) * 4)) 1) (.slice q3 q3n q3c) fun H7 =>
 st1 H7 (Addr.add (Addr.add a5 (Int.toNat (IntKind.wrap .i64 (s11 - (1 : Int))) * 4)) 2) (.int .i64 n11) fun H8 =>
 st1 H8 (Addr.add (Addr.add a5 (Int.toNat (IntKind.wrap .i64 (s11 - (1 : Int))) * 4)) 3) (.int .i64 n12) fun H9 =>
 L3 s0 s0n s0c s1 s2 s3 s9 s10 (IntKind.wrap .i64 (s11 - (1 : Int))) H9 R) <|
 L4 s0 s0n s0c s1 s2 s3 s9 s10 H R
theorem L3_step {s0 : OA} {s0n s0c : Nat} {s1 s2 : Int} {s3 : FV} {s9 s10 s11 : Int} {H : Heap} {R : EH} (h : L3n s0 s0n s0c s1 s2 s3 s9 s10 s11 H R) : L3 s0 s0n s0c s1 s2 s3 s9 s10 s11 H R :=
 goL_of_den (an := an) (fuel := 100000) (X := L3n s0 s0n s0c s1 s2 s3 s9 s10 s11 H R) mixed fn (by kernel_rfl) (fun ρ0 => by kernel_rfl) h
def L4n (s0 : OA) (s0n s0c : Nat) (s1 s2 : Int) (s3 : FV) (s9 s10 : Int) (H : Heap) (R : EH) : Prop :=
 iteB (decide ((IntKind.wrap .i64 (s2 - s9)) ≥ (2 : Int))) (
 L5 s0 s0n s0c s1 s2 s3 s9 s10 (IntKind.wrap .i64 (s9 + (1 : Int))) H R) <|
 L6 s0 s0n s0c s1 s2 s3 s9 s10 H R
theorem L4_step {s0 : OA} {s0n s0c : Nat} {s1 s2 : Int} {s3 : FV} {s9 s10 : Int} {H : Heap} {R : EH} (h : L4n s0 s0n s0c s1 s2 s3 s9 s10 H R) : L4 s0 s0n s0c s1 s2 s3 s9 s10 H R :=
 goL_of_den (an := an) (fuel := 100000) (X := L4n s0 s0n s0c s1 s2 s3 s9 s10 H R) mixed fn (by kernel_rfl) (fun ρ0 => by kernel_rfl) h
def L5n (s0 : OA) (s0n s0c : Nat) (s1 s2 : Int) (s3 : FV) (s9 s10 s12 : Int) (H : Heap) (R : EH) : Prop :=
 iteB (decide (s12 < s2)) (
 idxD s0 s0n s12 fun a =>
 idxD s0 s0n (IntKind.wrap .i64 (s12 - (1 : Int))) fun a1 =>
 ldInt H (Addr.add a (Int.toNat s12 * 4)) .i64 fun n =>
 ldSl H (Addr.add (Addr.add a (Int.toNat s12 * 4)) 1) fun q qn qc =>
 ldInt H (Addr.add (Addr.add a (Int.toNat s12 * 4)) 2) .i64 fun n1 =>
 ldInt H (Addr.add (Addr.add a (Int.toNat s12 * 4)) 3) .i64 fun n2 =>
 ldInt H (Addr.add a1 (Int.toNat (IntKind.wrap .i64 (s12 - (1 : Int))) * 4)) .i64 fun n3 =>
 ldSl H (Addr.add (Addr.add a1 (Int.toNat (IntKind.wrap .i64 (s12 - (1 : Int))) * 4)) 1) fun q1 q1n q1c =>
 ldInt H (Addr.add (Addr.add a1 (Int.toNat (IntKind.wrap .i64 (s12 - (1 : Int))) * 4)) 2) .i64 fun n4 =>
 ldInt H (Addr.add (Addr.add a1 (Int.toNat (IntKind.wrap .i64 (s12 - (1 : Int))) * 4)) 3) .i64 fun n5 =>
 callV Tryz.prog (FV.v s3) [(.agg ⟨[(.int .i64 n), (.slice q qn qc), (.int .i64 n1), (.int .i64 n2)]⟩), (.agg ⟨[(.int .i64 n3), (.slice q1 q1n q1c), (.int .i64 n4), (.int .i64 n5)]⟩)] H (panK R) fun v H1 =>
 tInt v .i64 fun n6 =>
 iteB (!(decide (n6 < (0 : Int)))) (
 L6 s0 s0n s0c s1 s2 s3 s9 s10 H1 R) <|
 idxD s0 s0n (IntKind.wrap .i64 (s12 - (1 : Int))) fun a2 =>
 idxD s0 s0n s12 fun a3 =>
 ldInt H1 (Addr.add a2 (Int.toNat (IntKind.wrap .i64 (s12 - (1 : Int))) * 4)) .i64 fun n7 =>
 ldSl H1 (Addr.add (Addr.add a2 (Int.toNat (IntKind.wrap .i64 (s12 - (1 : Int))) * 4)) 1) fun q2 q2n q2c =>
 ldInt H1 (Addr.add (Addr.add a2 (Int.toNat (IntKind.wrap .i64 (s12 - (1 : Int))) * 4)) 2) .i64 fun n8 =>
 ldInt H1 (Addr.add (Addr.add a2 (Int.toNat (IntKind.wrap .i64 (s12 - (1 : Int))) * 4)) 3) .i64 fun n9 =>
 ldInt H1 (Addr.add a3 (Int.toNat s12 * 4)) .i64 fun n10 =>
 ldSl H1 (Addr.add (Addr.add a3 (Int.toNat s12 * 4)) 1) fun q3 q3n q3c =>
 ldInt H1 (Addr.add (Addr.add a3 (Int.toNat s12 * 4)) 2) .i64 fun n11 =>
 ldInt H1 (Addr.add (Addr.add a3 (Int.toNat s12 * 4)) 3) .i64 fun n12 =>
 idxD s0 s0n s12 fun a4 =>
 st1 H1 (Addr.add a4 (Int.toNat s12 * 4)) (.int .i64 n7) fun H2 =>
 st1 H2 (Addr.add (Addr.add a4 (Int.toNat s12 * 4)) 1) (.slice q2 q2n q2c) fun H3 =>
 st1 H3 (Addr.add (Addr.add a4 (Int.toNat s12 * 4)) 2) (.int .i64 n8) fun H4 =>
 st1 H4 (Addr.add (Addr.add a4 (Int.toNat s12 * 4)) 3) (.int .i64 n9) fun H5 =>
 idxD s0 s0n (IntKind.wrap .i64 (s12 - (1 : Int))) fun a5 =>
 st1 H5 (Addr.add a5 (Int.toNat (IntKind.wrap .i64 (s12 - (1 : Int))) * 4)) (.int .i64 n10) fun H6 =>
 st1 H6 (Addr.add (Addr.add a5 (Int.toNat (IntKind.wrap .i64 (s12 - (1 : Int))) * 4)) 1) (.slice q3 q3n q3c) fun H7 =>
 st1 H7 (Addr.add (Addr.add a5 (Int.toNat (IntKind.wrap .i64 (s12 - (1 : Int))) * 4)) 2) (.int .i64 n11) fun H8 =>
 st1 H8 (Addr.add (Addr.add a5 (Int.toNat (IntKind.wrap .i64 (s12 - (1 : Int))) * 4)) 3) (.int .i64 n12) fun H9 =>
 L5 s0 s0n s0c s1 s2 s3 s9 s10 (IntKind.wrap .i64 (s12 + (1 : Int))) H9 R) <|
 L6 s0 s0n s0c s1 s2 s3 s9 s10 H R
theorem L5_step {s0 : OA} {s0n s0c : Nat} {s1 s2 : Int} {s3 : FV} {s9 s10 s12 : Int} {H : Heap} {R : EH} (h : L5n s0 s0n s0c s1 s2 s3 s9 s10 s12 H R) : L5 s0 s0n s0c s1 s2 s3 s9 s10 s12 H R :=
 goL_of_den (an := an) (fuel := 100000) (X := L5n s0 s0n s0c s1 s2 s3 s9 s10 s12 H R) mixed fn (by kernel_rfl) (fun ρ0 => by kernel_rfl) h
def L6n (s0 : OA) (s0n s0c : Nat) (s1 s2 : Int) (s3 : FV) (s9 s10 : Int) (H : Heap) (R : EH) : Prop :=
 L0 s0 s0n s0c s1 s2 s3 s9 (IntKind.wrap .i64 (s10 + (1 : Int))) H R
theorem L6_step {s0 : OA} {s0n s0c : Nat} {s1 s2 : Int} {s3 : FV} {s9 s10 : Int} {H : Heap} {R : EH} (h : L6n s0 s0n s0c s1 s2 s3 s9 s10 H R) : L6 s0 s0n s0c s1 s2 s3 s9 s10 H R :=
 goL_of_den (an := an) (fuel := 100000) (X := L6n s0 s0n s0c s1 s2 s3 s9 s10 H R) mixed fn (by kernel_rfl) (fun ρ0 => by kernel_rfl) h
def L7n (s0 : OA) (s0n s0c : Nat) (s1 s2 : Int) (s3 : FV) (s9 s10 : Int) (H : Heap) (R : EH) : Prop :=
 L1 s0 s0n s0c s1 s2 s3 (IntKind.wrap .i64 (s9 + (1 : Int))) s10 H R
theorem L7_step {s0 : OA} {s0n s0c : Nat} {s1 s2 : Int} {s3 : FV} {s9 s10 : Int} {H : Heap} {R : EH} (h : L7n s0 s0n s0c s1 s2 s3 s9 s10 H R) : L7 s0 s0n s0c s1 s2 s3 s9 s10 H R :=
 goL_of_den (an := an) (fuel := 100000) (X := L7n s0 s0n s0c s1 s2 s3 s9 s10 H R) mixed fn (by kernel_rfl) (fun ρ0 => by kernel_rfl) h
def go (s0 : OA) (s0n s0c : Nat) (s1 s2 : Int) (s3 : FV) (H : Heap) (R : EH) : Prop :=
 L0 s0 s0n s0c s1 s2 s3 (IntKind.wrap .i64 (s1 + (1 : Int))) (0 : Int) H R
theorem calls {s0 : OA} {s0n s0c : Nat} {s1 s2 : Int} {s3 : FV} {H : Heap} {R : EH} (h : go s0 s0n s0c s1 s2 s3 H R) : CallsH Tryz.prog 87 ⟨[(.slice s0 s0n s0c), (.int .i64 s1), (.int .i64 s2), (FV.v s3)]⟩ H R :=
 callsH_of_den (an := an) (fuel := 100000) (X := go s0 s0n s0c s1 s2 s3 H R) (c := body) mixed fn (by kernel_rfl) (by kernel_rfl) (by kernel_rfl) ok (by kernel_rfl) h
end F87
/-! ### 89 "slices.partitionCmpFunc[pub-stadtholder/impl.Told]" -/
namespace F89
def an : Ann := { kinds := [], taus := [(1, [[0, 1, 2, 3, 4, 5, 6, 8, 9, 10, 7, 11, 12, 13, 14, 15]]), (3, [[0, 1, 2, 3, 4, 5, 6, 7, 9, 10, 11, 8, 12, 13, 14, 15]]), (5, [[0, 1, 2, 3, 4, 5, 6, 7, 9, 10, 11, 8, 12, 13, 14, 15, 16]]), (8, [[0, 1, 2, 3, 4, 5, 6, 8, 9, 10, 7, 11, 12, 13, 14, 15]]), (10, [[0, 1, 2, 3, 4, 5, 6, 8, 9, 10, 7, 11, 12, 13, 14, 15]]), (13, [[0, 1, 2, 3, 4, 5, 6, 7, 9, 10, 11, 8, 12, 13, 14, 15]]), (15, [[0, 1, 2, 3, 4, 5, 6, 7, 9, 10, 11, 8, 12, 13, 14, 15, 16]]), (18, [[0, 1, 2, 3, 4, 5, 6, 8, 9, 10, 7, 11, 12, 13, 14, 15]]), (21, [[0, 1, 2, 3, 4, 5, 6, 8, 9, 10, 7, 11, 12, 13, 14, 15]])], pairs := [], lab := [(40000004, [0, 1, 4, 12, 13]), (10000006, [0, 1, 4, 12, 13]), (40000006, [0, 1, 4, 12, 13]), (10000008, [0, 1, 4, 12, 13]), (40000014, [0, 1, 4, 12, 13]), (80000014, [0, 1, 4, 12, 13]), (50000016, [0, 1, 4, 12, 13]), (80000016, [0, 1, 4, 12, 13]), (50000018, [0, 1, 4, 12, 13]), (80000017, [0, 1, 4, 12, 13]), (80000015, [0, 1, 4, 12, 13]), (40000007, [0, 1, 4, 12, 13]), (40000005, [0, 1, 4, 12, 13])] }
noncomputable def body : Code := (Tryz.f89.body).getD .skip
theorem fn : Tryz.prog.funcs[89]? = some Tryz.f89 := by kernel_rfl
theorem ok : codeOk an 178 body = true := by kernel_rfl
noncomputable def L0t : List Item := [.code (sub [1, 1, 1, 0, 0, 0] body), .inLoop (sub [1, 1, 1, 0, 0, 0] body), .inBlock 0, .code (sub [1, 1, 1, 1] body)]
def L0 (s0 : OA) (s0n s0c : Nat) (s1 : Int) (s4 : FV) (s12 s13 : Int) (H : Heap) (R : EH) : Prop :=
 GoL Tryz.prog 89 178 L0t [0, 1, 4, 12, 13] [(.slice s0 s0n s0c), (.int .i64 s1), (FV.v s4), (.int .i64 s12), (.int .i64 s13)] H R
noncomputable def L1t : List Item := [.code (sub [1, 1, 1, 1] body)]
def L1 (s0 : OA) (s0n s0c : Nat) (s1 : Int) (s4 : FV) (s12 s13 : Int) (H : Heap) (R : EH) : Prop :=
 GoL Tryz.prog 89 178 L1t [0, 1, 4, 12, 13] [(.slice s0 s0n s0c), (.int .i64 s1), (FV.v s4), (.int .i64 s12), (.int .i64 s13)] H R
noncomputable def L2t : List Item := [.code (sub [1, 1, 1, 1, 0, 0, 0] body), .inLoop (sub [1, 1, 1, 1, 0, 0, 0] body), .inBlock 2, .code (sub [1, 1, 1, 1, 1] body)]
def L2 (s0 : OA) (s0n s0c : Nat) (s1 : Int) (s4 : FV) (s12 s13 : Int) (H : Heap) (R : EH) : Prop :=
 GoL Tryz.prog 89 178 L2t [0, 1, 4, 12, 13] [(.slice s0 s0n s0c), (.int .i64 s1), (FV.v s4), (.int .i64 s12), (.int .i64 s13)] H R
noncomputable def L3t : List Item := [.code (sub [1, 1, 1, 1, 1] body)]
def L3 (s0 : OA) (s0n s0c : Nat) (s1 : Int) (s4 : FV) (s12 s13 : Int) (H : Heap) (R : EH) : Prop :=
 GoL Tryz.prog 89 178 L3t [0, 1, 4, 12, 13] [(.slice s0 s0n s0c), (.int .i64 s1), (FV.v s4), (.int .i64 s12), (.int .i64 s13)] H R
noncomputable def L4t : List Item := [.code (sub [1, 1, 1, 1, 1, 1, 1, 1, 1, 0, 0, 0] body), .inLoop (sub [1, 1, 1, 1, 1, 1, 1, 1, 1, 0, 0, 0] body), .inBlock 4, .code (sub [1, 1, 1, 1, 1, 1, 1, 1, 1, 1] body)]
def L4 (s0 : OA) (s0n s0c : Nat) (s1 : Int) (s4 : FV) (s12 s13 : Int) (H : Heap) (R : EH) : Prop :=
 GoL Tryz.prog 89 178 L4t [0, 1, 4, 12, 13] [(.slice s0 s0n s0c), (.int .i64 s1), (FV.v s4), (.int .i64 s12), (.int .i64 s13)] H R
noncomputable def L5t : List Item := [.code (sub [1, 1, 1, 1, 1, 1, 1, 1, 1, 0, 0, 0, 0, 0, 0, 0] body), .inLoop (sub [1, 1, 1, 1, 1, 1, 1, 1, 1, 0, 0, 0, 0, 0, 0, 0] body), .inBlock 6, .code (sub [1, 1, 1, 1, 1, 1, 1, 1, 1, 0, 0, 0, 0, 1] body), .inBlock 5, .inLoop (sub [1, 1, 1, 1, 1, 1, 1, 1, 1, 0, 0, 0] body), .inBlock 4, .code (sub [1, 1, 1, 1, 1, 1, 1, 1, 1, 1] body)]
def L5 (s0 : OA) (s0n s0c : Nat) (s1 : Int) (s4 : FV) (s12 s13 : Int) (H : Heap) (R : EH) : Prop :=
 GoL Tryz.prog 89 178 L5t [0, 1, 4, 12, 13] [(.slice s0 s0n s0c), (.int .i64 s1), (FV.v s4), (.int .i64 s12), (.int .i64 s13)] H R
noncomputable def L6t : List Item := [.code (sub [1, 1, 1, 1, 1, 1, 1, 1, 1, 0, 0, 0, 0, 1] body), .inBlock 5, .inLoop (sub [1, 1, 1, 1, 1, 1, 1, 1, 1, 0, 0, 0] body), .inBlock 4, .code (sub [1, 1, 1, 1, 1, 1, 1, 1, 1, 1] body)]
def L6 (s0 : OA) (s0n s0c : Nat) (s1 : Int) (s4 : FV) (s12 s13 : Int) (H : Heap) (R : EH) : Prop :=
 GoL Tryz.prog 89 178 L6t [0, 1, 4, 12, 13] [(.slice s0 s0n s0c), (.int .i64 s1), (FV.v s4), (.int .i64 s12), (.int .i64 s13)] H R
noncomputable def L7t : List Item := [.code (sub [1, 1, 1, 1, 1, 1, 1, 1, 1, 0, 0, 0, 0, 1, 0, 0, 0] body), .inLoop (sub [1, 1, 1, 1, 1, 1, 1, 1, 1, 0, 0, 0, 0, 1, 0, 0, 0] body), .inBlock 8, .code (sub [1, 1, 1, 1, 1, 1, 1, 1, 1, 0, 0, 0, 0, 1, 1] body), .inBlock 5, .inLoop (sub [1, 1, 1, 1, 1, 1, 1, 1, 1, 0, 0, 0] body), .inBlock 4, .code (sub [1, 1, 1, 1, 1, 1, 1, 1, 1, 1] body)]
def L7 (s0 : OA) (s0n s0c : Nat) (s1 : Int) (s4 : FV) (s12 s13 : Int) (H : Heap) (R : EH) : Prop :=
 GoL Tryz.prog 89 178 L7t [0, 1, 4, 12, 13] [(.slice s0 s0n s0c), (.int .i64 s1), (FV.v s4), (.int .i64 s12), (.int .i64 s13)] H R
noncomputable def L8t : List Item := [.code (sub [1, 1, 1, 1, 1, 1, 1, 1, 1, 0, 0, 0, 0, 1, 1] body), .inBlock 5, .inLoop (sub [1, 1, 1, 1, 1, 1, 1, 1, 1, 0, 0, 0] body), .inBlock 4, .code (sub [1, 1, 1, 1, 1, 1, 1, 1, 1, 1] body)]
def L8 (s0 : OA) (s0n s0c : Nat) (s1 : Int) (s4 : FV) (s12 s13 : Int) (H : Heap) (R : EH) : Prop :=
 GoL Tryz.prog 89 178 L8t [0, 1, 4, 12, 13] [(.slice s0 s0n s0c), (.int .i64 s1), (FV.v s4), (.int .i64 s12), (.int .i64 s13)] H R
noncomputable def L9t : List Item := [.code (sub [1, 1, 1, 1, 1, 1, 1, 1, 1, 0, 0, 0, 0, 1, 0, 0, 0, 1] body), .inLoop (sub [1, 1, 1, 1, 1, 1, 1, 1, 1, 0, 0, 0, 0, 1, 0, 0, 0] body), .inBlock 8, .code (sub [1, 1, 1, 1, 1, 1, 1, 1, 1, 0, 0, 0, 0, 1, 1] body), .inBlock 5, .inLoop (sub [1, 1, 1, 1, 1, 1, 1, 1, 1, 0, 0, 0] body), .inBlock 4, .code (sub [1, 1, 1, 1, 1, 1, 1, 1, 1, 1] body)]
def L9 (s0 : OA) (s0n s0c : Nat) (s1 : Int) (s4 : FV) (s12 s13 : Int) (H : Heap) (R : EH) : Prop :=
 GoL Tryz.prog 89 178 L9t [0, 1, 4, 12, 13] [(.slice s0 s0n s0c), (.int .i64 s1), (FV.v s4), (.int .i64 s12), (.int .i64 s13)] H R
noncomputable def L10t : List Item := [.code (sub [1, 1, 1, 1, 1, 1, 1, 1, 1, 0, 0, 0, 0, 0, 0, 0, 1] body), .inLoop (sub [1, 1, 1, 1, 1, 1, 1, 1, 1, 0, 0, 0, 0, 0, 0, 0] body), .inBlock 6, .code (sub [1, 1, 1, 1, 1, 1, 1, 1, 1, 0, 0, 0, 0, 1] body), .inBlock 5, .inLoop (sub [1, 1, 1, 1, 1, 1, 1, 1, 1, 0, 0, 0] body), .inBlock 4, .code (sub [1, 1, 1, 1, 1, 1, 1, 1, 1, 1] body)]
def L10 (s0 : OA) (s0n s0c : Nat) (s1 : Int) (s4 : FV) (s12 s13 : Int) (H : Heap) (R : EH) : Prop :=
 GoL Tryz.prog 89 178 L10t [0, 1, 4, 12, 13] [(.slice s0 s0n s0c), (.int .i64 s1), (FV.v s4), (.int .i64 s12), (.int .i64 s13)] H R
noncomputable def L11t : List Item := [.code (sub [1, 1, 1, 1, 0, 0, 0, 1] body), .inLoop (sub [1, 1, 1, 1, 0, 0, 0] body), .inBlock 2, .code (sub [1, 1, 1, 1, 1] body)]
def L11 (s0 : OA) (s0n s0c : Nat) (s1 : Int) (s4 : FV) (s12 s13 : Int) (H : Heap) (R : EH) : Prop :=
 GoL Tryz.prog 89 178 L11t [0, 1, 4, 12, 13] [(.slice s0 s0n s0c), (.int .i64 s1), (FV.v s4), (.int .i64 s12), (.int .i64 s13)] H R
noncomputable def L12t : List Item := [.code (sub [1, 1, 1, 0, 0, 0, 1] body), .inLoop (sub [1, 1, 1, 0, 0, 0] body), .inBlock 0, .code (sub [1, 1, 1, 1] body)]
def L12 (s0 : OA) (s0n s0c : Nat) (s1 : Int) (s4 : FV) (s12 s13 : Int) (H : Heap) (R : EH) : Prop :=
 GoL Tryz.prog 89 178 L12t [0, 1, 4, 12, 13] [(.slice s0 s0n s0c), (.int .i64 s1), (FV.v s4), (.int .i64 s12), (.int .i64 s13)] H R
def L0n (s0 : OA) (s0n s0c : Nat) (s1 : Int) (s4 : FV) (s12 s13 : Int) (H : Heap) (R : EH) : Prop :=
 iteB (decide (s12 ≤ s13)) (
 idxD s0 s0n s12 fun a =>
 idxD s0 s0n s1 fun a1 =>
 ldInt H (Addr.add a (Int.toNat s12 * 4)) .i64 fun n =>
 ldSl H (Addr.add (Addr.add a (Int.toNat s12 * 4)) 1) fun q qn qc =>
 ldInt H (Addr.add (Addr.add a (Int.toNat s12 * 4)) 2) .i64 fun n1 =>
 ldInt H (Addr.add (Addr.add a (Int.toNat s12 * 4)) 3) .i64 fun n2 =>
 ldInt H (Addr.add a1 (Int.toNat s1 * 4)) .i64 fun n3 =>
 ldSl H (Addr.add (Addr.add a1 (Int.toNat s1 * 4)) 1) fun q1 q1n q1c =>
 ldInt H (Addr.add (Addr.add a1 (Int.toNat s1 * 4)) 2) .i64 fun n4 =>
 ldInt H (Addr.add (Addr.add a1 (Int.toNat s1 * 4)) 3) .i64 fun n5 =>
 callV Tryz.prog (FV.v s4) [(.agg ⟨[(.int .i64 n), (.slice q qn qc), (.int .i64 n1), (.int .i64 n2)]⟩), (.agg ⟨[(.int .i64 n3), (.slice q1 q1n q1c), (.int .i64 n4), (.int .i64 n5)]⟩)] H (panK R) fun v H1 =>
 tInt v .i64 fun n6 =>
 iteB (decide (n6 < (0 : Int))) (
 L12 s0 s0n s0c s1 s4 s12 s13 H1 R) <|
 L1 s0 s0n s0c s1 s4 s12 s13 H1 R) <|
 L1 s0 s0n s0c s1 s4 s12 s13 H R
theorem L0_step {s0 : OA} {s0n s0c : Nat} {s1 : Int} {s4 : FV} {s12 s13 : Int} {H : Heap} {R : EH} (h : L0n s0 s0n s0c s1 s4 s12 s13 H R) : L0 s0 s0n s0c s1 s4 s12 s13 H R :=
 goL_of_den (an := an) (fuel := 100000) (X := L0n s0 s0n s0c s1 s4 s12 s13 H R) mixed fn (by kernel_rfl) (fun ρ0 => by kernel_rfl) h
def L1n (s0 : OA) (s0n s0c : Nat) (s1 : Int) (s4 : FV) (s12 s13 : Int) (H : Heap) (R : EH) : Prop :=
 L2 s0 s0n s0c s1 s4 s12 s13 H R
theorem L1_step {s0 : OA} {s0n s0c : Nat} {s1 : Int} {s4 : FV} {s12 s13 : Int} {H : Heap} {R : EH} (h : L1n s0 s0n s0c s1 s4 s12 s13 H R) : L1 s0 s0n s0c s1 s4 s12 s13 H R :=
 goL_of_den (an := an) (fuel := 100000) (X := L1n s0 s0n s0c s1 s4 s12 s13 H R) mixed fn (by kernel_rfl) (fun ρ0 => by kernel_rfl) h
def L2n (s0 : OA) (s0n s0c : Nat) (s1 : Int) (s4 : FV) (s12 s13 : Int) (H : Heap) (R : EH) : Prop :=
 iteB (decide (s12 ≤ s13)) (
 idxD s0 s0n s13 fun a =>
 idxD s0 s0n s1 fun a1 =>
 ldInt H (Addr.add a (Int.toNat s13 * 4)) .i64 fun n =>
 ldSl H (Addr.add (Addr.add a (Int.toNat s13 * 4)) 1) fun q qn qc =>
 ldInt H (Addr.add (Addr.add a (Int.toNat s13 * 4)) 2) .i64 fun n1 =>
 ldInt H (Addr.add (Addr.add a (Int.toNat s13 * 4)) 3) .i64 fun n2 =>
 ldInt H (Addr.add a1 (Int.toNat s1 * 4)) .i64 fun n3 =>
 ldSl H (Addr.add (Addr.add a1 (Int.toNat s1 * 4)) 1) fun q1 q1n q1c =>
 ldInt H (Addr.add (Addr.add a1 (Int.toNat s1 * 4)) 2) .i64 fun n4 =>
 ldInt H (Addr.add (Addr.add a1 (Int.toNat s1 * 4)) 3) .i64 fun n5 =>
 callV Tryz.prog (FV.v s4) [(.agg ⟨[(.int .i64 n), (.slice q qn qc), (.int .i64 n1), (.int .i64 n2)]⟩), (.agg ⟨[(.int .i64 n3), (.slice q1 q1n q1c), (.int .i64 n4), (.int .i64 n5)]⟩)] H (panK R) fun v H1 =>
 tInt v .i64 fun n6 =>
 iteB (!(decide (n6 < (0 : Int)))) (
 L11 s0 s0n s0c s1 s4 s12 s13 H1 R) <|
 L3 s0 s0n s0c s1 s4 s12 s13 H1 R) <|
 L3 s0 s0n s0c s1 s4 s12 s13 H R
theorem L2_step {s0 : OA} {s0n s0c : Nat} {s1 : Int} {s4 : FV} {s12 s13 : Int} {H : Heap} {R : EH} (h : L2n s0 s0n s0c s1 s4 s12 s13 H R) : L2 s0 s0n s0c s1 s4 s12 s13 H R :=
 goL_of_den (an := an) (fuel := 100000) (X := L2n s0 s0n s0c s1 s4 s12 s13 H R) mixed fn (by kernel_rfl) (fun ρ0 => by kernel_rfl) h
def L3n (s0 : OA) (s0n s0c : Nat) (s1 : Int) (s4 : FV) (s12 s13 : Int) (H : Heap) (R : EH) : Prop :=
 iteB (decide (s12 > s13)) (
 idxD s0 s0n s1 fun a =>
 idxD s0 s0n s13 fun a1 =>
 ldInt H (Addr.add a (Int.toNat s1 * 4)) .i64 fun n =>
 ldSl H (Addr.add (Addr.add a (Int.toNat s1 * 4)) 1) fun q qn qc =>
 ldInt H (Addr.add (Addr.add a (Int.toNat s1 * 4)) 2) .i64 fun n1 =>
 ldInt H (Addr.add (Addr.add a (Int.toNat s1 * 4)) 3) .i64 fun n2 =>
 ldInt H (Addr.add a1 (Int.toNat s13 * 4)) .i64 fun n3 =>
 ldSl H (Addr.add (Addr.add a1 (Int.toNat s13 * 4)) 1) fun q1 q1n q1c =>
 ldInt H (Addr.add (Addr.add a1 (Int.toNat s13 * 4)) 2) .i64 fun n4 =>
 ldInt H (Addr.add (Addr.add a1 (Int.toNat s13 * 4)) 3) .i64 fun n5 =>
 idxD s0 s0n s13 fun a2 =>
 st1 H (Addr.add a2 (Int.toNat s13 * 4)) (.int .i64 n) fun H1 =>
 st1 H1 (Addr.add (Addr.add a2 (Int.toNat s13 * 4)) 1) (.slice q qn qc) fun H2 =>
 st1 H2 (Addr.add (Addr.add a2 (Int.toNat s13 * 4)) 2) (.int .i64 n1) fun H3 =>
 st1 H3 (Addr.add (Addr.add a2 (Int.toNat s13 * 4)) 3) (.int .i64 n2) fun H4 =>
 idxD s0 s0n s1 fun a3 =>
 st1 H4 (Addr.add a3 (Int.toNat s1 * 4)) (.int .i64 n3) fun H5 =>
 st1 H5 (Addr.add (Addr.add a3 (Int.toNat s1 * 4)) 1) (.slice q1 q1n q1c) fun H6 =>
 st1 H6 (Addr.add (Addr.add a3 (Int.toNat s1 * 4)) 2) (.int .i64 n4) fun H7 =>
 st1 H7 (Addr.add (Addr.add a3 (Int.toNat s1 * 4)) 3) (.int .i64 n5) fun H8 =>
 R (.returned (.tuple ⟨[(.int .i64 s13), (.bool true)]⟩)) H8) <|
 idxD s0 s0n s13 fun a4 =>
 idxD s0 s0n s12 fun a5 =>
 ldInt H (Addr.add a4 (Int.toNat s13 * 4)) .i64 fun n6 =>
 ldSl H (Addr.add (Addr.add a4 (Int.toNat s13 * 4)) 1) fun q2 q2n q2c =>
 ldInt H (Addr.add (Addr.add a4 (Int.toNat s13 * 4)) 2) .i64 fun n7 =>
 ldInt H (Addr.add (Addr.add a4 (Int.toNat s13 * 4)) 3) .i64 fun n8 =>
 ldInt H (Addr.add a5 (Int.toNat s12 * 4)) .i64 fun n9 =>
 ldSl H (Addr.add (Addr.add a5 (Int.toNat s12 * 4)) 1) fun q3 q3n q3c =>
 ldInt H (Addr.add (Addr.add a5 (Int.toNat s12 * 4)) 2) .i64 fun n10 =>
 ldInt H (Addr.add (Addr.add a5 (Int.toNat s12 * 4)) 3) .i64 fun n11 =>
 idxD s0 s0n s12 fun a6 =>
 st1 H (Addr.add a6 (Int.toNat s12 * 4)) (.int .i64 n6) fun H9 =>
 st1 H9 (Addr.add (Addr.add a6 (Int.toNat s12 * 4)) 1) (.slice q2 q2n q2c) fun H10 =>
 st1 H10 (Addr.add (Addr.add a6 (Int.toNat s12 * 4)) 2) (.int .i64 n7) fun H11 =>
 st1 H11 (Addr.add (Addr.add a6 (Int.toNat s12 * 4)) 3) (.int .i64 n8) fun H12 =>
 idxD s0 s0n s13 fun a7 =>
 st1 H12 (Addr.add a7 (Int.toNat s13 * 4)) (.int .i64 n9) fun H13 =>
 st1 H13 (Addr.add (Addr.add a7 (Int.toNat s13 * 4)) 1) (.slice q3 q3n q3c) fun H14 =>
 st1 H14 (Addr.add (Addr.add a7 (Int.toNat s13 * 4)) 2) (.int .i64 n10) fun H15 =>
 st1 H15 (Addr.add (Addr.add a7 (Int.toNat s13 * 4)) 3) (.int .i64 n11) fun H16 =>
 L4 s0 s0n s0c s1 s4 (IntKind.wrap .i64 (s12 + (1 : Int))) (IntKind.wrap .i64 (s13 - (1 : Int))) H16 R
theorem L3_step {s0 : OA} {s0n s0c : Nat} {s1 : Int} {s4 : FV} {s12 s13 : Int} {H : Heap} {R : EH} (h : L3n s0 s0n s0c s1 s4 s12 s13 H R) : L3 s0 s0n s0c s1 s4 s12 s13 H R :=
 goL_of_den (an := an) (fuel := 100000) (X := L3n s0 s0n s0c s1 s4 s12 s13 H R) mixed fn (by kernel_rfl) (fun ρ0 => by kernel_rfl) h
def L4n (s0 : OA) (s0n s0c : Nat) (s1 : Int) (s4 : FV) (s12 s13 : Int) (H : Heap) (R : EH) : Prop :=
 L5 s0 s0n s0c s1 s4 s12 s13 H R
theorem L4_step {s0 : OA} {s0n s0c : Nat} {s1 : Int} {s4 : FV} {s12 s13 : Int} {H : Heap} {R : EH} (h : L4n s0 s0n s0c s1 s4 s12 s13 H R) : L4 s0 s0n s0c s1 s4 s12 s13 H R :=
 goL_of_den (an := an) (fuel := 100000) (X := L4n s0 s0n s0c s1 s4 s12 s13 H R) mixed fn (by kernel_rfl) (fun ρ0 => by kernel_rfl) h
def L5n (s0 : OA) (s0n s0c : Nat) (s1 : Int) (s4 : FV) (s12 s13 : Int) (H : Heap) (R : EH) : Prop :=
 iteB (decide (s12 ≤ s13)) (
 idxD s0 s0n s12 fun a =>
 idxD s0 s0n s1 fun a1 =>
 ldInt H (Addr.add a (Int.toNat s12 * 4)) .i64 fun n =>
 ldSl H (Addr.add (Addr.add a (Int.toNat s12 * 4)) 1) fun q qn qc =>
 ldInt H (Addr.add (Addr.add a (Int.toNat s12 * 4)) 2) .i64 fun n1 =>
 ldInt H (Addr.add (Addr.add a (Int.toNat s12 * 4)) 3) .i64 fun n2 =>
 ldInt H (Addr.add a1 (Int.toNat s1 * 4)) .i64 fun n3 =>
 ldSl H (Addr.add (Addr.add a1 (Int.toNat s1 * 4)) 1) fun q1 q1n q1c =>
 ldInt H (Addr.add (Addr.add a1 (Int.toNat s1 * 4)) 2) .i64 fun n4 =>
 ldInt H (Addr.add (Addr.add a1 (Int.toNat s1 * 4)) 3) .i64 fun n5 =>
 callV Tryz.prog (FV.v s4) [(.agg ⟨[(.int .i64 n), (.slice q qn qc), (.int .i64 n1), (.int .i64 n2)]⟩), (.agg ⟨[(.int .i64 n3), (.slice q1 q1n q1c), (.int .i64 n4), (.int .i64 n5)]⟩)] H (panK R) fun v H1 =>
 tInt v .i64 fun n6 =>
 iteB (decide (n6 < (0 : Int))) (
 L10 s0 s0n s0c s1 s4 s12 s13 H1 R) <|
 L6 s0 s0n s0c s1 s4 s12 s13 H1 R) <|
 L6 s0 s0n s0c s1 s4 s12 s13 H R
theorem L5_step {s0 : OA} {s0n s0c : Nat} {s1 : Int} {s4 : FV} {s12 s13 : Int} {H : Heap} {R : EH} (h : L5n s0 s0n s0c s1 s4 s12 s13 H R) : L5 s0 s0n s0c s1 s4 s12 s13 H R :=
 goL_of_den (an := an) (fuel := 100000) (X := L5n s0 s0n s0c s1 s4 s12 s13 H R) mixed fn (by kernel_rfl) (fun ρ0 => by kernel_rfl) h
def L6n (s0 : OA) (s0n s0c : Nat) (s1 : Int) (s4 : FV) (s12 s13 : Int) (H : Heap) (R : EH) : Prop :=
 L7 s0 s0n s0c s1 s4 s12 s13 H R
theorem L6_step {s0 : OA} {s0n s0c : Nat} {s1 : Int} {s4 : FV} {s12 s13 : Int} {H : Heap} {R : EH} (h : L6n s0 s0n s0c s1 s4 s12 s13 H R) : L6 s0 s0n s0c s1 s4 s12 s13 H R :=
 goL_of_den (an := an) (fuel := 100000) (X := L6n s0 s0n s0c s1 s4 s12 s13 H R) mixed fn (by kernel_rfl) (fun ρ0 => by kernel_rfl) h
def L7n (s0 : OA) (s0n s0c : Nat) (s1 : Int) (s4 : FV) (s12 s13 : Int) (H : Heap) (R : EH) : Prop :=
 iteB (decide (s12 ≤ s13)) (
 idxD s0 s0n s13 fun a =>
 idxD s0 s0n s1 fun a1 =>
 ldInt H (Addr.add a (Int.toNat s13 * 4)) .i64 fun n =>
 ldSl H (Addr.add (Addr.add a (Int.toNat s13 * 4)) 1) fun q qn qc =>
 ldInt H (Addr.add (Addr.add a (Int.toNat s13 * 4)) 2) .i64 fun n1 =>
 ldInt H (Addr.add (Addr.add a (Int.toNat s13 * 4)) 3) .i64 fun n2 =>
 ldInt H (Addr.add a1 (Int.toNat s1 * 4)) .i64 fun n3 =>
 ldSl H (Addr.add (Addr.add a1 (Int.toNat s1 * 4)) 1) fun q1 q1n q1c =>
 ldInt H (Addr.add (Addr.add a1 (Int.toNat s1 * 4)) 2) .i64 fun n4 =>
 ldInt H (Addr.add (Addr.add a1 (Int.toNat s1 * 4)) 3) .i64 fun n5 =>
 callV Tryz.prog (FV.v s4) [(.agg ⟨[(.int .i64 n), (.slice q qn qc), (.int .i64 n1), (.int .i64 n2)]⟩), (.agg ⟨[(.int .i64 n3), (.slice q1 q1n q1c), (.int .i64 n4), (.int .i64 n5)]⟩)] H (panK R) fun v H1 =>
 tInt v .i64 fun n6 =>
 iteB (!(decide (n6 < (0 : Int)))) (
 L9 s0 s0n s0c s1 s4 s12 s13 H1 R) <|
 L8 s0 s0n s0c s1 s4 s12 s13 H1 R) <|
 L8 s0 s0n s0c s1 s4 s12 s13 H R
theorem L7_step {s0 : OA} {s0n s0c : Nat} {s1 : Int} {s4 : FV} {s12 s13 : Int} {H : Heap} {R : EH} (h : L7n s0 s0n s0c s1 s4 s12 s13 H R) : L7 s0 s0n s0c s1 s4 s12 s13 H R :=
 goL_of_den (an := an) (fuel := 100000) (X := L7n s0 s0n s0c s1 s4 s12 s13 H R) mixed fn (by kernel_rfl) (fun ρ0 => by kernel_rfl) h
def L8n (s0 : OA) (s0n s0c : Nat) (s1 : Int) (s4 : FV) (s12 s13 : Int) (H : Heap) (R : EH) : Prop :=
 iteB (decide (s12 > s13)) (
 idxD s0 s0n s1 fun a =>
 idxD s0 s0n s13 fun a1 =>
 ldInt H (Addr.add a (Int.toNat s1 * 4)) .i64 fun n =>
 ldSl H (Addr.add (Addr.add a (Int.toNat s1 * 4)) 1) fun q qn qc =>
 ldInt H (Addr.add (Addr.add a (Int.toNat s1 * 4)) 2) .i64 fun n1 =>
 ldInt H (Addr.add (Addr.add a (Int.toNat s1 * 4)) 3) .i64 fun n2 =>
 ldInt H (Addr.add a1 (Int.toNat s13 * 4)) .i64 fun n3 =>
 ldSl H (Addr.add (Addr.add a1 (Int.toNat s13 * 4)) 1) fun q1 q1n q1c =>
 ldInt H (Addr.add (Addr.add a1 (Int.toNat s13 * 4)) 2) .i64 fun n4 =>
 ldInt H (Addr.add (Addr.add a1 (Int.toNat s13 * 4)) 3) .i64 fun n5 =>
 idxD s0 s0n s13 fun a2 =>
 st1 H (Addr.add a2 (Int.toNat s13 * 4)) (.int .i64 n) fun H1 =>
 st1 H1 (Addr.add (Addr.add a2 (Int.toNat s13 * 4)) 1) (.slice q qn qc) fun H2 =>
 st1 H2 (Addr.add (Addr.add a2 (Int.toNat s13 * 4)) 2) (.int .i64 n1) fun H3 =>
 st1 H3 (Addr.add (Addr.add a2 (Int.toNat s13 * 4)) 3) (.int .i64 n2) fun H4 =>
 idxD s0 s0n s1 fun a3 =>
 st1 H4 (Addr.add a3 (Int.toNat s1 * 4)) (.int .i64 n3) fun H5 =>
 st1 H5 (Addr.add (Addr.add a3 (Int.toNat s1 * 4)) 1) (.slice q1 q1n q1c) fun H6 =>
 st1 H6 (Addr.add (Addr.add a3 (Int.toNat s1 * 4)) 2) (.int .i64 n4) fun H7 =>
 st1 H7 (Addr.add (Addr.add a3 (Int.toNat s1 * 4)) 3) (.int .i64 n5) fun H8 =>
 R (.returned (.tuple ⟨[(.int .i64 s13), (.bool false)]⟩)) H8) <|
 idxD s0 s0n s13 fun a4 =>
 idxD s0 s0n s12 fun a5 =>
 ldInt H (Addr.add a4 (Int.toNat s13 * 4)) .i64 fun n6 =>
 ldSl H (Addr.add (Addr.add a4 (Int.toNat s13 * 4)) 1) fun q2 q2n q2c =>
 ldInt H (Addr.add (Addr.add a4 (Int.toNat s13 * 4)) 2) .i64 fun n7 =>
 ldInt H (Addr.add (Addr.add a4 (Int.toNat s13 * 4)) 3) .i64 fun n8 =>
 ldInt H (Addr.add a5 (Int.toNat s12 * 4)) .i64 fun n9 =>
 ldSl H (Addr.add (Addr.add a5 (Int.toNat s12 * 4)) 1) fun q3 q3n q3c =>
 ldInt H (Addr.add (Addr.add a5 (Int.toNat s12 * 4)) 2) .i64 fun n10 =>
 ldInt H (Addr.add (Addr.add a5 (Int.toNat s12 * 4)) 3) .i64 fun n11 =>
 idxD s0 s0n s12 fun a6 =>
 st1 H (Addr.add a6 (Int.toNat s12 * 4)) (.int .i64 n6) fun H9 =>
 st1 H9 (Addr.add (Addr.add a6 (Int.toNat s12 * 4)) 1) (.slice q2 q2n q2c) fun H10 =>
 st1 H10 (Addr.add (Addr.add a6 (Int.toNat s12 * 4)) 2) (.int .i64 n7) fun H11 =>
 st1 H11 (Addr.add (Addr.add a6 (Int.toNat s12 * 4)) 3) (.int .i64 n8) fun H12 =>
 idxD s0 s0n s13 fun a7 =>
 st1 H12 (Addr.add a7 (Int.toNat s13 * 4)) (.int .i64 n9) fun H13 =>
 st1 H13 (Addr.add (Addr.add a7 (Int.toNat s13 * 4)) 1) (.slice q3 q3n q3c) fun H14 =>
 st1 H14 (Addr.add (Addr.add a7 (Int.toNat s13 * 4)) 2) (.int .i64 n10) fun H15 =>
 st1 H15 (Addr.add (Addr.add a7 (Int.toNat s13 * 4)) 3) (.int .i64 n11) fun H16 =>
 L4 s0 s0n s0c s1 s4 (IntKind.wrap .i64 (s12 + (1 : Int))) (IntKind.wrap .i64 (s13 - (1 : Int))) H16 R
theorem L8_step {s0 : OA} {s0n s0c : Nat} {s1 : Int} {s4 : FV} {s12 s13 : Int} {H : Heap} {R : EH} (h : L8n s0 s0n s0c s1 s4 s12 s13 H R) : L8 s0 s0n s0c s1 s4 s12 s13 H R :=
 goL_of_den (an := an) (fuel := 100000) (X := L8n s0 s0n s0c s1 s4 s12 s13 H R) mixed fn (by kernel_rfl) (fun ρ0 => by kernel_rfl) h
def L9n (s0 : OA) (s0n s0c : Nat) (s1 : Int) (s4 : FV) (s12 s13 : Int) (H : Heap) (R : EH) : Prop :=
 L7 s0 s0n s0c s1 s4 s12 (IntKind.wrap .i64 (s13 - (1 : Int))) H R
theorem L9_step {s0 : OA} {s0n s0c : Nat} {s1 : Int} {s4 : FV} {s12 s13 : Int} {H : Heap} {R : EH} (h : L9n s0 s0n s0c s1 s4 s12 s13 H R) : L9 s0 s0n s0c s1 s4 s12 s13 H R :=
 goL_of_den (an := an) (fuel := 100000) (X := L9n s0 s0n s0c s1 s4 s12 s13 H R) mixed fn (by kernel_rfl) (fun ρ0 => by kernel_rfl) h
def L10n (s0 : OA) (s0n s0c : Nat) (s1 : Int) (s4 : FV) (s12 s13 : Int) (H : Heap) (R : EH) : Prop :=
 L5 s0 s0n s0c s1 s4 (IntKind.wrap .i64 (s12 + (1 : Int))) s13 H R
theorem L10_step {s0 : OA} {s0n s0c : Nat} {s1 : Int} {s4 : FV} {s12 s13 : Int} {H : Heap} {R : EH} (h : L10n s0 s0n s0c s1 s4 s12 s13 H R) : L10 s0 s0n s0c s1 s4 s12 s13 H R :=
 goL_of_den (an := an) (fuel := 100000) (X := L10n s0 s0n s0c s1 s4 s12 s13 H R) mixed fn (by kernel_rfl) (fun ρ0 => by kernel_rfl) h
def L11n (s0 : OA) (s0n s0c : Nat) (s1 : Int) (s4 : FV) (s12 s13 : Int) (H : Heap) (R : EH) : Prop :=
 L2 s0 s0n s0c s1 s4 s12 (IntKind.wrap .i64 (s13 - (1 : Int))) H R
theorem L11_step {s0 : OA} {s0n s0c : Nat} {s1 : Int} {s4 : FV} {s12 s13 : Int} {H : Heap} {R : EH} (h : L11n s0 s0n s0c s1 s4 s12 s13 H R) : L11 s0 s0n s0c s1 s4 s12 s13 H R :=
 goL_of_den (an := an) (fuel := 100000) (X := L11n s0 s0n s0c s1 s4 s12 s13 H R) mixed fn (by kernel_rfl) (fun ρ0 => by kernel_rfl) h
def L12n (s0 : OA) (s0n s0c : Nat) (s1 : Int) (s4 : FV) (s12 s13 : Int) (H : Heap) (R : EH) : Prop :=
 L0 s0 s0n s0c s1 s4 (IntKind.wrap .i64 (s12 + (1 : Int))) s13 H R
theorem L12_step {s0 : OA} {s0n s0c : Nat} {s1 : Int} {s4 : FV} {s12 s13 : Int} {H : Heap} {R : EH} (h : L12n s0 s0n s0c s1 s4 s12 s13 H R) : L12 s0 s0n s0c s1 s4 s12 s13 H R :=
 goL_of_den (an := an) (fuel := 100000) (X := L12n s0 s0n s0c s1 s4 s12 s13 H R) mixed fn (by kernel_rfl) (fun ρ0 => by kernel_rfl) h
def go (s0 : OA) (s0n s0c : Nat) (s1 s2 s3 : Int) (s4 : FV) (H : Heap) (R : EH) : Prop :=
 idxD s0 s0n s3 fun a =>
 idxD s0 s0n s1 fun a1 =>
 ldInt H (Addr.add a (Int.toNat s3 * 4)) .i64 fun n =>
 ldSl H (Addr.add (Addr.add a (Int.toNat s3 * 4)) 1) fun q qn qc =>
 ldInt H (Addr.add (Addr.add a (Int.toNat s3 * 4)) 2) .i64 fun n1 =>
 ldInt H (Addr.add (Addr.add a (Int.toNat s3 * 4)) 3) .i64 fun n2 =>
 ldInt H (Addr.add a1 (Int.toNat s1 * 4)) .i64 fun n3 =>
 ldSl H (Addr.add (Addr.add a1 (Int.toNat s1 * 4)) 1) fun q1 q1n q1c =>
 ldInt H (Addr.add (Addr.add a1 (Int.toNat s1 * 4)) 2) .i64 fun n4 =>
 ldInt H (Addr.add (Addr.add a1 (Int.toNat s1 * 4)) 3) .i64 fun n5 =>
 idxD s0 s0n s1 fun a2 =>
 st1 H (Addr.add a2 (Int.toNat s1 * 4)) (.int .i64 n) fun H1 =>
 st1 H1 (Addr.add (Addr.add a2 (Int.toNat s1 * 4)) 1) (.slice q qn qc) fun H2 =>
 st1 H2 (Addr.add (Addr.add a2 (Int.toNat s1 * 4)) 2) (.int .i64 n1) fun H3 =>
 st1 H3 (Addr.add (Addr.add a2 (Int.toNat s1 * 4)) 3) (.int .i64 n2) fun H4 =>
 idxD s0 s0n s3 fun a3 =>
 st1 H4 (Addr.add a3 (Int.toNat s3 * 4)) (.int .i64 n3) fun H5 =>
 st1 H5 (Addr.add (Addr.add a3 (Int.toNat s3 * 4)) 1) (.slice q1 q1n q1c) fun H6 =>
 st1 H6 (Addr.add (Addr.add a3 (Int.toNat s3 * 4)) 2) (.int .i64 n4) fun H7 =>
 st1 H7 (Addr.add (Addr.add a3 (Int.toNat s3 * 4)) 3) (.int .i64 n5) fun H8 =>
 L0 s0 s0n s0c s1 s4 (IntKind.wrap .i64 (s1 + (1 : Int))) (IntKind.wrap .i64 (s2 - (1 : Int))) H8 R
theorem calls {s0 : OA} {s0n s0c : Nat} {s1 s2 s3 : Int} {s4 : FV} {H : Heap} {R : EH} (h : go s0 s0n s0c s1 s2 s3 s4 H R) : CallsH Tryz.prog 89 ⟨[(.slice s0 s0n s0c), (.int .i64 s1), (.int .i64 s2), (.int .i64 s3), (FV.v s4)]⟩ H R :=
 callsH_of_den (an := an) (fuel := 100000) (X := go s0 s0n s0c s1 s2 s3 s4 H R) (c := body) mixed fn (by kernel_rfl) (by kernel_rfl) (by kernel_rfl) ok (by kernel_rfl) h
end F89
/-! ### 96 "slices.siftDownCmpFunc[pub-stadtholder/impl.Told]" -/
namespace F96
def an : Ann := { kinds := [], taus := [(3, [[0, 1, 2, 3, 4, 5, 6, 7, 8, 9, 10, 12, 13, 14, 15, 16, 17, 11, 18, 19, 20, 21]]), (5, [[0, 1, 2, 3, 4, 5, 7, 8, 9, 10, 11, 6, 12, 13, 14, 15]]), (6, [[0, 1, 2, 3, 4, 5, 6, 7, 8, 9, 10, 11, 12, 14, 15, 16, 17, 18, 13, 19, 20, 21, 22, 23]])], pairs := [], lab := [(30000002, [0, 2, 3, 4, 10]), (50000005, [0, 2, 3, 4, 10, 11]), (40000006, [0, 2, 3, 4, 10, 11])] }
noncomputable def body : Code := (Tryz.f96.body).getD .skip
theorem fn : Tryz.prog.funcs[96]? = some Tryz.f96 := by kernel_rfl
theorem ok : codeOk an 82 body = true := by kernel_rfl
noncomputable def L0t : List Item := [.code (sub [1, 0, 0] body), .inLoop (sub [1, 0, 0] body), .inBlock 0]
def L0 (s0 : OA) (s0n s0c : Nat) (s2 s3 : Int) (s4 : FV) (s10 : Int) (H : Heap) (R : EH) : Prop :=
 GoL Tryz.prog 96 82 L0t [0, 2, 3, 4, 10] [(.slice s0 s0n s0c), (.int .i64 s2), (.int .i64 s3), (FV.v s4), (.int .i64 s10)] H R
noncomputable def L1t : List Item := [.code (sub [1, 0, 0, 0, 1, 1, 0, 1, 0] body), .code (sub [1, 0, 0, 0, 1, 1, 1] body), .inBlock 1, .inLoop (sub [1, 0, 0] body), .inBlock 0]
def L1 (s0 : OA) (s0n s0c : Nat) (s2 s3 : Int) (s4 : FV) (s10 s11 : Int) (H : Heap) (R : EH) : Prop :=
 GoL Tryz.prog 96 82 L1t [0, 2, 3, 4, 10, 11] [(.slice s0 s0n s0c), (.int .i64 s2), (.int .i64 s3), (FV.v s4), (.int .i64 s10), (.int .i64 s11)] H R
noncomputable def L2t : List Item := [.code (sub [1, 0, 0, 0, 1, 1, 1] body), .inBlock 1, .inLoop (sub [1, 0, 0] body), .inBlock 0]
def L2 (s0 : OA) (s0n s0c : Nat) (s2 s3 : Int) (s4 : FV) (s10 s11 : Int) (H : Heap) (R : EH) : Prop :=
 GoL Tryz.prog 96 82 L2t [0, 2, 3, 4, 10, 11] [(.slice s0 s0n s0c), (.int .i64 s2), (.int .i64 s3), (FV.v s4), (.int .i64 s10), (.int .i64 s11)] H R
def L0n (s0 : OA) (s0n s0c : Nat) (s2 s3 : Int) (s4 : FV) (s10 : Int) (H : Heap) (R : EH) : Prop :=
 iteB (decide ((IntKind.wrap .i64 ((IntKind.wrap .i64 ((2 : Int) * s10)) + (1 : Int))) ≥ s2)) (
 R (.returned (.tuple ⟨[]⟩)) H) <|
 iteB (decide ((IntKind.wrap .i64 ((IntKind.wrap .i64 ((IntKind.wrap .i64 ((2 : Int) * s10)) + (1 : Int))) + (1 : Int))) < s2)) (
 idxD s0 s0n (IntKind.wrap .i64 (s3 + (IntKind.wrap .i64 ((IntKind.wrap .i64 ((2 : Int) * s10)) + (1 : Int))))) fun a =>
 idxD s0 s0n (IntKind.wrap .i64 ((IntKind.wrap .i64 (s3 + (IntKind.wrap .i64 ((IntKind.wrap .i64 ((2 : Int) * s10)) + (1 : Int))))) + (1 : Int))) fun a1 =>
 ldInt H (Addr.add a (Int.toNat (IntKind.wrap .i64 (s3 + (IntKind.wrap .i64 ((IntKind.wrap .i64 ((2 : Int) * s10)) + (1 : Int))))) * 4)) .i64 fun n =>
 ldSl H (Addr.add (Addr.add a (Int.toNat (IntKind.wrap .i64 (s3 + (IntKind.wrap .i64 ((IntKind.wrap .i64 ((2 : Int) * s10)) + (1 : Int))))) * 4)) 1) fun q qn qc =>
 ldInt H (Addr.add (Addr.add a (Int.toNat (IntKind.wrap .i64 (s3 + (IntKind.wrap .i64 ((IntKind.wrap .i64 ((2 : Int) * s10)) + (1 : Int))))) * 4)) 2) .i64 fun n1 =>
 ldInt H (Addr.add (Addr.add a (Int.toNat (IntKind.wrap .i64 (s3 + (IntKind.wrap .i64 ((IntKind.wrap .i64 ((2 : Int) * s10)) + (1 : Int))))) * 4)) 3) .i64 fun n2 =>
 ldInt H (Addr.add a1 (Int.toNat (IntKind.wrap .i64 ((IntKind.wrap .i64 (s3 + (IntKind.wrap .i64 ((IntKind.wrap .i64 ((2 : Int) * s10)) + (1 : Int))))) + (1 : Int))) * 4)) .i64 fun n3 =>
 ldSl H (Addr.add (Addr.add a1 (Int.toNat (IntKind.wrap .i64 ((IntKind.wrap .i64 (s3 + (IntKind.wrap .i64 ((IntKind.wrap .i64 ((2 : Int) * s10)) + (1 : Int))))) + (1 : Int))) * 4)) 1) fun q1 q1n q1c =>
 ldInt H (Addr.add (Addr.add a1 (Int.toNat (IntKind.wrap .i64 ((IntKind.wrap .i64 (s3 + (IntKind.wrap .i64 ((IntKind.wrap .i64 ((2 : Int) * s10)) + (1 : Int))))) + (1 : Int))) * 4)) 2) .i64 fun n4 =>
 ldInt H (Addr.add (Addr.add a1 (Int.toNat (IntKind.wrap .i64 ((IntKind.wrap .i64 (s3 + (IntKind.wrap .i64 ((IntKind.wrap .i64 ((2 : Int) * s10)) + (1 : Int))))) + (1 : Int))) * 4)) 3) .i64 fun n5 =>
 callV Tryz.prog (FV.v s4) [(.agg ⟨[(.int .i64 n), (.slice q qn qc), (.int .i64 n1), (.int .i64 n2)]⟩), (.agg ⟨[(.int .i64 n3), (.slice q1 q1n q1c), (.int .i64 n4), (.int .i64 n5)]⟩)] H (panK R) fun v H1 =>
 tInt v .i64 fun n6 =>
 iteB (decide (n6 < (0 : Int))) (
 L1 s0 s0n s0c s2 s3 s4 s10 (IntKind.wrap .i64 ((IntKind.wrap .i64 ((2 : Int) * s10)) + (1 : Int))) H1 R) <|
 L2 s0 s0n s0c s2 s3 s4 s10 (IntKind.wrap .i64 ((IntKind.wrap .i64 ((2 : Int) * s10)) + (1 : Int))) H1 R) <|
 L2 s0 s0n s0c s2 s3 s4 s10 (IntKind.wrap .i64 ((IntKind.wrap .i64 ((2 : Int) * s10)) + (1 : Int))) H R
theorem L0_step {s0 : OA} {s0n s0c : Nat} {s2 s3 : Int} {s4 : FV} {s10 : Int} {H : Heap} {R : EH} (h : L0n s0 s0n s0c s2 s3 s4 s10 H R) : L0 s0 s0n s0c s2 s3 s4 s10 H R :=
 goL_of_den (an := an) (fuel := 100000) (X := L0n s0 s0n s0c s2 s3 s4 s10 H R) mixed fn (by kernel_rfl) (fun ρ0 => by kernel_rfl) h
def L1n (s0 : OA) (s0n s0c : Nat) (s2 s3 : Int) (s4 : FV) (s10 s11 : Int) (H : Heap) (R : EH) : Prop :=
 L2 s0 s0n s0c s2 s3 s4 s10 (IntKind.wrap .i64 (s11 + (1 : Int))) H R
theorem L1_step {s0 : OA} {s0n s0c : Nat} {s2 s3 : Int} {s4 : FV} {s10 s11 : Int} {H : Heap} {R : EH} (h : L1n s0 s0n s0c s2 s3 s4 s10 s11 H R) : L1 s0 s0n s0c s2 s3 s4 s10 s11 H R :=
 goL_of_den (an := an) (fuel := 100000) (X := L1n s0 s0n s0c s2 s3 s4 s10 s11 H R) mixed fn (by kernel_rfl) (fun ρ0 => by kernel_rfl) h
def L2n (s0 : OA) (s0n s0c : Nat) (s2 s3 : Int) (s4 : FV) (s10 s11 : Int) (H : Heap) (R : EH) : Prop :=
 idxD s0 s0n (IntKind.wrap .i64 (s3 + s10)) fun a =>
 idxD s0 s0n (IntKind.wrap .i64 (s3 + s11)) fun a1 =>
 ldInt H (Addr.add a (Int.toNat (IntKind.wrap .i64 (s3 + s10)) * 4)) .i64 fun n =>
 ldSl H (Addr.add (Addr.add a (Int.toNat (IntKind.wrap .i64 (s3 + s10)) * 4)) 1) fun q qn qc =>
 ldInt H (Addr.add (Addr.add a (Int.toNat (IntKind.wrap .i64 (s3 + s10)) * 4)) 2) .i64 fun n1 =>
 ldInt H (Addr.add (Addr.add a (Int.toNat (IntKind.wrap .i64 (s3 + s10)) * 4)) 3) .i64 fun n2 =>
 ldInt H (Addr.add a1 (Int.toNat (IntKind.wrap .i64 (s3 + s11)) * 4)) .i64 fun n3 =>
 ldSl H (Addr.add (Addr.add a1 (Int.toNat (IntKind.wrap .i64 (s3 + s11)) * 4)) 1) fun q1 q1n q1c =>
 ldInt H (Addr.add (Addr.add a1 (Int.toNat (IntKind.wrap .i64 (s3 + s11)) * 4)) 2) .i64 fun n4 =>
 ldInt H (Addr.add (Addr.add a1 (Int.toNat (IntKind.wrap .i64 (s3 + s11)) * 4)) 3) .i64 fun n5 =>
 callV Tryz.prog (FV.v s4) [(.agg ⟨[(.int .i64 n), (.slice q qn qc), (.int .i64 n1), (.int .i64 n2)]⟩), (.agg ⟨[(.int .i64 n3), (.slice q1 q1n q1c), (.int .i64 n4), (.int .i64 n5)]⟩)] H (panK R) fun v H1 =>
 tInt v .i64 fun n6 =>
 iteB (!(decide (n6 < (0 : Int)))) (
 R (.returned (.tuple ⟨[]⟩)) H1) <|
 idxD s0 s0n (IntKind.wrap .i64 (s3 + s11)) fun a2 =>
 idxD s0 s0n (IntKind.wrap .i64 (s3 + s10)) fun a3 =>
 ldInt H1 (Addr.add a2 (Int.toNat (IntKind.wrap .i64 (s3 + s11)) * 4)) .i64 fun n7 =>
 ldSl H1 (Addr.add (Addr.add a2 (Int.toNat (IntKind.wrap .i64 (s3 + s11)) * 4)) 1) fun q2 q2n q2c =>
 ldInt H1 (Addr.add (Addr.add a2 (Int.toNat (IntKind.wrap .i64 (s3 + s11)) * 4)) 2) .i64 fun n8 =>
 ldInt H1 (Addr.add (Addr.add a2 (Int.toNat (IntKind.wrap .i64 (s3 + s11)) * 4)) 3) .i64 fun n9 =>
 ldInt H1 (Addr.add a3 (Int.toNat (IntKind.wrap .i64 (s3 + s10)) * 4)) .i64 fun n10 =>
 ldSl H1 (Addr.add (Addr.add a3 (Int.toNat (IntKind.wrap .i64 (s3 + s10)) * 4)) 1) fun q3 q3n q3c =>
 ldInt H1 (Addr.add (Addr.add a3 (Int.toNat (IntKind.wrap .i64 (s3 + s10)) * 4)) 2) .i64 fun n11 =>
 ldInt H1 (Addr.add (Addr.add a3 (Int.toNat (IntKind.wrap .i64 (s3 + s10)) * 4)) 3) .i64 fun n12 =>
 idxD s0 s0n (IntKind.wrap .i64 (s3 + s10)) fun a4 =>
 st1 H1 (Addr.add a4 (Int.toNat (IntKind.wrap .i64 (s3 + s10)) * 4)) (.int .i64 n7) fun H2 =>
 st1 H2 (Addr.add (Addr.add a4 (Int.toNat (IntKind.wrap .i64 (s3 + s10)) * 4)) 1) (.slice q2 q2n q2c) fun H3 =>
 st1 H3 (Addr.add (Addr.add a4 (Int.toNat (IntKind.wrap .i64 (s3 + s10)) * 4)) 2) (.int .i64 n8) fun H4 =>
 st1 H4 (Addr.add (Addr.add a4 (Int.toNat (IntKind.wrap .i64 (s3 + s10)) * 4)) 3) (.int .i64 n9) fun H5 =>
 idxD s0 s0n (IntKind.wrap .i64 (s3 + s11)) fun a5 =>
 st1 H5 (Addr.add a5 (Int.toNat (IntKind.wrap .i64 (s3 + s11)) * 4)) (.int .i64 n10) fun H6 =>
 st1 H6 (Addr.add (Addr.add a5 (Int.toNat (IntKind.wrap .i64 (s3 + s11)) * 4)) 1) (.slice q3 q3n q3c) fun H7 =>
 st1 H7 (Addr.add (Addr.add a5 (Int.toNat (IntKind.wrap .i64 (s3 + s11)) * 4)) 2) (.int .i64 n11) fun H8 =>
 st1 H8 (Addr.add (Addr.add a5 (Int.toNat (IntKind.wrap .i64 (s3 + s11)) * 4)) 3) (.int .i64 n12) fun H9 =>
 L0 s0 s0n s0c s2 s3 s4 s11 H9 R
theorem L2_step {s0 : OA} {s0n s0c : Nat} {s2 s3 : Int} {s4 : FV} {s10 s11 : Int} {H : Heap} {R : EH} (h : L2n s0 s0n s0c s2 s3 s4 s10 s11 H R) : L2 s0 s0n s0c s2 s3 s4 s10 s11 H R :=
 goL_of_den (an := an) (fuel := 100000) (X := L2n s0 s0n s0c s2 s3 s4 s10 s11 H R) mixed fn (by kernel_rfl) (fun ρ0 => by kernel_rfl) h
def go (s0 : OA) (s0n s0c : Nat) (s1 s2 s3 : Int) (s4 : FV) (H : Heap) (R : EH) : Prop :=
 L0 s0 s0n s0c s2 s3 s4 s1 H R
theorem calls {s0 : OA} {s0n s0c : Nat} {s1 s2 s3 : Int} {s4 : FV} {H : Heap} {R : EH} (h : go s0 s0n s0c s1 s2 s3 s4 H R) : CallsH Tryz.prog 96 ⟨[(.slice s0 s0n s0c), (.int .i64 s1), (.int .i64 s2), (.int .i64 s3), (FV.v s4)]⟩ H R :=
 callsH_of_den (an := an) (fuel := 100000) (X := go s0 s0n s0c s1 s2 s3 s4 H R) (c := body) mixed fn (by kernel_rfl) (by kernel_rfl) (by kernel_rfl) ok (by kernel_rfl) h
end F96
/-! ### 97 "slices.medianAdjacentCmpFunc[pub-stadtholder/impl.Told]" -/
namespace F97
def an : Ann := { kinds := [], taus := [], pairs := [], lab := [] }
noncomputable def body : Code := (Tryz.f97.body).getD .skip
theorem fn : Tryz.prog.funcs[97]? = some Tryz.f97 := by kernel_rfl
theorem ok : codeOk an 18 body = true := by kernel_rfl
def go (data : OA) (datan datac : Nat) (a : Int) (swaps : OA) (cmp : FV) (H : Heap) (R : EH) : Prop :=
 callD Tryz.prog 98 [(.slice data datan datac), (.int .i64 (IntKind.wrap .i64 (a - (1 : Int)))), (.int .i64 a), (.int .i64 (IntKind.wrap .i64 (a + (1 : Int)))), (.pointer swaps), (FV.v cmp)] H (panK R) fun v H1 =>
 tInt v .i64 fun n =>
 R (.returned (.int .i64 n)) H1
theorem calls {data : OA} {datan datac : Nat} {a : Int} {swaps : OA} {cmp : FV} {H : Heap} {R : EH} (h : go data datan datac a swaps cmp H R) : CallsH Tryz.prog 97 ⟨[(.slice data datan datac), (.int .i64 a), (.pointer swaps), (FV.v cmp)]⟩ H R :=
 callsH_of_den (an := an) (fuel := 100000) (X := go data datan datac a swaps cmp H R) (c := body) mixed fn (by kernel_rfl) (by kernel_rfl) (by kernel_rfl) ok (by kernel_rfl) h
end F97
/-! ### 98 "slices.medianCmpFunc[pub-stadtholder/impl.Told]" -/
namespace F98
def an : Ann := { kinds := [], taus := [], pairs := [], lab := [] }
noncomputable def body : Code := (Tryz.f98.body).getD .skip
theorem fn : Tryz.prog.funcs[98]? = some Tryz.f98 := by kernel_rfl
theorem ok : codeOk an 41 body = true := by kernel_rfl
def go (data : OA) (datan datac : Nat) (a b c : Int) (swaps : OA) (cmp : FV) (H : Heap) (R : EH) : Prop :=
 callD Tryz.prog 100 [(.slice data datan datac), (.int .i64 a), (.int .i64 b), (.pointer swaps), (FV.v cmp)] H (panK R) fun v H1 =>
 tTup v fun l =>
 tCons l fun c1 l1 =>
 tInt c1 .i64 fun n =>
 tCons l1 fun c2 l2 =>
 tInt c2 .i64 fun n1 =>
 tNil l2 <|
 callD Tryz.prog 100 [(.slice data datan datac), (.int .i64 n1), (.int .i64 c), (.pointer swaps), (FV.v cmp)] H1 (panK R) fun v1 H2 =>
 tTup v1 fun l3 =>
 tCons l3 fun c3 l4 =>
 tInt c3 .i64 fun n2 =>
 tCons l4 fun c4 l5 =>
 tInt c4 .i64 fun n3 =>
 tNil l5 <|
 callD Tryz.prog 100 [(.slice data datan datac), (.int .i64 n), (.int .i64 n2), (.pointer swaps), (FV.v cmp)] H2 (panK R) fun v2 H3 =>
 tTup v2 fun l6 =>
 tCons l6 fun c5 l7 =>
 tInt c5 .i64 fun n4 =>
 tCons l7 fun c6 l8 =>
 tInt c6 .i64 fun n5 =>
 tNil l8 <|
 R (.returned (.int .i64 n5)) H3
theorem calls {data : OA} {datan datac : Nat} {a b c : Int} {swaps : OA} {cmp : FV} {H : Heap} {R : EH} (h : go data datan datac a b c swaps cmp H R) : CallsH Tryz.prog 98 ⟨[(.slice data datan datac), (.int .i64 a), (.int .i64 b), (.int .i64 c), (.pointer swaps), (FV.v cmp)]⟩ H R :=
 callsH_of_den (an := an) (fuel := 100000) (X := go data datan datac a b c swaps cmp H R) (c := body) mixed fn (by kernel_rfl) (by kernel_rfl) (by kernel_rfl) ok (by kernel_rfl) h
end F98
/-! ### 100 "slices.order2CmpFunc[pub-stadtholder/impl.Told]" -/
namespace F100
def an : Ann := { kinds := [], taus := [(1, [[0, 1, 2, 3, 5, 6, 7, 4, 8, 9, 10]])], pairs := [], lab := [] }
noncomputable def body : Code := (Tryz.f100.body).getD .skip
theorem fn : Tryz.prog.funcs[100]? = some Tryz.f100 := by kernel_rfl
theorem ok : codeOk an 32 body = true := by kernel_rfl
def go (data : OA) (datan datac : Nat) (a b : Int) (swaps : OA) (cmp : FV) (H : Heap) (R : EH) : Prop :=
 idxD data datan b fun a1 =>
 idxD data datan a fun a2 =>
 ldInt H (Addr.add a1 (Int.toNat b * 4)) .i64 fun n =>
 ldSl H (Addr.add (Addr.add a1 (Int.toNat b * 4)) 1) fun q qn qc =>
 ldInt H (Addr.add (Addr.add a1 (Int.toNat b * 4)) 2) .i64 fun n1 =>
 ldInt H (Addr.add (Addr.add a1 (Int.toNat b * 4)) 3) .i64 fun n2 =>
 ldInt H (Addr.add a2 (Int.toNat a * 4)) .i64 fun n3 =>
 ldSl H (Addr.add (Addr.add a2 (Int.toNat a * 4)) 1) fun q1 q1n q1c =>
 ldInt H (Addr.add (Addr.add a2 (Int.toNat a * 4)) 2) .i64 fun n4 =>
 ldInt H (Addr.add (Addr.add a2 (Int.toNat a * 4)) 3) .i64 fun n5 =>
 callV Tryz.prog (FV.v cmp) [(.agg ⟨[(.int .i64 n), (.slice q qn qc), (.int .i64 n1), (.int .i64 n2)]⟩), (.agg ⟨[(.int .i64 n3), (.slice q1 q1n q1c), (.int .i64 n4), (.int .i64 n5)]⟩)] H (panK R) fun v H1 =>
 tInt v .i64 fun n6 =>
 iteB (decide (n6 < (0 : Int))) (
 nilD swaps fun a3 =>
 ldInt H1 a3 .i64 fun n7 =>
 nilD swaps fun a4 =>
 st1 H1 a4 (.int .i64 (IntKind.wrap .i64 (n7 + (1 : Int)))) fun H2 =>
 R (.returned (.tuple ⟨[(.int .i64 b), (.int .i64 a)]⟩)) H2) <|
 R (.returned (.tuple ⟨[(.int .i64 a), (.int .i64 b)]⟩)) H1
theorem calls {data : OA} {datan datac : Nat} {a b : Int} {swaps : OA} {cmp : FV} {H : Heap} {R : EH} (h : go data datan datac a b swaps cmp H R) : CallsH Tryz.prog 100 ⟨[(.slice data datan datac), (.int .i64 a), (.int .i64 b), (.pointer swaps), (FV.v cmp)]⟩ H R :=
 callsH_of_den (an := an) (fuel := 100000) (X := go data datan datac a b swaps cmp H R) (c := body) mixed fn (by kernel_rfl) (by kernel_rfl) (by kernel_rfl) ok (by kernel_rfl) h
end F100
end Go.Proofs.YtobolifgehagfaaGreat
