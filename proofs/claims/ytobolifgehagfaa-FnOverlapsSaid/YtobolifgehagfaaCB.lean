/- What functions of this seat do, each proved by a walk; no condition. -/
import Derived.Test.YtobolifgehagfaaCA
import Derived.KernelRfl
set_option linter.unusedVariables false
namespace Go.Proofs.Ytobolifgehagfaa
open Go Go.Den Go.Proofs
/-! ### 81 "slices.pdqsortOrdered[string]" -/
namespace F81
def an : Ann := { kinds := [], taus := [(17, [[0, 1, 2, 3, 4, 5, 6, 8, 9, 10, 7, 11, 12, 13, 14]])], pairs := [], lab := [(30000003, [0, 1, 2, 3, 8, 9]), (40000011, [0, 1, 2, 3, 8, 9, 10]), (40000016, [0, 1, 2, 3, 8, 9, 10, 11, 12]), (50000017, [0, 1, 2, 3, 8, 9, 10, 11]), (40000018, [0, 1, 2, 3, 8, 9, 10, 11]), (40000021, [0, 1, 2, 3, 10, 11]), (50000019, [0, 1, 2, 3, 8, 9, 11])] }
noncomputable def body : Code := (Try.f81.body).getD .skip
theorem fn : Try.prog.funcs[81]? = some Try.f81 := by kernel_rfl
theorem ok : codeOk an 134 body = true := by kernel_rfl
noncomputable def L0t : List Item := [.code (sub [1, 1, 0, 0] body), .inLoop (sub [1, 1, 0, 0] body), .inBlock 0]
def L0 (s0 : OA) (s0n s0c : Nat) (s1 s2 s3 : Int) (s8 s9 : Bool) (H : Heap) (R : EH) : Prop :=
 GoL Try.prog 81 134 L0t [0, 1, 2, 3, 8, 9] [(.slice s0 s0n s0c), (.int .i64 s1), (.int .i64 s2), (.int .i64 s3), (.bool s8), (.bool s9)] H R
noncomputable def L1t : List Item := [.code (sub [1, 1, 0, 0, 0, 1, 1, 1, 1] body), .inBlock 1, .inLoop (sub [1, 1, 0, 0] body), .inBlock 0]
def L1 (s0 : OA) (s0n s0c : Nat) (s1 s2 s3 : Int) (s8 s9 : Bool) (s10 : Int) (H : Heap) (R : EH) : Prop :=
 GoL Try.prog 81 134 L1t [0, 1, 2, 3, 8, 9, 10] [(.slice s0 s0n s0c), (.int .i64 s1), (.int .i64 s2), (.int .i64 s3), (.bool s8), (.bool s9), (.int .i64 s10)] H R
noncomputable def L2t : List Item := [.code (sub [1, 1, 0, 0, 0, 1, 1, 1, 1, 1, 1] body), .inBlock 1, .inLoop (sub [1, 1, 0, 0] body), .inBlock 0]
def L2 (s0 : OA) (s0n s0c : Nat) (s1 s2 s3 : Int) (s8 s9 : Bool) (s10 s11 s12 : Int) (H : Heap) (R : EH) : Prop :=
 GoL Try.prog 81 134 L2t [0, 1, 2, 3, 8, 9, 10, 11, 12] [(.slice s0 s0n s0c), (.int .i64 s1), (.int .i64 s2), (.int .i64 s3), (.bool s8), (.bool s9), (.int .i64 s10), (.int .i64 s11), (.int .i64 s12)] H R
noncomputable def L3t : List Item := [.code (sub [1, 1, 0, 0, 0, 1, 1, 1, 1, 1, 1, 0, 1, 0] body), .code (sub [1, 1, 0, 0, 0, 1, 1, 1, 1, 1, 1, 1] body), .inBlock 1, .inLoop (sub [1, 1, 0, 0] body), .inBlock 0]
def L3 (s0 : OA) (s0n s0c : Nat) (s1 s2 s3 : Int) (s8 s9 : Bool) (s10 s11 : Int) (H : Heap) (R : EH) : Prop :=
 GoL Try.prog 81 134 L3t [0, 1, 2, 3, 8, 9, 10, 11] [(.slice s0 s0n s0c), (.int .i64 s1), (.int .i64 s2), (.int .i64 s3), (.bool s8), (.bool s9), (.int .i64 s10), (.int .i64 s11)] H R
noncomputable def L4t : List Item := [.code (sub [1, 1, 0, 0, 0, 1, 1, 1, 1, 1, 1, 1] body), .inBlock 1, .inLoop (sub [1, 1, 0, 0] body), .inBlock 0]
def L4 (s0 : OA) (s0n s0c : Nat) (s1 s2 s3 : Int) (s8 s9 : Bool) (s10 s11 : Int) (H : Heap) (R : EH) : Prop :=
 GoL Try.prog 81 134 L4t [0, 1, 2, 3, 8, 9, 10, 11] [(.slice s0 s0n s0c), (.int .i64 s1), (.int .i64 s2), (.int .i64 s3), (.bool s8), (.bool s9), (.int .i64 s10), (.int .i64 s11)] H R
noncomputable def L5t : List Item := [.code (sub [1, 1, 0, 0, 0, 1, 1, 1, 1, 1, 1, 1, 1] body), .inBlock 1, .inLoop (sub [1, 1, 0, 0] body), .inBlock 0]
def L5 (s0 : OA) (s0n s0c : Nat) (s1 s2 s3 s10 s11 : Int) (H : Heap) (R : EH) : Prop :=
 GoL Try.prog 81 134 L5t [0, 1, 2, 3, 10, 11] [(.slice s0 s0n s0c), (.int .i64 s1), (.int .i64 s2), (.int .i64 s3), (.int .i64 s10), (.int .i64 s11)] H R
noncomputable def L6t : List Item := [.code (sub [1, 1, 0, 0, 0, 1, 1, 1, 1, 1, 1, 1, 0, 1, 0] body), .code (sub [1, 1, 0, 0, 0, 1, 1, 1, 1, 1, 1, 1, 1] body), .inBlock 1, .inLoop (sub [1, 1, 0, 0] body), .inBlock 0]
def L6 (s0 : OA) (s0n s0c : Nat) (s1 s2 s3 : Int) (s8 s9 : Bool) (s11 : Int) (H : Heap) (R : EH) : Prop :=
 GoL Try.prog 81 134 L6t [0, 1, 2, 3, 8, 9, 11] [(.slice s0 s0n s0c), (.int .i64 s1), (.int .i64 s2), (.int .i64 s3), (.bool s8), (.bool s9), (.int .i64 s11)] H R
def L0n (s0 : OA) (s0n s0c : Nat) (s1 s2 s3 : Int) (s8 s9 : Bool) (H : Heap) (R : EH) : Prop :=
 iteB (decide ((IntKind.wrap .i64 (s2 - s1)) ≤ (12 : Int))) (
 callD Try.prog 98 [(.slice s0 s0n s0c), (.int .i64 s1), (.int .i64 s2)] H (panK R) fun v H1 =>
 tTup v fun l =>
 tNil l <|
 R (.returned (.tuple ⟨[]⟩)) H1) <|
 iteB (s3 == (0 : Int)) (
 callD Try.prog 99 [(.slice s0 s0n s0c), (.int .i64 s1), (.int .i64 s2)] H (panK R) fun v1 H2 =>
 tTup v1 fun l1 =>
 tNil l1 <|
 R (.returned (.tuple ⟨[]⟩)) H2) <|
 iteB (!s8) (
 callD Try.prog 100 [(.slice s0 s0n s0c), (.int .i64 s1), (.int .i64 s2)] H (panK R) fun v2 H3 =>
 tTup v2 fun l2 =>
 tNil l2 <|
 L1 s0 s0n s0c s1 s2 (IntKind.wrap .i64 (s3 - (1 : Int))) s8 s9 (IntKind.wrap .i64 (s2 - s1)) H3 R) <|
 L1 s0 s0n s0c s1 s2 s3 s8 s9 (IntKind.wrap .i64 (s2 - s1)) H R
theorem L0_step {s0 : OA} {s0n s0c : Nat} {s1 s2 s3 : Int} {s8 s9 : Bool} {H : Heap} {R : EH} (h : L0n s0 s0n s0c s1 s2 s3 s8 s9 H R) : L0 s0 s0n s0c s1 s2 s3 s8 s9 H R :=
 goL_of_den (an := an) (fuel := 100000) (X := L0n s0 s0n s0c s1 s2 s3 s8 s9 H R) mixed fn (by kernel_rfl) (fun ρ0 => by kernel_rfl) h
def L1n (s0 : OA) (s0n s0c : Nat) (s1 s2 s3 : Int) (s8 s9 : Bool) (s10 : Int) (H : Heap) (R : EH) : Prop :=
 callD Try.prog 101 [(.slice s0 s0n s0c), (.int .i64 s1), (.int .i64 s2)] H (panK R) fun v H1 =>
 tTup v fun l =>
 tCons l fun c l1 =>
 tInt c .i64 fun n =>
 tCons l1 fun c1 l2 =>
 tInt c1 .i64 fun n1 =>
 tNil l2 <|
 iteB (n1 == (2 : Int)) (
 callD Try.prog 102 [(.slice s0 s0n s0c), (.int .i64 s1), (.int .i64 s2)] H1 (panK R) fun v1 H2 =>
 tTup v1 fun l3 =>
 tNil l3 <|
 L2 s0 s0n s0c s1 s2 s3 s8 s9 s10 (IntKind.wrap .i64 ((IntKind.wrap .i64 (s2 - (1 : Int))) - (IntKind.wrap .i64 (n - s1)))) (1 : Int) H2 R) <|
 L2 s0 s0n s0c s1 s2 s3 s8 s9 s10 n n1 H1 R
theorem L1_step {s0 : OA} {s0n s0c : Nat} {s1 s2 s3 : Int} {s8 s9 : Bool} {s10 : Int} {H : Heap} {R : EH} (h : L1n s0 s0n s0c s1 s2 s3 s8 s9 s10 H R) : L1 s0 s0n s0c s1 s2 s3 s8 s9 s10 H R :=
 goL_of_den (an := an) (fuel := 100000) (X := L1n s0 s0n s0c s1 s2 s3 s8 s9 s10 H R) mixed fn (by kernel_rfl) (fun ρ0 => by kernel_rfl) h
def L2n (s0 : OA) (s0n s0c : Nat) (s1 s2 s3 : Int) (s8 s9 : Bool) (s10 s11 s12 : Int) (H : Heap) (R : EH) : Prop :=
 iteB s8 (
 iteB s9 (
 iteB (s12 == (1 : Int)) (
 L3 s0 s0n s0c s1 s2 s3 s8 s9 s10 s11 H R) <|
 L4 s0 s0n s0c s1 s2 s3 s8 s9 s10 s11 H R) <|
 L4 s0 s0n s0c s1 s2 s3 s8 s9 s10 s11 H R) <|
 L4 s0 s0n s0c s1 s2 s3 s8 s9 s10 s11 H R
theorem L2_step {s0 : OA} {s0n s0c : Nat} {s1 s2 s3 : Int} {s8 s9 : Bool} {s10 s11 s12 : Int} {H : Heap} {R : EH} (h : L2n s0 s0n s0c s1 s2 s3 s8 s9 s10 s11 s12 H R) : L2 s0 s0n s0c s1 s2 s3 s8 s9 s10 s11 s12 H R :=
 goL_of_den (an := an) (fuel := 100000) (X := L2n s0 s0n s0c s1 s2 s3 s8 s9 s10 s11 s12 H R) mixed fn (by kernel_rfl) (fun ρ0 => by kernel_rfl) h
def L3n (s0 : OA) (s0n s0c : Nat) (s1 s2 s3 : Int) (s8 s9 : Bool) (s10 s11 : Int) (H : Heap) (R : EH) : Prop :=
 callD Try.prog 103 [(.slice s0 s0n s0c), (.int .i64 s1), (.int .i64 s2)] H (panK R) fun v H1 =>
 tBool v fun b =>
 iteB b (
 R (.returned (.tuple ⟨[]⟩)) H1) <|
 L4 s0 s0n s0c s1 s2 s3 s8 s9 s10 s11 H1 R
theorem L3_step {s0 : OA} {s0n s0c : Nat} {s1 s2 s3 : Int} {s8 s9 : Bool} {s10 s11 : Int} {H : Heap} {R : EH} (h : L3n s0 s0n s0c s1 s2 s3 s8 s9 s10 s11 H R) : L3 s0 s0n s0c s1 s2 s3 s8 s9 s10 s11 H R :=
 goL_of_den (an := an) (fuel := 100000) (X := L3n s0 s0n s0c s1 s2 s3 s8 s9 s10 s11 H R) mixed fn (by kernel_rfl) (fun ρ0 => by kernel_rfl) h
def L4n (s0 : OA) (s0n s0c : Nat) (s1 s2 s3 : Int) (s8 s9 : Bool) (s10 s11 : Int) (H : Heap) (R : EH) : Prop :=
 iteB (decide (s1 > (0 : Int))) (
 idxD s0 s0n (IntKind.wrap .i64 (s1 - (1 : Int))) fun a =>
 idxD s0 s0n s11 fun a1 =>
 ldStr H (Addr.add a (Int.toNat (IntKind.wrap .i64 (s1 - (1 : Int))) * 1)) fun s =>
 ldStr H (Addr.add a1 (Int.toNat s11 * 1)) fun s4 =>
 callD Try.prog 104 [(.string s), (.string s4)] H (panK R) fun v H1 =>
 tBool v fun b =>
 iteB (!b) (
 L6 s0 s0n s0c s1 s2 s3 s8 s9 s11 H1 R) <|
 L5 s0 s0n s0c s1 s2 s3 s10 s11 H1 R) <|
 L5 s0 s0n s0c s1 s2 s3 s10 s11 H R
theorem L4_step {s0 : OA} {s0n s0c : Nat} {s1 s2 s3 : Int} {s8 s9 : Bool} {s10 s11 : Int} {H : Heap} {R : EH} (h : L4n s0 s0n s0c s1 s2 s3 s8 s9 s10 s11 H R) : L4 s0 s0n s0c s1 s2 s3 s8 s9 s10 s11 H R :=
 goL_of_den (an := an) (fuel := 100000) (X := L4n s0 s0n s0c s1 s2 s3 s8 s9 s10 s11 H R) mixed fn (by kernel_rfl) (fun ρ0 => by kernel_rfl) h
def L5n (s0 : OA) (s0n s0c : Nat) (s1 s2 s3 s10 s11 : Int) (H : Heap) (R : EH) : Prop :=
 callD Try.prog 106 [(.slice s0 s0n s0c), (.int .i64 s1), (.int .i64 s2), (.int .i64 s11)] H (panK R) fun v H1 =>
 tTup v fun l =>
 tCons l fun c l1 =>
 tInt c .i64 fun n =>
 tCons l1 fun c1 l2 =>
 tBool c1 fun b =>
 tNil l2 <|
 divD (8 : Int) <|
 iteB (decide ((IntKind.wrap .i64 (n - s1)) < (IntKind.wrap .i64 (s2 - n)))) (
 callD Try.prog 81 [(.slice s0 s0n s0c), (.int .i64 s1), (.int .i64 n), (.int .i64 s3)] H1 (panK R) fun v1 H2 =>
 tTup v1 fun l3 =>
 tNil l3 <|
 L0 s0 s0n s0c (IntKind.wrap .i64 (n + (1 : Int))) s2 s3 (decide ((IntKind.wrap .i64 (n - s1)) ≥ (IntKind.wrap .i64 (Int.tdiv s10 (8 : Int))))) b H2 R) <|
 callD Try.prog 81 [(.slice s0 s0n s0c), (.int .i64 (IntKind.wrap .i64 (n + (1 : Int)))), (.int .i64 s2), (.int .i64 s3)] H1 (panK R) fun v2 H3 =>
 tTup v2 fun l4 =>
 tNil l4 <|
 L0 s0 s0n s0c s1 n s3 (decide ((IntKind.wrap .i64 (s2 - n)) ≥ (IntKind.wrap .i64 (Int.tdiv s10 (8 : Int))))) b H3 R
theorem L5_step {s0 : OA} {s0n s0c : Nat} {s1 s2 s3 s10 s11 : Int} {H : Heap} {R : EH} (h : L5n s0 s0n s0c s1 s2 s3 s10 s11 H R) : L5 s0 s0n s0c s1 s2 s3 s10 s11 H R :=
 goL_of_den (an := an) (fuel := 100000) (X := L5n s0 s0n s0c s1 s2 s3 s10 s11 H R) mixed fn (by kernel_rfl) (fun ρ0 => by kernel_rfl) h
def L6n (s0 : OA) (s0n s0c : Nat) (s1 s2 s3 : Int) (s8 s9 : Bool) (s11 : Int) (H : Heap) (R : EH) : Prop :=
 callD Try.prog 105 [(.slice s0 s0n s0c), (.int .i64 s1), (.int .i64 s2), (.int .i64 s11)] H (panK R) fun v H1 =>
 tInt v .i64 fun n =>
 L0 s0 s0n s0c n s2 s3 s8 s9 H1 R
theorem L6_step {s0 : OA} {s0n s0c : Nat} {s1 s2 s3 : Int} {s8 s9 : Bool} {s11 : Int} {H : Heap} {R : EH} (h : L6n s0 s0n s0c s1 s2 s3 s8 s9 s11 H R) : L6 s0 s0n s0c s1 s2 s3 s8 s9 s11 H R :=
 goL_of_den (an := an) (fuel := 100000) (X := L6n s0 s0n s0c s1 s2 s3 s8 s9 s11 H R) mixed fn (by kernel_rfl) (fun ρ0 => by kernel_rfl) h
def go (s0 : OA) (s0n s0c : Nat) (s1 s2 s3 : Int) (H : Heap) (R : EH) : Prop :=
 L0 s0 s0n s0c s1 s2 s3 true true H R
theorem calls {s0 : OA} {s0n s0c : Nat} {s1 s2 s3 : Int} {H : Heap} {R : EH} (h : go s0 s0n s0c s1 s2 s3 H R) : CallsH Try.prog 81 ⟨[(.slice s0 s0n s0c), (.int .i64 s1), (.int .i64 s2), (.int .i64 s3)]⟩ H R :=
 callsH_of_den (an := an) (fuel := 100000) (X := go s0 s0n s0c s1 s2 s3 H R) (c := body) mixed fn (by kernel_rfl) (by kernel_rfl) (by kernel_rfl) ok (by kernel_rfl) h
end F81
/-! ### 82 "math/bits.Len" -/
namespace F82
def an : Ann := { kinds := [], taus := [], pairs := [], lab := [] }
noncomputable def body : Code := (Try.f82.body).getD .skip
theorem fn : Try.prog.funcs[82]? = some Try.f82 := by kernel_rfl
theorem ok : codeOk an 8 body = true := by kernel_rfl
def go (x : Int) (H : Heap) (R : EH) : Prop :=
 callD Try.prog 108 [(.int .u64 x)] H (panK R) fun v H1 =>
 tInt v .i64 fun n =>
 R (.returned (.int .i64 n)) H1
theorem calls {x : Int} {H : Heap} {R : EH} (h : go x H R) : CallsH Try.prog 82 ⟨[(.int .u64 x)]⟩ H R :=
 callsH_of_den (an := an) (fuel := 100000) (X := go x H R) (c := body) mixed fn (by kernel_rfl) (by kernel_rfl) (by kernel_rfl) ok (by kernel_rfl) h
end F82
/-! ### 93 "pub-stadtholder/impl.bytesOf" -/
namespace F93
def an : Ann := { kinds := [(3001, .loud)], taus := [], pairs := [], lab := [] }
noncomputable def body : Code := (Try.f93.body).getD .skip
theorem fn : Try.prog.funcs[93]? = some Try.f93 := by kernel_rfl
theorem ok : codeOk an 7 body = true := by kernel_rfl
def go (s : ByteArray) (H : Heap) (R : EH) : Prop :=
 iteB (eqS s (ByteArray.mk #[])) (
 R (.returned (.slice none 0 0)) H) <|
 sbD H 5 s fun r c H1 =>
 R (.returned (.slice (some ⟨r, 0, none⟩) (ByteArray.size s) c)) H1
theorem calls {s : ByteArray} {H : Heap} {R : EH} (h : go s H R) : CallsH Try.prog 93 ⟨[(.string s)]⟩ H R :=
 callsH_of_den (an := an) (fuel := 100000) (X := go s H R) (c := body) mixed fn (by kernel_rfl) (by kernel_rfl) (by kernel_rfl) ok (by kernel_rfl) h
end F93
/-! ### 94 "pub-stadtholder/pub/etcdserver/etcdserver/api/v3rpc.checkPutRequest" -/
namespace F94
def an : Ann := { kinds := [], taus := [], pairs := [], lab := [(10000006, [0])] }
noncomputable def body : Code := (Try.f94.body).getD .skip
theorem fn : Try.prog.funcs[94]? = some Try.f94 := by kernel_rfl
theorem ok : codeOk an 35 body = true := by kernel_rfl
noncomputable def L0t : List Item := [.code (sub [1, 1, 1] body)]
def L0 (r : OA) (H : Heap) (R : EH) : Prop :=
 GoL Try.prog 94 35 L0t [0] [(.pointer r)] H R
def L0n (r : OA) (H : Heap) (R : EH) : Prop :=
 nilD r fun a =>
 ldBool H (Addr.add a 5) fun b =>
 iteB b (
 nilD r fun a1 =>
 ldInt H (Addr.add a1 2) .i64 fun n =>
 iteB (n != (0 : Int)) (
 R (.returned (.iface 176 (.string (ByteArray.mk #[101, 116, 99, 100, 115, 101, 114, 118, 101, 114, 58, 32, 108, 101, 97, 115, 101, 32, 105, 115, 32, 112, 114, 111, 118, 105, 100, 101, 100])))) H) <|
 R (.returned .nilIface) H) <|
 R (.returned .nilIface) H
theorem L0_step {r : OA} {H : Heap} {R : EH} (h : L0n r H R) : L0 r H R :=
 goL_of_den (an := an) (fuel := 100000) (X := L0n r H R) mixed fn (by kernel_rfl) (fun ρ0 => by kernel_rfl) h
def go (r : OA) (H : Heap) (R : EH) : Prop :=
 nilD r fun a =>
 ldSl H a fun q qn qc =>
 iteB (((qn : Nat) : Int) == (0 : Int)) (
 R (.returned (.iface 176 (.string (ByteArray.mk #[101, 116, 99, 100, 115, 101, 114, 118, 101, 114, 58, 32, 107, 101, 121, 32, 105, 115, 32, 110, 111, 116, 32, 112, 114, 111, 118, 105, 100, 101, 100])))) H) <|
 nilD r fun a1 =>
 ldBool H (Addr.add a1 4) fun b =>
 iteB b (
 nilD r fun a2 =>
 ldSl H (Addr.add a2 1) fun q1 q1n q1c =>
 iteB (((q1n : Nat) : Int) != (0 : Int)) (
 R (.returned (.iface 176 (.string (ByteArray.mk #[101, 116, 99, 100, 115, 101, 114, 118, 101, 114, 58, 32, 118, 97, 108, 117, 101, 32, 105, 115, 32, 112, 114, 111, 118, 105, 100, 101, 100])))) H) <|
 L0 r H R) <|
 L0 r H R
theorem calls {r : OA} {H : Heap} {R : EH} (h : go r H R) : CallsH Try.prog 94 ⟨[(.pointer r)]⟩ H R :=
 callsH_of_den (an := an) (fuel := 100000) (X := go r H R) (c := body) mixed fn (by kernel_rfl) (by kernel_rfl) (by kernel_rfl) ok (by kernel_rfl) h
end F94
/-! ### 97 "pub-stadtholder/impl.cmpIn" -/
namespace F97
def an : Ann := { kinds := [(1002, .grow), (1005, .grow), (1008, .grow), (1011, .grow), (1013, .grow), (12003, .loud)], taus := [(1, [[0, 3, 6, 9, 1, 4, 7, 10, 2, 5, 8, 11, 12, 13, 14], [0, 3, 6, 9, 1, 4, 7, 10, 2, 5, 11, 8, 12, 13, 14], [0, 3, 6, 9, 1, 4, 7, 10, 2, 8, 5, 11, 12, 13, 14], [0, 3, 6, 9, 1, 4, 7, 10, 8, 2, 5, 11, 12, 13, 14]])], pairs := [(1, [(2, 8), (5, 8), (8, 11)])], lab := [(10000003, [1, 3])] }
noncomputable def body : Code := (Try.f97.body).getD .skip
theorem fn : Try.prog.funcs[97]? = some Try.f97 := by kernel_rfl
theorem ok : codeOk an 75 body = true := by kernel_rfl
noncomputable def L0t : List Item := [.code (sub [1, 1] body)]
def L0 (s1 s3 : Nat) (H : Heap) (R : EH) : Prop :=
 GoL Try.prog 97 75 L0t [1, 3] [(.pointer (some ⟨s1, 0, none⟩)), (.pointer (some ⟨s3, 0, none⟩))] H R
def L0n (s1 s3 : Nat) (H : Heap) (R : EH) : Prop :=
 ldBool H ⟨s1, 6, none⟩ fun b =>
 iteB b (
 R (.returned (.pointer (some ⟨s3, 0, none⟩))) H) <|
 ldInt H ⟨s1, 0, none⟩ .i64 fun n =>
 iteB (n == (0 : Int)) (
 ldInt H ⟨s1, 4, none⟩ .i64 fun n1 =>
 newD H (.cells ⟨[(.int .i64 n1)]⟩ 246) fun r H1 =>
 st1 H1 ⟨s3, 3, none⟩ (.iface 244 (.pointer (some ⟨r, 0, none⟩))) fun H2 =>
 R (.returned (.pointer (some ⟨s3, 0, none⟩))) H2) <|
 iteB (n == (1 : Int)) (
 ldInt H ⟨s1, 4, none⟩ .i64 fun n2 =>
 newD H (.cells ⟨[(.int .i64 n2)]⟩ 249) fun r1 H3 =>
 st1 H3 ⟨s3, 3, none⟩ (.iface 247 (.pointer (some ⟨r1, 0, none⟩))) fun H4 =>
 R (.returned (.pointer (some ⟨s3, 0, none⟩))) H4) <|
 iteB (n == (2 : Int)) (
 ldInt H ⟨s1, 4, none⟩ .i64 fun n3 =>
 newD H (.cells ⟨[(.int .i64 n3)]⟩ 252) fun r2 H5 =>
 st1 H5 ⟨s3, 3, none⟩ (.iface 250 (.pointer (some ⟨r2, 0, none⟩))) fun H6 =>
 R (.returned (.pointer (some ⟨s3, 0, none⟩))) H6) <|
 iteB (n == (3 : Int)) (
 ldStr H ⟨s1, 5, none⟩ fun s =>
 sbD H 5 s fun r3 c H7 =>
 newD H7 (.cells ⟨[(.slice (some ⟨r3, 0, none⟩) (ByteArray.size s) c)]⟩ 255) fun r4 H8 =>
 st1 H8 ⟨s3, 3, none⟩ (.iface 253 (.pointer (some ⟨r4, 0, none⟩))) fun H9 =>
 R (.returned (.pointer (some ⟨s3, 0, none⟩))) H9) <|
 iteB (n == (4 : Int)) (
 ldInt H ⟨s1, 4, none⟩ .i64 fun n4 =>
 newD H (.cells ⟨[(.int .i64 n4)]⟩ 258) fun r5 H10 =>
 st1 H10 ⟨s3, 3, none⟩ (.iface 256 (.pointer (some ⟨r5, 0, none⟩))) fun H11 =>
 R (.returned (.pointer (some ⟨s3, 0, none⟩))) H11) <|
 R (.returned (.pointer (some ⟨s3, 0, none⟩))) H
theorem L0_step {s1 s3 : Nat} {H : Heap} {R : EH} (h : L0n s1 s3 H R) : L0 s1 s3 H R :=
 goL_of_den (an := an) (fuel := 100000) (X := L0n s1 s3 H R) mixed fn (by kernel_rfl) (fun ρ0 => by kernel_rfl) h
def go (s0_0 s0_1 : Int) (s0_2 s0_3 : ByteArray) (s0_4 : Int) (s0_5 : ByteArray) (s0_6 : Bool) (H : Heap) (R : EH) : Prop :=
 newD H (.cells ⟨[(.int .i64 s0_0), (.int .i64 s0_1), (.string s0_2), (.string s0_3), (.int .i64 s0_4), (.string s0_5), (.bool s0_6)]⟩ 222) fun r H1 =>
 (
 ldInt H1 ⟨r, 1, none⟩ .i64 fun n =>
 ldInt H1 ⟨r, 0, none⟩ .i64 fun n1 =>
 ldStr H1 ⟨r, 2, none⟩ fun s =>
 ldStr H1 ⟨r, 3, none⟩ fun s1 =>
 callD Try.prog 58 [(.int .i64 n)] H1 nope fun v H2 =>
 tInt v .i32 fun n2 =>
 andD (ExtH H1 H2) <|
 callD Try.prog 58 [(.int .i64 n1)] H2 nope fun v1 H3 =>
 tInt v1 .i32 fun n3 =>
 andD (ExtH H2 H3) <|
 sbD H3 5 s fun r1 c H4 =>
 callD Try.prog 93 [(.string s1)] H4 nope fun v2 H5 =>
 tSl v2 fun q qn qc =>
 andD (ExtH H4 H5) <|
 newD H5 (.cells ⟨[(.int .i32 n2), (.int .i32 n3), (.slice (some ⟨r1, 0, none⟩) (ByteArray.size s) c), .nilIface, (.slice q qn qc)]⟩ 242) fun r2 H6 =>
 L0 r r2 H6 R) ∧
 (
 ldInt H1 ⟨r, 1, none⟩ .i64 fun n4 =>
 ldInt H1 ⟨r, 0, none⟩ .i64 fun n5 =>
 ldStr H1 ⟨r, 2, none⟩ fun s2 =>
 ldStr H1 ⟨r, 3, none⟩ fun s3 =>
 callD Try.prog 58 [(.int .i64 n4)] H1 nope fun v3 H7 =>
 tInt v3 .i32 fun n6 =>
 andD (ExtH H1 H7) <|
 callD Try.prog 58 [(.int .i64 n5)] H7 nope fun v4 H8 =>
 tInt v4 .i32 fun n7 =>
 andD (ExtH H7 H8) <|
 callD Try.prog 93 [(.string s3)] H8 nope fun v5 H9 =>
 tSl v5 fun q1 q1n q1c =>
 andD (ExtH H8 H9) <|
 sbD H9 5 s2 fun r3 c1 H10 =>
 newD H10 (.cells ⟨[(.int .i32 n6), (.int .i32 n7), (.slice (some ⟨r3, 0, none⟩) (ByteArray.size s2) c1), .nilIface, (.slice q1 q1n q1c)]⟩ 242) fun r4 H11 =>
 L0 r r4 H11 R) ∧
 (
 ldInt H1 ⟨r, 1, none⟩ .i64 fun n8 =>
 ldInt H1 ⟨r, 0, none⟩ .i64 fun n9 =>
 ldStr H1 ⟨r, 2, none⟩ fun s4 =>
 ldStr H1 ⟨r, 3, none⟩ fun s5 =>
 callD Try.prog 58 [(.int .i64 n8)] H1 nope fun v6 H12 =>
 tInt v6 .i32 fun n10 =>
 andD (ExtH H1 H12) <|
 sbD H12 5 s4 fun r5 c2 H13 =>
 callD Try.prog 58 [(.int .i64 n9)] H13 nope fun v7 H14 =>
 tInt v7 .i32 fun n11 =>
 andD (ExtH H13 H14) <|
 callD Try.prog 93 [(.string s5)] H14 nope fun v8 H15 =>
 tSl v8 fun q2 q2n q2c =>
 andD (ExtH H14 H15) <|
 newD H15 (.cells ⟨[(.int .i32 n10), (.int .i32 n11), (.slice (some ⟨r5, 0, none⟩) (ByteArray.size s4) c2), .nilIface, (.slice q2 q2n q2c)]⟩ 242) fun r6 H16 =>
 L0 r r6 H16 R) ∧
 (
 ldInt H1 ⟨r, 1, none⟩ .i64 fun n12 =>
 ldInt H1 ⟨r, 0, none⟩ .i64 fun n13 =>
 ldStr H1 ⟨r, 2, none⟩ fun s6 =>
 ldStr H1 ⟨r, 3, none⟩ fun s7 =>
 sbD H1 5 s6 fun r7 c3 H17 =>
 callD Try.prog 58 [(.int .i64 n12)] H17 nope fun v9 H18 =>
 tInt v9 .i32 fun n14 =>
 andD (ExtH H17 H18) <|
 callD Try.prog 58 [(.int .i64 n13)] H18 nope fun v10 H19 =>
 tInt v10 .i32 fun n15 =>
 andD (ExtH H18 H19) <|
 callD Try.prog 93 [(.string s7)] H19 nope fun v11 H20 =>
 tSl v11 fun q3 q3n q3c =>
 andD (ExtH H19 H20) <|
 newD H20 (.cells ⟨[(.int .i32 n14), (.int .i32 n15), (.slice (some ⟨r7, 0, none⟩) (ByteArray.size s6) c3), .nilIface, (.slice q3 q3n q3c)]⟩ 242) fun r8 H21 =>
 L0 r r8 H21 R)
theorem calls {s0_0 s0_1 : Int} {s0_2 s0_3 : ByteArray} {s0_4 : Int} {s0_5 : ByteArray} {s0_6 : Bool} {H : Heap} {R : EH} (h : go s0_0 s0_1 s0_2 s0_3 s0_4 s0_5 s0_6 H R) : CallsH Try.prog 97 ⟨[(.agg ⟨[(.int .i64 s0_0), (.int .i64 s0_1), (.string s0_2), (.string s0_3), (.int .i64 s0_4), (.string s0_5), (.bool s0_6)]⟩)]⟩ H R :=
 callsH_of_den (an := an) (fuel := 100000) (X := go s0_0 s0_1 s0_2 s0_3 s0_4 s0_5 s0_6 H R) (c := body) mixed fn (by kernel_rfl) (by kernel_rfl) (by kernel_rfl) ok (by kernel_rfl) h
end F97
/-! ### 98 "slices.insertionSortOrdered[string]" -/
namespace F98
def an : Ann := { kinds := [], taus := [(4, [[0, 1, 2, 3, 4, 5, 6, 8, 9, 10, 11, 7, 12, 13, 14]]), (6, [[0, 1, 2, 3, 4, 5, 6, 7, 8, 10, 11, 12, 9, 13, 14, 15, 16, 17]])], pairs := [], lab := [(30000002, [0, 1, 2, 6]), (70000005, [0, 1, 2, 6, 7]), (30000003, [0, 1, 2, 6]), (70000007, [0, 1, 2, 6, 7])] }
noncomputable def body : Code := (Try.f98.body).getD .skip
theorem fn : Try.prog.funcs[98]? = some Try.f98 := by kernel_rfl
theorem ok : codeOk an 49 body = true := by kernel_rfl
noncomputable def L0t : List Item := [.code (sub [1, 0, 0] body), .inLoop (sub [1, 0, 0] body), .inBlock 0]
def L0 (data : OA) (datan datac : Nat) (a b i : Int) (H : Heap) (R : EH) : Prop :=
 GoL Try.prog 98 49 L0t [0, 1, 2, 6] [(.slice data datan datac), (.int .i64 a), (.int .i64 b), (.int .i64 i)] H R
noncomputable def L1t : List Item := [.code (sub [1, 0, 0, 1, 0, 0, 1, 0, 0] body), .inLoop (sub [1, 0, 0, 1, 0, 0, 1, 0, 0] body), .inBlock 2, .inBlock 1, .code (sub [1, 0, 0, 1, 1] body), .inLoop (sub [1, 0, 0] body), .inBlock 0]
def L1 (data : OA) (datan datac : Nat) (a b i j : Int) (H : Heap) (R : EH) : Prop :=
 GoL Try.prog 98 49 L1t [0, 1, 2, 6, 7] [(.slice data datan datac), (.int .i64 a), (.int .i64 b), (.int .i64 i), (.int .i64 j)] H R
noncomputable def L2t : List Item := [.code (sub [1, 0, 0, 1, 1] body), .inLoop (sub [1, 0, 0] body), .inBlock 0]
def L2 (data : OA) (datan datac : Nat) (a b i : Int) (H : Heap) (R : EH) : Prop :=
 GoL Try.prog 98 49 L2t [0, 1, 2, 6] [(.slice data datan datac), (.int .i64 a), (.int .i64 b), (.int .i64 i)] H R
noncomputable def L3t : List Item := [.code (sub [1, 0, 0, 1, 0, 0, 1, 0, 0, 1] body), .inLoop (sub [1, 0, 0, 1, 0, 0, 1, 0, 0] body), .inBlock 2, .inBlock 1, .code (sub [1, 0, 0, 1, 1] body), .inLoop (sub [1, 0, 0] body), .inBlock 0]
def L3 (data : OA) (datan datac : Nat) (a b i j : Int) (H : Heap) (R : EH) : Prop :=
 GoL Try.prog 98 49 L3t [0, 1, 2, 6, 7] [(.slice data datan datac), (.int .i64 a), (.int .i64 b), (.int .i64 i), (.int .i64 j)] H R
def L0n (data : OA) (datan datac : Nat) (a b i : Int) (H : Heap) (R : EH) : Prop :=
 iteB (decide (i < b)) (
 L1 data datan datac a b i i H R) <|
 R (.returned (.tuple ⟨[]⟩)) H
theorem L0_step {data : OA} {datan datac : Nat} {a b i : Int} {H : Heap} {R : EH} (h : L0n data datan datac a b i H R) : L0 data datan datac a b i H R :=
 goL_of_den (an := an) (fuel := 100000) (X := L0n data datan datac a b i H R) mixed fn (by kernel_rfl) (fun ρ0 => by kernel_rfl) h
def L1n (data : OA) (datan datac : Nat) (a b i j : Int) (H : Heap) (R : EH) : Prop :=
 iteB (decide (j > a)) (
 idxD data datan j fun a1 =>
 idxD data datan (IntKind.wrap .i64 (j - (1 : Int))) fun a2 =>
 ldStr H (Addr.add a1 (Int.toNat j * 1)) fun s =>
 ldStr H (Addr.add a2 (Int.toNat (IntKind.wrap .i64 (j - (1 : Int))) * 1)) fun s1 =>
 callD Try.prog 104 [(.string s), (.string s1)] H (panK R) fun v H1 =>
 tBool v fun b1 =>
 iteB b1 (
 L3 data datan datac a b i j H1 R) <|
 L2 data datan datac a b i H1 R) <|
 L2 data datan datac a b i H R
theorem L1_step {data : OA} {datan datac : Nat} {a b i j : Int} {H : Heap} {R : EH} (h : L1n data datan datac a b i j H R) : L1 data datan datac a b i j H R :=
 goL_of_den (an := an) (fuel := 100000) (X := L1n data datan datac a b i j H R) mixed fn (by kernel_rfl) (fun ρ0 => by kernel_rfl) h
def L2n (data : OA) (datan datac : Nat) (a b i : Int) (H : Heap) (R : EH) : Prop :=
 L0 data datan datac a b (IntKind.wrap .i64 (i + (1 : Int))) H R
theorem L2_step {data : OA} {datan datac : Nat} {a b i : Int} {H : Heap} {R : EH} (h : L2n data datan datac a b i H R) : L2 data datan datac a b i H R :=
 goL_of_den (an := an) (fuel := 100000) (X := L2n data datan datac a b i H R) mixed fn (by kernel_rfl) (fun ρ0 => by kernel_rfl) h
def L3n (data : OA) (datan datac : Nat) (a b i j : Int) (H : Heap) (R : EH) : Prop :=
 idxD data datan (IntKind.wrap .i64 (j - (1 : Int))) fun a1 =>
 idxD data datan j fun a2 =>
 ldStr H (Addr.add a1 (Int.toNat (IntKind.wrap .i64 (j - (1 : Int))) * 1)) fun s =>
 ldStr H (Addr.add a2 (Int.toNat j * 1)) fun s1 =>
 idxD data datan j fun a3 =>
 st1 H (Addr.add a3 (Int.toNat j * 1)) (.string s) fun H1 =>
 idxD data datan (IntKind.wrap .i64 (j - (1 : Int))) fun a4 =>
 st1 H1 (Addr.add a4 (Int.toNat (IntKind.wrap .i64 (j - (1 : Int))) * 1)) (.string s1) fun H2 =>
 L1 data datan datac a b i (IntKind.wrap .i64 (j - (1 : Int))) H2 R
theorem L3_step {data : OA} {datan datac : Nat} {a b i j : Int} {H : Heap} {R : EH} (h : L3n data datan datac a b i j H R) : L3 data datan datac a b i j H R :=
 goL_of_den (an := an) (fuel := 100000) (X := L3n data datan datac a b i j H R) mixed fn (by kernel_rfl) (fun ρ0 => by kernel_rfl) h
def go (data : OA) (datan datac : Nat) (a b : Int) (H : Heap) (R : EH) : Prop :=
 L0 data datan datac a b (IntKind.wrap .i64 (a + (1 : Int))) H R
theorem calls {data : OA} {datan datac : Nat} {a b : Int} {H : Heap} {R : EH} (h : go data datan datac a b H R) : CallsH Try.prog 98 ⟨[(.slice data datan datac), (.int .i64 a), (.int .i64 b)]⟩ H R :=
 callsH_of_den (an := an) (fuel := 100000) (X := go data datan datac a b H R) (c := body) mixed fn (by kernel_rfl) (by kernel_rfl) (by kernel_rfl) ok (by kernel_rfl) h
end F98
/-! ### 99 "slices.heapSortOrdered[string]" -/
namespace F99
def an : Ann := { kinds := [], taus := [(10, [[0, 1, 2, 3, 4, 5, 6, 7, 8, 9, 10, 12, 13, 14, 11, 15, 16, 17, 18, 19]])], pairs := [], lab := [(40000005, [0, 6, 7, 8, 9]), (30000009, [0, 6, 7, 10])] }
noncomputable def body : Code := (Try.f99.body).getD .skip
theorem fn : Try.prog.funcs[99]? = some Try.f99 := by kernel_rfl
theorem ok : codeOk an 56 body = true := by kernel_rfl
noncomputable def L0t : List Item := [.code (sub [1, 1, 1, 0, 1, 0, 0] body), .inLoop (sub [1, 1, 1, 0, 1, 0, 0] body), .inBlock 0, .code (sub [1, 1, 1, 1] body)]
def L0 (data : OA) (datan datac : Nat) (first lo hi i : Int) (H : Heap) (R : EH) : Prop :=
 GoL Try.prog 99 56 L0t [0, 6, 7, 8, 9] [(.slice data datan datac), (.int .i64 first), (.int .i64 lo), (.int .i64 hi), (.int .i64 i)] H R
noncomputable def L1t : List Item := [.code (sub [1, 1, 1, 1, 1, 0, 0] body), .inLoop (sub [1, 1, 1, 1, 1, 0, 0] body), .inBlock 2]
def L1 (data : OA) (datan datac : Nat) (first lo i : Int) (H : Heap) (R : EH) : Prop :=
 GoL Try.prog 99 56 L1t [0, 6, 7, 10] [(.slice data datan datac), (.int .i64 first), (.int .i64 lo), (.int .i64 i)] H R
def L0n (data : OA) (datan datac : Nat) (first lo hi i : Int) (H : Heap) (R : EH) : Prop :=
 iteB (decide (i ≥ (0 : Int))) (
 callD Try.prog 110 [(.slice data datan datac), (.int .i64 i), (.int .i64 hi), (.int .i64 first)] H (panK R) fun v H1 =>
 tTup v fun l =>
 tNil l <|
 L0 data datan datac first lo hi (IntKind.wrap .i64 (i - (1 : Int))) H1 R) <|
 L1 data datan datac first lo (IntKind.wrap .i64 (hi - (1 : Int))) H R
theorem L0_step {data : OA} {datan datac : Nat} {first lo hi i : Int} {H : Heap} {R : EH} (h : L0n data datan datac first lo hi i H R) : L0 data datan datac first lo hi i H R :=
 goL_of_den (an := an) (fuel := 100000) (X := L0n data datan datac first lo hi i H R) mixed fn (by kernel_rfl) (fun ρ0 => by kernel_rfl) h
def L1n (data : OA) (datan datac : Nat) (first lo i : Int) (H : Heap) (R : EH) : Prop :=
 iteB (decide (i ≥ (0 : Int))) (
 idxD data datan (IntKind.wrap .i64 (first + i)) fun a =>
 idxD data datan first fun a1 =>
 ldStr H (Addr.add a (Int.toNat (IntKind.wrap .i64 (first + i)) * 1)) fun s =>
 ldStr H (Addr.add a1 (Int.toNat first * 1)) fun s1 =>
 idxD data datan first fun a2 =>
 st1 H (Addr.add a2 (Int.toNat first * 1)) (.string s) fun H1 =>
 idxD data datan (IntKind.wrap .i64 (first + i)) fun a3 =>
 st1 H1 (Addr.add a3 (Int.toNat (IntKind.wrap .i64 (first + i)) * 1)) (.string s1) fun H2 =>
 callD Try.prog 110 [(.slice data datan datac), (.int .i64 lo), (.int .i64 i), (.int .i64 first)] H2 (panK R) fun v H3 =>
 tTup v fun l =>
 tNil l <|
 L1 data datan datac first lo (IntKind.wrap .i64 (i - (1 : Int))) H3 R) <|
 R (.returned (.tuple ⟨[]⟩)) H
theorem L1_step {data : OA} {datan datac : Nat} {first lo i : Int} {H : Heap} {R : EH} (h : L1n data datan datac first lo i H R) : L1 data datan datac first lo i H R :=
 goL_of_den (an := an) (fuel := 100000) (X := L1n data datan datac first lo i H R) mixed fn (by kernel_rfl) (fun ρ0 => by kernel_rfl) h
def go (data : OA) (datan datac : Nat) (a b : Int) (H : Heap) (R : EH) : Prop :=
 divD (2 : Int) <|
 L0 data datan datac a (0 : Int) (IntKind.wrap .i64 (b - a)) (IntKind.wrap .i64 (Int.tdiv (IntKind.wrap .i64 ((IntKind.wrap .i64 (b - a)) - (1 : Int))) (2 : Int))) H R
theorem calls {data : OA} {datan datac : Nat} {a b : Int} {H : Heap} {R : EH} (h : go data datan datac a b H R) : CallsH Try.prog 99 ⟨[(.slice data datan datac), (.int .i64 a), (.int .i64 b)]⟩ H R :=
 callsH_of_den (an := an) (fuel := 100000) (X := go data datan datac a b H R) (c := body) mixed fn (by kernel_rfl) (by kernel_rfl) (by kernel_rfl) ok (by kernel_rfl) h
end F99
/-! ### 100 "slices.breakPatternsOrdered[string]" -/
namespace F100
def an : Ann := { kinds := [], taus := [(10, [[0, 1, 2, 3, 4, 5, 6, 7, 8, 9, 10, 12, 13, 14, 11, 15, 16, 17, 18, 19]])], pairs := [], lab := [(30000006, [0, 1, 6, 7, 8, 9]), (50000011, [0, 1, 6, 7, 8, 9, 10])] }
noncomputable def body : Code := (Try.f100.body).getD .skip
theorem fn : Try.prog.funcs[100]? = some Try.f100 := by kernel_rfl
theorem ok : codeOk an 65 body = true := by kernel_rfl
noncomputable def L0t : List Item := [.code (sub [1, 1, 0, 1, 1, 1, 0, 0] body), .inLoop (sub [1, 1, 0, 1, 1, 1, 0, 0] body), .inBlock 0]
def L0 (s0 : OA) (s0n s0c : Nat) (s1 s6 : Int) (s7 : Nat) (s8 s9 : Int) (H : Heap) (R : EH) : Prop :=
 GoL Try.prog 100 65 L0t [0, 1, 6, 7, 8, 9] [(.slice s0 s0n s0c), (.int .i64 s1), (.int .i64 s6), (.pointer (some ⟨s7, 0, none⟩)), (.int .u64 s8), (.int .i64 s9)] H R
noncomputable def L1t : List Item := [.code (sub [1, 1, 0, 1, 1, 1, 0, 0, 1, 0, 0, 1, 1] body), .inBlock 1, .code (sub [1, 1, 0, 1, 1, 1, 0, 0, 1, 1] body), .inLoop (sub [1, 1, 0, 1, 1, 1, 0, 0] body), .inBlock 0]
def L1 (s0 : OA) (s0n s0c : Nat) (s1 s6 : Int) (s7 : Nat) (s8 s9 s10 : Int) (H : Heap) (R : EH) : Prop :=
 GoL Try.prog 100 65 L1t [0, 1, 6, 7, 8, 9, 10] [(.slice s0 s0n s0c), (.int .i64 s1), (.int .i64 s6), (.pointer (some ⟨s7, 0, none⟩)), (.int .u64 s8), (.int .i64 s9), (.int .i64 s10)] H R
def L0n (s0 : OA) (s0n s0c : Nat) (s1 s6 : Int) (s7 : Nat) (s8 s9 : Int) (H : Heap) (R : EH) : Prop :=
 divD (4 : Int) <|
 iteB (decide (s9 ≤ (IntKind.wrap .i64 ((IntKind.wrap .i64 (s1 + (IntKind.wrap .i64 ((IntKind.wrap .i64 (Int.tdiv s6 (4 : Int))) * (2 : Int))))) + (1 : Int))))) (
 callD Try.prog 112 [(.pointer (some ⟨s7, 0, none⟩))] H (panK R) fun v H1 =>
 tInt v .u64 fun n =>
 iteB (decide ((IntKind.wrap .i64 (andZ .u64 n (IntKind.wrap .u64 (s8 - (1 : Int))))) ≥ s6)) (
 L1 s0 s0n s0c s1 s6 s7 s8 s9 (IntKind.wrap .i64 ((IntKind.wrap .i64 (andZ .u64 n (IntKind.wrap .u64 (s8 - (1 : Int))))) - s6)) H1 R) <|
 L1 s0 s0n s0c s1 s6 s7 s8 s9 (IntKind.wrap .i64 (andZ .u64 n (IntKind.wrap .u64 (s8 - (1 : Int))))) H1 R) <|
 R (.returned (.tuple ⟨[]⟩)) H
theorem L0_step {s0 : OA} {s0n s0c : Nat} {s1 s6 : Int} {s7 : Nat} {s8 s9 : Int} {H : Heap} {R : EH} (h : L0n s0 s0n s0c s1 s6 s7 s8 s9 H R) : L0 s0 s0n s0c s1 s6 s7 s8 s9 H R :=
 goL_of_den (an := an) (fuel := 100000) (X := L0n s0 s0n s0c s1 s6 s7 s8 s9 H R) mixed fn (by kernel_rfl) (fun ρ0 => by kernel_rfl) h
def L1n (s0 : OA) (s0n s0c : Nat) (s1 s6 : Int) (s7 : Nat) (s8 s9 s10 : Int) (H : Heap) (R : EH) : Prop :=
 idxD s0 s0n (IntKind.wrap .i64 (s1 + s10)) fun a =>
 idxD s0 s0n s9 fun a1 =>
 ldStr H (Addr.add a (Int.toNat (IntKind.wrap .i64 (s1 + s10)) * 1)) fun s =>
 ldStr H (Addr.add a1 (Int.toNat s9 * 1)) fun s2 =>
 idxD s0 s0n s9 fun a2 =>
 st1 H (Addr.add a2 (Int.toNat s9 * 1)) (.string s) fun H1 =>
 idxD s0 s0n (IntKind.wrap .i64 (s1 + s10)) fun a3 =>
 st1 H1 (Addr.add a3 (Int.toNat (IntKind.wrap .i64 (s1 + s10)) * 1)) (.string s2) fun H2 =>
 L0 s0 s0n s0c s1 s6 s7 s8 (IntKind.wrap .i64 (s9 + (1 : Int))) H2 R
theorem L1_step {s0 : OA} {s0n s0c : Nat} {s1 s6 : Int} {s7 : Nat} {s8 s9 s10 : Int} {H : Heap} {R : EH} (h : L1n s0 s0n s0c s1 s6 s7 s8 s9 s10 H R) : L1 s0 s0n s0c s1 s6 s7 s8 s9 s10 H R :=
 goL_of_den (an := an) (fuel := 100000) (X := L1n s0 s0n s0c s1 s6 s7 s8 s9 s10 H R) mixed fn (by kernel_rfl) (fun ρ0 => by kernel_rfl) h
def go (s0 : OA) (s0n s0c : Nat) (s1 s2 : Int) (H : Heap) (R : EH) : Prop :=
 iteB (decide ((IntKind.wrap .i64 (s2 - s1)) ≥ (8 : Int))) (
 newD H (.cells ⟨[(.int .u64 (0 : Int))]⟩ 259) fun r H1 =>
 st1 H1 ⟨r, 0, none⟩ (.int .u64 (IntKind.wrap .u64 (IntKind.wrap .i64 (s2 - s1)))) fun H2 =>
 callD Try.prog 111 [(.int .i64 (IntKind.wrap .i64 (s2 - s1)))] H2 (panK R) fun v H3 =>
 tInt v .u64 fun n =>
 divD (4 : Int) <|
 L0 s0 s0n s0c s1 (IntKind.wrap .i64 (s2 - s1)) r n (IntKind.wrap .i64 ((IntKind.wrap .i64 (s1 + (IntKind.wrap .i64 ((IntKind.wrap .i64 (Int.tdiv (IntKind.wrap .i64 (s2 - s1)) (4 : Int))) * (2 : Int))))) - (1 : Int))) H3 R) <|
 R (.returned (.tuple ⟨[]⟩)) H
theorem calls {s0 : OA} {s0n s0c : Nat} {s1 s2 : Int} {H : Heap} {R : EH} (h : go s0 s0n s0c s1 s2 H R) : CallsH Try.prog 100 ⟨[(.slice s0 s0n s0c), (.int .i64 s1), (.int .i64 s2)]⟩ H R :=
 callsH_of_den (an := an) (fuel := 100000) (X := go s0 s0n s0c s1 s2 H R) (c := body) mixed fn (by kernel_rfl) (by kernel_rfl) (by kernel_rfl) ok (by kernel_rfl) h
end F100
/-! ### 101 "slices.choosePivotOrdered[string]" -/
namespace F101
def an : Ann := { kinds := [], taus := [], pairs := [], lab := [(20000012, [0, 9, 10, 11, 12]), (10000013, [9, 11])] }
noncomputable def body : Code := (Try.f101.body).getD .skip
theorem fn : Try.prog.funcs[101]? = some Try.f101 := by kernel_rfl
theorem ok : codeOk an 57 body = true := by kernel_rfl
noncomputable def L0t : List Item := [.code (sub [1, 1, 1, 1, 1, 1, 0, 1, 0, 1] body), .code (sub [1, 1, 1, 1, 1, 1, 1] body)]
def L0 (data : OA) (datan datac swaps : Nat) (i j k : Int) (H : Heap) (R : EH) : Prop :=
 GoL Try.prog 101 57 L0t [0, 9, 10, 11, 12] [(.slice data datan datac), (.pointer (some ⟨swaps, 0, none⟩)), (.int .i64 i), (.int .i64 j), (.int .i64 k)] H R
noncomputable def L1t : List Item := [.code (sub [1, 1, 1, 1, 1, 1, 1] body)]
def L1 (swaps : Nat) (j : Int) (H : Heap) (R : EH) : Prop :=
 GoL Try.prog 101 57 L1t [9, 11] [(.pointer (some ⟨swaps, 0, none⟩)), (.int .i64 j)] H R
def L0n (data : OA) (datan datac swaps : Nat) (i j k : Int) (H : Heap) (R : EH) : Prop :=
 callD Try.prog 114 [(.slice data datan datac), (.int .i64 i), (.int .i64 j), (.int .i64 k), (.pointer (some ⟨swaps, 0, none⟩))] H (panK R) fun v H1 =>
 tInt v .i64 fun n =>
 L1 swaps n H1 R
theorem L0_step {data : OA} {datan datac swaps : Nat} {i j k : Int} {H : Heap} {R : EH} (h : L0n data datan datac swaps i j k H R) : L0 data datan datac swaps i j k H R :=
 goL_of_den (an := an) (fuel := 100000) (X := L0n data datan datac swaps i j k H R) mixed fn (by kernel_rfl) (fun ρ0 => by kernel_rfl) h
def L1n (swaps : Nat) (j : Int) (H : Heap) (R : EH) : Prop :=
 ldInt H ⟨swaps, 0, none⟩ .i64 fun n =>
 iteB (n == (0 : Int)) (
 R (.returned (.tuple ⟨[(.int .i64 j), (.int .i64 (1 : Int))]⟩)) H) <|
 iteB (n == (12 : Int)) (
 R (.returned (.tuple ⟨[(.int .i64 j), (.int .i64 (2 : Int))]⟩)) H) <|
 R (.returned (.tuple ⟨[(.int .i64 j), (.int .i64 (0 : Int))]⟩)) H
theorem L1_step {swaps : Nat} {j : Int} {H : Heap} {R : EH} (h : L1n swaps j H R) : L1 swaps j H R :=
 goL_of_den (an := an) (fuel := 100000) (X := L1n swaps j H R) mixed fn (by kernel_rfl) (fun ρ0 => by kernel_rfl) h
def go (data : OA) (datan datac : Nat) (a b : Int) (H : Heap) (R : EH) : Prop :=
 newD H (.cells ⟨[(.int .i64 (0 : Int))]⟩ 3) fun r H1 =>
 divD (4 : Int) <|
 divD (4 : Int) <|
 divD (4 : Int) <|
 iteB (decide ((IntKind.wrap .i64 (b - a)) ≥ (8 : Int))) (
 iteB (decide ((IntKind.wrap .i64 (b - a)) ≥ (50 : Int))) (
 callD Try.prog 113 [(.slice data datan datac), (.int .i64 (IntKind.wrap .i64 (a + (IntKind.wrap .i64 ((IntKind.wrap .i64 (Int.tdiv (IntKind.wrap .i64 (b - a)) (4 : Int))) * (1 : Int)))))), (.pointer (some ⟨r, 0, none⟩))] H1 (panK R) fun v H2 =>
 tInt v .i64 fun n =>
 callD Try.prog 113 [(.slice data datan datac), (.int .i64 (IntKind.wrap .i64 (a + (IntKind.wrap .i64 ((IntKind.wrap .i64 (Int.tdiv (IntKind.wrap .i64 (b - a)) (4 : Int))) * (2 : Int)))))), (.pointer (some ⟨r, 0, none⟩))] H2 (panK R) fun v1 H3 =>
 tInt v1 .i64 fun n1 =>
 callD Try.prog 113 [(.slice data datan datac), (.int .i64 (IntKind.wrap .i64 (a + (IntKind.wrap .i64 ((IntKind.wrap .i64 (Int.tdiv (IntKind.wrap .i64 (b - a)) (4 : Int))) * (3 : Int)))))), (.pointer (some ⟨r, 0, none⟩))] H3 (panK R) fun v2 H4 =>
 tInt v2 .i64 fun n2 =>
 L0 data datan datac r n n1 n2 H4 R) <|
 L0 data datan datac r (IntKind.wrap .i64 (a + (IntKind.wrap .i64 ((IntKind.wrap .i64 (Int.tdiv (IntKind.wrap .i64 (b - a)) (4 : Int))) * (1 : Int))))) (IntKind.wrap .i64 (a + (IntKind.wrap .i64 ((IntKind.wrap .i64 (Int.tdiv (IntKind.wrap .i64 (b - a)) (4 : Int))) * (2 : Int))))) (IntKind.wrap .i64 (a + (IntKind.wrap .i64 ((IntKind.wrap .i64 (Int.tdiv (IntKind.wrap .i64 (b - a)) (4 : Int))) * (3 : Int))))) H1 R) <|
 L1 r (IntKind.wrap .i64 (a + (IntKind.wrap .i64 ((IntKind.wrap .i64 (Int.tdiv (IntKind.wrap .i64 (b - a)) (4 : Int))) * (2 : Int))))) H1 R
theorem calls {data : OA} {datan datac : Nat} {a b : Int} {H : Heap} {R : EH} (h : go data datan datac a b H R) : CallsH Try.prog 101 ⟨[(.slice data datan datac), (.int .i64 a), (.int .i64 b)]⟩ H R :=
 callsH_of_den (an := an) (fuel := 100000) (X := go data datan datac a b H R) (c := body) mixed fn (by kernel_rfl) (by kernel_rfl) (by kernel_rfl) ok (by kernel_rfl) h
end F101
/-! ### 102 "slices.reverseRangeOrdered[string]" -/
namespace F102
def an : Ann := { kinds := [], taus := [(3, [[0, 1, 2, 3, 4, 5, 6, 8, 9, 10, 7, 11, 12, 13, 14, 15]])], pairs := [], lab := [(30000003, [0, 6, 7])] }
noncomputable def body : Code := (Try.f102.body).getD .skip
theorem fn : Try.prog.funcs[102]? = some Try.f102 := by kernel_rfl
theorem ok : codeOk an 32 body = true := by kernel_rfl
noncomputable def L0t : List Item := [.code (sub [1, 1, 0, 0] body), .inLoop (sub [1, 1, 0, 0] body), .inBlock 0]
def L0 (data : OA) (datan datac : Nat) (i j : Int) (H : Heap) (R : EH) : Prop :=
 GoL Try.prog 102 32 L0t [0, 6, 7] [(.slice data datan datac), (.int .i64 i), (.int .i64 j)] H R
def L0n (data : OA) (datan datac : Nat) (i j : Int) (H : Heap) (R : EH) : Prop :=
 iteB (decide (i < j)) (
 idxD data datan j fun a =>
 idxD data datan i fun a1 =>
 ldStr H (Addr.add a (Int.toNat j * 1)) fun s =>
 ldStr H (Addr.add a1 (Int.toNat i * 1)) fun s1 =>
 idxD data datan i fun a2 =>
 st1 H (Addr.add a2 (Int.toNat i * 1)) (.string s) fun H1 =>
 idxD data datan j fun a3 =>
 st1 H1 (Addr.add a3 (Int.toNat j * 1)) (.string s1) fun H2 =>
 L0 data datan datac (IntKind.wrap .i64 (i + (1 : Int))) (IntKind.wrap .i64 (j - (1 : Int))) H2 R) <|
 R (.returned (.tuple ⟨[]⟩)) H
theorem L0_step {data : OA} {datan datac : Nat} {i j : Int} {H : Heap} {R : EH} (h : L0n data datan datac i j H R) : L0 data datan datac i j H R :=
 goL_of_den (an := an) (fuel := 100000) (X := L0n data datan datac i j H R) mixed fn (by kernel_rfl) (fun ρ0 => by kernel_rfl) h
def go (data : OA) (datan datac : Nat) (a b : Int) (H : Heap) (R : EH) : Prop :=
 L0 data datan datac a (IntKind.wrap .i64 (b - (1 : Int))) H R
theorem calls {data : OA} {datan datac : Nat} {a b : Int} {H : Heap} {R : EH} (h : go data datan datac a b H R) : CallsH Try.prog 102 ⟨[(.slice data datan datac), (.int .i64 a), (.int .i64 b)]⟩ H R :=
 callsH_of_den (an := an) (fuel := 100000) (X := go data datan datac a b H R) (c := body) mixed fn (by kernel_rfl) (by kernel_rfl) (by kernel_rfl) ok (by kernel_rfl) h
end F102
/-! ### 103 "slices.partialInsertionSortOrdered[string]" -/
namespace F103
def an : Ann := { kinds := [], taus := [(5, [[0, 1, 2, 3, 4, 5, 6, 8, 9, 10, 11, 7, 12, 13, 14, 15]]), (11, [[0, 1, 2, 3, 4, 5, 6, 7, 8, 10, 11, 12, 9, 13, 14, 15, 16, 17]]), (16, [[0, 1, 2, 4, 5, 6, 7, 3, 8, 9, 10]]), (17, [[0, 1, 2, 3, 4, 5, 6, 7, 8, 10, 11, 12, 9, 13, 14, 15, 16, 17]]), (22, [[0, 1, 2, 4, 5, 6, 7, 3, 8, 9, 10]]), (23, [[0, 1, 2, 3, 4, 5, 6, 7, 8, 10, 11, 12, 9, 13, 14, 15, 16, 17]])], pairs := [], lab := [(40000004, [0, 1, 2, 7, 8]), (90000006, [0, 1, 2, 7, 8]), (60000008, [0, 1, 2, 7, 8]), (90000015, [0, 1, 2, 7, 8, 9]), (60000019, [0, 1, 2, 7, 8]), (80000021, [0, 1, 2, 7, 8, 10]), (40000005, [0, 1, 2, 7, 8]), (90000007, [0, 1, 2, 7, 8])] }
noncomputable def body : Code := (Try.f103.body).getD .skip
theorem fn : Try.prog.funcs[103]? = some Try.f103 := by kernel_rfl
theorem ok : codeOk an 133 body = true := by kernel_rfl
noncomputable def L0t : List Item := [.code (sub [1, 1, 0, 1, 0, 0] body), .inLoop (sub [1, 1, 0, 1, 0, 0] body), .inBlock 0, .code (sub [1, 1, 1] body)]
def L0 (s0 : OA) (s0n s0c : Nat) (s1 s2 s7 s8 : Int) (H : Heap) (R : EH) : Prop :=
 GoL Try.prog 103 133 L0t [0, 1, 2, 7, 8] [(.slice s0 s0n s0c), (.int .i64 s1), (.int .i64 s2), (.int .i64 s7), (.int .i64 s8)] H R
noncomputable def L1t : List Item := [.code (sub [1, 1, 0, 1, 0, 0, 1, 0, 0, 0, 0, 0] body), .inLoop (sub [1, 1, 0, 1, 0, 0, 1, 0, 0, 0, 0, 0] body), .inBlock 2, .code (sub [1, 1, 0, 1, 0, 0, 1, 0, 0, 1] body), .inBlock 1, .code (sub [1, 1, 0, 1, 0, 0, 1, 1] body), .inLoop (sub [1, 1, 0, 1, 0, 0] body), .inBlock 0, .code (sub [1, 1, 1] body)]
def L1 (s0 : OA) (s0n s0c : Nat) (s1 s2 s7 s8 : Int) (H : Heap) (R : EH) : Prop :=
 GoL Try.prog 103 133 L1t [0, 1, 2, 7, 8] [(.slice s0 s0n s0c), (.int .i64 s1), (.int .i64 s2), (.int .i64 s7), (.int .i64 s8)] H R
noncomputable def L2t : List Item := [.code (sub [1, 1, 0, 1, 0, 0, 1, 0, 0, 1] body), .inBlock 1, .code (sub [1, 1, 0, 1, 0, 0, 1, 1] body), .inLoop (sub [1, 1, 0, 1, 0, 0] body), .inBlock 0, .code (sub [1, 1, 1] body)]
def L2 (s0 : OA) (s0n s0c : Nat) (s1 s2 s7 s8 : Int) (H : Heap) (R : EH) : Prop :=
 GoL Try.prog 103 133 L2t [0, 1, 2, 7, 8] [(.slice s0 s0n s0c), (.int .i64 s1), (.int .i64 s2), (.int .i64 s7), (.int .i64 s8)] H R
noncomputable def L3t : List Item := [.code (sub [1, 1, 0, 1, 0, 0, 1, 0, 0, 1, 1, 1, 1, 0, 1, 0, 1, 0, 0] body), .inLoop (sub [1, 1, 0, 1, 0, 0, 1, 0, 0, 1, 1, 1, 1, 0, 1, 0, 1, 0, 0] body), .inBlock 4, .code (sub [1, 1, 0, 1, 0, 0, 1, 0, 0, 1, 1, 1, 1, 1] body), .inBlock 1, .code (sub [1, 1, 0, 1, 0, 0, 1, 1] body), .inLoop (sub [1, 1, 0, 1, 0, 0] body), .inBlock 0, .code (sub [1, 1, 1] body)]
def L3 (s0 : OA) (s0n s0c : Nat) (s1 s2 s7 s8 s9 : Int) (H : Heap) (R : EH) : Prop :=
 GoL Try.prog 103 133 L3t [0, 1, 2, 7, 8, 9] [(.slice s0 s0n s0c), (.int .i64 s1), (.int .i64 s2), (.int .i64 s7), (.int .i64 s8), (.int .i64 s9)] H R
noncomputable def L4t : List Item := [.code (sub [1, 1, 0, 1, 0, 0, 1, 0, 0, 1, 1, 1, 1, 1] body), .inBlock 1, .code (sub [1, 1, 0, 1, 0, 0, 1, 1] body), .inLoop (sub [1, 1, 0, 1, 0, 0] body), .inBlock 0, .code (sub [1, 1, 1] body)]
def L4 (s0 : OA) (s0n s0c : Nat) (s1 s2 s7 s8 : Int) (H : Heap) (R : EH) : Prop :=
 GoL Try.prog 103 133 L4t [0, 1, 2, 7, 8] [(.slice s0 s0n s0c), (.int .i64 s1), (.int .i64 s2), (.int .i64 s7), (.int .i64 s8)] H R
noncomputable def L5t : List Item := [.code (sub [1, 1, 0, 1, 0, 0, 1, 0, 0, 1, 1, 1, 1, 1, 1, 0, 1, 0, 0] body), .inLoop (sub [1, 1, 0, 1, 0, 0, 1, 0, 0, 1, 1, 1, 1, 1, 1, 0, 1, 0, 0] body), .inBlock 6, .inBlock 1, .code (sub [1, 1, 0, 1, 0, 0, 1, 1] body), .inLoop (sub [1, 1, 0, 1, 0, 0] body), .inBlock 0, .code (sub [1, 1, 1] body)]
def L5 (s0 : OA) (s0n s0c : Nat) (s1 s2 s7 s8 s10 : Int) (H : Heap) (R : EH) : Prop :=
 GoL Try.prog 103 133 L5t [0, 1, 2, 7, 8, 10] [(.slice s0 s0n s0c), (.int .i64 s1), (.int .i64 s2), (.int .i64 s7), (.int .i64 s8), (.int .i64 s10)] H R
noncomputable def L6t : List Item := [.code (sub [1, 1, 0, 1, 0, 0, 1, 1] body), .inLoop (sub [1, 1, 0, 1, 0, 0] body), .inBlock 0, .code (sub [1, 1, 1] body)]
def L6 (s0 : OA) (s0n s0c : Nat) (s1 s2 s7 s8 : Int) (H : Heap) (R : EH) : Prop :=
 GoL Try.prog 103 133 L6t [0, 1, 2, 7, 8] [(.slice s0 s0n s0c), (.int .i64 s1), (.int .i64 s2), (.int .i64 s7), (.int .i64 s8)] H R
noncomputable def L7t : List Item := [.code (sub [1, 1, 0, 1, 0, 0, 1, 0, 0, 0, 0, 0, 1] body), .inLoop (sub [1, 1, 0, 1, 0, 0, 1, 0, 0, 0, 0, 0] body), .inBlock 2, .code (sub [1, 1, 0, 1, 0, 0, 1, 0, 0, 1] body), .inBlock 1, .code (sub [1, 1, 0, 1, 0, 0, 1, 1] body), .inLoop (sub [1, 1, 0, 1, 0, 0] body), .inBlock 0, .code (sub [1, 1, 1] body)]
def L7 (s0 : OA) (s0n s0c : Nat) (s1 s2 s7 s8 : Int) (H : Heap) (R : EH) : Prop :=
 GoL Try.prog 103 133 L7t [0, 1, 2, 7, 8] [(.slice s0 s0n s0c), (.int .i64 s1), (.int .i64 s2), (.int .i64 s7), (.int .i64 s8)] H R
def L0n (s0 : OA) (s0n s0c : Nat) (s1 s2 s7 s8 : Int) (H : Heap) (R : EH) : Prop :=
 iteB (decide (s8 < (5 : Int))) (
 L1 s0 s0n s0c s1 s2 s7 s8 H R) <|
 R (.returned (.bool false)) H
theorem L0_step {s0 : OA} {s0n s0c : Nat} {s1 s2 s7 s8 : Int} {H : Heap} {R : EH} (h : L0n s0 s0n s0c s1 s2 s7 s8 H R) : L0 s0 s0n s0c s1 s2 s7 s8 H R :=
 goL_of_den (an := an) (fuel := 100000) (X := L0n s0 s0n s0c s1 s2 s7 s8 H R) mixed fn (by kernel_rfl) (fun ρ0 => by kernel_rfl) h
def L1n (s0 : OA) (s0n s0c : Nat) (s1 s2 s7 s8 : Int) (H : Heap) (R : EH) : Prop :=
 iteB (decide (s7 < s2)) (
 idxD s0 s0n s7 fun a =>
 idxD s0 s0n (IntKind.wrap .i64 (s7 - (1 : Int))) fun a1 =>
 ldStr H (Addr.add a (Int.toNat s7 * 1)) fun s =>
 ldStr H (Addr.add a1 (Int.toNat (IntKind.wrap .i64 (s7 - (1 : Int))) * 1)) fun s3 =>
 callD Try.prog 104 [(.string s), (.string s3)] H (panK R) fun v H1 =>
 tBool v fun b =>
 iteB (!b) (
 L7 s0 s0n s0c s1 s2 s7 s8 H1 R) <|
 L2 s0 s0n s0c s1 s2 s7 s8 H1 R) <|
 L2 s0 s0n s0c s1 s2 s7 s8 H R
theorem L1_step {s0 : OA} {s0n s0c : Nat} {s1 s2 s7 s8 : Int} {H : Heap} {R : EH} (h : L1n s0 s0n s0c s1 s2 s7 s8 H R) : L1 s0 s0n s0c s1 s2 s7 s8 H R :=
 goL_of_den (an := an) (fuel := 100000) (X := L1n s0 s0n s0c s1 s2 s7 s8 H R) mixed fn (by kernel_rfl) (fun ρ0 => by kernel_rfl) h
def L2n (s0 : OA) (s0n s0c : Nat) (s1 s2 s7 s8 : Int) (H : Heap) (R : EH) : Prop :=
 iteB (s7 == s2) (
 R (.returned (.bool true)) H) <|
 iteB (decide ((IntKind.wrap .i64 (s2 - s1)) < (50 : Int))) (
 R (.returned (.bool false)) H) <|
 idxD s0 s0n (IntKind.wrap .i64 (s7 - (1 : Int))) fun a =>
 idxD s0 s0n s7 fun a1 =>
 ldStr H (Addr.add a (Int.toNat (IntKind.wrap .i64 (s7 - (1 : Int))) * 1)) fun s =>
 ldStr H (Addr.add a1 (Int.toNat s7 * 1)) fun s3 =>
 idxD s0 s0n s7 fun a2 =>
 st1 H (Addr.add a2 (Int.toNat s7 * 1)) (.string s) fun H1 =>
 idxD s0 s0n (IntKind.wrap .i64 (s7 - (1 : Int))) fun a3 =>
 st1 H1 (Addr.add a3 (Int.toNat (IntKind.wrap .i64 (s7 - (1 : Int))) * 1)) (.string s3) fun H2 =>
 iteB (decide ((IntKind.wrap .i64 (s7 - s1)) ≥ (2 : Int))) (
 L3 s0 s0n s0c s1 s2 s7 s8 (IntKind.wrap .i64 (s7 - (1 : Int))) H2 R) <|
 L4 s0 s0n s0c s1 s2 s7 s8 H2 R
theorem L2_step {s0 : OA} {s0n s0c : Nat} {s1 s2 s7 s8 : Int} {H : Heap} {R : EH} (h : L2n s0 s0n s0c s1 s2 s7 s8 H R) : L2 s0 s0n s0c s1 s2 s7 s8 H R :=
 goL_of_den (an := an) (fuel := 100000) (X := L2n s0 s0n s0c s1 s2 s7 s8 H R) mixed fn (by kernel_rfl) (fun ρ0 => by kernel_rfl) h
def L3n (s0 : OA) (s0n s0c : Nat) (s1 s2 s7 s8 s9 : Int) (H : Heap) (R : EH) : Prop :=
 iteB (decide (s9 ≥ (1 : Int))) (
 idxD s0 s0n s9 fun a =>
 idxD s0 s0n (IntKind.wrap .i64 (s9 - (1 : Int))) fun a1 =>
 ldStr H (Addr.add a (Int.toNat s9 * 1)) fun s =>
 ldStr H (Addr.add a1 (Int.toNat (IntKind.wrap .i64 (s9 - (1 : Int))) * 1)) fun s3 =>
 callD Try.prog 104 [(.string s), (.string s3)] H (panK R) fun v H1 =>
 tBool v fun b =>
 iteB (!b) (
 L4 s0 s0n s0c s1 s2 s7 s8 H1 R) <|
 idxD s0 s0n (IntKind.wrap .i64 (s9 - (1 : Int))) fun a2 =>
 idxD s0 s0n s9 fun a3 =>
 ldStr H1 (Addr.add a2 (Int.toNat (IntKind.wrap .i64 (s9 - (1 : Int))) * 1)) fun s4 =>
 ldStr H1 (Addr.add a3 (Int.toNat s9 * 1)) fun s5 =>
 idxD s0 s0n s9 fun a4 =>
 st1 H1 (Addr.add a4 (Int.toNat s9 * 1)) (.string s4) fun H2 =>
 idxD s0 s0n (IntKind.wrap .i64 (s9 - (1 : Int))) fun a5 =>
 st1 H2 (Addr.add a5 (Int.toNat (IntKind.wrap .i64 (s9 - (1 : Int))) * 1)) (.string s5) fun H3 =>
 L3 s0 s0n s0c s1 s2 s7 s8 (IntKind.wrap .i64 (s9 - (1 : Int))) H3 R) <|
 L4 s0 s0n s0c s1 s2 s7 s8 H R
theorem L3_step {s0 : OA} {s0n s0c : Nat} {s1 s2 s7 s8 s9 : Int} {H : Heap} {R : EH} (h : L3n s0 s0n s0c s1 s2 s7 s8 s9 H R) : L3 s0 s0n s0c s1 s2 s7 s8 s9 H R :=
 goL_of_den (an := an) (fuel := 100000) (X := L3n s0 s0n s0c s1 s2 s7 s8 s9 H R) mixed fn (by kernel_rfl) (fun ρ0 => by kernel_rfl) h
def L4n (s0 : OA) (s0n s0c : Nat) (s1 s2 s7 s8 : Int) (H : Heap) (R : EH) : Prop :=
 iteB (decide ((IntKind.wrap .i64 (s2 - s7)) ≥ (2 : Int))) (
 L5 s0 s0n s0c s1 s2 s7 s8 (IntKind.wrap .i64 (s7 + (1 : Int))) H R) <|
 L6 s0 s0n s0c s1 s2 s7 s8 H R
theorem L4_step {s0 : OA} {s0n s0c : Nat} {s1 s2 s7 s8 : Int} {H : Heap} {R : EH} (h : L4n s0 s0n s0c s1 s2 s7 s8 H R) : L4 s0 s0n s0c s1 s2 s7 s8 H R :=
 goL_of_den (an := an) (fuel := 100000) (X := L4n s0 s0n s0c s1 s2 s7 s8 H R) mixed fn (by kernel_rfl) (fun ρ0 => by kernel_rfl) h
def L5n (s0 : OA) (s0n s0c : Nat) (s1 s2 s7 s8 s10 : Int) (H : Heap) (R : EH) : Prop :=
 iteB (decide (s10 < s2)) (
 idxD s0 s0n s10 fun a =>
 idxD s0 s0n (IntKind.wrap .i64 (s10 - (1 : Int))) fun a1 =>
 ldStr H (Addr.add a (Int.toNat s10 * 1)) fun s =>
 ldStr H (Addr.add a1 (Int.toNat (IntKind.wrap .i64 (s10 - (1 : Int))) * 1)) fun s3 =>
 callD Try.prog 104 [(.string s), (.string s3)] H (panK R) fun v H1 =>
 tBool v fun b =>
 iteB (!b) (
 L6 s0 s0n s0c s1 s2 s7 s8 H1 R) <|
 idxD s0 s0n (IntKind.wrap .i64 (s10 - (1 : Int))) fun a2 =>
 idxD s0 s0n s10 fun a3 =>
 ldStr H1 (Addr.add a2 (Int.toNat (IntKind.wrap .i64 (s10 - (1 : Int))) * 1)) fun s4 =>
 ldStr H1 (Addr.add a3 (Int.toNat s10 * 1)) fun s5 =>
 idxD s0 s0n s10 fun a4 =>
 st1 H1 (Addr.add a4 (Int.toNat s10 * 1)) (.string s4) fun H2 =>
 idxD s0 s0n (IntKind.wrap .i64 (s10 - (1 : Int))) fun a5 =>
 st1 H2 (Addr.add a5 (Int.toNat (IntKind.wrap .i64 (s10 - (1 : Int))) * 1)) (.string s5) fun H3 =>
 L5 s0 s0n s0c s1 s2 s7 s8 (IntKind.wrap .i64 (s10 + (1 : Int))) H3 R) <|
 L6 s0 s0n s0c s1 s2 s7 s8 H R
theorem L5_step {s0 : OA} {s0n s0c : Nat} {s1 s2 s7 s8 s10 : Int} {H : Heap} {R : EH} (h : L5n s0 s0n s0c s1 s2 s7 s8 s10 H R) : L5 s0 s0n s0c s1 s2 s7 s8 s10 H R :=
 goL_of_den (an := an) (fuel := 100000) (X := L5n s0 s0n s0c s1 s2 s7 s8 s10 H R) mixed fn (by kernel_rfl) (fun ρ0 => by kernel_rfl) h
def L6n (s0 : OA) (s0n s0c : Nat) (s1 s2 s7 s8 : Int) (H : Heap) (R : EH) : Prop :=
 L0 s0 s0n s0c s1 s2 s7 (IntKind.wrap .i64 (s8 + (1 : Int))) H R
theorem L6_step {s0 : OA} {s0n s0c : Nat} {s1 s2 s7 s8 : Int} {H : Heap} {R : EH} (h : L6n s0 s0n s0c s1 s2 s7 s8 H R) : L6 s0 s0n s0c s1 s2 s7 s8 H R :=
 goL_of_den (an := an) (fuel := 100000) (X := L6n s0 s0n s0c s1 s2 s7 s8 H R) mixed fn (by kernel_rfl) (fun ρ0 => by kernel_rfl) h
def L7n (s0 : OA) (s0n s0c : Nat) (s1 s2 s7 s8 : Int) (H : Heap) (R : EH) : Prop :=
 L1 s0 s0n s0c s1 s2 (IntKind.wrap .i64 (s7 + (1 : Int))) s8 H R
theorem L7_step {s0 : OA} {s0n s0c : Nat} {s1 s2 s7 s8 : Int} {H : Heap} {R : EH} (h : L7n s0 s0n s0c s1 s2 s7 s8 H R) : L7 s0 s0n s0c s1 s2 s7 s8 H R :=
 goL_of_den (an := an) (fuel := 100000) (X := L7n s0 s0n s0c s1 s2 s7 s8 H R) mixed fn (by kernel_rfl) (fun ρ0 => by kernel_rfl) h
def go (s0 : OA) (s0n s0c : Nat) (s1 s2 : Int) (H : Heap) (R : EH) : Prop :=
 L0 s0 s0n s0c s1 s2 (IntKind.wrap .i64 (s1 + (1 : Int))) (0 : Int) H R
theorem calls {s0 : OA} {s0n s0c : Nat} {s1 s2 : Int} {H : Heap} {R : EH} (h : go s0 s0n s0c s1 s2 H R) : CallsH Try.prog 103 ⟨[(.slice s0 s0n s0c), (.int .i64 s1), (.int .i64 s2)]⟩ H R :=
 callsH_of_den (an := an) (fuel := 100000) (X := go s0 s0n s0c s1 s2 H R) (c := body) mixed fn (by kernel_rfl) (by kernel_rfl) (by kernel_rfl) ok (by kernel_rfl) h
end F103
/-! ### 104 "cmp.Less[string]" -/
namespace F104
def an : Ann := { kinds := [], taus := [], pairs := [], lab := [] }
noncomputable def body : Code := (Try.f104.body).getD .skip
theorem fn : Try.prog.funcs[104]? = some Try.f104 := by kernel_rfl
theorem ok : codeOk an 17 body = true := by kernel_rfl
def go (x y : ByteArray) (H : Heap) (R : EH) : Prop :=
 callD Try.prog 115 [(.string x)] H (panK R) fun v H1 =>
 tBool v fun b =>
 iteB b (
 callD Try.prog 115 [(.string y)] H1 (panK R) fun v1 H2 =>
 tBool v1 fun b1 =>
 iteB (!b1) (
 R (.returned (.bool true)) H2) <|
 R (.returned (.bool (ltS x y))) H2) <|
 R (.returned (.bool (ltS x y))) H1
theorem calls {x y : ByteArray} {H : Heap} {R : EH} (h : go x y H R) : CallsH Try.prog 104 ⟨[(.string x), (.string y)]⟩ H R :=
 callsH_of_den (an := an) (fuel := 100000) (X := go x y H R) (c := body) mixed fn (by kernel_rfl) (by kernel_rfl) (by kernel_rfl) ok (by kernel_rfl) h
end F104
/-! ### 106 "slices.partitionOrdered[string]" -/
namespace F106
def an : Ann := { kinds := [], taus := [(1, [[0, 1, 2, 3, 4, 5, 6, 8, 9, 10, 7, 11, 12, 13, 14, 15]]), (3, [[0, 1, 2, 3, 4, 5, 6, 8, 9, 10, 7, 11, 12, 13]]), (5, [[0, 1, 2, 3, 4, 5, 6, 8, 9, 10, 7, 11, 12, 13, 14]]), (8, [[0, 1, 2, 3, 4, 5, 6, 8, 9, 10, 7, 11, 12, 13, 14, 15]]), (10, [[0, 1, 2, 3, 4, 5, 6, 8, 9, 10, 7, 11, 12, 13, 14, 15]]), (13, [[0, 1, 2, 3, 4, 5, 6, 8, 9, 10, 7, 11, 12, 13]]), (15, [[0, 1, 2, 3, 4, 5, 6, 8, 9, 10, 7, 11, 12, 13, 14]]), (18, [[0, 1, 2, 3, 4, 5, 6, 8, 9, 10, 7, 11, 12, 13, 14, 15]]), (21, [[0, 1, 2, 3, 4, 5, 6, 8, 9, 10, 7, 11, 12, 13, 14, 15]])], pairs := [], lab := [(40000004, [0, 1, 10, 11]), (10000006, [0, 1, 10, 11]), (40000006, [0, 1, 10, 11]), (10000008, [0, 1, 10, 11]), (40000014, [0, 1, 10, 11]), (80000014, [0, 1, 10, 11]), (50000016, [0, 1, 10, 11]), (80000016, [0, 1, 10, 11]), (50000018, [0, 1, 10, 11]), (80000017, [0, 1, 10, 11]), (80000015, [0, 1, 10, 11]), (40000007, [0, 1, 10, 11]), (40000005, [0, 1, 10, 11])] }
noncomputable def body : Code := (Try.f106.body).getD .skip
theorem fn : Try.prog.funcs[106]? = some Try.f106 := by kernel_rfl
theorem ok : codeOk an 168 body = true := by kernel_rfl
noncomputable def L0t : List Item := [.code (sub [1, 1, 1, 0, 0, 0] body), .inLoop (sub [1, 1, 1, 0, 0, 0] body), .inBlock 0, .code (sub [1, 1, 1, 1] body)]
def L0 (s0 : OA) (s0n s0c : Nat) (s1 s10 s11 : Int) (H : Heap) (R : EH) : Prop :=
 GoL Try.prog 106 168 L0t [0, 1, 10, 11] [(.slice s0 s0n s0c), (.int .i64 s1), (.int .i64 s10), (.int .i64 s11)] H R
noncomputable def L1t : List Item := [.code (sub [1, 1, 1, 1] body)]
def L1 (s0 : OA) (s0n s0c : Nat) (s1 s10 s11 : Int) (H : Heap) (R : EH) : Prop :=
 GoL Try.prog 106 168 L1t [0, 1, 10, 11] [(.slice s0 s0n s0c), (.int .i64 s1), (.int .i64 s10), (.int .i64 s11)] H R
noncomputable def L2t : List Item := [.code (sub [1, 1, 1, 1, 0, 0, 0] body), .inLoop (sub [1, 1, 1, 1, 0, 0, 0] body), .inBlock 2, .code (sub [1, 1, 1, 1, 1] body)]
def L2 (s0 : OA) (s0n s0c : Nat) (s1 s10 s11 : Int) (H : Heap) (R : EH) : Prop :=
 GoL Try.prog 106 168 L2t [0, 1, 10, 11] [(.slice s0 s0n s0c), (.int .i64 s1), (.int .i64 s10), (.int .i64 s11)] H R
noncomputable def L3t : List Item := [.code (sub [1, 1, 1, 1, 1] body)]
def L3 (s0 : OA) (s0n s0c : Nat) (s1 s10 s11 : Int) (H : Heap) (R : EH) : Prop :=
 GoL Try.prog 106 168 L3t [0, 1, 10, 11] [(.slice s0 s0n s0c), (.int .i64 s1), (.int .i64 s10), (.int .i64 s11)] H R
noncomputable def L4t : List Item := [.code (sub [1, 1, 1, 1, 1, 1, 1, 1, 1, 0, 0, 0] body), .inLoop (sub [1, 1, 1, 1, 1, 1, 1, 1, 1, 0, 0, 0] body), .inBlock 4, .code (sub [1, 1, 1, 1, 1, 1, 1, 1, 1, 1] body)]
def L4 (s0 : OA) (s0n s0c : Nat) (s1 s10 s11 : Int) (H : Heap) (R : EH) : Prop :=
 GoL Try.prog 106 168 L4t [0, 1, 10, 11] [(.slice s0 s0n s0c), (.int .i64 s1), (.int .i64 s10), (.int .i64 s11)] H R
noncomputable def L5t : List Item := [.code (sub [1, 1, 1, 1, 1, 1, 1, 1, 1, 0, 0, 0, 0, 0, 0, 0] body), .inLoop (sub [1, 1, 1, 1, 1, 1, 1, 1, 1, 0, 0, 0, 0, 0, 0, 0] body), .inBlock 6, .code (sub [1, 1, 1, 1, 1, 1, 1, 1, 1, 0, 0, 0, 0, 1] body), .inBlock 5, .inLoop (sub [1, 1, 1, 1, 1, 1, 1, 1, 1, 0, 0, 0] body), .inBlock 4, .code (sub [1, 1, 1, 1, 1, 1, 1, 1, 1, 1] body)]
def L5 (s0 : OA) (s0n s0c : Nat) (s1 s10 s11 : Int) (H : Heap) (R : EH) : Prop :=
 GoL Try.prog 106 168 L5t [0, 1, 10, 11] [(.slice s0 s0n s0c), (.int .i64 s1), (.int .i64 s10), (.int .i64 s11)] H R
noncomputable def L6t : List Item := [.code (sub [1, 1, 1, 1, 1, 1, 1, 1, 1, 0, 0, 0, 0, 1] body), .inBlock 5, .inLoop (sub [1, 1, 1, 1, 1, 1, 1, 1, 1, 0, 0, 0] body), .inBlock 4, .code (sub [1, 1, 1, 1, 1, 1, 1, 1, 1, 1] body)]
def L6 (s0 : OA) (s0n s0c : Nat) (s1 s10 s11 : Int) (H : Heap) (R : EH) : Prop :=
 GoL Try.prog 106 168 L6t [0, 1, 10, 11] [(.slice s0 s0n s0c), (.int .i64 s1), (.int .i64 s10), (.int .i64 s11)] H R
noncomputable def L7t : List Item := [.code (sub [1, 1, 1, 1, 1, 1, 1, 1, 1, 0, 0, 0, 0, 1, 0, 0, 0] body), .inLoop (sub [1, 1, 1, 1, 1, 1, 1, 1, 1, 0, 0, 0, 0, 1, 0, 0, 0] body), .inBlock 8, .code (sub [1, 1, 1, 1, 1, 1, 1, 1, 1, 0, 0, 0, 0, 1, 1] body), .inBlock 5, .inLoop (sub [1, 1, 1, 1, 1, 1, 1, 1, 1, 0, 0, 0] body), .inBlock 4, .code (sub [1, 1, 1, 1, 1, 1, 1, 1, 1, 1] body)]
def L7 (s0 : OA) (s0n s0c : Nat) (s1 s10 s11 : Int) (H : Heap) (R : EH) : Prop :=
 GoL Try.prog 106 168 L7t [0, 1, 10, 11] [(.slice s0 s0n s0c), (.int .i64 s1), (.int .i64 s10), (.int .i64 s11)] H R
noncomputable def L8t : List Item := [.code (sub [1, 1, 1, 1, 1, 1, 1, 1, 1, 0, 0, 0, 0, 1, 1] body), .inBlock 5, .inLoop (sub [1, 1, 1, 1, 1, 1, 1, 1, 1, 0, 0, 0] body), .inBlock 4, .code (sub [1, 1, 1, 1, 1, 1, 1, 1, 1, 1] body)]
def L8 (s0 : OA) (s0n s0c : Nat) (s1 s10 s11 : Int) (H : Heap) (R : EH) : Prop :=
 GoL Try.prog 106 168 L8t [0, 1, 10, 11] [(.slice s0 s0n s0c), (.int .i64 s1), (.int .i64 s10), (.int .i64 s11)] H R
noncomputable def L9t : List Item := [.code (sub [1, 1, 1, 1, 1, 1, 1, 1, 1, 0, 0, 0, 0, 1, 0, 0, 0, 1] body), .inLoop (sub [1, 1, 1, 1, 1, 1, 1, 1, 1, 0, 0, 0, 0, 1, 0, 0, 0] body), .inBlock 8, .code (sub [1, 1, 1, 1, 1, 1, 1, 1, 1, 0, 0, 0, 0, 1, 1] body), .inBlock 5, .inLoop (sub [1, 1, 1, 1, 1, 1, 1, 1, 1, 0, 0, 0] body), .inBlock 4, .code (sub [1, 1, 1, 1, 1, 1, 1, 1, 1, 1] body)]
def L9 (s0 : OA) (s0n s0c : Nat) (s1 s10 s11 : Int) (H : Heap) (R : EH) : Prop :=
 GoL Try.prog 106 168 L9t [0, 1, 10, 11] [(.slice s0 s0n s0c), (.int .i64 s1), (.int .i64 s10), (.int .i64 s11)] H R
noncomputable def L10t : List Item := [.code (sub [1, 1, 1, 1, 1, 1, 1, 1, 1, 0, 0, 0, 0, 0, 0, 0, 1] body), .inLoop (sub [1, 1, 1, 1, 1, 1, 1, 1, 1, 0, 0, 0, 0, 0, 0, 0] body), .inBlock 6, .code (sub [1, 1, 1, 1, 1, 1, 1, 1, 1, 0, 0, 0, 0, 1] body), .inBlock 5, .inLoop (sub [1, 1, 1, 1, 1, 1, 1, 1, 1, 0, 0, 0] body), .inBlock 4, .code (sub [1, 1, 1, 1, 1, 1, 1, 1, 1, 1] body)]
def L10 (s0 : OA) (s0n s0c : Nat) (s1 s10 s11 : Int) (H : Heap) (R : EH) : Prop :=
 GoL Try.prog 106 168 L10t [0, 1, 10, 11] [(.slice s0 s0n s0c), (.int .i64 s1), (.int .i64 s10), (.int .i64 s11)] H R
noncomputable def L11t : List Item := [.code (sub [1, 1, 1, 1, 0, 0, 0, 1] body), .inLoop (sub [1, 1, 1, 1, 0, 0, 0] body), .inBlock 2, .code (sub [1, 1, 1, 1, 1] body)]
def L11 (s0 : OA) (s0n s0c : Nat) (s1 s10 s11 : Int) (H : Heap) (R : EH) : Prop :=
 GoL Try.prog 106 168 L11t [0, 1, 10, 11] [(.slice s0 s0n s0c), (.int .i64 s1), (.int .i64 s10), (.int .i64 s11)] H R
noncomputable def L12t : List Item := [.code (sub [1, 1, 1, 0, 0, 0, 1] body), .inLoop (sub [1, 1, 1, 0, 0, 0] body), .inBlock 0, .code (sub [1, 1, 1, 1] body)]
def L12 (s0 : OA) (s0n s0c : Nat) (s1 s10 s11 : Int) (H : Heap) (R : EH) : Prop :=
 GoL Try.prog 106 168 L12t [0, 1, 10, 11] [(.slice s0 s0n s0c), (.int .i64 s1), (.int .i64 s10), (.int .i64 s11)] H R
def L0n (s0 : OA) (s0n s0c : Nat) (s1 s10 s11 : Int) (H : Heap) (R : EH) : Prop :=
 iteB (decide (s10 ≤ s11)) (
 idxD s0 s0n s10 fun a =>
 idxD s0 s0n s1 fun a1 =>
 ldStr H (Addr.add a (Int.toNat s10 * 1)) fun s =>
 ldStr H (Addr.add a1 (Int.toNat s1 * 1)) fun s2 =>
 callD Try.prog 104 [(.string s), (.string s2)] H (panK R) fun v H1 =>
 tBool v fun b =>
 iteB b (
 L12 s0 s0n s0c s1 s10 s11 H1 R) <|
 L1 s0 s0n s0c s1 s10 s11 H1 R) <|
 L1 s0 s0n s0c s1 s10 s11 H R
theorem L0_step {s0 : OA} {s0n s0c : Nat} {s1 s10 s11 : Int} {H : Heap} {R : EH} (h : L0n s0 s0n s0c s1 s10 s11 H R) : L0 s0 s0n s0c s1 s10 s11 H R :=
 goL_of_den (an := an) (fuel := 100000) (X := L0n s0 s0n s0c s1 s10 s11 H R) mixed fn (by kernel_rfl) (fun ρ0 => by kernel_rfl) h
def L1n (s0 : OA) (s0n s0c : Nat) (s1 s10 s11 : Int) (H : Heap) (R : EH) : Prop :=
 L2 s0 s0n s0c s1 s10 s11 H R
theorem L1_step {s0 : OA} {s0n s0c : Nat} {s1 s10 s11 : Int} {H : Heap} {R : EH} (h : L1n s0 s0n s0c s1 s10 s11 H R) : L1 s0 s0n s0c s1 s10 s11 H R :=
 goL_of_den (an := an) (fuel := 100000) (X := L1n s0 s0n s0c s1 s10 s11 H R) mixed fn (by kernel_rfl) (fun ρ0 => by kernel_rfl) h
def L2n (s0 : OA) (s0n s0c : Nat) (s1 s10 s11 : Int) (H : Heap) (R : EH) : Prop :=
 iteB (decide (s10 ≤ s11)) (
 idxD s0 s0n s11 fun a =>
 idxD s0 s0n s1 fun a1 =>
 ldStr H (Addr.add a (Int.toNat s11 * 1)) fun s =>
 ldStr H (Addr.add a1 (Int.toNat s1 * 1)) fun s2 =>
 callD Try.prog 104 [(.string s), (.string s2)] H (panK R) fun v H1 =>
 tBool v fun b =>
 iteB (!b) (
 L11 s0 s0n s0c s1 s10 s11 H1 R) <|
 L3 s0 s0n s0c s1 s10 s11 H1 R) <|
 L3 s0 s0n s0c s1 s10 s11 H R
theorem L2_step {s0 : OA} {s0n s0c : Nat} {s1 s10 s11 : Int} {H : Heap} {R : EH} (h : L2n s0 s0n s0c s1 s10 s11 H R) : L2 s0 s0n s0c s1 s10 s11 H R :=
 goL_of_den (an := an) (fuel := 100000) (X := L2n s0 s0n s0c s1 s10 s11 H R) mixed fn (by kernel_rfl) (fun ρ0 => by kernel_rfl) h
def L3n (s0 : OA) (s0n s0c : Nat) (s1 s10 s11 : Int) (H : Heap) (R : EH) : Prop :=
 iteB (decide (s10 > s11)) (
 idxD s0 s0n s1 fun a =>
 idxD s0 s0n s11 fun a1 =>
 ldStr H (Addr.add a (Int.toNat s1 * 1)) fun s =>
 ldStr H (Addr.add a1 (Int.toNat s11 * 1)) fun s2 =>
 idxD s0 s0n s11 fun a2 =>
 st1 H (Addr.add a2 (Int.toNat s11 * 1)) (.string s) fun H1 =>
 idxD s0 s0n s1 fun a3 =>
 st1 H1 (Addr.add a3 (Int.toNat s1 * 1)) (.string s2) fun H2 =>
 R (.returned (.tuple ⟨[(.int .i64 s11), (.bool true)]⟩)) H2) <|
 idxD s0 s0n s11 fun a4 =>
 idxD s0 s0n s10 fun a5 =>
 ldStr H (Addr.add a4 (Int.toNat s11 * 1)) fun s3 =>
 ldStr H (Addr.add a5 (Int.toNat s10 * 1)) fun s4 =>
 idxD s0 s0n s10 fun a6 =>
 st1 H (Addr.add a6 (Int.toNat s10 * 1)) (.string s3) fun H3 =>
 idxD s0 s0n s11 fun a7 =>
 st1 H3 (Addr.add a7 (Int.toNat s11 * 1)) (.string s4) fun H4 =>
 L4 s0 s0n s0c s1 (IntKind.wrap .i64 (s10 + (1 : Int))) (IntKind.wrap .i64 (s11 - (1 : Int))) H4 R
theorem L3_step {s0 : OA} {s0n s0c : Nat} {s1 s10 s11 : Int} {H : Heap} {R : EH} (h : L3n s0 s0n s0c s1 s10 s11 H R) : L3 s0 s0n s0c s1 s10 s11 H R :=
 goL_of_den (an := an) (fuel := 100000) (X := L3n s0 s0n s0c s1 s10 s11 H R) mixed fn (by kernel_rfl) (fun ρ0 => by kernel_rfl) h
def L4n (s0 : OA) (s0n s0c : Nat) (s1 s10 s11 : Int) (H : Heap) (R : EH) : Prop :=
 L5 s0 s0n s0c s1 s10 s11 H R
theorem L4_step {s0 : OA} {s0n s0c : Nat} {s1 s10 s11 : Int} {H : Heap} {R : EH} (h : L4n s0 s0n s0c s1 s10 s11 H R) : L4 s0 s0n s0c s1 s10 s11 H R :=
 goL_of_den (an := an) (fuel := 100000) (X := L4n s0 s0n s0c s1 s10 s11 H R) mixed fn (by kernel_rfl) (fun ρ0 => by kernel_rfl) h
def L5n (s0 : OA) (s0n s0c : Nat) (s1 s10 s11 : Int) (H : Heap) (R : EH) : Prop :=
 iteB (decide (s10 ≤ s11)) (
 idxD s0 s0n s10 fun a =>
 idxD s0 s0n s1 fun a1 =>
 ldStr H (Addr.add a (Int.toNat s10 * 1)) fun s =>
 ldStr H (Addr.add a1 (Int.toNat s1 * 1)) fun s2 =>
 callD Try.prog 104 [(.string s), (.string s2)] H (panK R) fun v H1 =>
 tBool v fun b =>
 iteB b (
 L10 s0 s0n s0c s1 s10 s11 H1 R) <|
 L6 s0 s0n s0c s1 s10 s11 H1 R) <|
 L6 s0 s0n s0c s1 s10 s11 H R
theorem L5_step {s0 : OA} {s0n s0c : Nat} {s1 s10 s11 : Int} {H : Heap} {R : EH} (h : L5n s0 s0n s0c s1 s10 s11 H R) : L5 s0 s0n s0c s1 s10 s11 H R :=
 goL_of_den (an := an) (fuel := 100000) (X := L5n s0 s0n s0c s1 s10 s11 H R) mixed fn (by kernel_rfl) (fun ρ0 => by kernel_rfl) h
def L6n (s0 : OA) (s0n s0c : Nat) (s1 s10 s11 : Int) (H : Heap) (R : EH) : Prop :=
 L7 s0 s0n s0c s1 s10 s11 H R
theorem L6_step {s0 : OA} {s0n s0c : Nat} {s1 s10 s11 : Int} {H : Heap} {R : EH} (h : L6n s0 s0n s0c s1 s10 s11 H R) : L6 s0 s0n s0c s1 s10 s11 H R :=
 goL_of_den (an := an) (fuel := 100000) (X := L6n s0 s0n s0c s1 s10 s11 H R) mixed fn (by kernel_rfl) (fun ρ0 => by kernel_rfl) h
def L7n (s0 : OA) (s0n s0c : Nat) (s1 s10 s11 : Int) (H : Heap) (R : EH) : Prop :=
 iteB (decide (s10 ≤ s11)) (
 idxD s0 s0n s11 fun a =>
 idxD s0 s0n s1 fun a1 =>
 ldStr H (Addr.add a (Int.toNat s11 * 1)) fun s =>
 ldStr H (Addr.add a1 (Int.toNat s1 * 1)) fun s2 =>
 callD Try.prog 104 [(.string s), (.string s2)] H (panK R) fun v H1 =>
 tBool v fun b =>
 iteB (!b) (
 L9 s0 s0n s0c s1 s10 s11 H1 R) <|
 L8 s0 s0n s0c s1 s10 s11 H1 R) <|
 L8 s0 s0n s0c s1 s10 s11 H R
theorem L7_step {s0 : OA} {s0n s0c : Nat} {s1 s10 s11 : Int} {H : Heap} {R : EH} (h : L7n s0 s0n s0c s1 s10 s11 H R) : L7 s0 s0n s0c s1 s10 s11 H R :=
 goL_of_den (an := an) (fuel := 100000) (X := L7n s0 s0n s0c s1 s10 s11 H R) mixed fn (by kernel_rfl) (fun ρ0 => by kernel_rfl) h
def L8n (s0 : OA) (s0n s0c : Nat) (s1 s10 s11 : Int) (H : Heap) (R : EH) : Prop :=
 iteB (decide (s10 > s11)) (
 idxD s0 s0n s1 fun a =>
 idxD s0 s0n s11 fun a1 =>
 ldStr H (Addr.add a (Int.toNat s1 * 1)) fun s =>
 ldStr H (Addr.add a1 (Int.toNat s11 * 1)) fun s2 =>
 idxD s0 s0n s11 fun a2 =>
 st1 H (Addr.add a2 (Int.toNat s11 * 1)) (.string s) fun H1 =>
 idxD s0 s0n s1 fun a3 =>
 st1 H1 (Addr.add a3 (Int.toNat s1 * 1)) (.string s2) fun H2 =>
 R (.returned (.tuple ⟨[(.int .i64 s11), (.bool false)]⟩)) H2) <|
 idxD s0 s0n s11 fun a4 =>
 idxD s0 s0n s10 fun a5 =>
 ldStr H (Addr.add a4 (Int.toNat s11 * 1)) fun s3 =>
 ldStr H (Addr.add a5 (Int.toNat s10 * 1)) fun s4 =>
 idxD s0 s0n s10 fun a6 =>
 st1 H (Addr.add a6 (Int.toNat s10 * 1)) (.string s3) fun H3 =>
 idxD s0 s0n s11 fun a7 =>
 st1 H3 (Addr.add a7 (Int.toNat s11 * 1)) (.string s4) fun H4 =>
 L4 s0 s0n s0c s1 (IntKind.wrap .i64 (s10 + (1 : Int))) (IntKind.wrap .i64 (s11 - (1 : Int))) H4 R
theorem L8_step {s0 : OA} {s0n s0c : Nat} {s1 s10 s11 : Int} {H : Heap} {R : EH} (h : L8n s0 s0n s0c s1 s10 s11 H R) : L8 s0 s0n s0c s1 s10 s11 H R :=
 goL_of_den (an := an) (fuel := 100000) (X := L8n s0 s0n s0c s1 s10 s11 H R) mixed fn (by kernel_rfl) (fun ρ0 => by kernel_rfl) h
def L9n (s0 : OA) (s0n s0c : Nat) (s1 s10 s11 : Int) (H : Heap) (R : EH) : Prop :=
 L7 s0 s0n s0c s1 s10 (IntKind.wrap .i64 (s11 - (1 : Int))) H R
theorem L9_step {s0 : OA} {s0n s0c : Nat} {s1 s10 s11 : Int} {H : Heap} {R : EH} (h : L9n s0 s0n s0c s1 s10 s11 H R) : L9 s0 s0n s0c s1 s10 s11 H R :=
 goL_of_den (an := an) (fuel := 100000) (X := L9n s0 s0n s0c s1 s10 s11 H R) mixed fn (by kernel_rfl) (fun ρ0 => by kernel_rfl) h
def L10n (s0 : OA) (s0n s0c : Nat) (s1 s10 s11 : Int) (H : Heap) (R : EH) : Prop :=
 L5 s0 s0n s0c s1 (IntKind.wrap .i64 (s10 + (1 : Int))) s11 H R
theorem L10_step {s0 : OA} {s0n s0c : Nat} {s1 s10 s11 : Int} {H : Heap} {R : EH} (h : L10n s0 s0n s0c s1 s10 s11 H R) : L10 s0 s0n s0c s1 s10 s11 H R :=
 goL_of_den (an := an) (fuel := 100000) (X := L10n s0 s0n s0c s1 s10 s11 H R) mixed fn (by kernel_rfl) (fun ρ0 => by kernel_rfl) h
def L11n (s0 : OA) (s0n s0c : Nat) (s1 s10 s11 : Int) (H : Heap) (R : EH) : Prop :=
 L2 s0 s0n s0c s1 s10 (IntKind.wrap .i64 (s11 - (1 : Int))) H R
theorem L11_step {s0 : OA} {s0n s0c : Nat} {s1 s10 s11 : Int} {H : Heap} {R : EH} (h : L11n s0 s0n s0c s1 s10 s11 H R) : L11 s0 s0n s0c s1 s10 s11 H R :=
 goL_of_den (an := an) (fuel := 100000) (X := L11n s0 s0n s0c s1 s10 s11 H R) mixed fn (by kernel_rfl) (fun ρ0 => by kernel_rfl) h
def L12n (s0 : OA) (s0n s0c : Nat) (s1 s10 s11 : Int) (H : Heap) (R : EH) : Prop :=
 L0 s0 s0n s0c s1 (IntKind.wrap .i64 (s10 + (1 : Int))) s11 H R
theorem L12_step {s0 : OA} {s0n s0c : Nat} {s1 s10 s11 : Int} {H : Heap} {R : EH} (h : L12n s0 s0n s0c s1 s10 s11 H R) : L12 s0 s0n s0c s1 s10 s11 H R :=
 goL_of_den (an := an) (fuel := 100000) (X := L12n s0 s0n s0c s1 s10 s11 H R) mixed fn (by kernel_rfl) (fun ρ0 => by kernel_rfl) h
def go (s0 : OA) (s0n s0c : Nat) (s1 s2 s3 : Int) (H : Heap) (R : EH) : Prop :=
 idxD s0 s0n s3 fun a =>
 idxD s0 s0n s1 fun a1 =>
 ldStr H (Addr.add a (Int.toNat s3 * 1)) fun s =>
 ldStr H (Addr.add a1 (Int.toNat s1 * 1)) fun s4 =>
 idxD s0 s0n s1 fun a2 =>
 st1 H (Addr.add a2 (Int.toNat s1 * 1)) (.string s) fun H1 =>
 idxD s0 s0n s3 fun a3 =>
 st1 H1 (Addr.add a3 (Int.toNat s3 * 1)) (.string s4) fun H2 =>
 L0 s0 s0n s0c s1 (IntKind.wrap .i64 (s1 + (1 : Int))) (IntKind.wrap .i64 (s2 - (1 : Int))) H2 R
theorem calls {s0 : OA} {s0n s0c : Nat} {s1 s2 s3 : Int} {H : Heap} {R : EH} (h : go s0 s0n s0c s1 s2 s3 H R) : CallsH Try.prog 106 ⟨[(.slice s0 s0n s0c), (.int .i64 s1), (.int .i64 s2), (.int .i64 s3)]⟩ H R :=
 callsH_of_den (an := an) (fuel := 100000) (X := go s0 s0n s0c s1 s2 s3 H R) (c := body) mixed fn (by kernel_rfl) (by kernel_rfl) (by kernel_rfl) ok (by kernel_rfl) h
end F106
/-! ### 108 "math/bits.Len64" -/
namespace F108
def an : Ann := { kinds := [], taus := [], pairs := [], lab := [(10000005, [0, 2]), (10000008, [0, 2]), (10000011, [0, 2])] }
noncomputable def body : Code := (Try.f108.body).getD .skip
theorem fn : Try.prog.funcs[108]? = some Try.f108 := by kernel_rfl
theorem ok : codeOk an 25 body = true := by kernel_rfl
noncomputable def L0t : List Item := [.code (sub [1, 1] body)]
def L0 (x n : Int) (H : Heap) (R : EH) : Prop :=
 GoL Try.prog 108 25 L0t [0, 2] [(.int .u64 x), (.int .i64 n)] H R
noncomputable def L1t : List Item := [.code (sub [1, 1, 1] body)]
def L1 (x n : Int) (H : Heap) (R : EH) : Prop :=
 GoL Try.prog 108 25 L1t [0, 2] [(.int .u64 x), (.int .i64 n)] H R
noncomputable def L2t : List Item := [.code (sub [1, 1, 1, 1] body)]
def L2 (x n : Int) (H : Heap) (R : EH) : Prop :=
 GoL Try.prog 108 25 L2t [0, 2] [(.int .u64 x), (.int .i64 n)] H R
def L0n (x n : Int) (H : Heap) (R : EH) : Prop :=
 iteB (decide (x ≥ (65536 : Int))) (
 shD (16 : Int) <|
 L1 (shrZ .u64 x (16 : Int)) (IntKind.wrap .i64 (n + (16 : Int))) H R) <|
 L1 x n H R
theorem L0_step {x n : Int} {H : Heap} {R : EH} (h : L0n x n H R) : L0 x n H R :=
 goL_of_den (an := an) (fuel := 100000) (X := L0n x n H R) mixed fn (by kernel_rfl) (fun ρ0 => by kernel_rfl) h
def L1n (x n : Int) (H : Heap) (R : EH) : Prop :=
 iteB (decide (x ≥ (256 : Int))) (
 shD (8 : Int) <|
 L2 (shrZ .u64 x (8 : Int)) (IntKind.wrap .i64 (n + (8 : Int))) H R) <|
 L2 x n H R
theorem L1_step {x n : Int} {H : Heap} {R : EH} (h : L1n x n H R) : L1 x n H R :=
 goL_of_den (an := an) (fuel := 100000) (X := L1n x n H R) mixed fn (by kernel_rfl) (fun ρ0 => by kernel_rfl) h
def L2n (x n : Int) (H : Heap) (R : EH) : Prop :=
 ixS (ByteArray.mk #[0, 1, 2, 2, 3, 3, 3, 3, 4, 4, 4, 4, 4, 4, 4, 4, 5, 5, 5, 5, 5, 5, 5, 5, 5, 5, 5, 5, 5, 5, 5, 5, 6, 6, 6, 6, 6, 6, 6, 6, 6, 6, 6, 6, 6, 6, 6, 6, 6, 6, 6, 6, 6, 6, 6, 6, 6, 6, 6, 6, 6, 6, 6, 6, 7, 7, 7, 7, 7, 7, 7, 7, 7, 7, 7, 7, 7, 7, 7, 7, 7, 7, 7, 7, 7, 7, 7, 7, 7, 7, 7, 7, 7, 7, 7, 7, 7, 7, 7, 7, 7, 7, 7, 7, 7, 7, 7, 7, 7, 7, 7, 7, 7, 7, 7, 7, 7, 7, 7, 7, 7, 7, 7, 7, 7, 7, 7, 7, 8, 8, 8, 8, 8, 8, 8, 8, 8, 8, 8, 8, 8, 8, 8, 8, 8, 8, 8, 8, 8, 8, 8, 8, 8, 8, 8, 8, 8, 8, 8, 8, 8, 8, 8, 8, 8, 8, 8, 8, 8, 8, 8, 8, 8, 8, 8, 8, 8, 8, 8, 8, 8, 8, 8, 8, 8, 8, 8, 8, 8, 8, 8, 8, 8, 8, 8, 8, 8, 8, 8, 8, 8, 8, 8, 8, 8, 8, 8, 8, 8, 8, 8, 8, 8, 8, 8, 8, 8, 8, 8, 8, 8, 8, 8, 8, 8, 8, 8, 8, 8, 8, 8, 8, 8, 8, 8, 8, 8, 8, 8, 8, 8, 8, 8, 8, 8, 8, 8, 8, 8, 8, 8, 8, 8, 8, 8, 8]) (IntKind.wrap .u8 x) fun b =>
 R (.returned (.int .i64 (IntKind.wrap .i64 (n + (IntKind.wrap .i64 ((UInt8.toNat b : Nat) : Int)))))) H
theorem L2_step {x n : Int} {H : Heap} {R : EH} (h : L2n x n H R) : L2 x n H R :=
 goL_of_den (an := an) (fuel := 100000) (X := L2n x n H R) mixed fn (by kernel_rfl) (fun ρ0 => by kernel_rfl) h
def go (x : Int) (H : Heap) (R : EH) : Prop :=
 iteB (decide (x ≥ (4294967296 : Int))) (
 shD (32 : Int) <|
 L0 (shrZ .u64 x (32 : Int)) (32 : Int) H R) <|
 L0 x (0 : Int) H R
theorem calls {x : Int} {H : Heap} {R : EH} (h : go x H R) : CallsH Try.prog 108 ⟨[(.int .u64 x)]⟩ H R :=
 callsH_of_den (an := an) (fuel := 100000) (X := go x H R) (c := body) mixed fn (by kernel_rfl) (by kernel_rfl) (by kernel_rfl) ok (by kernel_rfl) h
end F108
/-! ### 110 "slices.siftDownOrdered[string]" -/
namespace F110
def an : Ann := { kinds := [], taus := [(3, [[0, 1, 2, 3, 4, 5, 6, 7, 8, 9, 11, 12, 13, 14, 15, 16, 10, 17, 18, 19]]), (5, [[0, 1, 2, 3, 4, 6, 7, 8, 9, 10, 5, 11, 12, 13]]), (6, [[0, 1, 2, 3, 4, 5, 6, 7, 8, 9, 10, 11, 12, 14, 15, 16, 17, 18, 13, 19, 20, 21, 22, 23]])], pairs := [], lab := [(30000002, [0, 2, 3, 8]), (50000005, [0, 2, 3, 8, 9]), (40000006, [0, 2, 3, 8, 9])] }
noncomputable def body : Code := (Try.f110.body).getD .skip
theorem fn : Try.prog.funcs[110]? = some Try.f110 := by kernel_rfl
theorem ok : codeOk an 76 body = true := by kernel_rfl
noncomputable def L0t : List Item := [.code (sub [1, 0, 0] body), .inLoop (sub [1, 0, 0] body), .inBlock 0]
def L0 (s0 : OA) (s0n s0c : Nat) (s2 s3 s8 : Int) (H : Heap) (R : EH) : Prop :=
 GoL Try.prog 110 76 L0t [0, 2, 3, 8] [(.slice s0 s0n s0c), (.int .i64 s2), (.int .i64 s3), (.int .i64 s8)] H R
noncomputable def L1t : List Item := [.code (sub [1, 0, 0, 0, 1, 1, 0, 1, 0] body), .code (sub [1, 0, 0, 0, 1, 1, 1] body), .inBlock 1, .inLoop (sub [1, 0, 0] body), .inBlock 0]
def L1 (s0 : OA) (s0n s0c : Nat) (s2 s3 s8 s9 : Int) (H : Heap) (R : EH) : Prop :=
 GoL Try.prog 110 76 L1t [0, 2, 3, 8, 9] [(.slice s0 s0n s0c), (.int .i64 s2), (.int .i64 s3), (.int .i64 s8), (.int .i64 s9)] H R
noncomputable def L2t : List Item := [.code (sub [1, 0, 0, 0, 1, 1, 1] body), .inBlock 1, .inLoop (sub [1, 0, 0] body), .inBlock 0]
def L2 (s0 : OA) (s0n s0c : Nat) (s2 s3 s8 s9 : Int) (H : Heap) (R : EH) : Prop :=
 GoL Try.prog 110 76 L2t [0, 2, 3, 8, 9] [(.slice s0 s0n s0c), (.int .i64 s2), (.int .i64 s3), (.int .i64 s8), (.int .i64 s9)] H R
def L0n (s0 : OA) (s0n s0c : Nat) (s2 s3 s8 : Int) (H : Heap) (R : EH) : Prop :=
 iteB (decide ((IntKind.wrap .i64 ((IntKind.wrap .i64 ((2 : Int) * s8)) + (1 : Int))) ≥ s2)) (
 R (.returned (.tuple ⟨[]⟩)) H) <|
 iteB (decide ((IntKind.wrap .i64 ((IntKind.wrap .i64 ((IntKind.wrap .i64 ((2 : Int) * s8)) + (1 : Int))) + (1 : Int))) < s2)) (
 idxD s0 s0n (IntKind.wrap .i64 (s3 + (IntKind.wrap .i64 ((IntKind.wrap .i64 ((2 : Int) * s8)) + (1 : Int))))) fun a =>
 idxD s0 s0n (IntKind.wrap .i64 ((IntKind.wrap .i64 (s3 + (IntKind.wrap .i64 ((IntKind.wrap .i64 ((2 : Int) * s8)) + (1 : Int))))) + (1 : Int))) fun a1 =>
 ldStr H (Addr.add a (Int.toNat (IntKind.wrap .i64 (s3 + (IntKind.wrap .i64 ((IntKind.wrap .i64 ((2 : Int) * s8)) + (1 : Int))))) * 1)) fun s =>
 ldStr H (Addr.add a1 (Int.toNat (IntKind.wrap .i64 ((IntKind.wrap .i64 (s3 + (IntKind.wrap .i64 ((IntKind.wrap .i64 ((2 : Int) * s8)) + (1 : Int))))) + (1 : Int))) * 1)) fun s1 =>
 callD Try.prog 104 [(.string s), (.string s1)] H (panK R) fun v H1 =>
 tBool v fun b =>
 iteB b (
 L1 s0 s0n s0c s2 s3 s8 (IntKind.wrap .i64 ((IntKind.wrap .i64 ((2 : Int) * s8)) + (1 : Int))) H1 R) <|
 L2 s0 s0n s0c s2 s3 s8 (IntKind.wrap .i64 ((IntKind.wrap .i64 ((2 : Int) * s8)) + (1 : Int))) H1 R) <|
 L2 s0 s0n s0c s2 s3 s8 (IntKind.wrap .i64 ((IntKind.wrap .i64 ((2 : Int) * s8)) + (1 : Int))) H R
theorem L0_step {s0 : OA} {s0n s0c : Nat} {s2 s3 s8 : Int} {H : Heap} {R : EH} (h : L0n s0 s0n s0c s2 s3 s8 H R) : L0 s0 s0n s0c s2 s3 s8 H R :=
 goL_of_den (an := an) (fuel := 100000) (X := L0n s0 s0n s0c s2 s3 s8 H R) mixed fn (by kernel_rfl) (fun ρ0 => by kernel_rfl) h
def L1n (s0 : OA) (s0n s0c : Nat) (s2 s3 s8 s9 : Int) (H : Heap) (R : EH) : Prop :=
 L2 s0 s0n s0c s2 s3 s8 (IntKind.wrap .i64 (s9 + (1 : Int))) H R
theorem L1_step {s0 : OA} {s0n s0c : Nat} {s2 s3 s8 s9 : Int} {H : Heap} {R : EH} (h : L1n s0 s0n s0c s2 s3 s8 s9 H R) : L1 s0 s0n s0c s2 s3 s8 s9 H R :=
 goL_of_den (an := an) (fuel := 100000) (X := L1n s0 s0n s0c s2 s3 s8 s9 H R) mixed fn (by kernel_rfl) (fun ρ0 => by kernel_rfl) h
def L2n (s0 : OA) (s0n s0c : Nat) (s2 s3 s8 s9 : Int) (H : Heap) (R : EH) : Prop :=
 idxD s0 s0n (IntKind.wrap .i64 (s3 + s8)) fun a =>
 idxD s0 s0n (IntKind.wrap .i64 (s3 + s9)) fun a1 =>
 ldStr H (Addr.add a (Int.toNat (IntKind.wrap .i64 (s3 + s8)) * 1)) fun s =>
 ldStr H (Addr.add a1 (Int.toNat (IntKind.wrap .i64 (s3 + s9)) * 1)) fun s1 =>
 callD Try.prog 104 [(.string s), (.string s1)] H (panK R) fun v H1 =>
 tBool v fun b =>
 iteB (!b) (
 R (.returned (.tuple ⟨[]⟩)) H1) <|
 idxD s0 s0n (IntKind.wrap .i64 (s3 + s9)) fun a2 =>
 idxD s0 s0n (IntKind.wrap .i64 (s3 + s8)) fun a3 =>
 ldStr H1 (Addr.add a2 (Int.toNat (IntKind.wrap .i64 (s3 + s9)) * 1)) fun s4 =>
 ldStr H1 (Addr.add a3 (Int.toNat (IntKind.wrap .i64 (s3 + s8)) * 1)) fun s5 =>
 idxD s0 s0n (IntKind.wrap .i64 (s3 + s8)) fun a4 =>
 st1 H1 (Addr.add a4 (Int.toNat (IntKind.wrap .i64 (s3 + s8)) * 1)) (.string s4) fun H2 =>
 idxD s0 s0n (IntKind.wrap .i64 (s3 + s9)) fun a5 =>
 st1 H2 (Addr.add a5 (Int.toNat (IntKind.wrap .i64 (s3 + s9)) * 1)) (.string s5) fun H3 =>
 L0 s0 s0n s0c s2 s3 s9 H3 R
theorem L2_step {s0 : OA} {s0n s0c : Nat} {s2 s3 s8 s9 : Int} {H : Heap} {R : EH} (h : L2n s0 s0n s0c s2 s3 s8 s9 H R) : L2 s0 s0n s0c s2 s3 s8 s9 H R :=
 goL_of_den (an := an) (fuel := 100000) (X := L2n s0 s0n s0c s2 s3 s8 s9 H R) mixed fn (by kernel_rfl) (fun ρ0 => by kernel_rfl) h
def go (s0 : OA) (s0n s0c : Nat) (s1 s2 s3 : Int) (H : Heap) (R : EH) : Prop :=
 L0 s0 s0n s0c s2 s3 s1 H R
theorem calls {s0 : OA} {s0n s0c : Nat} {s1 s2 s3 : Int} {H : Heap} {R : EH} (h : go s0 s0n s0c s1 s2 s3 H R) : CallsH Try.prog 110 ⟨[(.slice s0 s0n s0c), (.int .i64 s1), (.int .i64 s2), (.int .i64 s3)]⟩ H R :=
 callsH_of_den (an := an) (fuel := 100000) (X := go s0 s0n s0c s1 s2 s3 H R) (c := body) mixed fn (by kernel_rfl) (by kernel_rfl) (by kernel_rfl) ok (by kernel_rfl) h
end F110
/-! ### 111 "slices.nextPowerOfTwo" -/
namespace F111
def an : Ann := { kinds := [], taus := [], pairs := [], lab := [] }
noncomputable def body : Code := (Try.f111.body).getD .skip
theorem fn : Try.prog.funcs[111]? = some Try.f111 := by kernel_rfl
theorem ok : codeOk an 7 body = true := by kernel_rfl
def go (length : Int) (H : Heap) (R : EH) : Prop :=
 callD Try.prog 82 [(.int .u64 (IntKind.wrap .u64 length))] H (panK R) fun v H1 =>
 tInt v .i64 fun n =>
 shD n <|
 R (.returned (.int .u64 (shlZ .u64 (1 : Int) n))) H1
theorem calls {length : Int} {H : Heap} {R : EH} (h : go length H R) : CallsH Try.prog 111 ⟨[(.int .i64 length)]⟩ H R :=
 callsH_of_den (an := an) (fuel := 100000) (X := go length H R) (c := body) mixed fn (by kernel_rfl) (by kernel_rfl) (by kernel_rfl) ok (by kernel_rfl) h
end F111
/-! ### 112 "(*slices.xorshift).Next" -/
namespace F112
def an : Ann := { kinds := [], taus := [(1, [[0, 1, 3, 4, 2, 5, 6, 7, 8, 9]]), (2, [[0, 1, 3, 4, 2, 5, 6, 7, 8, 9]]), (3, [[0, 1, 3, 4, 2, 5, 6, 7, 8, 9]])], pairs := [], lab := [] }
noncomputable def body : Code := (Try.f112.body).getD .skip
theorem fn : Try.prog.funcs[112]? = some Try.f112 := by kernel_rfl
theorem ok : codeOk an 33 body = true := by kernel_rfl
def go (r : OA) (H : Heap) (R : EH) : Prop :=
 nilD r fun a =>
 nilD r fun a1 =>
 ldInt H a .u64 fun n =>
 ldInt H a1 .u64 fun n1 =>
 shD (13 : Int) <|
 nilD r fun a2 =>
 st1 H a2 (.int .u64 (xorZ .u64 n (shlZ .u64 n1 (13 : Int)))) fun H1 =>
 nilD r fun a3 =>
 nilD r fun a4 =>
 ldInt H1 a3 .u64 fun n2 =>
 ldInt H1 a4 .u64 fun n3 =>
 shD (7 : Int) <|
 nilD r fun a5 =>
 st1 H1 a5 (.int .u64 (xorZ .u64 n2 (shrZ .u64 n3 (7 : Int)))) fun H2 =>
 nilD r fun a6 =>
 nilD r fun a7 =>
 ldInt H2 a6 .u64 fun n4 =>
 ldInt H2 a7 .u64 fun n5 =>
 shD (17 : Int) <|
 nilD r fun a8 =>
 st1 H2 a8 (.int .u64 (xorZ .u64 n4 (shlZ .u64 n5 (17 : Int)))) fun H3 =>
 nilD r fun a9 =>
 ldInt H3 a9 .u64 fun n6 =>
 R (.returned (.int .u64 n6)) H3
theorem calls {r : OA} {H : Heap} {R : EH} (h : go r H R) : CallsH Try.prog 112 ⟨[(.pointer r)]⟩ H R :=
 callsH_of_den (an := an) (fuel := 100000) (X := go r H R) (c := body) mixed fn (by kernel_rfl) (by kernel_rfl) (by kernel_rfl) ok (by kernel_rfl) h
end F112
/-! ### 113 "slices.medianAdjacentOrdered[string]" -/
namespace F113
def an : Ann := { kinds := [], taus := [], pairs := [], lab := [] }
noncomputable def body : Code := (Try.f113.body).getD .skip
theorem fn : Try.prog.funcs[113]? = some Try.f113 := by kernel_rfl
theorem ok : codeOk an 15 body = true := by kernel_rfl
def go (data : OA) (datan datac : Nat) (a : Int) (swaps : OA) (H : Heap) (R : EH) : Prop :=
 callD Try.prog 114 [(.slice data datan datac), (.int .i64 (IntKind.wrap .i64 (a - (1 : Int)))), (.int .i64 a), (.int .i64 (IntKind.wrap .i64 (a + (1 : Int)))), (.pointer swaps)] H (panK R) fun v H1 =>
 tInt v .i64 fun n =>
 R (.returned (.int .i64 n)) H1
theorem calls {data : OA} {datan datac : Nat} {a : Int} {swaps : OA} {H : Heap} {R : EH} (h : go data datan datac a swaps H R) : CallsH Try.prog 113 ⟨[(.slice data datan datac), (.int .i64 a), (.pointer swaps)]⟩ H R :=
 callsH_of_den (an := an) (fuel := 100000) (X := go data datan datac a swaps H R) (c := body) mixed fn (by kernel_rfl) (by kernel_rfl) (by kernel_rfl) ok (by kernel_rfl) h
end F113
/-! ### 114 "slices.medianOrdered[string]" -/
namespace F114
def an : Ann := { kinds := [], taus := [], pairs := [], lab := [] }
noncomputable def body : Code := (Try.f114.body).getD .skip
theorem fn : Try.prog.funcs[114]? = some Try.f114 := by kernel_rfl
theorem ok : codeOk an 36 body = true := by kernel_rfl
def go (data : OA) (datan datac : Nat) (a b c : Int) (swaps : OA) (H : Heap) (R : EH) : Prop :=
 callD Try.prog 116 [(.slice data datan datac), (.int .i64 a), (.int .i64 b), (.pointer swaps)] H (panK R) fun v H1 =>
 tTup v fun l =>
 tCons l fun c1 l1 =>
 tInt c1 .i64 fun n =>
 tCons l1 fun c2 l2 =>
 tInt c2 .i64 fun n1 =>
 tNil l2 <|
 callD Try.prog 116 [(.slice data datan datac), (.int .i64 n1), (.int .i64 c), (.pointer swaps)] H1 (panK R) fun v1 H2 =>
 tTup v1 fun l3 =>
 tCons l3 fun c3 l4 =>
 tInt c3 .i64 fun n2 =>
 tCons l4 fun c4 l5 =>
 tInt c4 .i64 fun n3 =>
 tNil l5 <|
 callD Try.prog 116 [(.slice data datan datac), (.int .i64 n), (.int .i64 n2), (.pointer swaps)] H2 (panK R) fun v2 H3 =>
 tTup v2 fun l6 =>
 tCons l6 fun c5 l7 =>
 tInt c5 .i64 fun n4 =>
 tCons l7 fun c6 l8 =>
 tInt c6 .i64 fun n5 =>
 tNil l8 <|
 R (.returned (.int .i64 n5)) H3
theorem calls {data : OA} {datan datac : Nat} {a b c : Int} {swaps : OA} {H : Heap} {R : EH} (h : go data datan datac a b c swaps H R) : CallsH Try.prog 114 ⟨[(.slice data datan datac), (.int .i64 a), (.int .i64 b), (.int .i64 c), (.pointer swaps)]⟩ H R :=
 callsH_of_den (an := an) (fuel := 100000) (X := go data datan datac a b c swaps H R) (c := body) mixed fn (by kernel_rfl) (by kernel_rfl) (by kernel_rfl) ok (by kernel_rfl) h
end F114
/-! ### 115 "cmp.isNaN[string]" -/
namespace F115
def an : Ann := { kinds := [], taus := [], pairs := [], lab := [] }
noncomputable def body : Code := (Try.f115.body).getD .skip
theorem fn : Try.prog.funcs[115]? = some Try.f115 := by kernel_rfl
theorem ok : codeOk an 6 body = true := by kernel_rfl
def go (x : ByteArray) (H : Heap) (R : EH) : Prop :=
 R (.returned (.bool (!eqS x x))) H
theorem calls {x : ByteArray} {H : Heap} {R : EH} (h : go x H R) : CallsH Try.prog 115 ⟨[(.string x)]⟩ H R :=
 callsH_of_den (an := an) (fuel := 100000) (X := go x H R) (c := body) mixed fn (by kernel_rfl) (by kernel_rfl) (by kernel_rfl) ok (by kernel_rfl) h
end F115
/-! ### 116 "slices.order2Ordered[string]" -/
namespace F116
def an : Ann := { kinds := [], taus := [(1, [[0, 1, 2, 4, 5, 6, 3, 7, 8]])], pairs := [], lab := [] }
noncomputable def body : Code := (Try.f116.body).getD .skip
theorem fn : Try.prog.funcs[116]? = some Try.f116 := by kernel_rfl
theorem ok : codeOk an 28 body = true := by kernel_rfl
def go (data : OA) (datan datac : Nat) (a b : Int) (swaps : OA) (H : Heap) (R : EH) : Prop :=
 idxD data datan b fun a1 =>
 idxD data datan a fun a2 =>
 ldStr H (Addr.add a1 (Int.toNat b * 1)) fun s =>
 ldStr H (Addr.add a2 (Int.toNat a * 1)) fun s1 =>
 callD Try.prog 104 [(.string s), (.string s1)] H (panK R) fun v H1 =>
 tBool v fun b1 =>
 iteB b1 (
 nilD swaps fun a3 =>
 ldInt H1 a3 .i64 fun n =>
 nilD swaps fun a4 =>
 st1 H1 a4 (.int .i64 (IntKind.wrap .i64 (n + (1 : Int)))) fun H2 =>
 R (.returned (.tuple ⟨[(.int .i64 b), (.int .i64 a)]⟩)) H2) <|
 R (.returned (.tuple ⟨[(.int .i64 a), (.int .i64 b)]⟩)) H1
theorem calls {data : OA} {datan datac : Nat} {a b : Int} {swaps : OA} {H : Heap} {R : EH} (h : go data datan datac a b swaps H R) : CallsH Try.prog 116 ⟨[(.slice data datan datac), (.int .i64 a), (.int .i64 b), (.pointer swaps)]⟩ H R :=
 callsH_of_den (an := an) (fuel := 100000) (X := go data datan datac a b swaps H R) (c := body) mixed fn (by kernel_rfl) (by kernel_rfl) (by kernel_rfl) ok (by kernel_rfl) h
end F116
end Go.Proofs.Ytobolifgehagfaa
