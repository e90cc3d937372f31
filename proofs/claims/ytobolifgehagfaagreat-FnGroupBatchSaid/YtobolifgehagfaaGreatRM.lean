/- What functions of this seat do, each proved by a walk; no condition. -/
import Derived.Test.YtobolifgehagfaaGreatRB
import Derived.KernelRfl
set_option linter.unusedVariables false
namespace Go.Proofs.YtobolifgehagfaaGreat
open Go Go.Den Go.Proofs
/-! ### 91 "slices.nextPowerOfTwo" -/
namespace F91
def an : Ann := { kinds := [], taus := [], pairs := [], lab := [] }
noncomputable def body : Code := (Tryz.f91.body).getD .skip
theorem fn : Tryz.prog.funcs[91]? = some Tryz.f91 := by kernel_rfl
theorem ok : codeOk an 7 body = true := by kernel_rfl
def go (length : Int) (H : Heap) (R : EH) : Prop :=
 callD Tryz.prog 58 [(.int .u64 (IntKind.wrap .u64 length))] H (panK R) fun v H1 =>
 tInt v .i64 fun n =>
 shD n <|
 R (.returned (.int .u64 (shlZ .u64 (1 : Int) n))) H1
theorem calls {length : Int} {H : Heap} {R : EH} (h : go length H R) : CallsH Tryz.prog 91 ⟨[(.int .i64 length)]⟩ H R :=
 callsH_of_den (an := an) (fuel := 100000) (X := go length H R) (c := body) mixed fn (by kernel_rfl) (by kernel_rfl) (by kernel_rfl) ok (by kernel_rfl) h
end F91
/-! ### 92 "(*slices.xorshift).Next" -/
namespace F92
def an : Ann := { kinds := [], taus := [(1, [[0, 1, 3, 4, 2, 5, 6, 7, 8, 9]]), (2, [[0, 1, 3, 4, 2, 5, 6, 7, 8, 9]]), (3, [[0, 1, 3, 4, 2, 5, 6, 7, 8, 9]])], pairs := [], lab := [] }
noncomputable def body : Code := (Tryz.f92.body).getD .skip
theorem fn : Tryz.prog.funcs[92]? = some Tryz.f92 := by kernel_rfl
theorem ok : codeOk an 33 body = true := by kernel_rfl
def go (r : OA) (H : Heap) (R : EH) : Prop :=
 nilD r fun a =>
 nilD r fun a1 =>
 ldInt H a .u64 fun n =>
 ldInt H a1 .u64 fun n1 =>
 shD (13 : Int) <|
 nilD r fun a2 =>
 st1 H a2 (.int .u64 (xorZ .u64 n (shlZ .u64 n1 (13 : Int)))) fun H1 =>
 nilD r fun a3 =>
 nilD r fun a4 =>
 ldInt H1 a3 .u64 fun n2 =>
 ldInt H1 a4 .u64 fun n3 =>
 shD (7 : Int) <|
 nilD r fun a5 =>
 st1 H1 a5 (.int .u64 (xorZ .u64 n2 (shrZ .u64 n3 (7 : Int)))) fun H2 =>
 nilD r fun a6 =>
 nilD r fun a7 =>
 ldInt H2 a6 .u64 fun n4 =>
 ldInt H2 a7 .u64 fun n5 =>
 shD (17 : Int) <|
 nilD r fun a8 =>
 st1 H2 a8 (.int .u64 (xorZ .u64 n4 (shlZ .u64 n5 (17 : Int)))) fun H3 =>
 nilD r fun a9 =>
 ldInt H3 a9 .u64 fun n6 =>
 R (.returned (.int .u64 n6)) H3
theorem calls {r : OA} {H : Heap} {R : EH} (h : go r H R) : CallsH Tryz.prog 92 ⟨[(.pointer r)]⟩ H R :=
 callsH_of_den (an := an) (fuel := 100000) (X := go r H R) (c := body) mixed fn (by kernel_rfl) (by kernel_rfl) (by kernel_rfl) ok (by kernel_rfl) h
end F92
end Go.Proofs.YtobolifgehagfaaGreat
