/- What functions of this seat do, each proved by a walk; no condition. -/
import Derived.Test.YtobolifgehagfaaJB
import Derived.KernelRfl
set_option linter.unusedVariables false
namespace Go.Proofs.Ytobolifgehagfaa
open Go Go.Den Go.Proofs
/-! ### 145 "(*pub-stadtholder/pub/etcdserver/adt.intervalTree).MaxHeight" -/
namespace F145
def an : Ann := { kinds := [], taus := [], pairs := [], lab := [] }
noncomputable def body : Code := (Try.f145.body).getD .skip
theorem fn : Try.prog.funcs[145]? = some Try.f145 := by kernel_rfl
theorem ok : codeOk an 11 body = true := by kernel_rfl
def go (ivt : Option Addr) (H : Heap) (R : Ending → Heap → Prop) : Prop :=
  callD Try.prog 144 [(.pointer ivt)] H (panK R) fun v H1 =>
  tInt v .i64 fun n =>
  callD Try.prog 158 [(.float .f64 (FloatKind.nearest .f64 (IntKind.wrap .i64 (n + (1 : Int)))))] H1 (panK R) fun v1 H2 =>
  tFlt v1 .f64 fun x =>
  flD (Ieee.Format.mul (FloatKind.format .f64) (4611686018427387904 : Nat) x) fun x1 =>
  flD (Ieee.Format.add (FloatKind.format .f64) x1 (4602678819172646912 : Nat)) fun x2 =>
  fiD .f64 x2 .i64 fun n1 =>
  R (.returned (.int .i64 n1)) H2
theorem calls {ivt : Option Addr} {H : Heap} {R : Ending → Heap → Prop} (h : go ivt H R) : CallsH Try.prog 145 ⟨[(.pointer ivt)]⟩ H R :=
  callsH_of_den (an := an) (fuel := 100000) (X := go ivt H R) (c := body) mixed fn (by kernel_rfl) (by kernel_rfl) (by kernel_rfl) ok (by kernel_rfl) h
end F145
/-! ### 158 "math.Log2" -/
namespace F158
def an : Ann := { kinds := [], taus := [], pairs := [], lab := [] }
noncomputable def body : Code := (Try.f158.body).getD .skip
theorem fn : Try.prog.funcs[158]? = some Try.f158 := by kernel_rfl
theorem ok : codeOk an 7 body = true := by kernel_rfl
def go (x : Nat) (H : Heap) (R : Ending → Heap → Prop) : Prop :=
  callD Try.prog 167 [(.float .f64 x)] H (panK R) fun v H1 =>
  tFlt v .f64 fun x1 =>
  R (.returned (.float .f64 x1)) H1
theorem calls {x : Nat} {H : Heap} {R : Ending → Heap → Prop} (h : go x H R) : CallsH Try.prog 158 ⟨[(.float .f64 x)]⟩ H R :=
  callsH_of_den (an := an) (fuel := 100000) (X := go x H R) (c := body) mixed fn (by kernel_rfl) (by kernel_rfl) (by kernel_rfl) ok (by kernel_rfl) h
end F158
/-! ### 167 "math.log2" -/
namespace F167
def an : Ann := { kinds := [], taus := [], pairs := [], lab := [] }
noncomputable def body : Code := (Try.f167.body).getD .skip
theorem fn : Try.prog.funcs[167]? = some Try.f167 := by kernel_rfl
theorem ok : codeOk an 21 body = true := by kernel_rfl
def go (x : Nat) (H : Heap) (R : Ending → Heap → Prop) : Prop :=
  callD Try.prog 169 [(.float .f64 x)] H (panK R) fun v H1 =>
  tTup v fun l =>
  tCons l fun c l1 =>
  tFlt c .f64 fun x1 =>
  tCons l1 fun c1 l2 =>
  tInt c1 .i64 fun n =>
  tNil l2 <|
  iteB (Ieee.Format.order (FloatKind.format .f64) x1 (4602678819172646912 : Nat) == some .eq) (
    R (.returned (.float .f64 (FloatKind.nearest .f64 (IntKind.wrap .i64 (n - (1 : Int)))))) H1) <|
  callD Try.prog 170 [(.float .f64 x1)] H1 (panK R) fun v1 H2 =>
  tFlt v1 .f64 fun x2 =>
  flD (Ieee.Format.mul (FloatKind.format .f64) x2 (4609176140021203710 : Nat)) fun x3 =>
  flD (Ieee.Format.add (FloatKind.format .f64) x3 (FloatKind.nearest .f64 n)) fun x4 =>
  R (.returned (.float .f64 x4)) H2
theorem calls {x : Nat} {H : Heap} {R : Ending → Heap → Prop} (h : go x H R) : CallsH Try.prog 167 ⟨[(.float .f64 x)]⟩ H R :=
  callsH_of_den (an := an) (fuel := 100000) (X := go x H R) (c := body) mixed fn (by kernel_rfl) (by kernel_rfl) (by kernel_rfl) ok (by kernel_rfl) h
end F167
/-! ### 169 "math.Frexp" -/
namespace F169
def an : Ann := { kinds := [], taus := [], pairs := [], lab := [] }
noncomputable def body : Code := (Try.f169.body).getD .skip
theorem fn : Try.prog.funcs[169]? = some Try.f169 := by kernel_rfl
theorem ok : codeOk an 12 body = true := by kernel_rfl
def go (f : Nat) (H : Heap) (R : Ending → Heap → Prop) : Prop :=
  callD Try.prog 172 [(.float .f64 f)] H (panK R) fun v H1 =>
  tTup v fun l =>
  tCons l fun c l1 =>
  tFlt c .f64 fun x =>
  tCons l1 fun c1 l2 =>
  tInt c1 .i64 fun n =>
  tNil l2 <|
  R (.returned (.tuple ⟨[(.float .f64 x), (.int .i64 n)]⟩)) H1
theorem calls {f : Nat} {H : Heap} {R : Ending → Heap → Prop} (h : go f H R) : CallsH Try.prog 169 ⟨[(.float .f64 f)]⟩ H R :=
  callsH_of_den (an := an) (fuel := 100000) (X := go f H R) (c := body) mixed fn (by kernel_rfl) (by kernel_rfl) (by kernel_rfl) ok (by kernel_rfl) h
end F169
/-! ### 170 "math.Log" -/
namespace F170
def an : Ann := { kinds := [], taus := [], pairs := [], lab := [] }
noncomputable def body : Code := (Try.f170.body).getD .skip
theorem fn : Try.prog.funcs[170]? = some Try.f170 := by kernel_rfl
theorem ok : codeOk an 7 body = true := by kernel_rfl
def go (x : Nat) (H : Heap) (R : Ending → Heap → Prop) : Prop :=
  callX Try.prog 173 [(.float .f64 x)] H (panK R) fun v H1 =>
  tFlt v .f64 fun x1 =>
  R (.returned (.float .f64 x1)) H1
theorem calls {x : Nat} {H : Heap} {R : Ending → Heap → Prop} (h : go x H R) : CallsH Try.prog 170 ⟨[(.float .f64 x)]⟩ H R :=
  callsH_of_den (an := an) (fuel := 100000) (X := go x H R) (c := body) mixed fn (by kernel_rfl) (by kernel_rfl) (by kernel_rfl) ok (by kernel_rfl) h
end F170
/-! ### 172 "math.frexp" -/
namespace F172
def an : Ann := { kinds := [], taus := [], pairs := [], lab := [(10000006, [0])] }
noncomputable def body : Code := (Try.f172.body).getD .skip
theorem fn : Try.prog.funcs[172]? = some Try.f172 := by kernel_rfl
theorem ok : codeOk an 38 body = true := by kernel_rfl
noncomputable def L0t : List Item := [.code (sub [1, 1] body)]
def L0 (f : Nat) (H : Heap) (R : Ending → Heap → Prop) : Prop :=
  GoL Try.prog 172 38 L0t [0] [(.float .f64 f)] H R
def L0n (f : Nat) (H : Heap) (R : Ending → Heap → Prop) : Prop :=
  callD Try.prog 177 [(.float .f64 f)] H (panK R) fun v H1 =>
  tTup v fun l =>
  tCons l fun c l1 =>
  tFlt c .f64 fun x =>
  tCons l1 fun c1 l2 =>
  tInt c1 .i64 fun n =>
  tNil l2 <|
  callX Try.prog 178 [(.float .f64 x)] H1 (panK R) fun v1 H2 =>
  tInt v1 .u64 fun n1 =>
  shD (52 : Int) <|
  callX Try.prog 179 [(.int .u64 (orZ .u64 (andNotZ .u64 n1 (9218868437227405312 : Int)) (4602678819172646912 : Int)))] H2 (panK R) fun v2 H3 =>
  tFlt v2 .f64 fun x1 =>
  R (.returned (.tuple ⟨[(.float .f64 x1), (.int .i64 (IntKind.wrap .i64 (n + (IntKind.wrap .i64 ((IntKind.wrap .i64 ((IntKind.wrap .i64 (andZ .u64 (shrZ .u64 n1 (52 : Int)) (2047 : Int))) - (1023 : Int))) + (1 : Int))))))]⟩)) H3
theorem L0_step {f : Nat} {H : Heap} {R : Ending → Heap → Prop} (h : L0n f H R) : L0 f H R :=
  goL_of_den (an := an) (fuel := 100000) (X := L0n f H R) mixed fn (by kernel_rfl) (fun ρ0 => by kernel_rfl) h
def go (f : Nat) (H : Heap) (R : Ending → Heap → Prop) : Prop :=
  iteB (Ieee.Format.order (FloatKind.format .f64) f (0 : Nat) == some .eq) (
    R (.returned (.tuple ⟨[(.float .f64 f), (.int .i64 (0 : Int))]⟩)) H) <|
  callD Try.prog 175 [(.float .f64 f), (.int .i64 (0 : Int))] H (panK R) fun v H1 =>
  tBool v fun b =>
  iteB b (
    R (.returned (.tuple ⟨[(.float .f64 f), (.int .i64 (0 : Int))]⟩)) H1) <|
  callD Try.prog 176 [(.float .f64 f)] H1 (panK R) fun v1 H2 =>
  tBool v1 fun b1 =>
  iteB b1 (
    R (.returned (.tuple ⟨[(.float .f64 f), (.int .i64 (0 : Int))]⟩)) H2) <|
  L0 f H2 R
theorem calls {f : Nat} {H : Heap} {R : Ending → Heap → Prop} (h : go f H R) : CallsH Try.prog 172 ⟨[(.float .f64 f)]⟩ H R :=
  callsH_of_den (an := an) (fuel := 100000) (X := go f H R) (c := body) mixed fn (by kernel_rfl) (by kernel_rfl) (by kernel_rfl) ok (by kernel_rfl) h
end F172
/-! ### 175 "math.IsInf" -/
namespace F175
def an : Ann := { kinds := [], taus := [], pairs := [], lab := [] }
noncomputable def body : Code := (Try.f175.body).getD .skip
theorem fn : Try.prog.funcs[175]? = some Try.f175 := by kernel_rfl
theorem ok : codeOk an 15 body = true := by kernel_rfl
def go (f : Nat) (sign : Int) (H : Heap) (R : Ending → Heap → Prop) : Prop :=
  iteB (sign == (0 : Int)) (
    callD Try.prog 182 [(.float .f64 f)] H (panK R) fun v H1 =>
    tFlt v .f64 fun x =>
    R (.returned (.bool (Ieee.Format.order (FloatKind.format .f64) x (9218868437227405311 : Nat) == some .gt))) H1) <|
  iteB (decide (sign < (0 : Int))) (
    R (.returned (.bool (Ieee.Format.order (FloatKind.format .f64) (Op.negFloat .f64 f) (9218868437227405311 : Nat) == some .gt))) H) <|
  R (.returned (.bool (Ieee.Format.order (FloatKind.format .f64) f (9218868437227405311 : Nat) == some .gt))) H
theorem calls {f : Nat} {sign : Int} {H : Heap} {R : Ending → Heap → Prop} (h : go f sign H R) : CallsH Try.prog 175 ⟨[(.float .f64 f), (.int .i64 sign)]⟩ H R :=
  callsH_of_den (an := an) (fuel := 100000) (X := go f sign H R) (c := body) mixed fn (by kernel_rfl) (by kernel_rfl) (by kernel_rfl) ok (by kernel_rfl) h
end F175
/-! ### 176 "math.IsNaN" -/
namespace F176
def an : Ann := { kinds := [], taus := [], pairs := [], lab := [] }
noncomputable def body : Code := (Try.f176.body).getD .skip
theorem fn : Try.prog.funcs[176]? = some Try.f176 := by kernel_rfl
theorem ok : codeOk an 6 body = true := by kernel_rfl
def go (f : Nat) (H : Heap) (R : Ending → Heap → Prop) : Prop :=
  R (.returned (.bool (Ieee.Format.order (FloatKind.format .f64) f f != some .eq))) H
theorem calls {f : Nat} {H : Heap} {R : Ending → Heap → Prop} (h : go f H R) : CallsH Try.prog 176 ⟨[(.float .f64 f)]⟩ H R :=
  callsH_of_den (an := an) (fuel := 100000) (X := go f H R) (c := body) mixed fn (by kernel_rfl) (by kernel_rfl) (by kernel_rfl) ok (by kernel_rfl) h
end F176
/-! ### 177 "math.normalize" -/
namespace F177
def an : Ann := { kinds := [], taus := [], pairs := [], lab := [] }
noncomputable def body : Code := (Try.f177.body).getD .skip
theorem fn : Try.prog.funcs[177]? = some Try.f177 := by kernel_rfl
theorem ok : codeOk an 10 body = true := by kernel_rfl
def go (x : Nat) (H : Heap) (R : Ending → Heap → Prop) : Prop :=
  callD Try.prog 182 [(.float .f64 x)] H (panK R) fun v H1 =>
  tFlt v .f64 fun x1 =>
  iteB (Ieee.Format.order (FloatKind.format .f64) x1 (4503599627370496 : Nat) == some .lt) (
    flD (Ieee.Format.mul (FloatKind.format .f64) x (4841369599423283200 : Nat)) fun x2 =>
    R (.returned (.tuple ⟨[(.float .f64 x2), (.int .i64 (-52 : Int))]⟩)) H1) <|
  R (.returned (.tuple ⟨[(.float .f64 x), (.int .i64 (0 : Int))]⟩)) H1
theorem calls {x : Nat} {H : Heap} {R : Ending → Heap → Prop} (h : go x H R) : CallsH Try.prog 177 ⟨[(.float .f64 x)]⟩ H R :=
  callsH_of_den (an := an) (fuel := 100000) (X := go x H R) (c := body) mixed fn (by kernel_rfl) (by kernel_rfl) (by kernel_rfl) ok (by kernel_rfl) h
end F177
/-! ### 182 "math.Abs" -/
namespace F182
def an : Ann := { kinds := [], taus := [], pairs := [], lab := [] }
noncomputable def body : Code := (Try.f182.body).getD .skip
theorem fn : Try.prog.funcs[182]? = some Try.f182 := by kernel_rfl
theorem ok : codeOk an 7 body = true := by kernel_rfl
def go (x : Nat) (H : Heap) (R : Ending → Heap → Prop) : Prop :=
  callX Try.prog 178 [(.float .f64 x)] H (panK R) fun v H1 =>
  tInt v .u64 fun n =>
  callX Try.prog 179 [(.int .u64 (andNotZ .u64 n (9223372036854775808 : Int)))] H1 (panK R) fun v1 H2 =>
  tFlt v1 .f64 fun x1 =>
  R (.returned (.float .f64 x1)) H2
theorem calls {x : Nat} {H : Heap} {R : Ending → Heap → Prop} (h : go x H R) : CallsH Try.prog 182 ⟨[(.float .f64 x)]⟩ H R :=
  callsH_of_den (an := an) (fuel := 100000) (X := go x H R) (c := body) mixed fn (by kernel_rfl) (by kernel_rfl) (by kernel_rfl) ok (by kernel_rfl) h
end F182
end Go.Proofs.Ytobolifgehagfaa
