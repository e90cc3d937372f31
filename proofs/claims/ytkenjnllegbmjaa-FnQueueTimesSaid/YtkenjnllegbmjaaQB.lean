/- What functions of this seat do, each proved by a walk; no condition. -/
import Derived.Test.YtkenjnllegbmjaaDenJ
import Derived.Test.YtkenjnllegbmjaaProg
import Derived.KernelRfl
set_option linter.unusedVariables false
namespace Go.Proofs.Ytkenjnllegbmjaa
open Go Go.Den Go.Proofs
theorem mixed : Try.prog.follows .mixedOrders = true := by kernel_rfl
/-! ### 3 "pub-stadtholder/laws.FnQueueTimes" -/
namespace F3
def an : Ann := { kinds := [], taus := [(19, [[0, 1, 2, 4, 5, 6, 7, 3, 8, 9, 10, 11, 13, 14, 15, 16, 12, 17, 18, 19, 20, 21]]), (20, [[0, 1, 2, 3, 4, 6, 5, 7, 8, 9, 10, 11, 12, 13, 14, 15, 17, 18, 19, 20, 16, 21, 22, 23, 24, 25, 26, 27, 28, 29, 30, 31, 32, 33, 34]])], pairs := [], lab := [(40000011, [3, 4, 25, 26, 27]), (90000016, [3, 4, 5, 6, 7, 8, 9, 25, 26, 27, 32, 33, 34]), (60000026, [3, 4, 5, 6, 7, 8, 9, 25, 26, 27]), (60000028, [3, 4, 5, 6, 7, 25, 26, 27]), (60000030, [3, 7, 25, 26, 27]), (120000019, [3, 4, 5, 6, 7, 9, 11, 25, 26, 27, 32, 33, 34]), (110000020, [3, 4, 5, 6, 7, 8, 9, 11, 25, 26, 27, 32, 33, 34]), (110000021, [3, 4, 5, 6, 7, 8, 9, 11, 25, 26, 27, 32, 33, 34]), (110000022, [3, 4, 5, 6, 7, 8, 9, 11, 25, 26, 27, 32, 33, 34]), (90000023, [3, 4, 5, 6, 7, 8, 9, 25, 26, 27, 32, 33, 34])] }
noncomputable def body : Code := (Try.f3.body).getD .skip
theorem fn : Try.prog.funcs[3]? = some Try.f3 := by kernel_rfl
theorem ok : codeOk an 171 body = true := by kernel_rfl
noncomputable def L0t : List Item := [.code (sub [1, 1, 1, 1, 1, 1, 0, 1, 0, 0] body), .inLoop (sub [1, 1, 1, 1, 1, 1, 0, 1, 0, 0] body), .inBlock 0, .code (sub [1, 1, 1, 1, 1, 1, 1] body)]
def L0 (s3 : Option Addr) (s3n : Nat) (s3c : Nat) (s4 : Option Addr) (s4n : Nat) (s4c : Nat) (s25 : Option Addr) (s25n : Nat) (s25c : Nat) (s26 : Int) (s27 : Int) (H : Heap) (R : Ending → Heap → Prop) : Prop :=
  GoL Try.prog 3 171 L0t [3, 4, 25, 26, 27] [(.slice s3 s3n s3c), (.slice s4 s4n s4c), (.slice s25 s25n s25c), (.int .i64 s26), (.int .i64 s27)] H R
noncomputable def L1t : List Item := [.code (sub [1, 1, 1, 1, 1, 1, 0, 1, 0, 0, 1, 1, 0, 0, 1, 1, 1, 0, 1, 0, 0] body), .inLoop (sub [1, 1, 1, 1, 1, 1, 0, 1, 0, 0, 1, 1, 0, 0, 1, 1, 1, 0, 1, 0, 0] body), .inBlock 2, .code (sub [1, 1, 1, 1, 1, 1, 0, 1, 0, 0, 1, 1, 0, 0, 1, 1, 1, 1] body), .inBlock 1, .code (sub [1, 1, 1, 1, 1, 1, 0, 1, 0, 0, 1, 1, 1] body), .inLoop (sub [1, 1, 1, 1, 1, 1, 0, 1, 0, 0] body), .inBlock 0, .code (sub [1, 1, 1, 1, 1, 1, 1] body)]
def L1 (s3 : Option Addr) (s3n : Nat) (s3c : Nat) (s4 : Option Addr) (s4n : Nat) (s4c : Nat) (s5 : Int) (s6 : Nat) (s7 : Option Addr) (s7n : Nat) (s7c : Nat) (s8 : Int) (s9 : Bool) (s25 : Option Addr) (s25n : Nat) (s25c : Nat) (s26 : Int) (s27 : Int) (s32 : Option Addr) (s32n : Nat) (s32c : Nat) (s33 : Int) (s34 : Int) (H : Heap) (R : Ending → Heap → Prop) : Prop :=
  GoL Try.prog 3 171 L1t [3, 4, 5, 6, 7, 8, 9, 25, 26, 27, 32, 33, 34] [(.slice s3 s3n s3c), (.slice s4 s4n s4c), (.int .i64 s5), (.pointer (some ⟨s6, 0, none⟩)), (.slice s7 s7n s7c), (.int .i64 s8), (.bool s9), (.slice s25 s25n s25c), (.int .i64 s26), (.int .i64 s27), (.slice s32 s32n s32c), (.int .i64 s33), (.int .i64 s34)] H R
noncomputable def L2t : List Item := [.code (sub [1, 1, 1, 1, 1, 1, 0, 1, 0, 0, 1, 1, 0, 0, 1, 1, 1, 1, 1] body), .inBlock 1, .code (sub [1, 1, 1, 1, 1, 1, 0, 1, 0, 0, 1, 1, 1] body), .inLoop (sub [1, 1, 1, 1, 1, 1, 0, 1, 0, 0] body), .inBlock 0, .code (sub [1, 1, 1, 1, 1, 1, 1] body)]
def L2 (s3 : Option Addr) (s3n : Nat) (s3c : Nat) (s4 : Option Addr) (s4n : Nat) (s4c : Nat) (s5 : Int) (s6 : Nat) (s7 : Option Addr) (s7n : Nat) (s7c : Nat) (s8 : Int) (s9 : Bool) (s25 : Option Addr) (s25n : Nat) (s25c : Nat) (s26 : Int) (s27 : Int) (H : Heap) (R : Ending → Heap → Prop) : Prop :=
  GoL Try.prog 3 171 L2t [3, 4, 5, 6, 7, 8, 9, 25, 26, 27] [(.slice s3 s3n s3c), (.slice s4 s4n s4c), (.int .i64 s5), (.pointer (some ⟨s6, 0, none⟩)), (.slice s7 s7n s7c), (.int .i64 s8), (.bool s9), (.slice s25 s25n s25c), (.int .i64 s26), (.int .i64 s27)] H R
noncomputable def L3t : List Item := [.code (sub [1, 1, 1, 1, 1, 1, 0, 1, 0, 0, 1, 1, 0, 0, 1, 1, 1, 1, 1, 1] body), .inBlock 1, .code (sub [1, 1, 1, 1, 1, 1, 0, 1, 0, 0, 1, 1, 1] body), .inLoop (sub [1, 1, 1, 1, 1, 1, 0, 1, 0, 0] body), .inBlock 0, .code (sub [1, 1, 1, 1, 1, 1, 1] body)]
def L3 (s3 : Option Addr) (s3n : Nat) (s3c : Nat) (s4 : Option Addr) (s4n : Nat) (s4c : Nat) (s5 : Int) (s6 : Nat) (s7 : Option Addr) (s7n : Nat) (s7c : Nat) (s25 : Option Addr) (s25n : Nat) (s25c : Nat) (s26 : Int) (s27 : Int) (H : Heap) (R : Ending → Heap → Prop) : Prop :=
  GoL Try.prog 3 171 L3t [3, 4, 5, 6, 7, 25, 26, 27] [(.slice s3 s3n s3c), (.slice s4 s4n s4c), (.int .i64 s5), (.pointer (some ⟨s6, 0, none⟩)), (.slice s7 s7n s7c), (.slice s25 s25n s25c), (.int .i64 s26), (.int .i64 s27)] H R
noncomputable def L4t : List Item := [.code (sub [1, 1, 1, 1, 1, 1, 0, 1, 0, 0, 1, 1, 0, 0, 1, 1, 1, 1, 1, 1, 1] body), .inBlock 1, .code (sub [1, 1, 1, 1, 1, 1, 0, 1, 0, 0, 1, 1, 1] body), .inLoop (sub [1, 1, 1, 1, 1, 1, 0, 1, 0, 0] body), .inBlock 0, .code (sub [1, 1, 1, 1, 1, 1, 1] body)]
def L4 (s3 : Option Addr) (s3n : Nat) (s3c : Nat) (s7 : Option Addr) (s7n : Nat) (s7c : Nat) (s25 : Option Addr) (s25n : Nat) (s25c : Nat) (s26 : Int) (s27 : Int) (H : Heap) (R : Ending → Heap → Prop) : Prop :=
  GoL Try.prog 3 171 L4t [3, 7, 25, 26, 27] [(.slice s3 s3n s3c), (.slice s7 s7n s7c), (.slice s25 s25n s25c), (.int .i64 s26), (.int .i64 s27)] H R
noncomputable def L5t : List Item := [.code (sub [1, 1, 1, 1, 1, 1, 0, 1, 0, 0, 1, 1, 0, 0, 1, 1, 1, 0, 1, 0, 0, 1, 1, 0, 0, 1, 0, 1, 0] body), .code (sub [1, 1, 1, 1, 1, 1, 0, 1, 0, 0, 1, 1, 0, 0, 1, 1, 1, 0, 1, 0, 0, 1, 1, 0, 0, 1, 1] body), .inBlock 3, .code (sub [1, 1, 1, 1, 1, 1, 0, 1, 0, 0, 1, 1, 0, 0, 1, 1, 1, 0, 1, 0, 0, 1, 1, 1] body), .inLoop (sub [1, 1, 1, 1, 1, 1, 0, 1, 0, 0, 1, 1, 0, 0, 1, 1, 1, 0, 1, 0, 0] body), .inBlock 2, .code (sub [1, 1, 1, 1, 1, 1, 0, 1, 0, 0, 1, 1, 0, 0, 1, 1, 1, 1] body), .inBlock 1, .code (sub [1, 1, 1, 1, 1, 1, 0, 1, 0, 0, 1, 1, 1] body), .inLoop (sub [1, 1, 1, 1, 1, 1, 0, 1, 0, 0] body), .inBlock 0, .code (sub [1, 1, 1, 1, 1, 1, 1] body)]
def L5 (s3 : Option Addr) (s3n : Nat) (s3c : Nat) (s4 : Option Addr) (s4n : Nat) (s4c : Nat) (s5 : Int) (s6 : Nat) (s7 : Option Addr) (s7n : Nat) (s7c : Nat) (s9 : Bool) (s11 : Nat) (s25 : Option Addr) (s25n : Nat) (s25c : Nat) (s26 : Int) (s27 : Int) (s32 : Option Addr) (s32n : Nat) (s32c : Nat) (s33 : Int) (s34 : Int) (H : Heap) (R : Ending → Heap → Prop) : Prop :=
  GoL Try.prog 3 171 L5t [3, 4, 5, 6, 7, 9, 11, 25, 26, 27, 32, 33, 34] [(.slice s3 s3n s3c), (.slice s4 s4n s4c), (.int .i64 s5), (.pointer (some ⟨s6, 0, none⟩)), (.slice s7 s7n s7c), (.bool s9), (.pointer (some ⟨s11, 0, none⟩)), (.slice s25 s25n s25c), (.int .i64 s26), (.int .i64 s27), (.slice s32 s32n s32c), (.int .i64 s33), (.int .i64 s34)] H R
noncomputable def L6t : List Item := [.code (sub [1, 1, 1, 1, 1, 1, 0, 1, 0, 0, 1, 1, 0, 0, 1, 1, 1, 0, 1, 0, 0, 1, 1, 0, 0, 1, 1] body), .inBlock 3, .code (sub [1, 1, 1, 1, 1, 1, 0, 1, 0, 0, 1, 1, 0, 0, 1, 1, 1, 0, 1, 0, 0, 1, 1, 1] body), .inLoop (sub [1, 1, 1, 1, 1, 1, 0, 1, 0, 0, 1, 1, 0, 0, 1, 1, 1, 0, 1, 0, 0] body), .inBlock 2, .code (sub [1, 1, 1, 1, 1, 1, 0, 1, 0, 0, 1, 1, 0, 0, 1, 1, 1, 1] body), .inBlock 1, .code (sub [1, 1, 1, 1, 1, 1, 0, 1, 0, 0, 1, 1, 1] body), .inLoop (sub [1, 1, 1, 1, 1, 1, 0, 1, 0, 0] body), .inBlock 0, .code (sub [1, 1, 1, 1, 1, 1, 1] body)]
def L6 (s3 : Option Addr) (s3n : Nat) (s3c : Nat) (s4 : Option Addr) (s4n : Nat) (s4c : Nat) (s5 : Int) (s6 : Nat) (s7 : Option Addr) (s7n : Nat) (s7c : Nat) (s8 : Int) (s9 : Bool) (s11 : Nat) (s25 : Option Addr) (s25n : Nat) (s25c : Nat) (s26 : Int) (s27 : Int) (s32 : Option Addr) (s32n : Nat) (s32c : Nat) (s33 : Int) (s34 : Int) (H : Heap) (R : Ending → Heap → Prop) : Prop :=
  GoL Try.prog 3 171 L6t [3, 4, 5, 6, 7, 8, 9, 11, 25, 26, 27, 32, 33, 34] [(.slice s3 s3n s3c), (.slice s4 s4n s4c), (.int .i64 s5), (.pointer (some ⟨s6, 0, none⟩)), (.slice s7 s7n s7c), (.int .i64 s8), (.bool s9), (.pointer (some ⟨s11, 0, none⟩)), (.slice s25 s25n s25c), (.int .i64 s26), (.int .i64 s27), (.slice s32 s32n s32c), (.int .i64 s33), (.int .i64 s34)] H R
noncomputable def L7t : List Item := [.code (sub [1, 1, 1, 1, 1, 1, 0, 1, 0, 0, 1, 1, 0, 0, 1, 1, 1, 0, 1, 0, 0, 1, 1, 0, 0, 1, 1, 1] body), .inBlock 3, .code (sub [1, 1, 1, 1, 1, 1, 0, 1, 0, 0, 1, 1, 0, 0, 1, 1, 1, 0, 1, 0, 0, 1, 1, 1] body), .inLoop (sub [1, 1, 1, 1, 1, 1, 0, 1, 0, 0, 1, 1, 0, 0, 1, 1, 1, 0, 1, 0, 0] body), .inBlock 2, .code (sub [1, 1, 1, 1, 1, 1, 0, 1, 0, 0, 1, 1, 0, 0, 1, 1, 1, 1] body), .inBlock 1, .code (sub [1, 1, 1, 1, 1, 1, 0, 1, 0, 0, 1, 1, 1] body), .inLoop (sub [1, 1, 1, 1, 1, 1, 0, 1, 0, 0] body), .inBlock 0, .code (sub [1, 1, 1, 1, 1, 1, 1] body)]
def L7 (s3 : Option Addr) (s3n : Nat) (s3c : Nat) (s4 : Option Addr) (s4n : Nat) (s4c : Nat) (s5 : Int) (s6 : Nat) (s7 : Option Addr) (s7n : Nat) (s7c : Nat) (s8 : Int) (s9 : Bool) (s11 : Nat) (s25 : Option Addr) (s25n : Nat) (s25c : Nat) (s26 : Int) (s27 : Int) (s32 : Option Addr) (s32n : Nat) (s32c : Nat) (s33 : Int) (s34 : Int) (H : Heap) (R : Ending → Heap → Prop) : Prop :=
  GoL Try.prog 3 171 L7t [3, 4, 5, 6, 7, 8, 9, 11, 25, 26, 27, 32, 33, 34] [(.slice s3 s3n s3c), (.slice s4 s4n s4c), (.int .i64 s5), (.pointer (some ⟨s6, 0, none⟩)), (.slice s7 s7n s7c), (.int .i64 s8), (.bool s9), (.pointer (some ⟨s11, 0, none⟩)), (.slice s25 s25n s25c), (.int .i64 s26), (.int .i64 s27), (.slice s32 s32n s32c), (.int .i64 s33), (.int .i64 s34)] H R
noncomputable def L8t : List Item := [.code (sub [1, 1, 1, 1, 1, 1, 0, 1, 0, 0, 1, 1, 0, 0, 1, 1, 1, 0, 1, 0, 0, 1, 1, 0, 0, 1, 1, 1, 1, 0] body), .inBlock 3, .code (sub [1, 1, 1, 1, 1, 1, 0, 1, 0, 0, 1, 1, 0, 0, 1, 1, 1, 0, 1, 0, 0, 1, 1, 1] body), .inLoop (sub [1, 1, 1, 1, 1, 1, 0, 1, 0, 0, 1, 1, 0, 0, 1, 1, 1, 0, 1, 0, 0] body), .inBlock 2, .code (sub [1, 1, 1, 1, 1, 1, 0, 1, 0, 0, 1, 1, 0, 0, 1, 1, 1, 1] body), .inBlock 1, .code (sub [1, 1, 1, 1, 1, 1, 0, 1, 0, 0, 1, 1, 1] body), .inLoop (sub [1, 1, 1, 1, 1, 1, 0, 1, 0, 0] body), .inBlock 0, .code (sub [1, 1, 1, 1, 1, 1, 1] body)]
def L8 (s3 : Option Addr) (s3n : Nat) (s3c : Nat) (s4 : Option Addr) (s4n : Nat) (s4c : Nat) (s5 : Int) (s6 : Nat) (s7 : Option Addr) (s7n : Nat) (s7c : Nat) (s8 : Int) (s9 : Bool) (s11 : Nat) (s25 : Option Addr) (s25n : Nat) (s25c : Nat) (s26 : Int) (s27 : Int) (s32 : Option Addr) (s32n : Nat) (s32c : Nat) (s33 : Int) (s34 : Int) (H : Heap) (R : Ending → Heap → Prop) : Prop :=
  GoL Try.prog 3 171 L8t [3, 4, 5, 6, 7, 8, 9, 11, 25, 26, 27, 32, 33, 34] [(.slice s3 s3n s3c), (.slice s4 s4n s4c), (.int .i64 s5), (.pointer (some ⟨s6, 0, none⟩)), (.slice s7 s7n s7c), (.int .i64 s8), (.bool s9), (.pointer (some ⟨s11, 0, none⟩)), (.slice s25 s25n s25c), (.int .i64 s26), (.int .i64 s27), (.slice s32 s32n s32c), (.int .i64 s33), (.int .i64 s34)] H R
noncomputable def L9t : List Item := [.code (sub [1, 1, 1, 1, 1, 1, 0, 1, 0, 0, 1, 1, 0, 0, 1, 1, 1, 0, 1, 0, 0, 1, 1, 1] body), .inLoop (sub [1, 1, 1, 1, 1, 1, 0, 1, 0, 0, 1, 1, 0, 0, 1, 1, 1, 0, 1, 0, 0] body), .inBlock 2, .code (sub [1, 1, 1, 1, 1, 1, 0, 1, 0, 0, 1, 1, 0, 0, 1, 1, 1, 1] body), .inBlock 1, .code (sub [1, 1, 1, 1, 1, 1, 0, 1, 0, 0, 1, 1, 1] body), .inLoop (sub [1, 1, 1, 1, 1, 1, 0, 1, 0, 0] body), .inBlock 0, .code (sub [1, 1, 1, 1, 1, 1, 1] body)]
def L9 (s3 : Option Addr) (s3n : Nat) (s3c : Nat) (s4 : Option Addr) (s4n : Nat) (s4c : Nat) (s5 : Int) (s6 : Nat) (s7 : Option Addr) (s7n : Nat) (s7c : Nat) (s8 : Int) (s9 : Bool) (s25 : Option Addr) (s25n : Nat) (s25c : Nat) (s26 : Int) (s27 : Int) (s32 : Option Addr) (s32n : Nat) (s32c : Nat) (s33 : Int) (s34 : Int) (H : Heap) (R : Ending → Heap → Prop) : Prop :=
  GoL Try.prog 3 171 L9t [3, 4, 5, 6, 7, 8, 9, 25, 26, 27, 32, 33, 34] [(.slice s3 s3n s3c), (.slice s4 s4n s4c), (.int .i64 s5), (.pointer (some ⟨s6, 0, none⟩)), (.slice s7 s7n s7c), (.int .i64 s8), (.bool s9), (.slice s25 s25n s25c), (.int .i64 s26), (.int .i64 s27), (.slice s32 s32n s32c), (.int .i64 s33), (.int .i64 s34)] H R
def L0n (s3 : Option Addr) (s3n : Nat) (s3c : Nat) (s4 : Option Addr) (s4n : Nat) (s4c : Nat) (s25 : Option Addr) (s25n : Nat) (s25c : Nat) (s26 : Int) (s27 : Int) (H : Heap) (R : Ending → Heap → Prop) : Prop :=
  iteB (decide (s27 < s26)) (
    idxD s25 s25n s27 fun a =>
    ldInt H (Addr.add a (Int.toNat s27 * 3)) .i64 fun n =>
    ldInt H (Addr.add (Addr.add a (Int.toNat s27 * 3)) 1) .i64 fun n1 =>
    ldInt H (Addr.add (Addr.add a (Int.toNat s27 * 3)) 2) .i64 fun n2 =>
    newD H (.cells ⟨[(.int .i64 (0 : Int)), (.int .i64 (0 : Int)), (.int .i64 (0 : Int))]⟩ 27) fun r H1 =>
    st1 H1 ⟨r, 0, none⟩ (.int .i64 n) fun H2 =>
    st1 H2 ⟨r, 1, none⟩ (.int .i64 n1) fun H3 =>
    st1 H3 ⟨r, 2, none⟩ (.int .i64 n2) fun H4 =>
    L1 s3 s3n s3c s4 s4n s4c s27 r none 0 0 (-1 : Int) false s25 s25n s25c s26 s27 s4 s4n s4c ((s4n : Nat) : Int) (0 : Int) H4 R) <|
  callD Try.prog 6 [] H (panK R) fun v H5 =>
  tBool v fun b =>
  R (.returned (.bool b)) H5
theorem L0_step {s3 : Option Addr} {s3n : Nat} {s3c : Nat} {s4 : Option Addr} {s4n : Nat} {s4c : Nat} {s25 : Option Addr} {s25n : Nat} {s25c : Nat} {s26 : Int} {s27 : Int} {H : Heap} {R : Ending → Heap → Prop} (h : L0n s3 s3n s3c s4 s4n s4c s25 s25n s25c s26 s27 H R) : L0 s3 s3n s3c s4 s4n s4c s25 s25n s25c s26 s27 H R :=
  goL_of_den (an := an) (fuel := 100000) (X := L0n s3 s3n s3c s4 s4n s4c s25 s25n s25c s26 s27 H R) mixed fn (by kernel_rfl) (fun ρ0 => by kernel_rfl) h
def L1n (s3 : Option Addr) (s3n : Nat) (s3c : Nat) (s4 : Option Addr) (s4n : Nat) (s4c : Nat) (s5 : Int) (s6 : Nat) (s7 : Option Addr) (s7n : Nat) (s7c : Nat) (s8 : Int) (s9 : Bool) (s25 : Option Addr) (s25n : Nat) (s25c : Nat) (s26 : Int) (s27 : Int) (s32 : Option Addr) (s32n : Nat) (s32c : Nat) (s33 : Int) (s34 : Int) (H : Heap) (R : Ending → Heap → Prop) : Prop :=
  iteB (decide (s34 < s33)) (
    idxD s32 s32n s34 fun a =>
    ldInt H (Addr.add a (Int.toNat s34 * 3)) .i64 fun n =>
    ldInt H (Addr.add (Addr.add a (Int.toNat s34 * 3)) 1) .i64 fun n1 =>
    ldInt H (Addr.add (Addr.add a (Int.toNat s34 * 3)) 2) .i64 fun n2 =>
    newD H (.cells ⟨[(.int .i64 (0 : Int)), (.int .i64 (0 : Int)), (.int .i64 (0 : Int))]⟩ 27) fun r H1 =>
    st1 H1 ⟨r, 0, none⟩ (.int .i64 n) fun H2 =>
    st1 H2 ⟨r, 1, none⟩ (.int .i64 n1) fun H3 =>
    st1 H3 ⟨r, 2, none⟩ (.int .i64 n2) fun H4 =>
    iteB (decide (s8 < (0 : Int))) (
      L5 s3 s3n s3c s4 s4n s4c s5 s6 s7 s7n s7c s9 r s25 s25n s25c s26 s27 s32 s32n s32c s33 s34 H4 R) <|
    ldInt H4 ⟨r, 2, none⟩ .i64 fun n3 =>
    iteB (decide (n3 < s8)) (
      L5 s3 s3n s3c s4 s4n s4c s5 s6 s7 s7n s7c s9 r s25 s25n s25c s26 s27 s32 s32n s32c s33 s34 H4 R) <|
    L6 s3 s3n s3c s4 s4n s4c s5 s6 s7 s7n s7c s8 s9 r s25 s25n s25c s26 s27 s32 s32n s32c s33 s34 H4 R) <|
  ldInt H ⟨s6, 0, none⟩ .i64 fun n4 =>
  iteB (n4 == (1 : Int)) (
    ldInt H ⟨s6, 0, none⟩ .i64 fun n5 =>
    ldInt H ⟨s6, 1, none⟩ .i64 fun n6 =>
    ldInt H ⟨s6, 2, none⟩ .i64 fun n7 =>
    newD H (.cells ⟨[(.int .i64 n5), (.int .i64 n6), (.int .i64 n7)]⟩ 27) fun r1 H5 =>
    apD H5 3 24 [(.int .i64 (0 : Int)), (.int .i64 (0 : Int)), (.int .i64 (0 : Int))] 27 s7 s7n s7c (some ⟨r1, 0, none⟩) 1 fun q qn qc H6 =>
    L2 s3 s3n s3c s4 s4n s4c s5 s6 q qn qc s8 s9 s25 s25n s25c s26 s27 H6 R) <|
  L2 s3 s3n s3c s4 s4n s4c s5 s6 s7 s7n s7c s8 s9 s25 s25n s25c s26 s27 H R
theorem L1_step {s3 : Option Addr} {s3n : Nat} {s3c : Nat} {s4 : Option Addr} {s4n : Nat} {s4c : Nat} {s5 : Int} {s6 : Nat} {s7 : Option Addr} {s7n : Nat} {s7c : Nat} {s8 : Int} {s9 : Bool} {s25 : Option Addr} {s25n : Nat} {s25c : Nat} {s26 : Int} {s27 : Int} {s32 : Option Addr} {s32n : Nat} {s32c : Nat} {s33 : Int} {s34 : Int} {H : Heap} {R : Ending → Heap → Prop} (h : L1n s3 s3n s3c s4 s4n s4c s5 s6 s7 s7n s7c s8 s9 s25 s25n s25c s26 s27 s32 s32n s32c s33 s34 H R) : L1 s3 s3n s3c s4 s4n s4c s5 s6 s7 s7n s7c s8 s9 s25 s25n s25c s26 s27 s32 s32n s32c s33 s34 H R :=
  goL_of_den (an := an) (fuel := 100000) (X := L1n s3 s3n s3c s4 s4n s4c s5 s6 s7 s7n s7c s8 s9 s25 s25n s25c s26 s27 s32 s32n s32c s33 s34 H R) mixed fn (by kernel_rfl) (fun ρ0 => by kernel_rfl) h
def L2n (s3 : Option Addr) (s3n : Nat) (s3c : Nat) (s4 : Option Addr) (s4n : Nat) (s4c : Nat) (s5 : Int) (s6 : Nat) (s7 : Option Addr) (s7n : Nat) (s7c : Nat) (s8 : Int) (s9 : Bool) (s25 : Option Addr) (s25n : Nat) (s25c : Nat) (s26 : Int) (s27 : Int) (H : Heap) (R : Ending → Heap → Prop) : Prop :=
  ldInt H ⟨s6, 0, none⟩ .i64 fun n =>
  iteB (n == (2 : Int)) (
    idxD s3 s3n s5 fun a =>
    ldBool H (Addr.add a (Int.toNat s5 * 4)) fun b =>
    iteB (!(b == (decide (((s4n : Nat) : Int) > (0 : Int))))) (
      R (.returned (.bool false)) H) <|
    idxD s3 s3n s5 fun a1 =>
    ldBool H (Addr.add a1 (Int.toNat s5 * 4)) fun b1 =>
    iteB b1 (
      idxD s3 s3n s5 fun a2 =>
      ldInt H (Addr.add (Addr.add a2 (Int.toNat s5 * 4)) 2) .i64 fun n1 =>
      iteB (n1 != s8) (
        R (.returned (.bool false)) H) <|
      iteB (!s9) (
        R (.returned (.bool false)) H) <|
      L3 s3 s3n s3c s4 s4n s4c s5 s6 s7 s7n s7c s25 s25n s25c s26 s27 H R) <|
    L3 s3 s3n s3c s4 s4n s4c s5 s6 s7 s7n s7c s25 s25n s25c s26 s27 H R) <|
  ldInt H ⟨s6, 0, none⟩ .i64 fun n2 =>
  iteB (n2 == (3 : Int)) (
    idxD s3 s3n s5 fun a3 =>
    ldBool H (Addr.add a3 (Int.toNat s5 * 4)) fun b2 =>
    iteB (!(b2 == (decide (((s4n : Nat) : Int) > (0 : Int))))) (
      R (.returned (.bool false)) H) <|
    idxD s3 s3n s5 fun a4 =>
    ldBool H (Addr.add a4 (Int.toNat s5 * 4)) fun b3 =>
    iteB b3 (
      idxD s3 s3n s5 fun a5 =>
      ldInt H (Addr.add (Addr.add a5 (Int.toNat s5 * 4)) 2) .i64 fun n3 =>
      iteB (n3 != s8) (
        R (.returned (.bool false)) H) <|
      iteB (!s9) (
        R (.returned (.bool false)) H) <|
      L3 s3 s3n s3c s4 s4n s4c s5 s6 s7 s7n s7c s25 s25n s25c s26 s27 H R) <|
    L3 s3 s3n s3c s4 s4n s4c s5 s6 s7 s7n s7c s25 s25n s25c s26 s27 H R) <|
  L3 s3 s3n s3c s4 s4n s4c s5 s6 s7 s7n s7c s25 s25n s25c s26 s27 H R
theorem L2_step {s3 : Option Addr} {s3n : Nat} {s3c : Nat} {s4 : Option Addr} {s4n : Nat} {s4c : Nat} {s5 : Int} {s6 : Nat} {s7 : Option Addr} {s7n : Nat} {s7c : Nat} {s8 : Int} {s9 : Bool} {s25 : Option Addr} {s25n : Nat} {s25c : Nat} {s26 : Int} {s27 : Int} {H : Heap} {R : Ending → Heap → Prop} (h : L2n s3 s3n s3c s4 s4n s4c s5 s6 s7 s7n s7c s8 s9 s25 s25n s25c s26 s27 H R) : L2 s3 s3n s3c s4 s4n s4c s5 s6 s7 s7n s7c s8 s9 s25 s25n s25c s26 s27 H R :=
  goL_of_den (an := an) (fuel := 100000) (X := L2n s3 s3n s3c s4 s4n s4c s5 s6 s7 s7n s7c s8 s9 s25 s25n s25c s26 s27 H R) mixed fn (by kernel_rfl) (fun ρ0 => by kernel_rfl) h
def L3n (s3 : Option Addr) (s3n : Nat) (s3c : Nat) (s4 : Option Addr) (s4n : Nat) (s4c : Nat) (s5 : Int) (s6 : Nat) (s7 : Option Addr) (s7n : Nat) (s7c : Nat) (s25 : Option Addr) (s25n : Nat) (s25c : Nat) (s26 : Int) (s27 : Int) (H : Heap) (R : Ending → Heap → Prop) : Prop :=
  ldInt H ⟨s6, 0, none⟩ .i64 fun n =>
  iteB (n == (4 : Int)) (
    idxD s3 s3n s5 fun a =>
    ldInt H (Addr.add (Addr.add a (Int.toNat s5 * 4)) 3) .i64 fun n1 =>
    iteB (n1 != ((s4n : Nat) : Int)) (
      R (.returned (.bool false)) H) <|
    L4 s3 s3n s3c s7 s7n s7c s25 s25n s25c s26 s27 H R) <|
  L4 s3 s3n s3c s7 s7n s7c s25 s25n s25c s26 s27 H R
theorem L3_step {s3 : Option Addr} {s3n : Nat} {s3c : Nat} {s4 : Option Addr} {s4n : Nat} {s4c : Nat} {s5 : Int} {s6 : Nat} {s7 : Option Addr} {s7n : Nat} {s7c : Nat} {s25 : Option Addr} {s25n : Nat} {s25c : Nat} {s26 : Int} {s27 : Int} {H : Heap} {R : Ending → Heap → Prop} (h : L3n s3 s3n s3c s4 s4n s4c s5 s6 s7 s7n s7c s25 s25n s25c s26 s27 H R) : L3 s3 s3n s3c s4 s4n s4c s5 s6 s7 s7n s7c s25 s25n s25c s26 s27 H R :=
  goL_of_den (an := an) (fuel := 100000) (X := L3n s3 s3n s3c s4 s4n s4c s5 s6 s7 s7n s7c s25 s25n s25c s26 s27 H R) mixed fn (by kernel_rfl) (fun ρ0 => by kernel_rfl) h
def L4n (s3 : Option Addr) (s3n : Nat) (s3c : Nat) (s7 : Option Addr) (s7n : Nat) (s7c : Nat) (s25 : Option Addr) (s25n : Nat) (s25c : Nat) (s26 : Int) (s27 : Int) (H : Heap) (R : Ending → Heap → Prop) : Prop :=
  L0 s3 s3n s3c s7 s7n s7c s25 s25n s25c s26 (IntKind.wrap .i64 (s27 + (1 : Int))) H R
theorem L4_step {s3 : Option Addr} {s3n : Nat} {s3c : Nat} {s7 : Option Addr} {s7n : Nat} {s7c : Nat} {s25 : Option Addr} {s25n : Nat} {s25c : Nat} {s26 : Int} {s27 : Int} {H : Heap} {R : Ending → Heap → Prop} (h : L4n s3 s3n s3c s7 s7n s7c s25 s25n s25c s26 s27 H R) : L4 s3 s3n s3c s7 s7n s7c s25 s25n s25c s26 s27 H R :=
  goL_of_den (an := an) (fuel := 100000) (X := L4n s3 s3n s3c s7 s7n s7c s25 s25n s25c s26 s27 H R) mixed fn (by kernel_rfl) (fun ρ0 => by kernel_rfl) h
def L5n (s3 : Option Addr) (s3n : Nat) (s3c : Nat) (s4 : Option Addr) (s4n : Nat) (s4c : Nat) (s5 : Int) (s6 : Nat) (s7 : Option Addr) (s7n : Nat) (s7c : Nat) (s9 : Bool) (s11 : Nat) (s25 : Option Addr) (s25n : Nat) (s25c : Nat) (s26 : Int) (s27 : Int) (s32 : Option Addr) (s32n : Nat) (s32c : Nat) (s33 : Int) (s34 : Int) (H : Heap) (R : Ending → Heap → Prop) : Prop :=
  ldInt H ⟨s11, 2, none⟩ .i64 fun n =>
  L6 s3 s3n s3c s4 s4n s4c s5 s6 s7 s7n s7c n s9 s11 s25 s25n s25c s26 s27 s32 s32n s32c s33 s34 H R
theorem L5_step {s3 : Option Addr} {s3n : Nat} {s3c : Nat} {s4 : Option Addr} {s4n : Nat} {s4c : Nat} {s5 : Int} {s6 : Nat} {s7 : Option Addr} {s7n : Nat} {s7c : Nat} {s9 : Bool} {s11 : Nat} {s25 : Option Addr} {s25n : Nat} {s25c : Nat} {s26 : Int} {s27 : Int} {s32 : Option Addr} {s32n : Nat} {s32c : Nat} {s33 : Int} {s34 : Int} {H : Heap} {R : Ending → Heap → Prop} (h : L5n s3 s3n s3c s4 s4n s4c s5 s6 s7 s7n s7c s9 s11 s25 s25n s25c s26 s27 s32 s32n s32c s33 s34 H R) : L5 s3 s3n s3c s4 s4n s4c s5 s6 s7 s7n s7c s9 s11 s25 s25n s25c s26 s27 s32 s32n s32c s33 s34 H R :=
  goL_of_den (an := an) (fuel := 100000) (X := L5n s3 s3n s3c s4 s4n s4c s5 s6 s7 s7n s7c s9 s11 s25 s25n s25c s26 s27 s32 s32n s32c s33 s34 H R) mixed fn (by kernel_rfl) (fun ρ0 => by kernel_rfl) h
def L6n (s3 : Option Addr) (s3n : Nat) (s3c : Nat) (s4 : Option Addr) (s4n : Nat) (s4c : Nat) (s5 : Int) (s6 : Nat) (s7 : Option Addr) (s7n : Nat) (s7c : Nat) (s8 : Int) (s9 : Bool) (s11 : Nat) (s25 : Option Addr) (s25n : Nat) (s25c : Nat) (s26 : Int) (s27 : Int) (s32 : Option Addr) (s32n : Nat) (s32c : Nat) (s33 : Int) (s34 : Int) (H : Heap) (R : Ending → Heap → Prop) : Prop :=
  iteB s9 (
    L7 s3 s3n s3c s4 s4n s4c s5 s6 s7 s7n s7c s8 true s11 s25 s25n s25c s26 s27 s32 s32n s32c s33 s34 H R) <|
  idxD s3 s3n s5 fun a =>
  ldInt H ⟨s11, 1, none⟩ .i64 fun n =>
  ldInt H (Addr.add (Addr.add a (Int.toNat s5 * 4)) 1) .i64 fun n1 =>
  iteB (n == n1) (
    idxD s3 s3n s5 fun a1 =>
    ldInt H ⟨s11, 2, none⟩ .i64 fun n2 =>
    ldInt H (Addr.add (Addr.add a1 (Int.toNat s5 * 4)) 2) .i64 fun n3 =>
    L7 s3 s3n s3c s4 s4n s4c s5 s6 s7 s7n s7c s8 (n2 == n3) s11 s25 s25n s25c s26 s27 s32 s32n s32c s33 s34 H R) <|
  L7 s3 s3n s3c s4 s4n s4c s5 s6 s7 s7n s7c s8 false s11 s25 s25n s25c s26 s27 s32 s32n s32c s33 s34 H R
theorem L6_step {s3 : Option Addr} {s3n : Nat} {s3c : Nat} {s4 : Option Addr} {s4n : Nat} {s4c : Nat} {s5 : Int} {s6 : Nat} {s7 : Option Addr} {s7n : Nat} {s7c : Nat} {s8 : Int} {s9 : Bool} {s11 : Nat} {s25 : Option Addr} {s25n : Nat} {s25c : Nat} {s26 : Int} {s27 : Int} {s32 : Option Addr} {s32n : Nat} {s32c : Nat} {s33 : Int} {s34 : Int} {H : Heap} {R : Ending → Heap → Prop} (h : L6n s3 s3n s3c s4 s4n s4c s5 s6 s7 s7n s7c s8 s9 s11 s25 s25n s25c s26 s27 s32 s32n s32c s33 s34 H R) : L6 s3 s3n s3c s4 s4n s4c s5 s6 s7 s7n s7c s8 s9 s11 s25 s25n s25c s26 s27 s32 s32n s32c s33 s34 H R :=
  goL_of_den (an := an) (fuel := 100000) (X := L6n s3 s3n s3c s4 s4n s4c s5 s6 s7 s7n s7c s8 s9 s11 s25 s25n s25c s26 s27 s32 s32n s32c s33 s34 H R) mixed fn (by kernel_rfl) (fun ρ0 => by kernel_rfl) h
def L7n (s3 : Option Addr) (s3n : Nat) (s3c : Nat) (s4 : Option Addr) (s4n : Nat) (s4c : Nat) (s5 : Int) (s6 : Nat) (s7 : Option Addr) (s7n : Nat) (s7c : Nat) (s8 : Int) (s9 : Bool) (s11 : Nat) (s25 : Option Addr) (s25n : Nat) (s25c : Nat) (s26 : Int) (s27 : Int) (s32 : Option Addr) (s32n : Nat) (s32c : Nat) (s33 : Int) (s34 : Int) (H : Heap) (R : Ending → Heap → Prop) : Prop :=
  ldInt H ⟨s6, 0, none⟩ .i64 fun n =>
  iteB (n == (1 : Int)) (
    ldInt H ⟨s11, 1, none⟩ .i64 fun n1 =>
    ldInt H ⟨s6, 1, none⟩ .i64 fun n2 =>
    iteB (n1 != n2) (
      L8 s3 s3n s3c s4 s4n s4c s5 s6 s7 s7n s7c s8 s9 s11 s25 s25n s25c s26 s27 s32 s32n s32c s33 s34 H R) <|
    ldInt H ⟨s6, 0, none⟩ .i64 fun n3 =>
    iteB (n3 == (3 : Int)) (
      idxD s3 s3n s5 fun a =>
      ldInt H ⟨s11, 1, none⟩ .i64 fun n4 =>
      ldInt H (Addr.add (Addr.add a (Int.toNat s5 * 4)) 1) .i64 fun n5 =>
      iteB (n4 != n5) (
        L8 s3 s3n s3c s4 s4n s4c s5 s6 s7 s7n s7c s8 s9 s11 s25 s25n s25c s26 s27 s32 s32n s32c s33 s34 H R) <|
      ldInt H ⟨s6, 0, none⟩ .i64 fun n6 =>
      iteB (n6 == (2 : Int)) (
        L8 s3 s3n s3c s4 s4n s4c s5 s6 s7 s7n s7c s8 s9 s11 s25 s25n s25c s26 s27 s32 s32n s32c s33 s34 H R) <|
      ldInt H ⟨s6, 0, none⟩ .i64 fun n7 =>
      iteB (n7 == (4 : Int)) (
        L8 s3 s3n s3c s4 s4n s4c s5 s6 s7 s7n s7c s8 s9 s11 s25 s25n s25c s26 s27 s32 s32n s32c s33 s34 H R) <|
      L9 s3 s3n s3c s4 s4n s4c s5 s6 s7 s7n s7c s8 s9 s25 s25n s25c s26 s27 s32 s32n s32c s33 s34 H R) <|
    ldInt H ⟨s6, 0, none⟩ .i64 fun n8 =>
    iteB (n8 == (2 : Int)) (
      L8 s3 s3n s3c s4 s4n s4c s5 s6 s7 s7n s7c s8 s9 s11 s25 s25n s25c s26 s27 s32 s32n s32c s33 s34 H R) <|
    ldInt H ⟨s6, 0, none⟩ .i64 fun n9 =>
    iteB (n9 == (4 : Int)) (
      L8 s3 s3n s3c s4 s4n s4c s5 s6 s7 s7n s7c s8 s9 s11 s25 s25n s25c s26 s27 s32 s32n s32c s33 s34 H R) <|
    L9 s3 s3n s3c s4 s4n s4c s5 s6 s7 s7n s7c s8 s9 s25 s25n s25c s26 s27 s32 s32n s32c s33 s34 H R) <|
  ldInt H ⟨s6, 0, none⟩ .i64 fun n10 =>
  iteB (n10 == (3 : Int)) (
    idxD s3 s3n s5 fun a1 =>
    ldInt H ⟨s11, 1, none⟩ .i64 fun n11 =>
    ldInt H (Addr.add (Addr.add a1 (Int.toNat s5 * 4)) 1) .i64 fun n12 =>
    iteB (n11 != n12) (
      L8 s3 s3n s3c s4 s4n s4c s5 s6 s7 s7n s7c s8 s9 s11 s25 s25n s25c s26 s27 s32 s32n s32c s33 s34 H R) <|
    ldInt H ⟨s6, 0, none⟩ .i64 fun n13 =>
    iteB (n13 == (2 : Int)) (
      L8 s3 s3n s3c s4 s4n s4c s5 s6 s7 s7n s7c s8 s9 s11 s25 s25n s25c s26 s27 s32 s32n s32c s33 s34 H R) <|
    ldInt H ⟨s6, 0, none⟩ .i64 fun n14 =>
    iteB (n14 == (4 : Int)) (
      L8 s3 s3n s3c s4 s4n s4c s5 s6 s7 s7n s7c s8 s9 s11 s25 s25n s25c s26 s27 s32 s32n s32c s33 s34 H R) <|
    L9 s3 s3n s3c s4 s4n s4c s5 s6 s7 s7n s7c s8 s9 s25 s25n s25c s26 s27 s32 s32n s32c s33 s34 H R) <|
  ldInt H ⟨s6, 0, none⟩ .i64 fun n15 =>
  iteB (n15 == (2 : Int)) (
    L8 s3 s3n s3c s4 s4n s4c s5 s6 s7 s7n s7c s8 s9 s11 s25 s25n s25c s26 s27 s32 s32n s32c s33 s34 H R) <|
  ldInt H ⟨s6, 0, none⟩ .i64 fun n16 =>
  iteB (n16 == (4 : Int)) (
    L8 s3 s3n s3c s4 s4n s4c s5 s6 s7 s7n s7c s8 s9 s11 s25 s25n s25c s26 s27 s32 s32n s32c s33 s34 H R) <|
  L9 s3 s3n s3c s4 s4n s4c s5 s6 s7 s7n s7c s8 s9 s25 s25n s25c s26 s27 s32 s32n s32c s33 s34 H R
theorem L7_step {s3 : Option Addr} {s3n : Nat} {s3c : Nat} {s4 : Option Addr} {s4n : Nat} {s4c : Nat} {s5 : Int} {s6 : Nat} {s7 : Option Addr} {s7n : Nat} {s7c : Nat} {s8 : Int} {s9 : Bool} {s11 : Nat} {s25 : Option Addr} {s25n : Nat} {s25c : Nat} {s26 : Int} {s27 : Int} {s32 : Option Addr} {s32n : Nat} {s32c : Nat} {s33 : Int} {s34 : Int} {H : Heap} {R : Ending → Heap → Prop} (h : L7n s3 s3n s3c s4 s4n s4c s5 s6 s7 s7n s7c s8 s9 s11 s25 s25n s25c s26 s27 s32 s32n s32c s33 s34 H R) : L7 s3 s3n s3c s4 s4n s4c s5 s6 s7 s7n s7c s8 s9 s11 s25 s25n s25c s26 s27 s32 s32n s32c s33 s34 H R :=
  goL_of_den (an := an) (fuel := 100000) (X := L7n s3 s3n s3c s4 s4n s4c s5 s6 s7 s7n s7c s8 s9 s11 s25 s25n s25c s26 s27 s32 s32n s32c s33 s34 H R) mixed fn (by kernel_rfl) (fun ρ0 => by kernel_rfl) h
def L8n (s3 : Option Addr) (s3n : Nat) (s3c : Nat) (s4 : Option Addr) (s4n : Nat) (s4c : Nat) (s5 : Int) (s6 : Nat) (s7 : Option Addr) (s7n : Nat) (s7c : Nat) (s8 : Int) (s9 : Bool) (s11 : Nat) (s25 : Option Addr) (s25n : Nat) (s25c : Nat) (s26 : Int) (s27 : Int) (s32 : Option Addr) (s32n : Nat) (s32c : Nat) (s33 : Int) (s34 : Int) (H : Heap) (R : Ending → Heap → Prop) : Prop :=
  ldInt H ⟨s11, 0, none⟩ .i64 fun n =>
  ldInt H ⟨s11, 1, none⟩ .i64 fun n1 =>
  ldInt H ⟨s11, 2, none⟩ .i64 fun n2 =>
  newD H (.cells ⟨[(.int .i64 n), (.int .i64 n1), (.int .i64 n2)]⟩ 27) fun r H1 =>
  apD H1 3 24 [(.int .i64 (0 : Int)), (.int .i64 (0 : Int)), (.int .i64 (0 : Int))] 27 s7 s7n s7c (some ⟨r, 0, none⟩) 1 fun q qn qc H2 =>
  L9 s3 s3n s3c s4 s4n s4c s5 s6 q qn qc s8 s9 s25 s25n s25c s26 s27 s32 s32n s32c s33 s34 H2 R
theorem L8_step {s3 : Option Addr} {s3n : Nat} {s3c : Nat} {s4 : Option Addr} {s4n : Nat} {s4c : Nat} {s5 : Int} {s6 : Nat} {s7 : Option Addr} {s7n : Nat} {s7c : Nat} {s8 : Int} {s9 : Bool} {s11 : Nat} {s25 : Option Addr} {s25n : Nat} {s25c : Nat} {s26 : Int} {s27 : Int} {s32 : Option Addr} {s32n : Nat} {s32c : Nat} {s33 : Int} {s34 : Int} {H : Heap} {R : Ending → Heap → Prop} (h : L8n s3 s3n s3c s4 s4n s4c s5 s6 s7 s7n s7c s8 s9 s11 s25 s25n s25c s26 s27 s32 s32n s32c s33 s34 H R) : L8 s3 s3n s3c s4 s4n s4c s5 s6 s7 s7n s7c s8 s9 s11 s25 s25n s25c s26 s27 s32 s32n s32c s33 s34 H R :=
  goL_of_den (an := an) (fuel := 100000) (X := L8n s3 s3n s3c s4 s4n s4c s5 s6 s7 s7n s7c s8 s9 s11 s25 s25n s25c s26 s27 s32 s32n s32c s33 s34 H R) mixed fn (by kernel_rfl) (fun ρ0 => by kernel_rfl) h
def L9n (s3 : Option Addr) (s3n : Nat) (s3c : Nat) (s4 : Option Addr) (s4n : Nat) (s4c : Nat) (s5 : Int) (s6 : Nat) (s7 : Option Addr) (s7n : Nat) (s7c : Nat) (s8 : Int) (s9 : Bool) (s25 : Option Addr) (s25n : Nat) (s25c : Nat) (s26 : Int) (s27 : Int) (s32 : Option Addr) (s32n : Nat) (s32c : Nat) (s33 : Int) (s34 : Int) (H : Heap) (R : Ending → Heap → Prop) : Prop :=
  L1 s3 s3n s3c s4 s4n s4c s5 s6 s7 s7n s7c s8 s9 s25 s25n s25c s26 s27 s32 s32n s32c s33 (IntKind.wrap .i64 (s34 + (1 : Int))) H R
theorem L9_step {s3 : Option Addr} {s3n : Nat} {s3c : Nat} {s4 : Option Addr} {s4n : Nat} {s4c : Nat} {s5 : Int} {s6 : Nat} {s7 : Option Addr} {s7n : Nat} {s7c : Nat} {s8 : Int} {s9 : Bool} {s25 : Option Addr} {s25n : Nat} {s25c : Nat} {s26 : Int} {s27 : Int} {s32 : Option Addr} {s32n : Nat} {s32c : Nat} {s33 : Int} {s34 : Int} {H : Heap} {R : Ending → Heap → Prop} (h : L9n s3 s3n s3c s4 s4n s4c s5 s6 s7 s7n s7c s8 s9 s25 s25n s25c s26 s27 s32 s32n s32c s33 s34 H R) : L9 s3 s3n s3c s4 s4n s4c s5 s6 s7 s7n s7c s8 s9 s25 s25n s25c s26 s27 s32 s32n s32c s33 s34 H R :=
  goL_of_den (an := an) (fuel := 100000) (X := L9n s3 s3n s3c s4 s4n s4c s5 s6 s7 s7n s7c s8 s9 s25 s25n s25c s26 s27 s32 s32n s32c s33 s34 H R) mixed fn (by kernel_rfl) (fun ρ0 => by kernel_rfl) h
def go (s0 : Option Addr) (s0n : Nat) (s0c : Nat) (H : Heap) (R : Ending → Heap → Prop) : Prop :=
  iteB (decide (((s0n : Nat) : Int) > (2147483647 : Int))) (
    R (.returned (.bool true)) H) <|
  callD Try.prog 4 [(.slice s0 s0n s0c)] H (panK R) fun v H1 =>
  tBool v fun b =>
  iteB (!b) (
    R (.returned (.bool true)) H1) <|
  callD Try.prog 5 [(.slice s0 s0n s0c)] H1 (panK R) fun v1 H2 =>
  tSl v1 fun q qn qc =>
  iteB (((qn : Nat) : Int) != ((s0n : Nat) : Int)) (
    R (.returned (.bool false)) H2) <|
  L0 q qn qc none 0 0 s0 s0n s0c ((s0n : Nat) : Int) (0 : Int) H2 R
theorem calls {s0 : Option Addr} {s0n : Nat} {s0c : Nat} {H : Heap} {R : Ending → Heap → Prop} (h : go s0 s0n s0c H R) : CallsH Try.prog 3 ⟨[(.slice s0 s0n s0c)]⟩ H R :=
  callsH_of_den (an := an) (fuel := 100000) (X := go s0 s0n s0c H R) (c := body) mixed fn (by kernel_rfl) (by kernel_rfl) (by kernel_rfl) ok (by kernel_rfl) h
end F3
/-! ### 4 "pub-stadtholder/laws.queueOps" -/
namespace F4
def an : Ann := { kinds := [], taus := [], pairs := [], lab := [(40000003, [0, 5, 6, 7]), (40000007, [0, 5, 6, 7])] }
noncomputable def body : Code := (Try.f4.body).getD .skip
theorem fn : Try.prog.funcs[4]? = some Try.f4 := by kernel_rfl
theorem ok : codeOk an 33 body = true := by kernel_rfl
noncomputable def L0t : List Item := [.code (sub [1, 0, 1, 0, 0] body), .inLoop (sub [1, 0, 1, 0, 0] body), .inBlock 0, .code (sub [1, 1] body)]
def L0 (l : Option Addr) (ln : Nat) (lc : Nat) (s5 : Option Addr) (s5n : Nat) (s5c : Nat) (s6 : Int) (s7 : Int) (H : Heap) (R : Ending → Heap → Prop) : Prop :=
  GoL Try.prog 4 33 L0t [0, 5, 6, 7] [(.slice l ln lc), (.slice s5 s5n s5c), (.int .i64 s6), (.int .i64 s7)] H R
noncomputable def L1t : List Item := [.code (sub [1, 0, 1, 0, 0, 1, 1, 1] body), .inLoop (sub [1, 0, 1, 0, 0] body), .inBlock 0, .code (sub [1, 1] body)]
def L1 (l : Option Addr) (ln : Nat) (lc : Nat) (s5 : Option Addr) (s5n : Nat) (s5c : Nat) (s6 : Int) (s7 : Int) (H : Heap) (R : Ending → Heap → Prop) : Prop :=
  GoL Try.prog 4 33 L1t [0, 5, 6, 7] [(.slice l ln lc), (.slice s5 s5n s5c), (.int .i64 s6), (.int .i64 s7)] H R
def L0n (l : Option Addr) (ln : Nat) (lc : Nat) (s5 : Option Addr) (s5n : Nat) (s5c : Nat) (s6 : Int) (s7 : Int) (H : Heap) (R : Ending → Heap → Prop) : Prop :=
  iteB (decide (s7 < s6)) (
    idxD s5 s5n s7 fun a =>
    ldInt H (Addr.add a (Int.toNat s7 * 3)) .i64 fun n =>
    ldInt H (Addr.add (Addr.add a (Int.toNat s7 * 3)) 1) .i64 fun n1 =>
    ldInt H (Addr.add (Addr.add a (Int.toNat s7 * 3)) 2) .i64 fun n2 =>
    newD H (.cells ⟨[(.int .i64 (0 : Int)), (.int .i64 (0 : Int)), (.int .i64 (0 : Int))]⟩ 27) fun r H1 =>
    st1 H1 ⟨r, 0, none⟩ (.int .i64 n) fun H2 =>
    st1 H2 ⟨r, 1, none⟩ (.int .i64 n1) fun H3 =>
    st1 H3 ⟨r, 2, none⟩ (.int .i64 n2) fun H4 =>
    ldInt H4 ⟨r, 0, none⟩ .i64 fun n3 =>
    iteB (decide (n3 < (1 : Int))) (
      R (.returned (.bool false)) H4) <|
    ldInt H4 ⟨r, 0, none⟩ .i64 fun n4 =>
    iteB (decide (n4 > (4 : Int))) (
      R (.returned (.bool false)) H4) <|
    ldInt H4 ⟨r, 2, none⟩ .i64 fun n5 =>
    iteB (decide (n5 < (0 : Int))) (
      R (.returned (.bool false)) H4) <|
    ldInt H4 ⟨r, 2, none⟩ .i64 fun n6 =>
    iteB (decide (n6 > (1152921504606846976 : Int))) (
      R (.returned (.bool false)) H4) <|
    L1 l ln lc s5 s5n s5c s6 s7 H4 R) <|
  R (.returned (.bool (decide (((ln : Nat) : Int) ≤ (200 : Int))))) H
theorem L0_step {l : Option Addr} {ln : Nat} {lc : Nat} {s5 : Option Addr} {s5n : Nat} {s5c : Nat} {s6 : Int} {s7 : Int} {H : Heap} {R : Ending → Heap → Prop} (h : L0n l ln lc s5 s5n s5c s6 s7 H R) : L0 l ln lc s5 s5n s5c s6 s7 H R :=
  goL_of_den (an := an) (fuel := 100000) (X := L0n l ln lc s5 s5n s5c s6 s7 H R) mixed fn (by kernel_rfl) (fun ρ0 => by kernel_rfl) h
def L1n (l : Option Addr) (ln : Nat) (lc : Nat) (s5 : Option Addr) (s5n : Nat) (s5c : Nat) (s6 : Int) (s7 : Int) (H : Heap) (R : Ending → Heap → Prop) : Prop :=
  L0 l ln lc s5 s5n s5c s6 (IntKind.wrap .i64 (s7 + (1 : Int))) H R
theorem L1_step {l : Option Addr} {ln : Nat} {lc : Nat} {s5 : Option Addr} {s5n : Nat} {s5c : Nat} {s6 : Int} {s7 : Int} {H : Heap} {R : Ending → Heap → Prop} (h : L1n l ln lc s5 s5n s5c s6 s7 H R) : L1 l ln lc s5 s5n s5c s6 s7 H R :=
  goL_of_den (an := an) (fuel := 100000) (X := L1n l ln lc s5 s5n s5c s6 s7 H R) mixed fn (by kernel_rfl) (fun ρ0 => by kernel_rfl) h
def go (l : Option Addr) (ln : Nat) (lc : Nat) (H : Heap) (R : Ending → Heap → Prop) : Prop :=
  L0 l ln lc l ln lc ((ln : Nat) : Int) (0 : Int) H R
theorem calls {l : Option Addr} {ln : Nat} {lc : Nat} {H : Heap} {R : Ending → Heap → Prop} (h : go l ln lc H R) : CallsH Try.prog 4 ⟨[(.slice l ln lc)]⟩ H R :=
  callsH_of_den (an := an) (fuel := 100000) (X := go l ln lc H R) (c := body) mixed fn (by kernel_rfl) (by kernel_rfl) (by kernel_rfl) ok (by kernel_rfl) h
end F4
/-! ### 5 "pub-stadtholder/impl.Queue" -/
namespace F5
def an : Ann := { kinds := [(9005, .grow)], taus := [(9, [[0, 1, 3, 2, 4, 5, 6, 7]])], pairs := [], lab := [(40000005, [0, 3, 4, 5]), (80000015, [0, 3, 4, 5, 6, 7]), (80000018, [0, 3, 4, 5, 6, 7]), (80000016, [0, 3, 4, 5, 7]), (80000013, [0, 3, 4, 5, 7]), (60000020, [0, 3, 4, 5, 7])] }
noncomputable def body : Code := (Try.f5.body).getD .skip
theorem fn : Try.prog.funcs[5]? = some Try.f5 := by kernel_rfl
theorem ok : codeOk an 87 body = true := by kernel_rfl
noncomputable def L0t : List Item := [.code (sub [1, 1, 1, 0, 1, 0, 0] body), .inLoop (sub [1, 1, 1, 0, 1, 0, 0] body), .inBlock 0, .code (sub [1, 1, 1, 1] body)]
def L0 (s0 : Option Addr) (s0n : Nat) (s0c : Nat) (s3 : Option Addr) (s4 : Option Addr) (s4n : Nat) (s4c : Nat) (s5 : Int) (H : Heap) (R : Ending → Heap → Prop) : Prop :=
  GoL Try.prog 5 87 L0t [0, 3, 4, 5] [(.slice s0 s0n s0c), (.pointer s3), (.slice s4 s4n s4c), (.int .i64 s5)] H R
noncomputable def L1t : List Item := [.code (sub [1, 1, 1, 0, 1, 0, 0, 1, 0, 0, 1, 1, 0, 0, 1, 1, 1, 1] body), .inBlock 2, .code (sub [1, 1, 1, 0, 1, 0, 0, 1, 0, 0, 1, 1, 1] body), .inBlock 1, .code (sub [1, 1, 1, 0, 1, 0, 0, 1, 1] body), .inLoop (sub [1, 1, 1, 0, 1, 0, 0] body), .inBlock 0, .code (sub [1, 1, 1, 1] body)]
def L1 (s0 : Option Addr) (s0n : Nat) (s0c : Nat) (s3 : Option Addr) (s4 : Option Addr) (s4n : Nat) (s4c : Nat) (s5 : Int) (s6 : Nat) (s7 : Nat) (H : Heap) (R : Ending → Heap → Prop) : Prop :=
  GoL Try.prog 5 87 L1t [0, 3, 4, 5, 6, 7] [(.slice s0 s0n s0c), (.pointer s3), (.slice s4 s4n s4c), (.int .i64 s5), (.pointer (some ⟨s6, 0, none⟩)), (.pointer (some ⟨s7, 0, none⟩))] H R
noncomputable def L2t : List Item := [.code (sub [1, 1, 1, 0, 1, 0, 0, 1, 0, 0, 1, 1, 0, 0, 1, 1, 1, 1, 1, 1] body), .inBlock 2, .code (sub [1, 1, 1, 0, 1, 0, 0, 1, 0, 0, 1, 1, 1] body), .inBlock 1, .code (sub [1, 1, 1, 0, 1, 0, 0, 1, 1] body), .inLoop (sub [1, 1, 1, 0, 1, 0, 0] body), .inBlock 0, .code (sub [1, 1, 1, 1] body)]
def L2 (s0 : Option Addr) (s0n : Nat) (s0c : Nat) (s3 : Option Addr) (s4 : Option Addr) (s4n : Nat) (s4c : Nat) (s5 : Int) (s6 : Nat) (s7 : Nat) (H : Heap) (R : Ending → Heap → Prop) : Prop :=
  GoL Try.prog 5 87 L2t [0, 3, 4, 5, 6, 7] [(.slice s0 s0n s0c), (.pointer s3), (.slice s4 s4n s4c), (.int .i64 s5), (.pointer (some ⟨s6, 0, none⟩)), (.pointer (some ⟨s7, 0, none⟩))] H R
noncomputable def L3t : List Item := [.code (sub [1, 1, 1, 0, 1, 0, 0, 1, 0, 0, 1, 1, 0, 0, 1, 1, 1, 1, 1, 0] body), .inBlock 2, .code (sub [1, 1, 1, 0, 1, 0, 0, 1, 0, 0, 1, 1, 1] body), .inBlock 1, .code (sub [1, 1, 1, 0, 1, 0, 0, 1, 1] body), .inLoop (sub [1, 1, 1, 0, 1, 0, 0] body), .inBlock 0, .code (sub [1, 1, 1, 1] body)]
def L3 (s0 : Option Addr) (s0n : Nat) (s0c : Nat) (s3 : Option Addr) (s4 : Option Addr) (s4n : Nat) (s4c : Nat) (s5 : Int) (s7 : Nat) (H : Heap) (R : Ending → Heap → Prop) : Prop :=
  GoL Try.prog 5 87 L3t [0, 3, 4, 5, 7] [(.slice s0 s0n s0c), (.pointer s3), (.slice s4 s4n s4c), (.int .i64 s5), (.pointer (some ⟨s7, 0, none⟩))] H R
noncomputable def L4t : List Item := [.code (sub [1, 1, 1, 0, 1, 0, 0, 1, 0, 0, 1, 1, 0, 0, 1, 1, 1, 0] body), .inBlock 2, .code (sub [1, 1, 1, 0, 1, 0, 0, 1, 0, 0, 1, 1, 1] body), .inBlock 1, .code (sub [1, 1, 1, 0, 1, 0, 0, 1, 1] body), .inLoop (sub [1, 1, 1, 0, 1, 0, 0] body), .inBlock 0, .code (sub [1, 1, 1, 1] body)]
def L4 (s0 : Option Addr) (s0n : Nat) (s0c : Nat) (s3 : Option Addr) (s4 : Option Addr) (s4n : Nat) (s4c : Nat) (s5 : Int) (s7 : Nat) (H : Heap) (R : Ending → Heap → Prop) : Prop :=
  GoL Try.prog 5 87 L4t [0, 3, 4, 5, 7] [(.slice s0 s0n s0c), (.pointer s3), (.slice s4 s4n s4c), (.int .i64 s5), (.pointer (some ⟨s7, 0, none⟩))] H R
noncomputable def L5t : List Item := [.code (sub [1, 1, 1, 0, 1, 0, 0, 1, 0, 0, 1, 1, 1] body), .inBlock 1, .code (sub [1, 1, 1, 0, 1, 0, 0, 1, 1] body), .inLoop (sub [1, 1, 1, 0, 1, 0, 0] body), .inBlock 0, .code (sub [1, 1, 1, 1] body)]
def L5 (s0 : Option Addr) (s0n : Nat) (s0c : Nat) (s3 : Option Addr) (s4 : Option Addr) (s4n : Nat) (s4c : Nat) (s5 : Int) (s7 : Nat) (H : Heap) (R : Ending → Heap → Prop) : Prop :=
  GoL Try.prog 5 87 L5t [0, 3, 4, 5, 7] [(.slice s0 s0n s0c), (.pointer s3), (.slice s4 s4n s4c), (.int .i64 s5), (.pointer (some ⟨s7, 0, none⟩))] H R
def L0n (s0 : Option Addr) (s0n : Nat) (s0c : Nat) (s3 : Option Addr) (s4 : Option Addr) (s4n : Nat) (s4c : Nat) (s5 : Int) (H : Heap) (R : Ending → Heap → Prop) : Prop :=
  iteB (decide (s5 < ((s0n : Nat) : Int))) (
    idxD s0 s0n s5 fun a =>
    ldInt H (Addr.add a (Int.toNat s5 * 3)) .i64 fun n =>
    ldInt H (Addr.add (Addr.add a (Int.toNat s5 * 3)) 1) .i64 fun n1 =>
    ldInt H (Addr.add (Addr.add a (Int.toNat s5 * 3)) 2) .i64 fun n2 =>
    newD H (.cells ⟨[(.int .i64 (0 : Int)), (.int .i64 (0 : Int)), (.int .i64 (0 : Int))]⟩ 27) fun r H1 =>
    st1 H1 ⟨r, 0, none⟩ (.int .i64 n) fun H2 =>
    st1 H2 ⟨r, 1, none⟩ (.int .i64 n1) fun H3 =>
    st1 H3 ⟨r, 2, none⟩ (.int .i64 n2) fun H4 =>
    newD H4 (.cells ⟨[(.bool false), (.int .i64 (0 : Int)), (.int .i64 (0 : Int)), (.int .i64 (0 : Int))]⟩ 29) fun r1 H5 =>
    st1 H5 ⟨r1, 0, none⟩ (.bool false) fun H6 =>
    st1 H6 ⟨r1, 1, none⟩ (.int .i64 (0 : Int)) fun H7 =>
    st1 H7 ⟨r1, 2, none⟩ (.int .i64 (0 : Int)) fun H8 =>
    st1 H8 ⟨r1, 3, none⟩ (.int .i64 (0 : Int)) fun H9 =>
    ldInt H9 ⟨r, 0, none⟩ .i64 fun n3 =>
    iteB (n3 == (1 : Int)) (
      ldInt H9 ⟨r, 1, none⟩ .i64 fun n4 =>
      ldInt H9 ⟨r, 2, none⟩ .i64 fun n5 =>
      callD Try.prog 10 [(.int .i64 n5)] H9 nope fun v H10 =>
      tAgg v fun l =>
      tCons l fun c l1 =>
      tInt c .i64 fun n6 =>
      tCons l1 fun c1 l2 =>
      tInt c1 .i64 fun n7 =>
      tCons l2 fun c2 l3 =>
      tBool c2 fun b =>
      tNil l3 <|
      andD (ExtH H9 H10) <|
      callD Try.prog 9 [(.int .i64 n4), (.agg ⟨[(.int .i64 n6), (.int .i64 n7), (.bool b)]⟩)] H10 (panK R) fun v1 H11 =>
      tPtr v1 fun p =>
      callD Try.prog 8 [(.pointer s3), (.pointer p)] H11 (panK R) fun v2 H12 =>
      tTup v2 fun l4 =>
      tNil l4 <|
      st1 H12 ⟨r1, 0, none⟩ (.bool true) fun H13 =>
      L5 s0 s0n s0c s3 s4 s4n s4c s5 r1 H13 R) <|
    ldInt H9 ⟨r, 0, none⟩ .i64 fun n8 =>
    iteB (n8 == (2 : Int)) (
      callD Try.prog 11 [(.pointer s3)] H9 (panK R) fun v3 H14 =>
      tPtr v3 fun p1 =>
      iteB (!(Option.isNone p1)) (
        L4 s0 s0n s0c s3 s4 s4n s4c s5 r1 H14 R) <|
      L1 s0 s0n s0c s3 s4 s4n s4c s5 r r1 H14 R) <|
    L1 s0 s0n s0c s3 s4 s4n s4c s5 r r1 H9 R) <|
  R (.returned (.slice s4 s4n s4c)) H
theorem L0_step {s0 : Option Addr} {s0n : Nat} {s0c : Nat} {s3 : Option Addr} {s4 : Option Addr} {s4n : Nat} {s4c : Nat} {s5 : Int} {H : Heap} {R : Ending → Heap → Prop} (h : L0n s0 s0n s0c s3 s4 s4n s4c s5 H R) : L0 s0 s0n s0c s3 s4 s4n s4c s5 H R :=
  goL_of_den (an := an) (fuel := 100000) (X := L0n s0 s0n s0c s3 s4 s4n s4c s5 H R) mixed fn (by kernel_rfl) (fun ρ0 => by kernel_rfl) h
def L1n (s0 : Option Addr) (s0n : Nat) (s0c : Nat) (s3 : Option Addr) (s4 : Option Addr) (s4n : Nat) (s4c : Nat) (s5 : Int) (s6 : Nat) (s7 : Nat) (H : Heap) (R : Ending → Heap → Prop) : Prop :=
  ldInt H ⟨s6, 0, none⟩ .i64 fun n =>
  iteB (n == (3 : Int)) (
    callD Try.prog 14 [(.pointer s3)] H (panK R) fun v H1 =>
    tInt v .i64 fun n1 =>
    iteB (decide (n1 > (0 : Int))) (
      L3 s0 s0n s0c s3 s4 s4n s4c s5 s7 H1 R) <|
    L2 s0 s0n s0c s3 s4 s4n s4c s5 s6 s7 H1 R) <|
  L2 s0 s0n s0c s3 s4 s4n s4c s5 s6 s7 H R
theorem L1_step {s0 : Option Addr} {s0n : Nat} {s0c : Nat} {s3 : Option Addr} {s4 : Option Addr} {s4n : Nat} {s4c : Nat} {s5 : Int} {s6 : Nat} {s7 : Nat} {H : Heap} {R : Ending → Heap → Prop} (h : L1n s0 s0n s0c s3 s4 s4n s4c s5 s6 s7 H R) : L1 s0 s0n s0c s3 s4 s4n s4c s5 s6 s7 H R :=
  goL_of_den (an := an) (fuel := 100000) (X := L1n s0 s0n s0c s3 s4 s4n s4c s5 s6 s7 H R) mixed fn (by kernel_rfl) (fun ρ0 => by kernel_rfl) h
def L2n (s0 : Option Addr) (s0n : Nat) (s0c : Nat) (s3 : Option Addr) (s4 : Option Addr) (s4n : Nat) (s4c : Nat) (s5 : Int) (s6 : Nat) (s7 : Nat) (H : Heap) (R : Ending → Heap → Prop) : Prop :=
  ldInt H ⟨s6, 0, none⟩ .i64 fun n =>
  iteB (n == (4 : Int)) (
    callD Try.prog 14 [(.pointer s3)] H (panK R) fun v H1 =>
    tInt v .i64 fun n1 =>
    st1 H1 ⟨s7, 0, none⟩ (.bool true) fun H2 =>
    st1 H2 ⟨s7, 1, none⟩ (.int .i64 (0 : Int)) fun H3 =>
    st1 H3 ⟨s7, 2, none⟩ (.int .i64 (0 : Int)) fun H4 =>
    st1 H4 ⟨s7, 3, none⟩ (.int .i64 n1) fun H5 =>
    L5 s0 s0n s0c s3 s4 s4n s4c s5 s7 H5 R) <|
  L5 s0 s0n s0c s3 s4 s4n s4c s5 s7 H R
theorem L2_step {s0 : Option Addr} {s0n : Nat} {s0c : Nat} {s3 : Option Addr} {s4 : Option Addr} {s4n : Nat} {s4c : Nat} {s5 : Int} {s6 : Nat} {s7 : Nat} {H : Heap} {R : Ending → Heap → Prop} (h : L2n s0 s0n s0c s3 s4 s4n s4c s5 s6 s7 H R) : L2 s0 s0n s0c s3 s4 s4n s4c s5 s6 s7 H R :=
  goL_of_den (an := an) (fuel := 100000) (X := L2n s0 s0n s0c s3 s4 s4n s4c s5 s6 s7 H R) mixed fn (by kernel_rfl) (fun ρ0 => by kernel_rfl) h
def L3n (s0 : Option Addr) (s0n : Nat) (s0c : Nat) (s3 : Option Addr) (s4 : Option Addr) (s4n : Nat) (s4c : Nat) (s5 : Int) (s7 : Nat) (H : Heap) (R : Ending → Heap → Prop) : Prop :=
  callD Try.prog 15 [(.pointer s3)] H (panK R) fun v H1 =>
  tPtr v fun p =>
  callD Try.prog 12 [(.pointer p)] H1 (panK R) fun v1 H2 =>
  tTup v1 fun l =>
  tCons l fun c l1 =>
  tInt c .i64 fun n =>
  tCons l1 fun c1 l2 =>
  tAgg c1 fun l3 =>
  tCons l3 fun c2 l4 =>
  tInt c2 .i64 fun n1 =>
  tCons l4 fun c3 l5 =>
  tInt c3 .i64 fun n2 =>
  tCons l5 fun c4 l6 =>
  tBool c4 fun b =>
  tNil l6 <|
  tNil l2 <|
  newD H2 (.cells ⟨[(.int .i64 (0 : Int)), (.int .i64 (0 : Int)), (.bool false)]⟩ 38) fun r H3 =>
  st1 H3 ⟨r, 0, none⟩ (.int .i64 n1) fun H4 =>
  st1 H4 ⟨r, 1, none⟩ (.int .i64 n2) fun H5 =>
  st1 H5 ⟨r, 2, none⟩ (.bool b) fun H6 =>
  ldInt H6 ⟨r, 0, none⟩ .i64 fun n3 =>
  ldInt H6 ⟨r, 1, none⟩ .i64 fun n4 =>
  ldBool H6 ⟨r, 2, none⟩ fun b1 =>
  callD Try.prog 13 [(.agg ⟨[(.int .i64 n3), (.int .i64 n4), (.bool b1)]⟩)] H6 (panK R) fun v2 H7 =>
  tInt v2 .i64 fun n5 =>
  st1 H7 ⟨s7, 0, none⟩ (.bool true) fun H8 =>
  st1 H8 ⟨s7, 1, none⟩ (.int .i64 n) fun H9 =>
  st1 H9 ⟨s7, 2, none⟩ (.int .i64 n5) fun H10 =>
  st1 H10 ⟨s7, 3, none⟩ (.int .i64 (0 : Int)) fun H11 =>
  L5 s0 s0n s0c s3 s4 s4n s4c s5 s7 H11 R
theorem L3_step {s0 : Option Addr} {s0n : Nat} {s0c : Nat} {s3 : Option Addr} {s4 : Option Addr} {s4n : Nat} {s4c : Nat} {s5 : Int} {s7 : Nat} {H : Heap} {R : Ending → Heap → Prop} (h : L3n s0 s0n s0c s3 s4 s4n s4c s5 s7 H R) : L3 s0 s0n s0c s3 s4 s4n s4c s5 s7 H R :=
  goL_of_den (an := an) (fuel := 100000) (X := L3n s0 s0n s0c s3 s4 s4n s4c s5 s7 H R) mixed fn (by kernel_rfl) (fun ρ0 => by kernel_rfl) h
def L4n (s0 : Option Addr) (s0n : Nat) (s0c : Nat) (s3 : Option Addr) (s4 : Option Addr) (s4n : Nat) (s4c : Nat) (s5 : Int) (s7 : Nat) (H : Heap) (R : Ending → Heap → Prop) : Prop :=
  callD Try.prog 11 [(.pointer s3)] H (panK R) fun v H1 =>
  tPtr v fun p =>
  callD Try.prog 12 [(.pointer p)] H1 (panK R) fun v1 H2 =>
  tTup v1 fun l =>
  tCons l fun c l1 =>
  tInt c .i64 fun n =>
  tCons l1 fun c1 l2 =>
  tAgg c1 fun l3 =>
  tCons l3 fun c2 l4 =>
  tInt c2 .i64 fun n1 =>
  tCons l4 fun c3 l5 =>
  tInt c3 .i64 fun n2 =>
  tCons l5 fun c4 l6 =>
  tBool c4 fun b =>
  tNil l6 <|
  tNil l2 <|
  newD H2 (.cells ⟨[(.int .i64 (0 : Int)), (.int .i64 (0 : Int)), (.bool false)]⟩ 38) fun r H3 =>
  st1 H3 ⟨r, 0, none⟩ (.int .i64 n1) fun H4 =>
  st1 H4 ⟨r, 1, none⟩ (.int .i64 n2) fun H5 =>
  st1 H5 ⟨r, 2, none⟩ (.bool b) fun H6 =>
  ldInt H6 ⟨r, 0, none⟩ .i64 fun n3 =>
  ldInt H6 ⟨r, 1, none⟩ .i64 fun n4 =>
  ldBool H6 ⟨r, 2, none⟩ fun b1 =>
  callD Try.prog 13 [(.agg ⟨[(.int .i64 n3), (.int .i64 n4), (.bool b1)]⟩)] H6 (panK R) fun v2 H7 =>
  tInt v2 .i64 fun n5 =>
  st1 H7 ⟨s7, 0, none⟩ (.bool true) fun H8 =>
  st1 H8 ⟨s7, 1, none⟩ (.int .i64 n) fun H9 =>
  st1 H9 ⟨s7, 2, none⟩ (.int .i64 n5) fun H10 =>
  st1 H10 ⟨s7, 3, none⟩ (.int .i64 (0 : Int)) fun H11 =>
  L5 s0 s0n s0c s3 s4 s4n s4c s5 s7 H11 R
theorem L4_step {s0 : Option Addr} {s0n : Nat} {s0c : Nat} {s3 : Option Addr} {s4 : Option Addr} {s4n : Nat} {s4c : Nat} {s5 : Int} {s7 : Nat} {H : Heap} {R : Ending → Heap → Prop} (h : L4n s0 s0n s0c s3 s4 s4n s4c s5 s7 H R) : L4 s0 s0n s0c s3 s4 s4n s4c s5 s7 H R :=
  goL_of_den (an := an) (fuel := 100000) (X := L4n s0 s0n s0c s3 s4 s4n s4c s5 s7 H R) mixed fn (by kernel_rfl) (fun ρ0 => by kernel_rfl) h
def L5n (s0 : Option Addr) (s0n : Nat) (s0c : Nat) (s3 : Option Addr) (s4 : Option Addr) (s4n : Nat) (s4c : Nat) (s5 : Int) (s7 : Nat) (H : Heap) (R : Ending → Heap → Prop) : Prop :=
  ldBool H ⟨s7, 0, none⟩ fun b =>
  ldInt H ⟨s7, 1, none⟩ .i64 fun n =>
  ldInt H ⟨s7, 2, none⟩ .i64 fun n1 =>
  ldInt H ⟨s7, 3, none⟩ .i64 fun n2 =>
  newD H (.cells ⟨[(.bool b), (.int .i64 n), (.int .i64 n1), (.int .i64 n2)]⟩ 29) fun r H1 =>
  apD H1 4 32 [(.bool false), (.int .i64 (0 : Int)), (.int .i64 (0 : Int)), (.int .i64 (0 : Int))] 29 s4 s4n s4c (some ⟨r, 0, none⟩) 1 fun q qn qc H2 =>
  L0 s0 s0n s0c s3 q qn qc (IntKind.wrap .i64 (s5 + (1 : Int))) H2 R
theorem L5_step {s0 : Option Addr} {s0n : Nat} {s0c : Nat} {s3 : Option Addr} {s4 : Option Addr} {s4n : Nat} {s4c : Nat} {s5 : Int} {s7 : Nat} {H : Heap} {R : Ending → Heap → Prop} (h : L5n s0 s0n s0c s3 s4 s4n s4c s5 s7 H R) : L5 s0 s0n s0c s3 s4 s4n s4c s5 s7 H R :=
  goL_of_den (an := an) (fuel := 100000) (X := L5n s0 s0n s0c s3 s4 s4n s4c s5 s7 H R) mixed fn (by kernel_rfl) (fun ρ0 => by kernel_rfl) h
def go (s0 : Option Addr) (s0n : Nat) (s0c : Nat) (H : Heap) (R : Ending → Heap → Prop) : Prop :=
  callD Try.prog 7 [] H (panK R) fun v H1 =>
  tPtr v fun p =>
  L0 s0 s0n s0c p none 0 0 (0 : Int) H1 R
theorem calls {s0 : Option Addr} {s0n : Nat} {s0c : Nat} {H : Heap} {R : Ending → Heap → Prop} (h : go s0 s0n s0c H R) : CallsH Try.prog 5 ⟨[(.slice s0 s0n s0c)]⟩ H R :=
  callsH_of_den (an := an) (fuel := 100000) (X := go s0 s0n s0c H R) (c := body) mixed fn (by kernel_rfl) (by kernel_rfl) (by kernel_rfl) ok (by kernel_rfl) h
end F5
/-! ### 6 "pub-stadtholder/laws.queueAwake" -/
namespace F6
def an : Ann := { kinds := [], taus := [], pairs := [], lab := [] }
noncomputable def body : Code := (Try.f6.body).getD .skip
theorem fn : Try.prog.funcs[6]? = some Try.f6 := by kernel_rfl
theorem ok : codeOk an 47 body = true := by kernel_rfl
def go  (H : Heap) (R : Ending → Heap → Prop) : Prop :=
  newD H (.cells ⟨[(.int .i64 (1 : Int)), (.int .i64 (1 : Int)), (.int .i64 (5 : Int)), (.int .i64 (1 : Int)), (.int .i64 (2 : Int)), (.int .i64 (3 : Int)), (.int .i64 (2 : Int)), (.int .i64 (0 : Int)), (.int .i64 (0 : Int)), (.int .i64 (1 : Int)), (.int .i64 (2 : Int)), (.int .i64 (9 : Int)), (.int .i64 (3 : Int)), (.int .i64 (0 : Int)), (.int .i64 (0 : Int)), (.int .i64 (4 : Int)), (.int .i64 (0 : Int)), (.int .i64 (0 : Int))]⟩ 27) fun r H1 =>
  callD Try.prog 5 [(.slice (some ⟨r, 0, none⟩) 6 6)] H1 (panK R) fun v H2 =>
  tSl v fun q qn qc =>
  iteB (((qn : Nat) : Int) == (6 : Int)) (
    idxD q qn (2 : Int) fun a =>
    ldBool H2 (Addr.add a (Int.toNat (2 : Int) * 4)) fun b =>
    iteB b (
      idxD q qn (2 : Int) fun a1 =>
      ldInt H2 (Addr.add (Addr.add a1 (Int.toNat (2 : Int) * 4)) 1) .i64 fun n =>
      iteB (n == (2 : Int)) (
        idxD q qn (2 : Int) fun a2 =>
        ldInt H2 (Addr.add (Addr.add a2 (Int.toNat (2 : Int) * 4)) 2) .i64 fun n1 =>
        iteB (n1 == (3 : Int)) (
          idxD q qn (4 : Int) fun a3 =>
          ldInt H2 (Addr.add (Addr.add a3 (Int.toNat (4 : Int) * 4)) 1) .i64 fun n2 =>
          iteB (n2 == (1 : Int)) (
            idxD q qn (5 : Int) fun a4 =>
            ldInt H2 (Addr.add (Addr.add a4 (Int.toNat (5 : Int) * 4)) 3) .i64 fun n3 =>
            R (.returned (.bool (n3 == (1 : Int)))) H2) <|
          R (.returned (.bool false)) H2) <|
        R (.returned (.bool false)) H2) <|
      R (.returned (.bool false)) H2) <|
    R (.returned (.bool false)) H2) <|
  R (.returned (.bool false)) H2
theorem calls  {H : Heap} {R : Ending → Heap → Prop} (h : go  H R) : CallsH Try.prog 6 ⟨[]⟩ H R :=
  callsH_of_den (an := an) (fuel := 100000) (X := go  H R) (c := body) mixed fn (by kernel_rfl) (by kernel_rfl) (by kernel_rfl) ok (by kernel_rfl) h
end F6
/-! ### 7 "pub-stadtholder/pub/etcdserver/lease.ZzQueue" -/
namespace F7
def an : Ann := { kinds := [], taus := [], pairs := [], lab := [] }
noncomputable def body : Code := (Try.f7.body).getD .skip
theorem fn : Try.prog.funcs[7]? = some Try.f7 := by kernel_rfl
theorem ok : codeOk an 2 body = true := by kernel_rfl
def go  (H : Heap) (R : Ending → Heap → Prop) : Prop :=
  callD Try.prog 16 [] H (panK R) fun v H1 =>
  tPtr v fun p =>
  R (.returned (.pointer p)) H1
theorem calls  {H : Heap} {R : Ending → Heap → Prop} (h : go  H R) : CallsH Try.prog 7 ⟨[]⟩ H R :=
  callsH_of_den (an := an) (fuel := 100000) (X := go  H R) (c := body) mixed fn (by kernel_rfl) (by kernel_rfl) (by kernel_rfl) ok (by kernel_rfl) h
end F7
/-! ### 8 "(*pub-stadtholder/pub/etcdserver/lease.LeaseExpiredNotifier).RegisterOrUpdate" -/
namespace F8
def an : Ann := { kinds := [(8, .heavy 0), (5009, .heavy 0)], taus := [(0, [[0, 1, 2, 4, 5, 6, 3, 7, 8, 9, 10, 11, 12, 13]]), (3, [[0, 1, 2, 3, 4, 5, 6, 7, 8]]), (5, [[0, 1, 2, 4, 5, 6, 8, 3, 7, 9]])], pairs := [], lab := [] }
noncomputable def body : Code := (Try.f8.body).getD .skip
theorem fn : Try.prog.funcs[8]? = some Try.f8 := by kernel_rfl
theorem ok : codeOk an 51 body = true := by kernel_rfl
def go (mq : Option Addr) (item : Option Addr) (H : Heap) (R : Ending → Heap → Prop) : Prop :=
  nilD mq fun a =>
  nilD item fun a1 =>
  ldMap H a fun m =>
  ldInt H a1 .i64 fun n =>
  valD Try.prog (Instr.lookup 46 (.map m) (.int .i64 n) true) H (panK R) fun v H1 =>
  tTup v fun l =>
  tCons l fun c l1 =>
  tPtr c fun p =>
  tCons l1 fun c1 l2 =>
  tBool c1 fun b =>
  tNil l2 <|
  iteB b (
    nilD item fun a2 =>
    ldInt H1 (Addr.add a2 1) .i64 fun n1 =>
    ldInt H1 (Addr.add (Addr.add a2 1) 1) .i64 fun n2 =>
    ldBool H1 (Addr.add (Addr.add a2 1) 2) fun b1 =>
    nilD p fun a3 =>
    st1 H1 (Addr.add a3 1) (.int .i64 n1) fun H2 =>
    st1 H2 (Addr.add (Addr.add a3 1) 1) (.int .i64 n2) fun H3 =>
    st1 H3 (Addr.add (Addr.add a3 1) 2) (.bool b1) fun H4 =>
    nilD mq fun a4 =>
    nilD p fun a5 =>
    ldInt H4 (Addr.add a5 4) .i64 fun n3 =>
    callD Try.prog 17 [(.iface 54 (.pointer (some (Addr.add a4 1)))), (.int .i64 n3)] H4 (panK R) fun v1 H5 =>
    tTup v1 fun l3 =>
    tNil l3 <|
    R (.returned (.tuple ⟨[]⟩)) H5) <|
  nilD mq fun a6 =>
  callD Try.prog 18 [(.iface 54 (.pointer (some (Addr.add a6 1)))), (.iface 34 (.pointer item))] H1 (panK R) fun v2 H6 =>
  tTup v2 fun l4 =>
  tNil l4 <|
  nilD mq fun a7 =>
  nilD item fun a8 =>
  ldMap H6 a7 fun m1 =>
  ldInt H6 a8 .i64 fun n4 =>
  uniD Try.prog (Instr.mapUpdate 46 (.map m1) (.int .i64 n4) (.pointer item)) H6 (panK R) fun H7 =>
  R (.returned (.tuple ⟨[]⟩)) H7
theorem calls {mq : Option Addr} {item : Option Addr} {H : Heap} {R : Ending → Heap → Prop} (h : go mq item H R) : CallsH Try.prog 8 ⟨[(.pointer mq), (.pointer item)]⟩ H R :=
  callsH_of_den (an := an) (fuel := 100000) (X := go mq item H R) (c := body) mixed fn (by kernel_rfl) (by kernel_rfl) (by kernel_rfl) ok (by kernel_rfl) h
end F8
/-! ### 9 "pub-stadtholder/pub/etcdserver/lease.ZzItem" -/
namespace F9
def an : Ann := { kinds := [], taus := [], pairs := [], lab := [] }
noncomputable def body : Code := (Try.f9.body).getD .skip
theorem fn : Try.prog.funcs[9]? = some Try.f9 := by kernel_rfl
theorem ok : codeOk an 9 body = true := by kernel_rfl
def go (id : Int) (t_0 : Int) (t_1 : Int) (t_2 : Bool) (H : Heap) (R : Ending → Heap → Prop) : Prop :=
  newD H (.cells ⟨[(.int .i64 t_0), (.int .i64 t_1), (.bool t_2)]⟩ 38) fun r H1 =>
  ldInt H1 ⟨r, 0, none⟩ .i64 fun n =>
  ldInt H1 ⟨r, 1, none⟩ .i64 fun n1 =>
  ldBool H1 ⟨r, 2, none⟩ fun b =>
  newD H1 (.cells ⟨[(.int .i64 id), (.int .i64 n), (.int .i64 n1), (.bool b), (.int .i64 (0 : Int))]⟩ 52) fun r1 H2 =>
  R (.returned (.pointer (some ⟨r1, 0, none⟩))) H2
theorem calls {id : Int} {t_0 : Int} {t_1 : Int} {t_2 : Bool} {H : Heap} {R : Ending → Heap → Prop} (h : go id t_0 t_1 t_2 H R) : CallsH Try.prog 9 ⟨[(.int .i64 id), (.agg ⟨[(.int .i64 t_0), (.int .i64 t_1), (.bool t_2)]⟩)]⟩ H R :=
  callsH_of_den (an := an) (fuel := 100000) (X := go id t_0 t_1 t_2 H R) (c := body) mixed fn (by kernel_rfl) (by kernel_rfl) (by kernel_rfl) ok (by kernel_rfl) h
end F9
/-! ### 10 "pub-stadtholder/pub/stand/time.At" -/
namespace F10
def an : Ann := { kinds := [], taus := [], pairs := [], lab := [] }
noncomputable def body : Code := (Try.f10.body).getD .skip
theorem fn : Try.prog.funcs[10]? = some Try.f10 := by kernel_rfl
theorem ok : codeOk an 6 body = true := by kernel_rfl
def go (n : Int) (H : Heap) (R : Ending → Heap → Prop) : Prop :=
  newD H (.cells ⟨[(.int .i64 (0 : Int)), (.int .i64 (0 : Int)), (.bool false)]⟩ 38) fun r H1 =>
  callD Try.prog 19 [(.agg ⟨[(.int .i64 (0 : Int)), (.int .i64 (0 : Int)), (.bool true)]⟩), (.int .i64 n)] H1 (panK R) fun v H2 =>
  tAgg v fun l =>
  tCons l fun c l1 =>
  tInt c .i64 fun n1 =>
  tCons l1 fun c1 l2 =>
  tInt c1 .i64 fun n2 =>
  tCons l2 fun c2 l3 =>
  tBool c2 fun b =>
  tNil l3 <|
  st1 H2 ⟨r, 0, none⟩ (.int .i64 n1) fun H3 =>
  st1 H3 ⟨r, 1, none⟩ (.int .i64 n2) fun H4 =>
  st1 H4 ⟨r, 2, none⟩ (.bool b) fun H5 =>
  ldInt H5 ⟨r, 0, none⟩ .i64 fun n3 =>
  ldInt H5 ⟨r, 1, none⟩ .i64 fun n4 =>
  ldBool H5 ⟨r, 2, none⟩ fun b1 =>
  R (.returned (.agg ⟨[(.int .i64 n3), (.int .i64 n4), (.bool b1)]⟩)) H5
theorem calls {n : Int} {H : Heap} {R : Ending → Heap → Prop} (h : go n H R) : CallsH Try.prog 10 ⟨[(.int .i64 n)]⟩ H R :=
  callsH_of_den (an := an) (fuel := 100000) (X := go n H R) (c := body) mixed fn (by kernel_rfl) (by kernel_rfl) (by kernel_rfl) ok (by kernel_rfl) h
end F10
/-! ### 11 "(*pub-stadtholder/pub/etcdserver/lease.LeaseExpiredNotifier).Peek" -/
namespace F11
def an : Ann := { kinds := [], taus := [], pairs := [], lab := [] }
noncomputable def body : Code := (Try.f11.body).getD .skip
theorem fn : Try.prog.funcs[11]? = some Try.f11 := by kernel_rfl
theorem ok : codeOk an 12 body = true := by kernel_rfl
def go (mq : Option Addr) (H : Heap) (R : Ending → Heap → Prop) : Prop :=
  callD Try.prog 14 [(.pointer mq)] H (panK R) fun v H1 =>
  tInt v .i64 fun n =>
  iteB (n == (0 : Int)) (
    R (.returned (.pointer none)) H1) <|
  nilD mq fun a =>
  ldSl H1 (Addr.add a 1) fun q qn qc =>
  idxD q qn (0 : Int) fun a1 =>
  ldPtr H1 (Addr.add a1 (Int.toNat (0 : Int) * 1)) fun p =>
  R (.returned (.pointer p)) H1
theorem calls {mq : Option Addr} {H : Heap} {R : Ending → Heap → Prop} (h : go mq H R) : CallsH Try.prog 11 ⟨[(.pointer mq)]⟩ H R :=
  callsH_of_den (an := an) (fuel := 100000) (X := go mq H R) (c := body) mixed fn (by kernel_rfl) (by kernel_rfl) (by kernel_rfl) ok (by kernel_rfl) h
end F11
/-! ### 12 "pub-stadtholder/pub/etcdserver/lease.ZzOf" -/
namespace F12
def an : Ann := { kinds := [], taus := [(1, [[0, 1, 2, 4, 5, 6, 3, 8, 7, 9]])], pairs := [], lab := [] }
noncomputable def body : Code := (Try.f12.body).getD .skip
theorem fn : Try.prog.funcs[12]? = some Try.f12 := by kernel_rfl
theorem ok : codeOk an 12 body = true := by kernel_rfl
def go (x : Option Addr) (H : Heap) (R : Ending → Heap → Prop) : Prop :=
  newD H (.cells ⟨[(.int .i64 (0 : Int)), (.int .i64 (0 : Int)), (.bool false)]⟩ 38) fun r H1 =>
  nilD x fun a =>
  nilD x fun a1 =>
  ldInt H1 a .i64 fun n =>
  ldInt H1 (Addr.add a1 1) .i64 fun n1 =>
  ldInt H1 (Addr.add (Addr.add a1 1) 1) .i64 fun n2 =>
  ldBool H1 (Addr.add (Addr.add a1 1) 2) fun b =>
  st1 H1 ⟨r, 0, none⟩ (.int .i64 n1) fun H2 =>
  st1 H2 ⟨r, 1, none⟩ (.int .i64 n2) fun H3 =>
  st1 H3 ⟨r, 2, none⟩ (.bool b) fun H4 =>
  ldInt H4 ⟨r, 0, none⟩ .i64 fun n3 =>
  ldInt H4 ⟨r, 1, none⟩ .i64 fun n4 =>
  ldBool H4 ⟨r, 2, none⟩ fun b1 =>
  R (.returned (.tuple ⟨[(.int .i64 n), (.agg ⟨[(.int .i64 n3), (.int .i64 n4), (.bool b1)]⟩)]⟩)) H4
theorem calls {x : Option Addr} {H : Heap} {R : Ending → Heap → Prop} (h : go x H R) : CallsH Try.prog 12 ⟨[(.pointer x)]⟩ H R :=
  callsH_of_den (an := an) (fuel := 100000) (X := go x H R) (c := body) mixed fn (by kernel_rfl) (by kernel_rfl) (by kernel_rfl) ok (by kernel_rfl) h
end F12
/-! ### 13 "(pub-stadtholder/pub/stand/time.Time).Nanos" -/
namespace F13
def an : Ann := { kinds := [], taus := [], pairs := [], lab := [] }
noncomputable def body : Code := (Try.f13.body).getD .skip
theorem fn : Try.prog.funcs[13]? = some Try.f13 := by kernel_rfl
theorem ok : codeOk an 9 body = true := by kernel_rfl
def go (t_0 : Int) (t_1 : Int) (t_2 : Bool) (H : Heap) (R : Ending → Heap → Prop) : Prop :=
  newD H (.cells ⟨[(.int .i64 t_0), (.int .i64 t_1), (.bool t_2)]⟩ 38) fun r H1 =>
  ldInt H1 ⟨r, 0, none⟩ .i64 fun n =>
  ldInt H1 ⟨r, 1, none⟩ .i64 fun n1 =>
  R (.returned (.int .i64 (IntKind.wrap .i64 ((IntKind.wrap .i64 (n * (1000000000 : Int))) + n1)))) H1
theorem calls {t_0 : Int} {t_1 : Int} {t_2 : Bool} {H : Heap} {R : Ending → Heap → Prop} (h : go t_0 t_1 t_2 H R) : CallsH Try.prog 13 ⟨[(.agg ⟨[(.int .i64 t_0), (.int .i64 t_1), (.bool t_2)]⟩)]⟩ H R :=
  callsH_of_den (an := an) (fuel := 100000) (X := go t_0 t_1 t_2 H R) (c := body) mixed fn (by kernel_rfl) (by kernel_rfl) (by kernel_rfl) ok (by kernel_rfl) h
end F13
/-! ### 14 "(*pub-stadtholder/pub/etcdserver/lease.LeaseExpiredNotifier).Len" -/
namespace F14
def an : Ann := { kinds := [(1004, .heavy 0)], taus := [], pairs := [], lab := [] }
noncomputable def body : Code := (Try.f14.body).getD .skip
theorem fn : Try.prog.funcs[14]? = some Try.f14 := by kernel_rfl
theorem ok : codeOk an 8 body = true := by kernel_rfl
def go (mq : Option Addr) (H : Heap) (R : Ending → Heap → Prop) : Prop :=
  nilD mq fun a =>
  ldMap H a fun m =>
  valD Try.prog (Builtin.len_ #[46] 3 ⟨[(.map m)]⟩) H (panK R) fun v H1 =>
  tInt v .i64 fun n =>
  R (.returned (.int .i64 n)) H1
theorem calls {mq : Option Addr} {H : Heap} {R : Ending → Heap → Prop} (h : go mq H R) : CallsH Try.prog 14 ⟨[(.pointer mq)]⟩ H R :=
  callsH_of_den (an := an) (fuel := 100000) (X := go mq H R) (c := body) mixed fn (by kernel_rfl) (by kernel_rfl) (by kernel_rfl) ok (by kernel_rfl) h
end F14
/-! ### 15 "(*pub-stadtholder/pub/etcdserver/lease.LeaseExpiredNotifier).Unregister" -/
namespace F15
def an : Ann := { kinds := [(1005, .heavy 0), (2008, .heavy 0)], taus := [(2, [[0, 1, 2, 4, 5, 6, 3, 7, 8]])], pairs := [], lab := [] }
noncomputable def body : Code := (Try.f15.body).getD .skip
theorem fn : Try.prog.funcs[15]? = some Try.f15 := by kernel_rfl
theorem ok : codeOk an 19 body = true := by kernel_rfl
def go (mq : Option Addr) (H : Heap) (R : Ending → Heap → Prop) : Prop :=
  nilD mq fun a =>
  callD Try.prog 20 [(.iface 54 (.pointer (some (Addr.add a 1))))] H (panK R) fun v H1 =>
  tIf v fun i =>
  valD Try.prog (Instr.typeAssert (IV.v i) 20 34 false) H1 (panK R) fun v1 H2 =>
  tPtr v1 fun p =>
  nilD mq fun a1 =>
  nilD p fun a2 =>
  ldMap H2 a1 fun m =>
  ldInt H2 a2 .i64 fun n =>
  valD Try.prog (Builtin.delete_ #[46, 36] 0 ⟨[(.map m), (.int .i64 n)]⟩) H2 (panK R) fun v2 H3 =>
  tTup v2 fun l =>
  tNil l <|
  R (.returned (.pointer p)) H3
theorem calls {mq : Option Addr} {H : Heap} {R : Ending → Heap → Prop} (h : go mq H R) : CallsH Try.prog 15 ⟨[(.pointer mq)]⟩ H R :=
  callsH_of_den (an := an) (fuel := 100000) (X := go mq H R) (c := body) mixed fn (by kernel_rfl) (by kernel_rfl) (by kernel_rfl) ok (by kernel_rfl) h
end F15
/-! ### 16 "pub-stadtholder/pub/etcdserver/lease.newLeaseExpiredNotifier" -/
namespace F16
def an : Ann := { kinds := [], taus := [], pairs := [], lab := [] }
noncomputable def body : Code := (Try.f16.body).getD .skip
theorem fn : Try.prog.funcs[16]? = some Try.f16 := by kernel_rfl
theorem ok : codeOk an 5 body = true := by kernel_rfl
def go  (H : Heap) (R : Ending → Heap → Prop) : Prop :=
  newD H (.map #[] 0) fun r H1 =>
  mkD H1 8 [(.pointer none)] 34 (0 : Int) (0 : Int) fun r1 k c H2 =>
  newD H2 (.cells ⟨[(.map (some r)), (.slice (some ⟨r1, 0, none⟩) k c)]⟩ 50) fun r2 H3 =>
  R (.returned (.pointer (some ⟨r2, 0, none⟩))) H3
theorem calls  {H : Heap} {R : Ending → Heap → Prop} (h : go  H R) : CallsH Try.prog 16 ⟨[]⟩ H R :=
  callsH_of_den (an := an) (fuel := 100000) (X := go  H R) (c := body) mixed fn (by kernel_rfl) (by kernel_rfl) (by kernel_rfl) ok (by kernel_rfl) h
end F16
/-! ### 17 "container/heap.Fix" -/
namespace F17
def an : Ann := { kinds := [], taus := [], pairs := [], lab := [] }
noncomputable def body : Code := (Try.f17.body).getD .skip
theorem fn : Try.prog.funcs[17]? = some Try.f17 := by kernel_rfl
theorem ok : codeOk an 13 body = true := by kernel_rfl
def go (h1 : IV) (i : Int) (H : Heap) (R : Ending → Heap → Prop) : Prop :=
  callI Try.prog (IV.v h1) "Len" [] H (panK R) fun v H1 =>
  tInt v .i64 fun n =>
  callD Try.prog 21 [(IV.v h1), (.int .i64 i), (.int .i64 n)] H1 (panK R) fun v1 H2 =>
  tBool v1 fun b =>
  iteB (!b) (
    callD Try.prog 22 [(IV.v h1), (.int .i64 i)] H2 (panK R) fun v2 H3 =>
    tTup v2 fun l =>
    tNil l <|
    R (.returned (.tuple ⟨[]⟩)) H3) <|
  R (.returned (.tuple ⟨[]⟩)) H2
theorem calls {h1 : IV} {i : Int} {H : Heap} {R : Ending → Heap → Prop} (h : go h1 i H R) : CallsH Try.prog 17 ⟨[(IV.v h1), (.int .i64 i)]⟩ H R :=
  callsH_of_den (an := an) (fuel := 100000) (X := go h1 i H R) (c := body) mixed fn (by kernel_rfl) (by kernel_rfl) (by kernel_rfl) ok (by kernel_rfl) h
end F17
/-! ### 18 "container/heap.Push" -/
namespace F18
def an : Ann := { kinds := [], taus := [], pairs := [], lab := [] }
noncomputable def body : Code := (Try.f18.body).getD .skip
theorem fn : Try.prog.funcs[18]? = some Try.f18 := by kernel_rfl
theorem ok : codeOk an 12 body = true := by kernel_rfl
def go (h1 : IV) (x : IV) (H : Heap) (R : Ending → Heap → Prop) : Prop :=
  callI Try.prog (IV.v h1) "Push" [(IV.v x)] H (panK R) fun v H1 =>
  tTup v fun l =>
  tNil l <|
  callI Try.prog (IV.v h1) "Len" [] H1 (panK R) fun v1 H2 =>
  tInt v1 .i64 fun n =>
  callD Try.prog 22 [(IV.v h1), (.int .i64 (IntKind.wrap .i64 (n - (1 : Int))))] H2 (panK R) fun v2 H3 =>
  tTup v2 fun l1 =>
  tNil l1 <|
  R (.returned (.tuple ⟨[]⟩)) H3
theorem calls {h1 : IV} {x : IV} {H : Heap} {R : Ending → Heap → Prop} (h : go h1 x H R) : CallsH Try.prog 18 ⟨[(IV.v h1), (IV.v x)]⟩ H R :=
  callsH_of_den (an := an) (fuel := 100000) (X := go h1 x H R) (c := body) mixed fn (by kernel_rfl) (by kernel_rfl) (by kernel_rfl) ok (by kernel_rfl) h
end F18
/-! ### 19 "(pub-stadtholder/pub/stand/time.Time).Add" -/
namespace F19
def an : Ann := { kinds := [], taus := [], pairs := [], lab := [(10000007, [2, 4])] }
noncomputable def body : Code := (Try.f19.body).getD .skip
theorem fn : Try.prog.funcs[19]? = some Try.f19 := by kernel_rfl
theorem ok : codeOk an 40 body = true := by kernel_rfl
noncomputable def L0t : List Item := [.code (sub [1, 1, 1, 1] body)]
def L0 (t : Nat) (s4 : Nat) (H : Heap) (R : Ending → Heap → Prop) : Prop :=
  GoL Try.prog 19 40 L0t [2, 4] [(.pointer (some ⟨t, 0, none⟩)), (.pointer (some ⟨s4, 0, none⟩))] H R
def L0n (t : Nat) (s4 : Nat) (H : Heap) (R : Ending → Heap → Prop) : Prop :=
  ldInt H ⟨t, 1, none⟩ .i64 fun n =>
  iteB (decide (n < (0 : Int))) (
    ldInt H ⟨t, 0, none⟩ .i64 fun n1 =>
    st1 H ⟨t, 0, none⟩ (.int .i64 (IntKind.wrap .i64 (n1 - (1 : Int)))) fun H1 =>
    ldInt H1 ⟨t, 1, none⟩ .i64 fun n2 =>
    st1 H1 ⟨t, 1, none⟩ (.int .i64 (IntKind.wrap .i64 (n2 + (1000000000 : Int)))) fun H2 =>
    ldInt H2 ⟨t, 0, none⟩ .i64 fun n3 =>
    ldInt H2 ⟨t, 1, none⟩ .i64 fun n4 =>
    ldBool H2 ⟨t, 2, none⟩ fun b =>
    st1 H2 ⟨s4, 0, none⟩ (.int .i64 n3) fun H3 =>
    st1 H3 ⟨s4, 1, none⟩ (.int .i64 n4) fun H4 =>
    st1 H4 ⟨s4, 2, none⟩ (.bool b) fun H5 =>
    ldInt H5 ⟨s4, 0, none⟩ .i64 fun n5 =>
    ldInt H5 ⟨s4, 1, none⟩ .i64 fun n6 =>
    ldBool H5 ⟨s4, 2, none⟩ fun b1 =>
    R (.returned (.agg ⟨[(.int .i64 n5), (.int .i64 n6), (.bool b1)]⟩)) H5) <|
  ldInt H ⟨t, 0, none⟩ .i64 fun n7 =>
  ldInt H ⟨t, 1, none⟩ .i64 fun n8 =>
  ldBool H ⟨t, 2, none⟩ fun b2 =>
  st1 H ⟨s4, 0, none⟩ (.int .i64 n7) fun H6 =>
  st1 H6 ⟨s4, 1, none⟩ (.int .i64 n8) fun H7 =>
  st1 H7 ⟨s4, 2, none⟩ (.bool b2) fun H8 =>
  ldInt H8 ⟨s4, 0, none⟩ .i64 fun n9 =>
  ldInt H8 ⟨s4, 1, none⟩ .i64 fun n10 =>
  ldBool H8 ⟨s4, 2, none⟩ fun b3 =>
  R (.returned (.agg ⟨[(.int .i64 n9), (.int .i64 n10), (.bool b3)]⟩)) H8
theorem L0_step {t : Nat} {s4 : Nat} {H : Heap} {R : Ending → Heap → Prop} (h : L0n t s4 H R) : L0 t s4 H R :=
  goL_of_den (an := an) (fuel := 100000) (X := L0n t s4 H R) mixed fn (by kernel_rfl) (fun ρ0 => by kernel_rfl) h
def go (t_0 : Int) (t_1 : Int) (t_2 : Bool) (d : Int) (H : Heap) (R : Ending → Heap → Prop) : Prop :=
  newD H (.cells ⟨[(.int .i64 t_0), (.int .i64 t_1), (.bool t_2)]⟩ 38) fun r H1 =>
  newD H1 (.cells ⟨[(.int .i64 (0 : Int)), (.int .i64 (0 : Int)), (.bool false)]⟩ 38) fun r1 H2 =>
  ldInt H2 ⟨r, 0, none⟩ .i64 fun n =>
  divD (1000000000 : Int) <|
  st1 H2 ⟨r, 0, none⟩ (.int .i64 (IntKind.wrap .i64 (n + (IntKind.wrap .i64 (Int.tdiv d (1000000000 : Int)))))) fun H3 =>
  ldInt H3 ⟨r, 1, none⟩ .i64 fun n1 =>
  divD (1000000000 : Int) <|
  st1 H3 ⟨r, 1, none⟩ (.int .i64 (IntKind.wrap .i64 (n1 + (Int.tmod d (1000000000 : Int))))) fun H4 =>
  ldInt H4 ⟨r, 1, none⟩ .i64 fun n2 =>
  iteB (decide (n2 ≥ (1000000000 : Int))) (
    ldInt H4 ⟨r, 0, none⟩ .i64 fun n3 =>
    st1 H4 ⟨r, 0, none⟩ (.int .i64 (IntKind.wrap .i64 (n3 + (1 : Int)))) fun H5 =>
    ldInt H5 ⟨r, 1, none⟩ .i64 fun n4 =>
    st1 H5 ⟨r, 1, none⟩ (.int .i64 (IntKind.wrap .i64 (n4 - (1000000000 : Int)))) fun H6 =>
    L0 r r1 H6 R) <|
  L0 r r1 H4 R
theorem calls {t_0 : Int} {t_1 : Int} {t_2 : Bool} {d : Int} {H : Heap} {R : Ending → Heap → Prop} (h : go t_0 t_1 t_2 d H R) : CallsH Try.prog 19 ⟨[(.agg ⟨[(.int .i64 t_0), (.int .i64 t_1), (.bool t_2)]⟩), (.int .i64 d)]⟩ H R :=
  callsH_of_den (an := an) (fuel := 100000) (X := go t_0 t_1 t_2 d H R) (c := body) mixed fn (by kernel_rfl) (by kernel_rfl) (by kernel_rfl) ok (by kernel_rfl) h
end F19
/-! ### 20 "container/heap.Pop" -/
namespace F20
def an : Ann := { kinds := [], taus := [], pairs := [], lab := [] }
noncomputable def body : Code := (Try.f20.body).getD .skip
theorem fn : Try.prog.funcs[20]? = some Try.f20 := by kernel_rfl
theorem ok : codeOk an 15 body = true := by kernel_rfl
def go (h1 : IV) (H : Heap) (R : Ending → Heap → Prop) : Prop :=
  callI Try.prog (IV.v h1) "Len" [] H (panK R) fun v H1 =>
  tInt v .i64 fun n =>
  callI Try.prog (IV.v h1) "Swap" [(.int .i64 (0 : Int)), (.int .i64 (IntKind.wrap .i64 (n - (1 : Int))))] H1 (panK R) fun v1 H2 =>
  tTup v1 fun l =>
  tNil l <|
  callD Try.prog 21 [(IV.v h1), (.int .i64 (0 : Int)), (.int .i64 (IntKind.wrap .i64 (n - (1 : Int))))] H2 (panK R) fun v2 H3 =>
  tBool v2 fun b =>
  callI Try.prog (IV.v h1) "Pop" [] H3 (panK R) fun v3 H4 =>
  tIf v3 fun i =>
  R (.returned (IV.v i)) H4
theorem calls {h1 : IV} {H : Heap} {R : Ending → Heap → Prop} (h : go h1 H R) : CallsH Try.prog 20 ⟨[(IV.v h1)]⟩ H R :=
  callsH_of_den (an := an) (fuel := 100000) (X := go h1 H R) (c := body) mixed fn (by kernel_rfl) (by kernel_rfl) (by kernel_rfl) ok (by kernel_rfl) h
end F20
/-! ### 21 "container/heap.down" -/
namespace F21
def an : Ann := { kinds := [], taus := [], pairs := [], lab := [(40000003, [0, 1, 2, 7]), (50000005, [0, 1, 2, 7, 8]), (60000008, [0, 1, 2, 7, 10]), (50000009, [0, 1, 2, 7, 9])] }
noncomputable def body : Code := (Try.f21.body).getD .skip
theorem fn : Try.prog.funcs[21]? = some Try.f21 := by kernel_rfl
theorem ok : codeOk an 48 body = true := by kernel_rfl
noncomputable def L0t : List Item := [.code (sub [1, 1, 0, 0, 0] body), .inLoop (sub [1, 1, 0, 0, 0] body), .inBlock 0, .code (sub [1, 1, 1] body)]
def L0 (h1 : IV) (i0 : Int) (n : Int) (i : Int) (H : Heap) (R : Ending → Heap → Prop) : Prop :=
  GoL Try.prog 21 48 L0t [0, 1, 2, 7] [(IV.v h1), (.int .i64 i0), (.int .i64 n), (.int .i64 i)] H R
noncomputable def L1t : List Item := [.code (sub [1, 1, 0, 0, 0, 0, 1, 1] body), .inBlock 1, .inLoop (sub [1, 1, 0, 0, 0] body), .inBlock 0, .code (sub [1, 1, 1] body)]
def L1 (h1 : IV) (i0 : Int) (n : Int) (i : Int) (j1 : Int) (H : Heap) (R : Ending → Heap → Prop) : Prop :=
  GoL Try.prog 21 48 L1t [0, 1, 2, 7, 8] [(IV.v h1), (.int .i64 i0), (.int .i64 n), (.int .i64 i), (.int .i64 j1)] H R
noncomputable def L2t : List Item := [.code (sub [1, 1, 0, 0, 0, 0, 1, 1, 1, 0, 1, 1, 0] body), .code (sub [1, 1, 0, 0, 0, 0, 1, 1, 1, 1] body), .inBlock 1, .inLoop (sub [1, 1, 0, 0, 0] body), .inBlock 0, .code (sub [1, 1, 1] body)]
def L2 (h1 : IV) (i0 : Int) (n : Int) (i : Int) (j2 : Int) (H : Heap) (R : Ending → Heap → Prop) : Prop :=
  GoL Try.prog 21 48 L2t [0, 1, 2, 7, 10] [(IV.v h1), (.int .i64 i0), (.int .i64 n), (.int .i64 i), (.int .i64 j2)] H R
noncomputable def L3t : List Item := [.code (sub [1, 1, 0, 0, 0, 0, 1, 1, 1, 1] body), .inBlock 1, .inLoop (sub [1, 1, 0, 0, 0] body), .inBlock 0, .code (sub [1, 1, 1] body)]
def L3 (h1 : IV) (i0 : Int) (n : Int) (i : Int) (j : Int) (H : Heap) (R : Ending → Heap → Prop) : Prop :=
  GoL Try.prog 21 48 L3t [0, 1, 2, 7, 9] [(IV.v h1), (.int .i64 i0), (.int .i64 n), (.int .i64 i), (.int .i64 j)] H R
def L0n (h1 : IV) (i0 : Int) (n : Int) (i : Int) (H : Heap) (R : Ending → Heap → Prop) : Prop :=
  iteB (decide ((IntKind.wrap .i64 ((IntKind.wrap .i64 ((2 : Int) * i)) + (1 : Int))) ≥ n)) (
    R (.returned (.bool (decide (i > i0)))) H) <|
  iteB (decide ((IntKind.wrap .i64 ((IntKind.wrap .i64 ((2 : Int) * i)) + (1 : Int))) < (0 : Int))) (
    R (.returned (.bool (decide (i > i0)))) H) <|
  L1 h1 i0 n i (IntKind.wrap .i64 ((IntKind.wrap .i64 ((2 : Int) * i)) + (1 : Int))) H R
theorem L0_step {h1 : IV} {i0 : Int} {n : Int} {i : Int} {H : Heap} {R : Ending → Heap → Prop} (h : L0n h1 i0 n i H R) : L0 h1 i0 n i H R :=
  goL_of_den (an := an) (fuel := 100000) (X := L0n h1 i0 n i H R) mixed fn (by kernel_rfl) (fun ρ0 => by kernel_rfl) h
def L1n (h1 : IV) (i0 : Int) (n : Int) (i : Int) (j1 : Int) (H : Heap) (R : Ending → Heap → Prop) : Prop :=
  iteB (decide ((IntKind.wrap .i64 (j1 + (1 : Int))) < n)) (
    callI Try.prog (IV.v h1) "Less" [(.int .i64 (IntKind.wrap .i64 (j1 + (1 : Int)))), (.int .i64 j1)] H (panK R) fun v H1 =>
    tBool v fun b =>
    iteB b (
      L2 h1 i0 n i (IntKind.wrap .i64 (j1 + (1 : Int))) H1 R) <|
    L3 h1 i0 n i j1 H1 R) <|
  L3 h1 i0 n i j1 H R
theorem L1_step {h1 : IV} {i0 : Int} {n : Int} {i : Int} {j1 : Int} {H : Heap} {R : Ending → Heap → Prop} (h : L1n h1 i0 n i j1 H R) : L1 h1 i0 n i j1 H R :=
  goL_of_den (an := an) (fuel := 100000) (X := L1n h1 i0 n i j1 H R) mixed fn (by kernel_rfl) (fun ρ0 => by kernel_rfl) h
def L2n (h1 : IV) (i0 : Int) (n : Int) (i : Int) (j2 : Int) (H : Heap) (R : Ending → Heap → Prop) : Prop :=
  L3 h1 i0 n i j2 H R
theorem L2_step {h1 : IV} {i0 : Int} {n : Int} {i : Int} {j2 : Int} {H : Heap} {R : Ending → Heap → Prop} (h : L2n h1 i0 n i j2 H R) : L2 h1 i0 n i j2 H R :=
  goL_of_den (an := an) (fuel := 100000) (X := L2n h1 i0 n i j2 H R) mixed fn (by kernel_rfl) (fun ρ0 => by kernel_rfl) h
def L3n (h1 : IV) (i0 : Int) (n : Int) (i : Int) (j : Int) (H : Heap) (R : Ending → Heap → Prop) : Prop :=
  callI Try.prog (IV.v h1) "Less" [(.int .i64 j), (.int .i64 i)] H (panK R) fun v H1 =>
  tBool v fun b =>
  iteB (!b) (
    R (.returned (.bool (decide (i > i0)))) H1) <|
  callI Try.prog (IV.v h1) "Swap" [(.int .i64 i), (.int .i64 j)] H1 (panK R) fun v1 H2 =>
  tTup v1 fun l =>
  tNil l <|
  L0 h1 i0 n j H2 R
theorem L3_step {h1 : IV} {i0 : Int} {n : Int} {i : Int} {j : Int} {H : Heap} {R : Ending → Heap → Prop} (h : L3n h1 i0 n i j H R) : L3 h1 i0 n i j H R :=
  goL_of_den (an := an) (fuel := 100000) (X := L3n h1 i0 n i j H R) mixed fn (by kernel_rfl) (fun ρ0 => by kernel_rfl) h
def go (h1 : IV) (i0 : Int) (n : Int) (H : Heap) (R : Ending → Heap → Prop) : Prop :=
  L0 h1 i0 n i0 H R
theorem calls {h1 : IV} {i0 : Int} {n : Int} {H : Heap} {R : Ending → Heap → Prop} (h : go h1 i0 n H R) : CallsH Try.prog 21 ⟨[(IV.v h1), (.int .i64 i0), (.int .i64 n)]⟩ H R :=
  callsH_of_den (an := an) (fuel := 100000) (X := go h1 i0 n H R) (c := body) mixed fn (by kernel_rfl) (by kernel_rfl) (by kernel_rfl) ok (by kernel_rfl) h
end F21
/-! ### 22 "container/heap.up" -/
namespace F22
def an : Ann := { kinds := [], taus := [], pairs := [], lab := [(30000001, [0, 1]), (40000003, [0, 1, 4])] }
noncomputable def body : Code := (Try.f22.body).getD .skip
theorem fn : Try.prog.funcs[22]? = some Try.f22 := by kernel_rfl
theorem ok : codeOk an 23 body = true := by kernel_rfl
noncomputable def L0t : List Item := [.code (sub [0, 0] body), .inLoop (sub [0, 0] body), .inBlock 0]
def L0 (h1 : IV) (j : Int) (H : Heap) (R : Ending → Heap → Prop) : Prop :=
  GoL Try.prog 22 23 L0t [0, 1] [(IV.v h1), (.int .i64 j)] H R
noncomputable def L1t : List Item := [.code (sub [0, 0, 0, 1, 1] body), .inBlock 1, .inLoop (sub [0, 0] body), .inBlock 0]
def L1 (h1 : IV) (j : Int) (i : Int) (H : Heap) (R : Ending → Heap → Prop) : Prop :=
  GoL Try.prog 22 23 L1t [0, 1, 4] [(IV.v h1), (.int .i64 j), (.int .i64 i)] H R
def L0n (h1 : IV) (j : Int) (H : Heap) (R : Ending → Heap → Prop) : Prop :=
  divD (2 : Int) <|
  iteB ((IntKind.wrap .i64 (Int.tdiv (IntKind.wrap .i64 (j - (1 : Int))) (2 : Int))) == j) (
    R (.returned (.tuple ⟨[]⟩)) H) <|
  callI Try.prog (IV.v h1) "Less" [(.int .i64 j), (.int .i64 (IntKind.wrap .i64 (Int.tdiv (IntKind.wrap .i64 (j - (1 : Int))) (2 : Int))))] H (panK R) fun v H1 =>
  tBool v fun b =>
  iteB (!b) (
    R (.returned (.tuple ⟨[]⟩)) H1) <|
  L1 h1 j (IntKind.wrap .i64 (Int.tdiv (IntKind.wrap .i64 (j - (1 : Int))) (2 : Int))) H1 R
theorem L0_step {h1 : IV} {j : Int} {H : Heap} {R : Ending → Heap → Prop} (h : L0n h1 j H R) : L0 h1 j H R :=
  goL_of_den (an := an) (fuel := 100000) (X := L0n h1 j H R) mixed fn (by kernel_rfl) (fun ρ0 => by kernel_rfl) h
def L1n (h1 : IV) (j : Int) (i : Int) (H : Heap) (R : Ending → Heap → Prop) : Prop :=
  callI Try.prog (IV.v h1) "Swap" [(.int .i64 i), (.int .i64 j)] H (panK R) fun v H1 =>
  tTup v fun l =>
  tNil l <|
  L0 h1 i H1 R
theorem L1_step {h1 : IV} {j : Int} {i : Int} {H : Heap} {R : Ending → Heap → Prop} (h : L1n h1 j i H R) : L1 h1 j i H R :=
  goL_of_den (an := an) (fuel := 100000) (X := L1n h1 j i H R) mixed fn (by kernel_rfl) (fun ρ0 => by kernel_rfl) h
def go (h1 : IV) (j : Int) (H : Heap) (R : Ending → Heap → Prop) : Prop :=
  L0 h1 j H R
theorem calls {h1 : IV} {j : Int} {H : Heap} {R : Ending → Heap → Prop} (h : go h1 j H R) : CallsH Try.prog 22 ⟨[(IV.v h1), (.int .i64 j)]⟩ H R :=
  callsH_of_den (an := an) (fuel := 100000) (X := go h1 j H R) (c := body) mixed fn (by kernel_rfl) (by kernel_rfl) (by kernel_rfl) ok (by kernel_rfl) h
end F22
/-! ### 41 "(pub-stadtholder/pub/etcdserver/lease.LeaseQueue).Len" -/
namespace F41
def an : Ann := { kinds := [], taus := [], pairs := [], lab := [] }
noncomputable def body : Code := (Try.f41.body).getD .skip
theorem fn : Try.prog.funcs[41]? = some Try.f41 := by kernel_rfl
theorem ok : codeOk an 5 body = true := by kernel_rfl
def go (pq : Option Addr) (pqn : Nat) (pqc : Nat) (H : Heap) (R : Ending → Heap → Prop) : Prop :=
  R (.returned (.int .i64 ((pqn : Nat) : Int))) H
theorem calls {pq : Option Addr} {pqn : Nat} {pqc : Nat} {H : Heap} {R : Ending → Heap → Prop} (h : go pq pqn pqc H R) : CallsH Try.prog 41 ⟨[(.slice pq pqn pqc)]⟩ H R :=
  callsH_of_den (an := an) (fuel := 100000) (X := go pq pqn pqc H R) (c := body) mixed fn (by kernel_rfl) (by kernel_rfl) (by kernel_rfl) ok (by kernel_rfl) h
end F41
/-! ### 42 "(pub-stadtholder/pub/etcdserver/lease.LeaseQueue).Less" -/
namespace F42
def an : Ann := { kinds := [], taus := [(1, [[0, 1, 2, 7, 8, 9, 3, 4, 5, 6, 10, 11, 12, 13, 14, 15]])], pairs := [], lab := [] }
noncomputable def body : Code := (Try.f42.body).getD .skip
theorem fn : Try.prog.funcs[42]? = some Try.f42 := by kernel_rfl
theorem ok : codeOk an 22 body = true := by kernel_rfl
def go (pq : Option Addr) (pqn : Nat) (pqc : Nat) (i : Int) (j : Int) (H : Heap) (R : Ending → Heap → Prop) : Prop :=
  idxD pq pqn i fun a =>
  idxD pq pqn j fun a1 =>
  ldPtr H (Addr.add a (Int.toNat i * 1)) fun p =>
  nilD p fun a2 =>
  ldInt H (Addr.add a2 1) .i64 fun n =>
  ldInt H (Addr.add (Addr.add a2 1) 1) .i64 fun n1 =>
  ldBool H (Addr.add (Addr.add a2 1) 2) fun b =>
  ldPtr H (Addr.add a1 (Int.toNat j * 1)) fun p1 =>
  nilD p1 fun a3 =>
  ldInt H (Addr.add a3 1) .i64 fun n2 =>
  ldInt H (Addr.add (Addr.add a3 1) 1) .i64 fun n3 =>
  ldBool H (Addr.add (Addr.add a3 1) 2) fun b1 =>
  callD Try.prog 44 [(.agg ⟨[(.int .i64 n), (.int .i64 n1), (.bool b)]⟩), (.agg ⟨[(.int .i64 n2), (.int .i64 n3), (.bool b1)]⟩)] H (panK R) fun v H1 =>
  tBool v fun b2 =>
  R (.returned (.bool b2)) H1
theorem calls {pq : Option Addr} {pqn : Nat} {pqc : Nat} {i : Int} {j : Int} {H : Heap} {R : Ending → Heap → Prop} (h : go pq pqn pqc i j H R) : CallsH Try.prog 42 ⟨[(.slice pq pqn pqc), (.int .i64 i), (.int .i64 j)]⟩ H R :=
  callsH_of_den (an := an) (fuel := 100000) (X := go pq pqn pqc i j H R) (c := body) mixed fn (by kernel_rfl) (by kernel_rfl) (by kernel_rfl) ok (by kernel_rfl) h
end F42
/-! ### 43 "(pub-stadtholder/pub/etcdserver/lease.LeaseQueue).Swap" -/
namespace F43
def an : Ann := { kinds := [], taus := [(0, [[0, 1, 2, 3, 4, 5, 6, 8, 9, 10, 7, 11, 12, 13, 14, 15]])], pairs := [], lab := [] }
noncomputable def body : Code := (Try.f43.body).getD .skip
theorem fn : Try.prog.funcs[43]? = some Try.f43 := by kernel_rfl
theorem ok : codeOk an 34 body = true := by kernel_rfl
def go (pq : Option Addr) (pqn : Nat) (pqc : Nat) (i : Int) (j : Int) (H : Heap) (R : Ending → Heap → Prop) : Prop :=
  idxD pq pqn j fun a =>
  idxD pq pqn i fun a1 =>
  ldPtr H (Addr.add a (Int.toNat j * 1)) fun p =>
  ldPtr H (Addr.add a1 (Int.toNat i * 1)) fun p1 =>
  idxD pq pqn i fun a2 =>
  st1 H (Addr.add a2 (Int.toNat i * 1)) (.pointer p) fun H1 =>
  idxD pq pqn j fun a3 =>
  st1 H1 (Addr.add a3 (Int.toNat j * 1)) (.pointer p1) fun H2 =>
  idxD pq pqn i fun a4 =>
  ldPtr H2 (Addr.add a4 (Int.toNat i * 1)) fun p2 =>
  nilD p2 fun a5 =>
  st1 H2 (Addr.add a5 4) (.int .i64 i) fun H3 =>
  idxD pq pqn j fun a6 =>
  ldPtr H3 (Addr.add a6 (Int.toNat j * 1)) fun p3 =>
  nilD p3 fun a7 =>
  st1 H3 (Addr.add a7 4) (.int .i64 j) fun H4 =>
  R (.returned (.tuple ⟨[]⟩)) H4
theorem calls {pq : Option Addr} {pqn : Nat} {pqc : Nat} {i : Int} {j : Int} {H : Heap} {R : Ending → Heap → Prop} (h : go pq pqn pqc i j H R) : CallsH Try.prog 43 ⟨[(.slice pq pqn pqc), (.int .i64 i), (.int .i64 j)]⟩ H R :=
  callsH_of_den (an := an) (fuel := 100000) (X := go pq pqn pqc i j H R) (c := body) mixed fn (by kernel_rfl) (by kernel_rfl) (by kernel_rfl) ok (by kernel_rfl) h
end F43
/-! ### 44 "(pub-stadtholder/pub/stand/time.Time).Before" -/
namespace F44
def an : Ann := { kinds := [], taus := [], pairs := [], lab := [] }
noncomputable def body : Code := (Try.f44.body).getD .skip
theorem fn : Try.prog.funcs[44]? = some Try.f44 := by kernel_rfl
theorem ok : codeOk an 32 body = true := by kernel_rfl
def go (t_0 : Int) (t_1 : Int) (t_2 : Bool) (u_0 : Int) (u_1 : Int) (u_2 : Bool) (H : Heap) (R : Ending → Heap → Prop) : Prop :=
  newD H (.cells ⟨[(.int .i64 t_0), (.int .i64 t_1), (.bool t_2)]⟩ 38) fun r H1 =>
  newD H1 (.cells ⟨[(.int .i64 u_0), (.int .i64 u_1), (.bool u_2)]⟩ 38) fun r1 H2 =>
  ldBool H2 ⟨r, 2, none⟩ fun b =>
  ldBool H2 ⟨r1, 2, none⟩ fun b1 =>
  iteB (!(b == b1)) (
    ldBool H2 ⟨r, 2, none⟩ fun b2 =>
    R (.returned (.bool (!b2))) H2) <|
  ldInt H2 ⟨r, 0, none⟩ .i64 fun n =>
  ldInt H2 ⟨r1, 0, none⟩ .i64 fun n1 =>
  iteB (decide (n < n1)) (
    R (.returned (.bool true)) H2) <|
  ldInt H2 ⟨r, 0, none⟩ .i64 fun n2 =>
  ldInt H2 ⟨r1, 0, none⟩ .i64 fun n3 =>
  iteB (n2 == n3) (
    ldInt H2 ⟨r, 1, none⟩ .i64 fun n4 =>
    ldInt H2 ⟨r1, 1, none⟩ .i64 fun n5 =>
    R (.returned (.bool (decide (n4 < n5)))) H2) <|
  R (.returned (.bool false)) H2
theorem calls {t_0 : Int} {t_1 : Int} {t_2 : Bool} {u_0 : Int} {u_1 : Int} {u_2 : Bool} {H : Heap} {R : Ending → Heap → Prop} (h : go t_0 t_1 t_2 u_0 u_1 u_2 H R) : CallsH Try.prog 44 ⟨[(.agg ⟨[(.int .i64 t_0), (.int .i64 t_1), (.bool t_2)]⟩), (.agg ⟨[(.int .i64 u_0), (.int .i64 u_1), (.bool u_2)]⟩)]⟩ H R :=
  callsH_of_den (an := an) (fuel := 100000) (X := go t_0 t_1 t_2 u_0 u_1 u_2 H R) (c := body) mixed fn (by kernel_rfl) (by kernel_rfl) (by kernel_rfl) ok (by kernel_rfl) h
end F44
/-! ### 45 "(*pub-stadtholder/pub/etcdserver/lease.LeaseQueue).Pop" -/
namespace F45
def an : Ann := { kinds := [], taus := [], pairs := [], lab := [] }
noncomputable def body : Code := (Try.f45.body).getD .skip
theorem fn : Try.prog.funcs[45]? = some Try.f45 := by kernel_rfl
theorem ok : codeOk an 27 body = true := by kernel_rfl
def go (pq : Option Addr) (H : Heap) (R : Ending → Heap → Prop) : Prop :=
  nilD pq fun a =>
  ldSl H a fun q qn qc =>
  idxD q qn (IntKind.wrap .i64 (((qn : Nat) : Int) - (1 : Int))) fun a1 =>
  ldPtr H (Addr.add a1 (Int.toNat (IntKind.wrap .i64 (((qn : Nat) : Int) - (1 : Int))) * 1)) fun p =>
  nilD p fun a2 =>
  st1 H (Addr.add a2 4) (.int .i64 (-1 : Int)) fun H1 =>
  bndD (IntKind.wrap .i64 (((qn : Nat) : Int) - (1 : Int))) qc fun k =>
  bndD (0 : Int) k fun k1 =>
  nilD pq fun a3 =>
  st1 H1 a3 (.slice (slP q k1 qc 1) (k - k1) (qc - k1)) fun H2 =>
  R (.returned (.iface 34 (.pointer p))) H2
theorem calls {pq : Option Addr} {H : Heap} {R : Ending → Heap → Prop} (h : go pq H R) : CallsH Try.prog 45 ⟨[(.pointer pq)]⟩ H R :=
  callsH_of_den (an := an) (fuel := 100000) (X := go pq H R) (c := body) mixed fn (by kernel_rfl) (by kernel_rfl) (by kernel_rfl) ok (by kernel_rfl) h
end F45
/-! ### 46 "(*pub-stadtholder/pub/etcdserver/lease.LeaseQueue).Push" -/
namespace F46
def an : Ann := { kinds := [(1001, .heavy 0)], taus := [], pairs := [], lab := [] }
noncomputable def body : Code := (Try.f46.body).getD .skip
theorem fn : Try.prog.funcs[46]? = some Try.f46 := by kernel_rfl
theorem ok : codeOk an 24 body = true := by kernel_rfl
def go (pq : Option Addr) (x : IV) (H : Heap) (R : Ending → Heap → Prop) : Prop :=
  nilD pq fun a =>
  ldSl H a fun q qn qc =>
  valD Try.prog (Instr.typeAssert (IV.v x) 20 34 false) H (panK R) fun v H1 =>
  tPtr v fun p =>
  nilD p fun a1 =>
  st1 H1 (Addr.add a1 4) (.int .i64 ((qn : Nat) : Int)) fun H2 =>
  nilD pq fun a2 =>
  ldSl H2 a2 fun q1 q1n q1c =>
  newD H2 (.cells ⟨[(.pointer p)]⟩ 34) fun r H3 =>
  apD H3 1 8 [(.pointer none)] 34 q1 q1n q1c (some ⟨r, 0, none⟩) 1 fun q2 q2n q2c H4 =>
  nilD pq fun a3 =>
  st1 H4 a3 (.slice q2 q2n q2c) fun H5 =>
  R (.returned (.tuple ⟨[]⟩)) H5
theorem calls {pq : Option Addr} {x : IV} {H : Heap} {R : Ending → Heap → Prop} (h : go pq x H R) : CallsH Try.prog 46 ⟨[(.pointer pq), (IV.v x)]⟩ H R :=
  callsH_of_den (an := an) (fuel := 100000) (X := go pq x H R) (c := body) mixed fn (by kernel_rfl) (by kernel_rfl) (by kernel_rfl) ok (by kernel_rfl) h
end F46
end Go.Proofs.Ytkenjnllegbmjaa
