/- What functions of this seat do, each proved by a walk; no condition. -/
import Derived.Test.YtdgcdjlomindhaaDenL
import Derived.Test.YtdgcdjlomindhaaProg
import Derived.KernelRfl
set_option linter.unusedVariables false
namespace Go.Proofs.Ytdgcdjlomindhaa
open Go Go.Den Go.Proofs
theorem mixed : Try.prog.follows .mixedOrders = true := by kernel_rfl
/-! ### 3 "pub-stadtholder/laws.FnBTreeDeletes" -/
namespace F3
def an : Ann := { kinds := [(20010, .grow)], taus := [(16, [[0, 1, 2, 4, 5, 6, 3, 7, 8, 9, 10, 11, 12, 14, 15, 16, 13, 17, 18, 19, 20, 21, 22, 23, 24, 25, 26, 27, 28, 29, 31, 30, 32, 33, 34, 35, 36, 37, 38, 40, 41, 39, 42, 43, 44, 45, 46, 47, 49, 50, 51, 52, 53, 48, 54, 55, 56, 57, 58]]), (20, [[0, 1, 4, 5, 6, 9, 2, 3, 7, 8, 10, 11, 12, 13, 14, 15, 16]]), (21, [[0, 1, 2, 3, 4, 5, 6, 7, 8, 9, 10, 11, 13, 14, 15, 12, 16, 17, 18, 19, 20, 21, 22]])], pairs := [], lab := [(10000006, [0, 1, 2]), (40000012, [0, 1, 2, 7, 8, 10, 53, 54, 55]), (10000019, [0, 1, 7, 8]), (40000016, [0, 1, 2, 7, 8, 10, 53, 54, 55])] }
noncomputable def body : Code := (Try.f3.body).getD .skip
theorem fn : Try.prog.funcs[3]? = some Try.f3 := by kernel_rfl
theorem ok : codeOk an 170 body = true := by kernel_rfl
noncomputable def L0t : List Item := [.code (sub [1, 1, 1] body)]
def L0 (s0 : Int) (s1 : Option Addr) (s1n : Nat) (s1c : Nat) (s2 : Int) (H : Heap) (R : Ending → Heap → Prop) : Prop :=
  GoL Try.prog 3 170 L0t [0, 1, 2] [(.int .i64 s0), (.slice s1 s1n s1c), (.int .i64 s2)] H R
noncomputable def L1t : List Item := [.code (sub [1, 1, 1, 1, 1, 1, 1, 0, 1, 0, 0] body), .inLoop (sub [1, 1, 1, 1, 1, 1, 1, 0, 1, 0, 0] body), .inBlock 0, .code (sub [1, 1, 1, 1, 1, 1, 1, 1] body)]
def L1 (s0 : Int) (s1 : Option Addr) (s1n : Nat) (s1c : Nat) (s2 : Int) (s7 : Nat) (s8 : Option Addr) (s8n : Nat) (s8c : Nat) (s10 : Option Addr) (s10n : Nat) (s10c : Nat) (s53 : Option Addr) (s53n : Nat) (s53c : Nat) (s54 : Int) (s55 : Int) (H : Heap) (R : Ending → Heap → Prop) : Prop :=
  GoL Try.prog 3 170 L1t [0, 1, 2, 7, 8, 10, 53, 54, 55] [(.int .i64 s0), (.slice s1 s1n s1c), (.int .i64 s2), (.pointer (some ⟨s7, 0, none⟩)), (.slice s8 s8n s8c), (.slice s10 s10n s10c), (.slice s53 s53n s53c), (.int .i64 s54), (.int .i64 s55)] H R
noncomputable def L2t : List Item := [.code (sub [1, 1, 1, 1, 1, 1, 1, 1, 1] body)]
def L2 (s0 : Int) (s1 : Option Addr) (s1n : Nat) (s1c : Nat) (s7 : Nat) (s8 : Option Addr) (s8n : Nat) (s8c : Nat) (H : Heap) (R : Ending → Heap → Prop) : Prop :=
  GoL Try.prog 3 170 L2t [0, 1, 7, 8] [(.int .i64 s0), (.slice s1 s1n s1c), (.pointer (some ⟨s7, 0, none⟩)), (.slice s8 s8n s8c)] H R
noncomputable def L3t : List Item := [.code (sub [1, 1, 1, 1, 1, 1, 1, 0, 1, 0, 0, 1, 1, 1] body), .inLoop (sub [1, 1, 1, 1, 1, 1, 1, 0, 1, 0, 0] body), .inBlock 0, .code (sub [1, 1, 1, 1, 1, 1, 1, 1] body)]
def L3 (s0 : Int) (s1 : Option Addr) (s1n : Nat) (s1c : Nat) (s2 : Int) (s7 : Nat) (s8 : Option Addr) (s8n : Nat) (s8c : Nat) (s10 : Option Addr) (s10n : Nat) (s10c : Nat) (s53 : Option Addr) (s53n : Nat) (s53c : Nat) (s54 : Int) (s55 : Int) (H : Heap) (R : Ending → Heap → Prop) : Prop :=
  GoL Try.prog 3 170 L3t [0, 1, 2, 7, 8, 10, 53, 54, 55] [(.int .i64 s0), (.slice s1 s1n s1c), (.int .i64 s2), (.pointer (some ⟨s7, 0, none⟩)), (.slice s8 s8n s8c), (.slice s10 s10n s10c), (.slice s53 s53n s53c), (.int .i64 s54), (.int .i64 s55)] H R
def L0n (s0 : Int) (s1 : Option Addr) (s1n : Nat) (s1c : Nat) (s2 : Int) (H : Heap) (R : Ending → Heap → Prop) : Prop :=
  newD H (.cells ⟨[(.int .i64 (0 : Int)), (.int .i64 (0 : Int))]⟩ 25) fun r H1 =>
  st1 H1 ⟨r, 0, none⟩ (.int .i64 s2) fun H2 =>
  st1 H2 ⟨r, 1, none⟩ (.int .i64 (0 : Int)) fun H3 =>
  ldInt H3 ⟨r, 0, none⟩ .i64 fun n =>
  ldInt H3 ⟨r, 1, none⟩ .i64 fun n1 =>
  ldInt H3 ⟨r, 0, none⟩ .i64 fun n2 =>
  ldInt H3 ⟨r, 1, none⟩ .i64 fun n3 =>
  ldInt H3 ⟨r, 0, none⟩ .i64 fun n4 =>
  ldInt H3 ⟨r, 1, none⟩ .i64 fun n5 =>
  newD H3 (.cells ⟨[(.int .i64 (10 : Int)), (.int .i64 (0 : Int)), (.int .i64 (0 : Int)), (.int .i64 (0 : Int)), (.int .i64 (0 : Int)), (.int .i64 (0 : Int)), (.int .i64 (0 : Int)), (.bool false), (.int .i64 (3 : Int)), (.int .i64 (0 : Int)), (.int .i64 n), (.int .i64 n1), (.int .i64 (0 : Int)), (.int .i64 (0 : Int)), (.int .i64 (0 : Int)), (.bool false), (.int .i64 (2 : Int)), (.int .i64 (0 : Int)), (.int .i64 n2), (.int .i64 n3), (.int .i64 (0 : Int)), (.int .i64 (0 : Int)), (.int .i64 (0 : Int)), (.bool false), (.int .i64 (4 : Int)), (.int .i64 (0 : Int)), (.int .i64 n4), (.int .i64 n5), (.int .i64 (0 : Int)), (.int .i64 (0 : Int)), (.int .i64 (0 : Int)), (.bool false), (.int .i64 (10 : Int)), (.int .i64 (0 : Int)), (.int .i64 (0 : Int)), (.int .i64 (0 : Int)), (.int .i64 (0 : Int)), (.int .i64 (0 : Int)), (.int .i64 (0 : Int)), (.bool false), (.int .i64 (9 : Int)), (.int .i64 (0 : Int)), (.int .i64 (0 : Int)), (.int .i64 (0 : Int)), (.int .i64 (0 : Int)), (.int .i64 (0 : Int)), (.int .i64 (0 : Int)), (.bool false)]⟩ 30) fun r1 H4 =>
  callD Try.prog 7 [(.int .i64 s0), (.slice s1 s1n s1c), (.slice (some ⟨r1, 0, none⟩) 6 6)] H4 (panK R) fun v H5 =>
  tTup v fun l =>
  tCons l fun c l1 =>
  tSl c fun q qn qc =>
  tCons l1 fun c1 l2 =>
  tBool c1 fun b =>
  tNil l2 <|
  iteB (!b) (
    R (.returned (.bool false)) H5) <|
  idxD q qn (0 : Int) fun a =>
  ldSl H5 (Addr.add (Addr.add a (Int.toNat (0 : Int) * 6)) 5) fun q1 q1n q1c =>
  L1 s0 s1 s1n s1c s2 r q qn qc none 0 0 q1 q1n q1c ((q1n : Nat) : Int) (0 : Int) H5 R
theorem L0_step {s0 : Int} {s1 : Option Addr} {s1n : Nat} {s1c : Nat} {s2 : Int} {H : Heap} {R : Ending → Heap → Prop} (h : L0n s0 s1 s1n s1c s2 H R) : L0 s0 s1 s1n s1c s2 H R :=
  goL_of_den (an := an) (fuel := 100000) (X := L0n s0 s1 s1n s1c s2 H R) mixed fn (by kernel_rfl) (fun ρ0 => by kernel_rfl) h
def L1n (s0 : Int) (s1 : Option Addr) (s1n : Nat) (s1c : Nat) (s2 : Int) (s7 : Nat) (s8 : Option Addr) (s8n : Nat) (s8c : Nat) (s10 : Option Addr) (s10n : Nat) (s10c : Nat) (s53 : Option Addr) (s53n : Nat) (s53c : Nat) (s54 : Int) (s55 : Int) (H : Heap) (R : Ending → Heap → Prop) : Prop :=
  iteB (decide (s55 < s54)) (
    idxD s53 s53n s55 fun a =>
    ldInt H (Addr.add a (Int.toNat s55 * 2)) .i64 fun n =>
    ldInt H (Addr.add (Addr.add a (Int.toNat s55 * 2)) 1) .i64 fun n1 =>
    newD H (.cells ⟨[(.int .i64 (0 : Int)), (.int .i64 (0 : Int))]⟩ 25) fun r H1 =>
    st1 H1 ⟨r, 0, none⟩ (.int .i64 n) fun H2 =>
    st1 H2 ⟨r, 1, none⟩ (.int .i64 n1) fun H3 =>
    ldInt H3 ⟨r, 0, none⟩ .i64 fun n2 =>
    iteB (n2 != s2) (
      ldInt H3 ⟨r, 0, none⟩ .i64 fun n3 =>
      ldInt H3 ⟨r, 1, none⟩ .i64 fun n4 =>
      newD H3 (.cells ⟨[(.int .i64 n3), (.int .i64 n4)]⟩ 25) fun r1 H4 =>
      apD H4 2 16 [(.int .i64 (0 : Int)), (.int .i64 (0 : Int))] 25 s10 s10n s10c (some ⟨r1, 0, none⟩) 1 fun q qn qc H5 =>
      L3 s0 s1 s1n s1c s2 s7 s8 s8n s8c q qn qc s53 s53n s53c s54 s55 H5 R) <|
    L3 s0 s1 s1n s1c s2 s7 s8 s8n s8c s10 s10n s10c s53 s53n s53c s54 s55 H3 R) <|
  idxD s8 s8n (1 : Int) fun a1 =>
  idxD s8 s8n (2 : Int) fun a2 =>
  ldBool H (Addr.add (Addr.add a1 (Int.toNat (1 : Int) * 6)) 1) fun b =>
  ldBool H (Addr.add (Addr.add a2 (Int.toNat (2 : Int) * 6)) 1) fun b1 =>
  iteB (!(b == b1)) (
    R (.returned (.bool false)) H) <|
  idxD s8 s8n (1 : Int) fun a3 =>
  idxD s8 s8n (2 : Int) fun a4 =>
  ldInt H (Addr.add (Addr.add a3 (Int.toNat (1 : Int) * 6)) 3) .i64 fun n5 =>
  ldInt H (Addr.add (Addr.add (Addr.add a3 (Int.toNat (1 : Int) * 6)) 3) 1) .i64 fun n6 =>
  ldInt H (Addr.add (Addr.add a4 (Int.toNat (2 : Int) * 6)) 3) .i64 fun n7 =>
  ldInt H (Addr.add (Addr.add (Addr.add a4 (Int.toNat (2 : Int) * 6)) 3) 1) .i64 fun n8 =>
  rawB Try.prog .neq 25 (.agg ⟨[(.int .i64 n5), (.int .i64 n6)]⟩) (.agg ⟨[(.int .i64 n7), (.int .i64 n8)]⟩) fun b2 =>
  iteB (!b2) (
    R (.returned (.bool false)) H) <|
  idxD s8 s8n (3 : Int) fun a5 =>
  ldBool H (Addr.add (Addr.add a5 (Int.toNat (3 : Int) * 6)) 1) fun b3 =>
  iteB b3 (
    R (.returned (.bool false)) H) <|
  idxD s8 s8n (4 : Int) fun a6 =>
  ldSl H (Addr.add (Addr.add a6 (Int.toNat (4 : Int) * 6)) 5) fun q1 q1n q1c =>
  callD Try.prog 8 [(.slice q1 q1n q1c), (.slice s10 s10n s10c)] H (panK R) fun v H6 =>
  tBool v fun b4 =>
  iteB (!b4) (
    R (.returned (.bool false)) H6) <|
  idxD s8 s8n (5 : Int) fun a7 =>
  ldInt H6 (Addr.add (Addr.add a7 (Int.toNat (5 : Int) * 6)) 2) .i64 fun n9 =>
  iteB (n9 != ((s10n : Nat) : Int)) (
    R (.returned (.bool false)) H6) <|
  idxD s8 s8n (1 : Int) fun a8 =>
  idxD s8 s8n (0 : Int) fun a9 =>
  ldBool H6 (Addr.add (Addr.add a8 (Int.toNat (1 : Int) * 6)) 1) fun b5 =>
  ldSl H6 (Addr.add (Addr.add a9 (Int.toNat (0 : Int) * 6)) 5) fun q2 q2n q2c =>
  iteB (!(b5 == (decide (((s10n : Nat) : Int) < ((q2n : Nat) : Int))))) (
    R (.returned (.bool false)) H6) <|
  L2 s0 s1 s1n s1c s7 s8 s8n s8c H6 R
theorem L1_step {s0 : Int} {s1 : Option Addr} {s1n : Nat} {s1c : Nat} {s2 : Int} {s7 : Nat} {s8 : Option Addr} {s8n : Nat} {s8c : Nat} {s10 : Option Addr} {s10n : Nat} {s10c : Nat} {s53 : Option Addr} {s53n : Nat} {s53c : Nat} {s54 : Int} {s55 : Int} {H : Heap} {R : Ending → Heap → Prop} (h : L1n s0 s1 s1n s1c s2 s7 s8 s8n s8c s10 s10n s10c s53 s53n s53c s54 s55 H R) : L1 s0 s1 s1n s1c s2 s7 s8 s8n s8c s10 s10n s10c s53 s53n s53c s54 s55 H R :=
  goL_of_den (an := an) (fuel := 100000) (X := L1n s0 s1 s1n s1c s2 s7 s8 s8n s8c s10 s10n s10c s53 s53n s53c s54 s55 H R) mixed fn (by kernel_rfl) (fun ρ0 => by kernel_rfl) h
def L2n (s0 : Int) (s1 : Option Addr) (s1n : Nat) (s1c : Nat) (s7 : Nat) (s8 : Option Addr) (s8n : Nat) (s8c : Nat) (H : Heap) (R : Ending → Heap → Prop) : Prop :=
  idxD s8 s8n (1 : Int) fun a =>
  ldBool H (Addr.add (Addr.add a (Int.toNat (1 : Int) * 6)) 1) fun b =>
  iteB (!b) (
    callD Try.prog 6 [] H (panK R) fun v H1 =>
    tBool v fun b1 =>
    R (.returned (.bool b1)) H1) <|
  idxD s8 s8n (1 : Int) fun a1 =>
  ldInt H ⟨s7, 0, none⟩ .i64 fun n =>
  ldInt H ⟨s7, 1, none⟩ .i64 fun n1 =>
  ldInt H (Addr.add (Addr.add a1 (Int.toNat (1 : Int) * 6)) 3) .i64 fun n2 =>
  ldInt H (Addr.add (Addr.add (Addr.add a1 (Int.toNat (1 : Int) * 6)) 3) 1) .i64 fun n3 =>
  newD H (.cells ⟨[(.int .i64 (2 : Int)), (.int .i64 (0 : Int)), (.int .i64 n), (.int .i64 n1), (.int .i64 (0 : Int)), (.int .i64 (0 : Int)), (.int .i64 (0 : Int)), (.bool false), (.int .i64 (1 : Int)), (.int .i64 (0 : Int)), (.int .i64 n2), (.int .i64 n3), (.int .i64 (0 : Int)), (.int .i64 (0 : Int)), (.int .i64 (0 : Int)), (.bool false), (.int .i64 (10 : Int)), (.int .i64 (0 : Int)), (.int .i64 (0 : Int)), (.int .i64 (0 : Int)), (.int .i64 (0 : Int)), (.int .i64 (0 : Int)), (.int .i64 (0 : Int)), (.bool false)]⟩ 30) fun r H2 =>
  callD Try.prog 7 [(.int .i64 s0), (.slice s1 s1n s1c), (.slice (some ⟨r, 0, none⟩) 3 3)] H2 (panK R) fun v1 H3 =>
  tTup v1 fun l =>
  tCons l fun c l1 =>
  tSl c fun q qn qc =>
  tCons l1 fun c1 l2 =>
  tBool c1 fun b2 =>
  tNil l2 <|
  iteB b2 (
    idxD q qn (1 : Int) fun a2 =>
    ldBool H3 (Addr.add (Addr.add a2 (Int.toNat (1 : Int) * 6)) 1) fun b3 =>
    iteB (!b3) (
      idxD q qn (2 : Int) fun a3 =>
      idxD s8 s8n (0 : Int) fun a4 =>
      ldSl H3 (Addr.add (Addr.add a3 (Int.toNat (2 : Int) * 6)) 5) fun q1 q1n q1c =>
      ldSl H3 (Addr.add (Addr.add a4 (Int.toNat (0 : Int) * 6)) 5) fun q2 q2n q2c =>
      callD Try.prog 8 [(.slice q1 q1n q1c), (.slice q2 q2n q2c)] H3 (panK R) fun v2 H4 =>
      tBool v2 fun b4 =>
      iteB b4 (
        callD Try.prog 6 [] H4 (panK R) fun v3 H5 =>
        tBool v3 fun b5 =>
        R (.returned (.bool b5)) H5) <|
      R (.returned (.bool false)) H4) <|
    R (.returned (.bool false)) H3) <|
  R (.returned (.bool false)) H3
theorem L2_step {s0 : Int} {s1 : Option Addr} {s1n : Nat} {s1c : Nat} {s7 : Nat} {s8 : Option Addr} {s8n : Nat} {s8c : Nat} {H : Heap} {R : Ending → Heap → Prop} (h : L2n s0 s1 s1n s1c s7 s8 s8n s8c H R) : L2 s0 s1 s1n s1c s7 s8 s8n s8c H R :=
  goL_of_den (an := an) (fuel := 100000) (X := L2n s0 s1 s1n s1c s7 s8 s8n s8c H R) mixed fn (by kernel_rfl) (fun ρ0 => by kernel_rfl) h
def L3n (s0 : Int) (s1 : Option Addr) (s1n : Nat) (s1c : Nat) (s2 : Int) (s7 : Nat) (s8 : Option Addr) (s8n : Nat) (s8c : Nat) (s10 : Option Addr) (s10n : Nat) (s10c : Nat) (s53 : Option Addr) (s53n : Nat) (s53c : Nat) (s54 : Int) (s55 : Int) (H : Heap) (R : Ending → Heap → Prop) : Prop :=
  L1 s0 s1 s1n s1c s2 s7 s8 s8n s8c s10 s10n s10c s53 s53n s53c s54 (IntKind.wrap .i64 (s55 + (1 : Int))) H R
theorem L3_step {s0 : Int} {s1 : Option Addr} {s1n : Nat} {s1c : Nat} {s2 : Int} {s7 : Nat} {s8 : Option Addr} {s8n : Nat} {s8c : Nat} {s10 : Option Addr} {s10n : Nat} {s10c : Nat} {s53 : Option Addr} {s53n : Nat} {s53c : Nat} {s54 : Int} {s55 : Int} {H : Heap} {R : Ending → Heap → Prop} (h : L3n s0 s1 s1n s1c s2 s7 s8 s8n s8c s10 s10n s10c s53 s53n s53c s54 s55 H R) : L3 s0 s1 s1n s1c s2 s7 s8 s8n s8c s10 s10n s10c s53 s53n s53c s54 s55 H R :=
  goL_of_den (an := an) (fuel := 100000) (X := L3n s0 s1 s1n s1c s2 s7 s8 s8n s8c s10 s10n s10c s53 s53n s53c s54 s55 H R) mixed fn (by kernel_rfl) (fun ρ0 => by kernel_rfl) h
def go (s0 : Int) (s1 : Option Addr) (s1n : Nat) (s1c : Nat) (s2 : Int) (H : Heap) (R : Ending → Heap → Prop) : Prop :=
  iteB (decide (((s1n : Nat) : Int) > (2147483647 : Int))) (
    R (.returned (.bool true)) H) <|
  iteB (decide (s0 < (2 : Int))) (
    callD Try.prog 6 [] H (panK R) fun v H1 =>
    tBool v fun b =>
    R (.returned (.bool b)) H1) <|
  iteB (decide (s0 > (64 : Int))) (
    callD Try.prog 6 [] H (panK R) fun v1 H2 =>
    tBool v1 fun b1 =>
    R (.returned (.bool b1)) H2) <|
  iteB (decide (((s1n : Nat) : Int) > (600 : Int))) (
    callD Try.prog 6 [] H (panK R) fun v2 H3 =>
    tBool v2 fun b2 =>
    R (.returned (.bool b2)) H3) <|
  L0 s0 s1 s1n s1c s2 H R
theorem calls {s0 : Int} {s1 : Option Addr} {s1n : Nat} {s1c : Nat} {s2 : Int} {H : Heap} {R : Ending → Heap → Prop} (h : go s0 s1 s1n s1c s2 H R) : CallsH Try.prog 3 ⟨[(.int .i64 s0), (.slice s1 s1n s1c), (.int .i64 s2)]⟩ H R :=
  callsH_of_den (an := an) (fuel := 100000) (X := go s0 s1 s1n s1c s2 H R) (c := body) mixed fn (by kernel_rfl) (by kernel_rfl) (by kernel_rfl) ok (by kernel_rfl) h
end F3
/-! ### 4 "pub-stadtholder/laws.FnBTreeAnswers" -/
namespace F4
def an : Ann := { kinds := [], taus := [], pairs := [], lab := [] }
noncomputable def body : Code := (Try.f4.body).getD .skip
theorem fn : Try.prog.funcs[4]? = some Try.f4 := by kernel_rfl
theorem ok : codeOk an 28 body = true := by kernel_rfl
def go (degree : Int) (ops : Option Addr) (opsn : Nat) (opsc : Nat) (H : Heap) (R : Ending → Heap → Prop) : Prop :=
  iteB (decide (((opsn : Nat) : Int) > (2147483647 : Int))) (
    R (.returned (.bool true)) H) <|
  callD Try.prog 9 [(.int .i64 degree), (.slice ops opsn opsc)] H (panK R) fun v H1 =>
  tBool v fun b =>
  iteB (!b) (
    callD Try.prog 6 [] H1 (panK R) fun v1 H2 =>
    tBool v1 fun b1 =>
    R (.returned (.bool b1)) H2) <|
  callD Try.prog 10 [(.slice ops opsn opsc)] H1 (panK R) fun v2 H3 =>
  tTup v2 fun l =>
  tCons l fun c l1 =>
  tSl c fun q qn qc =>
  tCons l1 fun c1 l2 =>
  tSl c1 fun q1 q1n q1c =>
  tNil l2 <|
  callD Try.prog 12 [(.int .i64 degree), (.slice ops opsn opsc)] H3 (panK R) fun v3 H4 =>
  tSl v3 fun q2 q2n q2c =>
  callD Try.prog 11 [(.slice q2 q2n q2c), (.slice q qn qc)] H4 (panK R) fun v4 H5 =>
  tBool v4 fun b2 =>
  iteB b2 (
    callD Try.prog 6 [] H5 (panK R) fun v5 H6 =>
    tBool v5 fun b3 =>
    R (.returned (.bool b3)) H6) <|
  R (.returned (.bool false)) H5
theorem calls {degree : Int} {ops : Option Addr} {opsn : Nat} {opsc : Nat} {H : Heap} {R : Ending → Heap → Prop} (h : go degree ops opsn opsc H R) : CallsH Try.prog 4 ⟨[(.int .i64 degree), (.slice ops opsn opsc)]⟩ H R :=
  callsH_of_den (an := an) (fuel := 100000) (X := go degree ops opsn opsc H R) (c := body) mixed fn (by kernel_rfl) (by kernel_rfl) (by kernel_rfl) ok (by kernel_rfl) h
end F4
/-! ### 5 "pub-stadtholder/laws.FnBTreeOrder" -/
namespace F5
def an : Ann := { kinds := [], taus := [(11, [[0, 1, 2, 3, 4, 5, 6, 8, 9, 10, 7, 11, 12, 13, 14, 15]]), (23, [[0, 1, 2, 3, 4, 5, 7, 8, 12, 6, 9, 10, 11, 13, 14, 15, 16, 17, 18, 19, 20, 21]]), (28, [[0, 1, 2, 3, 4, 5, 6, 7, 8, 9, 11, 12, 13, 10, 14, 15, 16, 17, 18, 19, 20, 21, 22, 24, 25, 26, 27, 28, 23, 29, 30, 31, 32, 33, 34, 35, 36, 37, 38, 39, 40, 41, 42, 43, 44, 45, 46, 47]])], pairs := [], lab := [(10000004, [0, 1, 2]), (10000006, [0, 1, 2]), (40000008, [0, 1, 7, 46, 47, 48]), (10000019, [1, 12]), (40000022, [1, 12, 16, 141, 142, 143]), (40000026, [1, 12, 16, 141, 142, 143]), (60000011, [0, 1, 7, 8, 9, 46, 47, 48]), (40000013, [0, 1, 7, 46, 47, 48])] }
noncomputable def body : Code := (Try.f5.body).getD .skip
theorem fn : Try.prog.funcs[5]? = some Try.f5 := by kernel_rfl
theorem ok : codeOk an 236 body = true := by kernel_rfl
noncomputable def L0t : List Item := [.code (sub [1, 1] body)]
def L0 (s0 : Int) (s1 : Option Addr) (s1n : Nat) (s1c : Nat) (s2 : Option Addr) (s2n : Nat) (s2c : Nat) (H : Heap) (R : Ending → Heap → Prop) : Prop :=
  GoL Try.prog 5 236 L0t [0, 1, 2] [(.int .i64 s0), (.slice s1 s1n s1c), (.slice s2 s2n s2c)] H R
noncomputable def L1t : List Item := [.code (sub [1, 1, 1] body)]
def L1 (s0 : Int) (s1 : Option Addr) (s1n : Nat) (s1c : Nat) (s2 : Option Addr) (s2n : Nat) (s2c : Nat) (H : Heap) (R : Ending → Heap → Prop) : Prop :=
  GoL Try.prog 5 236 L1t [0, 1, 2] [(.int .i64 s0), (.slice s1 s1n s1c), (.slice s2 s2n s2c)] H R
noncomputable def L2t : List Item := [.code (sub [1, 1, 1, 1, 0, 1, 0, 0] body), .inLoop (sub [1, 1, 1, 1, 0, 1, 0, 0] body), .inBlock 0, .code (sub [1, 1, 1, 1, 1] body)]
def L2 (s0 : Int) (s1 : Option Addr) (s1n : Nat) (s1c : Nat) (s7 : Option Addr) (s7n : Nat) (s7c : Nat) (s46 : Option Addr) (s46n : Nat) (s46c : Nat) (s47 : Int) (s48 : Int) (H : Heap) (R : Ending → Heap → Prop) : Prop :=
  GoL Try.prog 5 236 L2t [0, 1, 7, 46, 47, 48] [(.int .i64 s0), (.slice s1 s1n s1c), (.slice s7 s7n s7c), (.slice s46 s46n s46c), (.int .i64 s47), (.int .i64 s48)] H R
noncomputable def L3t : List Item := [.code (sub [1, 1, 1, 1, 1, 1, 1, 1, 1] body)]
def L3 (s1 : Option Addr) (s1n : Nat) (s1c : Nat) (s12 : Option Addr) (s12n : Nat) (s12c : Nat) (H : Heap) (R : Ending → Heap → Prop) : Prop :=
  GoL Try.prog 5 236 L3t [1, 12] [(.slice s1 s1n s1c), (.slice s12 s12n s12c)] H R
noncomputable def L4t : List Item := [.code (sub [1, 1, 1, 1, 1, 1, 1, 1, 1, 1, 1, 0, 1, 0, 0] body), .inLoop (sub [1, 1, 1, 1, 1, 1, 1, 1, 1, 1, 1, 0, 1, 0, 0] body), .inBlock 2, .code (sub [1, 1, 1, 1, 1, 1, 1, 1, 1, 1, 1, 1] body)]
def L4 (s1 : Option Addr) (s1n : Nat) (s1c : Nat) (s12 : Option Addr) (s12n : Nat) (s12c : Nat) (s16 : Option Addr) (s16n : Nat) (s16c : Nat) (s141 : Option Addr) (s141n : Nat) (s141c : Nat) (s142 : Int) (s143 : Int) (H : Heap) (R : Ending → Heap → Prop) : Prop :=
  GoL Try.prog 5 236 L4t [1, 12, 16, 141, 142, 143] [(.slice s1 s1n s1c), (.slice s12 s12n s12c), (.slice s16 s16n s16c), (.slice s141 s141n s141c), (.int .i64 s142), (.int .i64 s143)] H R
noncomputable def L5t : List Item := [.code (sub [1, 1, 1, 1, 1, 1, 1, 1, 1, 1, 1, 0, 1, 0, 0, 1, 1, 1] body), .inLoop (sub [1, 1, 1, 1, 1, 1, 1, 1, 1, 1, 1, 0, 1, 0, 0] body), .inBlock 2, .code (sub [1, 1, 1, 1, 1, 1, 1, 1, 1, 1, 1, 1] body)]
def L5 (s1 : Option Addr) (s1n : Nat) (s1c : Nat) (s12 : Option Addr) (s12n : Nat) (s12c : Nat) (s16 : Option Addr) (s16n : Nat) (s16c : Nat) (s141 : Option Addr) (s141n : Nat) (s141c : Nat) (s142 : Int) (s143 : Int) (H : Heap) (R : Ending → Heap → Prop) : Prop :=
  GoL Try.prog 5 236 L5t [1, 12, 16, 141, 142, 143] [(.slice s1 s1n s1c), (.slice s12 s12n s12c), (.slice s16 s16n s16c), (.slice s141 s141n s141c), (.int .i64 s142), (.int .i64 s143)] H R
noncomputable def L6t : List Item := [.code (sub [1, 1, 1, 1, 0, 1, 0, 0, 1, 1, 0, 0, 1, 1, 0] body), .inBlock 1, .code (sub [1, 1, 1, 1, 0, 1, 0, 0, 1, 1, 1] body), .inLoop (sub [1, 1, 1, 1, 0, 1, 0, 0] body), .inBlock 0, .code (sub [1, 1, 1, 1, 1] body)]
def L6 (s0 : Int) (s1 : Option Addr) (s1n : Nat) (s1c : Nat) (s7 : Option Addr) (s7n : Nat) (s7c : Nat) (s8 : Int) (s9 : Int) (s46 : Option Addr) (s46n : Nat) (s46c : Nat) (s47 : Int) (s48 : Int) (H : Heap) (R : Ending → Heap → Prop) : Prop :=
  GoL Try.prog 5 236 L6t [0, 1, 7, 8, 9, 46, 47, 48] [(.int .i64 s0), (.slice s1 s1n s1c), (.slice s7 s7n s7c), (.int .i64 s8), (.int .i64 s9), (.slice s46 s46n s46c), (.int .i64 s47), (.int .i64 s48)] H R
noncomputable def L7t : List Item := [.code (sub [1, 1, 1, 1, 0, 1, 0, 0, 1, 1, 1] body), .inLoop (sub [1, 1, 1, 1, 0, 1, 0, 0] body), .inBlock 0, .code (sub [1, 1, 1, 1, 1] body)]
def L7 (s0 : Int) (s1 : Option Addr) (s1n : Nat) (s1c : Nat) (s7 : Option Addr) (s7n : Nat) (s7c : Nat) (s46 : Option Addr) (s46n : Nat) (s46c : Nat) (s47 : Int) (s48 : Int) (H : Heap) (R : Ending → Heap → Prop) : Prop :=
  GoL Try.prog 5 236 L7t [0, 1, 7, 46, 47, 48] [(.int .i64 s0), (.slice s1 s1n s1c), (.slice s7 s7n s7c), (.slice s46 s46n s46c), (.int .i64 s47), (.int .i64 s48)] H R
def L0n (s0 : Int) (s1 : Option Addr) (s1n : Nat) (s1c : Nat) (s2 : Option Addr) (s2n : Nat) (s2c : Nat) (H : Heap) (R : Ending → Heap → Prop) : Prop :=
  iteB (decide (s0 < (2 : Int))) (
    callD Try.prog 6 [] H (panK R) fun v H1 =>
    tBool v fun b =>
    R (.returned (.bool b)) H1) <|
  iteB (decide (s0 > (64 : Int))) (
    callD Try.prog 6 [] H (panK R) fun v1 H2 =>
    tBool v1 fun b1 =>
    R (.returned (.bool b1)) H2) <|
  iteB (decide (((s1n : Nat) : Int) > (600 : Int))) (
    callD Try.prog 6 [] H (panK R) fun v2 H3 =>
    tBool v2 fun b2 =>
    R (.returned (.bool b2)) H3) <|
  callD Try.prog 13 [(.slice s1 s1n s1c)] H (panK R) fun v3 H4 =>
  tBool v3 fun b3 =>
  iteB (!b3) (
    callD Try.prog 6 [] H4 (panK R) fun v4 H5 =>
    tBool v4 fun b4 =>
    R (.returned (.bool b4)) H5) <|
  L1 s0 s1 s1n s1c s2 s2n s2c H4 R
theorem L0_step {s0 : Int} {s1 : Option Addr} {s1n : Nat} {s1c : Nat} {s2 : Option Addr} {s2n : Nat} {s2c : Nat} {H : Heap} {R : Ending → Heap → Prop} (h : L0n s0 s1 s1n s1c s2 s2n s2c H R) : L0 s0 s1 s1n s1c s2 s2n s2c H R :=
  goL_of_den (an := an) (fuel := 100000) (X := L0n s0 s1 s1n s1c s2 s2n s2c H R) mixed fn (by kernel_rfl) (fun ρ0 => by kernel_rfl) h
def L1n (s0 : Int) (s1 : Option Addr) (s1n : Nat) (s1c : Nat) (s2 : Option Addr) (s2n : Nat) (s2c : Nat) (H : Heap) (R : Ending → Heap → Prop) : Prop :=
  callD Try.prog 14 [(.slice s1 s1n s1c)] H (panK R) fun v H1 =>
  tSl v fun q qn qc =>
  L2 s0 s1 s1n s1c q qn qc s2 s2n s2c ((s2n : Nat) : Int) (0 : Int) H1 R
theorem L1_step {s0 : Int} {s1 : Option Addr} {s1n : Nat} {s1c : Nat} {s2 : Option Addr} {s2n : Nat} {s2c : Nat} {H : Heap} {R : Ending → Heap → Prop} (h : L1n s0 s1 s1n s1c s2 s2n s2c H R) : L1 s0 s1 s1n s1c s2 s2n s2c H R :=
  goL_of_den (an := an) (fuel := 100000) (X := L1n s0 s1 s1n s1c s2 s2n s2c H R) mixed fn (by kernel_rfl) (fun ρ0 => by kernel_rfl) h
def L2n (s0 : Int) (s1 : Option Addr) (s1n : Nat) (s1c : Nat) (s7 : Option Addr) (s7n : Nat) (s7c : Nat) (s46 : Option Addr) (s46n : Nat) (s46c : Nat) (s47 : Int) (s48 : Int) (H : Heap) (R : Ending → Heap → Prop) : Prop :=
  iteB (decide (s48 < s47)) (
    idxD s46 s46n s48 fun a =>
    ldInt H (Addr.add a (Int.toNat s48 * 1)) .i64 fun n =>
    iteB (decide (s48 < ((s7n : Nat) : Int))) (
      iteB (decide (n ≥ (0 : Int))) (
        L6 s0 s1 s1n s1c s7 s7n s7c s48 n s46 s46n s46c s47 s48 H R) <|
      L7 s0 s1 s1n s1c s7 s7n s7c s46 s46n s46c s47 s48 H R) <|
    L7 s0 s1 s1n s1c s7 s7n s7c s46 s46n s46c s47 s48 H R) <|
  newD H (.cells ⟨[(.int .i64 (10 : Int)), (.int .i64 (0 : Int)), (.int .i64 (0 : Int)), (.int .i64 (0 : Int)), (.int .i64 (0 : Int)), (.int .i64 (0 : Int)), (.int .i64 (0 : Int)), (.bool false), (.int .i64 (14 : Int)), (.int .i64 (0 : Int)), (.int .i64 (0 : Int)), (.int .i64 (0 : Int)), (.int .i64 (0 : Int)), (.int .i64 (0 : Int)), (.int .i64 (0 : Int)), (.bool false), (.int .i64 (9 : Int)), (.int .i64 (0 : Int)), (.int .i64 (0 : Int)), (.int .i64 (0 : Int)), (.int .i64 (0 : Int)), (.int .i64 (0 : Int)), (.int .i64 (0 : Int)), (.bool false), (.int .i64 (5 : Int)), (.int .i64 (0 : Int)), (.int .i64 (0 : Int)), (.int .i64 (0 : Int)), (.int .i64 (0 : Int)), (.int .i64 (0 : Int)), (.int .i64 (0 : Int)), (.bool false), (.int .i64 (6 : Int)), (.int .i64 (0 : Int)), (.int .i64 (0 : Int)), (.int .i64 (0 : Int)), (.int .i64 (0 : Int)), (.int .i64 (0 : Int)), (.int .i64 (0 : Int)), (.bool false)]⟩ 30) fun r H1 =>
  callD Try.prog 7 [(.int .i64 s0), (.slice s1 s1n s1c), (.slice (some ⟨r, 0, none⟩) 5 5)] H1 (panK R) fun v H2 =>
  tTup v fun l =>
  tCons l fun c l1 =>
  tSl c fun q qn qc =>
  tCons l1 fun c1 l2 =>
  tBool c1 fun b =>
  tNil l2 <|
  callD Try.prog 7 [(.int .i64 s0), (.slice s7 s7n s7c), (.slice (some ⟨r, 0, none⟩) 5 5)] H2 (panK R) fun v1 H3 =>
  tTup v1 fun l3 =>
  tCons l3 fun c2 l4 =>
  tSl c2 fun q1 q1n q1c =>
  tCons l4 fun c3 l5 =>
  tBool c3 fun b1 =>
  tNil l5 <|
  iteB (!b) (
    R (.returned (.bool false)) H3) <|
  iteB (!b1) (
    R (.returned (.bool false)) H3) <|
  callD Try.prog 11 [(.slice q qn qc), (.slice q1 q1n q1c)] H3 (panK R) fun v2 H4 =>
  tBool v2 fun b2 =>
  iteB (!b2) (
    R (.returned (.bool false)) H4) <|
  idxD q qn (2 : Int) fun a1 =>
  ldInt H4 (Addr.add (Addr.add a1 (Int.toNat (2 : Int) * 6)) 2) .i64 fun n1 =>
  iteB (n1 != ((s1n : Nat) : Int)) (
    R (.returned (.bool false)) H4) <|
  idxD q qn (0 : Int) fun a2 =>
  ldSl H4 (Addr.add (Addr.add a2 (Int.toNat (0 : Int) * 6)) 5) fun q2 q2n q2c =>
  iteB (((q2n : Nat) : Int) != ((s1n : Nat) : Int)) (
    R (.returned (.bool false)) H4) <|
  L3 s1 s1n s1c q qn qc H4 R
theorem L2_step {s0 : Int} {s1 : Option Addr} {s1n : Nat} {s1c : Nat} {s7 : Option Addr} {s7n : Nat} {s7c : Nat} {s46 : Option Addr} {s46n : Nat} {s46c : Nat} {s47 : Int} {s48 : Int} {H : Heap} {R : Ending → Heap → Prop} (h : L2n s0 s1 s1n s1c s7 s7n s7c s46 s46n s46c s47 s48 H R) : L2 s0 s1 s1n s1c s7 s7n s7c s46 s46n s46c s47 s48 H R :=
  goL_of_den (an := an) (fuel := 100000) (X := L2n s0 s1 s1n s1c s7 s7n s7c s46 s46n s46c s47 s48 H R) mixed fn (by kernel_rfl) (fun ρ0 => by kernel_rfl) h
def L3n (s1 : Option Addr) (s1n : Nat) (s1c : Nat) (s12 : Option Addr) (s12n : Nat) (s12c : Nat) (H : Heap) (R : Ending → Heap → Prop) : Prop :=
  idxD s12 s12n (1 : Int) fun a =>
  ldSl H (Addr.add (Addr.add a (Int.toNat (1 : Int) * 6)) 5) fun q qn qc =>
  callD Try.prog 14 [(.slice q qn qc)] H (panK R) fun v H1 =>
  tSl v fun q1 q1n q1c =>
  callD Try.prog 15 [(.slice q1 q1n q1c)] H1 (panK R) fun v1 H2 =>
  tTup v1 fun l =>
  tNil l <|
  idxD s12 s12n (0 : Int) fun a1 =>
  ldSl H2 (Addr.add (Addr.add a1 (Int.toNat (0 : Int) * 6)) 5) fun q2 q2n q2c =>
  L4 s1 s1n s1c s12 s12n s12c q1 q1n q1c q2 q2n q2c ((q2n : Nat) : Int) (0 : Int) H2 R
theorem L3_step {s1 : Option Addr} {s1n : Nat} {s1c : Nat} {s12 : Option Addr} {s12n : Nat} {s12c : Nat} {H : Heap} {R : Ending → Heap → Prop} (h : L3n s1 s1n s1c s12 s12n s12c H R) : L3 s1 s1n s1c s12 s12n s12c H R :=
  goL_of_den (an := an) (fuel := 100000) (X := L3n s1 s1n s1c s12 s12n s12c H R) mixed fn (by kernel_rfl) (fun ρ0 => by kernel_rfl) h
def L4n (s1 : Option Addr) (s1n : Nat) (s1c : Nat) (s12 : Option Addr) (s12n : Nat) (s12c : Nat) (s16 : Option Addr) (s16n : Nat) (s16c : Nat) (s141 : Option Addr) (s141n : Nat) (s141c : Nat) (s142 : Int) (s143 : Int) (H : Heap) (R : Ending → Heap → Prop) : Prop :=
  iteB (decide (s143 < s142)) (
    idxD s141 s141n s143 fun a =>
    ldInt H (Addr.add a (Int.toNat s143 * 2)) .i64 fun n =>
    ldInt H (Addr.add (Addr.add a (Int.toNat s143 * 2)) 1) .i64 fun n1 =>
    newD H (.cells ⟨[(.int .i64 (0 : Int)), (.int .i64 (0 : Int))]⟩ 25) fun r H1 =>
    st1 H1 ⟨r, 0, none⟩ (.int .i64 n) fun H2 =>
    st1 H2 ⟨r, 1, none⟩ (.int .i64 n1) fun H3 =>
    iteB (decide (s143 > (0 : Int))) (
      idxD s12 s12n (0 : Int) fun a1 =>
      ldSl H3 (Addr.add (Addr.add a1 (Int.toNat (0 : Int) * 6)) 5) fun q qn qc =>
      idxD q qn (IntKind.wrap .i64 (s143 - (1 : Int))) fun a2 =>
      ldInt H3 (Addr.add a2 (Int.toNat (IntKind.wrap .i64 (s143 - (1 : Int))) * 2)) .i64 fun n2 =>
      ldInt H3 ⟨r, 0, none⟩ .i64 fun n3 =>
      iteB (decide (n2 ≥ n3)) (
        R (.returned (.bool false)) H3) <|
      ldInt H3 ⟨r, 0, none⟩ .i64 fun n4 =>
      ldInt H3 ⟨r, 1, none⟩ .i64 fun n5 =>
      callD Try.prog 16 [(.slice s1 s1n s1c), (.agg ⟨[(.int .i64 n4), (.int .i64 n5)]⟩)] H3 (panK R) fun v H4 =>
      tBool v fun b =>
      iteB (!b) (
        R (.returned (.bool false)) H4) <|
      L5 s1 s1n s1c s12 s12n s12c s16 s16n s16c s141 s141n s141c s142 s143 H4 R) <|
    ldInt H3 ⟨r, 0, none⟩ .i64 fun n6 =>
    ldInt H3 ⟨r, 1, none⟩ .i64 fun n7 =>
    callD Try.prog 16 [(.slice s1 s1n s1c), (.agg ⟨[(.int .i64 n6), (.int .i64 n7)]⟩)] H3 (panK R) fun v1 H5 =>
    tBool v1 fun b1 =>
    iteB (!b1) (
      R (.returned (.bool false)) H5) <|
    L5 s1 s1n s1c s12 s12n s12c s16 s16n s16c s141 s141n s141c s142 s143 H5 R) <|
  iteB (((s1n : Nat) : Int) == (0 : Int)) (
    idxD s12 s12n (3 : Int) fun a3 =>
    ldBool H (Addr.add (Addr.add a3 (Int.toNat (3 : Int) * 6)) 1) fun b2 =>
    iteB (!b2) (
      idxD s12 s12n (4 : Int) fun a4 =>
      ldBool H (Addr.add (Addr.add a4 (Int.toNat (4 : Int) * 6)) 1) fun b3 =>
      iteB (!b3) (
        callD Try.prog 6 [] H (panK R) fun v2 H6 =>
        tBool v2 fun b4 =>
        R (.returned (.bool b4)) H6) <|
      R (.returned (.bool false)) H) <|
    R (.returned (.bool false)) H) <|
  idxD s12 s12n (0 : Int) fun a5 =>
  ldSl H (Addr.add (Addr.add a5 (Int.toNat (0 : Int) * 6)) 5) fun q1 q1n q1c =>
  callD Try.prog 8 [(.slice s16 s16n s16c), (.slice q1 q1n q1c)] H (panK R) fun v3 H7 =>
  tBool v3 fun b5 =>
  iteB b5 (
    idxD s12 s12n (3 : Int) fun a6 =>
    idxD s12 s12n (0 : Int) fun a7 =>
    ldInt H7 (Addr.add (Addr.add a6 (Int.toNat (3 : Int) * 6)) 3) .i64 fun n8 =>
    ldInt H7 (Addr.add (Addr.add (Addr.add a6 (Int.toNat (3 : Int) * 6)) 3) 1) .i64 fun n9 =>
    ldSl H7 (Addr.add (Addr.add a7 (Int.toNat (0 : Int) * 6)) 5) fun q2 q2n q2c =>
    idxD q2 q2n (0 : Int) fun a8 =>
    ldInt H7 (Addr.add a8 (Int.toNat (0 : Int) * 2)) .i64 fun n10 =>
    ldInt H7 (Addr.add (Addr.add a8 (Int.toNat (0 : Int) * 2)) 1) .i64 fun n11 =>
    rawB Try.prog .eql 25 (.agg ⟨[(.int .i64 n8), (.int .i64 n9)]⟩) (.agg ⟨[(.int .i64 n10), (.int .i64 n11)]⟩) fun b6 =>
    iteB b6 (
      idxD s12 s12n (4 : Int) fun a9 =>
      idxD s16 s16n (IntKind.wrap .i64 (((s1n : Nat) : Int) - (1 : Int))) fun a10 =>
      ldInt H7 (Addr.add (Addr.add a9 (Int.toNat (4 : Int) * 6)) 3) .i64 fun n12 =>
      ldInt H7 (Addr.add (Addr.add (Addr.add a9 (Int.toNat (4 : Int) * 6)) 3) 1) .i64 fun n13 =>
      ldInt H7 (Addr.add a10 (Int.toNat (IntKind.wrap .i64 (((s1n : Nat) : Int) - (1 : Int))) * 2)) .i64 fun n14 =>
      ldInt H7 (Addr.add (Addr.add a10 (Int.toNat (IntKind.wrap .i64 (((s1n : Nat) : Int) - (1 : Int))) * 2)) 1) .i64 fun n15 =>
      rawB Try.prog .eql 25 (.agg ⟨[(.int .i64 n12), (.int .i64 n13)]⟩) (.agg ⟨[(.int .i64 n14), (.int .i64 n15)]⟩) fun b7 =>
      iteB b7 (
        idxD s12 s12n (3 : Int) fun a11 =>
        ldBool H7 (Addr.add (Addr.add a11 (Int.toNat (3 : Int) * 6)) 1) fun b8 =>
        iteB b8 (
          idxD s12 s12n (4 : Int) fun a12 =>
          ldBool H7 (Addr.add (Addr.add a12 (Int.toNat (4 : Int) * 6)) 1) fun b9 =>
          iteB b9 (
            callD Try.prog 6 [] H7 (panK R) fun v4 H8 =>
            tBool v4 fun b10 =>
            R (.returned (.bool b10)) H8) <|
          R (.returned (.bool false)) H7) <|
        R (.returned (.bool false)) H7) <|
      R (.returned (.bool false)) H7) <|
    R (.returned (.bool false)) H7) <|
  R (.returned (.bool false)) H7
theorem L4_step {s1 : Option Addr} {s1n : Nat} {s1c : Nat} {s12 : Option Addr} {s12n : Nat} {s12c : Nat} {s16 : Option Addr} {s16n : Nat} {s16c : Nat} {s141 : Option Addr} {s141n : Nat} {s141c : Nat} {s142 : Int} {s143 : Int} {H : Heap} {R : Ending → Heap → Prop} (h : L4n s1 s1n s1c s12 s12n s12c s16 s16n s16c s141 s141n s141c s142 s143 H R) : L4 s1 s1n s1c s12 s12n s12c s16 s16n s16c s141 s141n s141c s142 s143 H R :=
  goL_of_den (an := an) (fuel := 100000) (X := L4n s1 s1n s1c s12 s12n s12c s16 s16n s16c s141 s141n s141c s142 s143 H R) mixed fn (by kernel_rfl) (fun ρ0 => by kernel_rfl) h
def L5n (s1 : Option Addr) (s1n : Nat) (s1c : Nat) (s12 : Option Addr) (s12n : Nat) (s12c : Nat) (s16 : Option Addr) (s16n : Nat) (s16c : Nat) (s141 : Option Addr) (s141n : Nat) (s141c : Nat) (s142 : Int) (s143 : Int) (H : Heap) (R : Ending → Heap → Prop) : Prop :=
  L4 s1 s1n s1c s12 s12n s12c s16 s16n s16c s141 s141n s141c s142 (IntKind.wrap .i64 (s143 + (1 : Int))) H R
theorem L5_step {s1 : Option Addr} {s1n : Nat} {s1c : Nat} {s12 : Option Addr} {s12n : Nat} {s12c : Nat} {s16 : Option Addr} {s16n : Nat} {s16c : Nat} {s141 : Option Addr} {s141n : Nat} {s141c : Nat} {s142 : Int} {s143 : Int} {H : Heap} {R : Ending → Heap → Prop} (h : L5n s1 s1n s1c s12 s12n s12c s16 s16n s16c s141 s141n s141c s142 s143 H R) : L5 s1 s1n s1c s12 s12n s12c s16 s16n s16c s141 s141n s141c s142 s143 H R :=
  goL_of_den (an := an) (fuel := 100000) (X := L5n s1 s1n s1c s12 s12n s12c s16 s16n s16c s141 s141n s141c s142 s143 H R) mixed fn (by kernel_rfl) (fun ρ0 => by kernel_rfl) h
def L6n (s0 : Int) (s1 : Option Addr) (s1n : Nat) (s1c : Nat) (s7 : Option Addr) (s7n : Nat) (s7c : Nat) (s8 : Int) (s9 : Int) (s46 : Option Addr) (s46n : Nat) (s46c : Nat) (s47 : Int) (s48 : Int) (H : Heap) (R : Ending → Heap → Prop) : Prop :=
  divD ((s7n : Nat) : Int) <|
  idxD s7 s7n (Int.tmod s9 ((s7n : Nat) : Int)) fun a =>
  idxD s7 s7n s8 fun a1 =>
  ldInt H (Addr.add a (Int.toNat (Int.tmod s9 ((s7n : Nat) : Int)) * 2)) .i64 fun n =>
  ldInt H (Addr.add (Addr.add a (Int.toNat (Int.tmod s9 ((s7n : Nat) : Int)) * 2)) 1) .i64 fun n1 =>
  ldInt H (Addr.add a1 (Int.toNat s8 * 2)) .i64 fun n2 =>
  ldInt H (Addr.add (Addr.add a1 (Int.toNat s8 * 2)) 1) .i64 fun n3 =>
  idxD s7 s7n s8 fun a2 =>
  st1 H (Addr.add a2 (Int.toNat s8 * 2)) (.int .i64 n) fun H1 =>
  st1 H1 (Addr.add (Addr.add a2 (Int.toNat s8 * 2)) 1) (.int .i64 n1) fun H2 =>
  idxD s7 s7n (Int.tmod s9 ((s7n : Nat) : Int)) fun a3 =>
  st1 H2 (Addr.add a3 (Int.toNat (Int.tmod s9 ((s7n : Nat) : Int)) * 2)) (.int .i64 n2) fun H3 =>
  st1 H3 (Addr.add (Addr.add a3 (Int.toNat (Int.tmod s9 ((s7n : Nat) : Int)) * 2)) 1) (.int .i64 n3) fun H4 =>
  L7 s0 s1 s1n s1c s7 s7n s7c s46 s46n s46c s47 s48 H4 R
theorem L6_step {s0 : Int} {s1 : Option Addr} {s1n : Nat} {s1c : Nat} {s7 : Option Addr} {s7n : Nat} {s7c : Nat} {s8 : Int} {s9 : Int} {s46 : Option Addr} {s46n : Nat} {s46c : Nat} {s47 : Int} {s48 : Int} {H : Heap} {R : Ending → Heap → Prop} (h : L6n s0 s1 s1n s1c s7 s7n s7c s8 s9 s46 s46n s46c s47 s48 H R) : L6 s0 s1 s1n s1c s7 s7n s7c s8 s9 s46 s46n s46c s47 s48 H R :=
  goL_of_den (an := an) (fuel := 100000) (X := L6n s0 s1 s1n s1c s7 s7n s7c s8 s9 s46 s46n s46c s47 s48 H R) mixed fn (by kernel_rfl) (fun ρ0 => by kernel_rfl) h
def L7n (s0 : Int) (s1 : Option Addr) (s1n : Nat) (s1c : Nat) (s7 : Option Addr) (s7n : Nat) (s7c : Nat) (s46 : Option Addr) (s46n : Nat) (s46c : Nat) (s47 : Int) (s48 : Int) (H : Heap) (R : Ending → Heap → Prop) : Prop :=
  L2 s0 s1 s1n s1c s7 s7n s7c s46 s46n s46c s47 (IntKind.wrap .i64 (s48 + (1 : Int))) H R
theorem L7_step {s0 : Int} {s1 : Option Addr} {s1n : Nat} {s1c : Nat} {s7 : Option Addr} {s7n : Nat} {s7c : Nat} {s46 : Option Addr} {s46n : Nat} {s46c : Nat} {s47 : Int} {s48 : Int} {H : Heap} {R : Ending → Heap → Prop} (h : L7n s0 s1 s1n s1c s7 s7n s7c s46 s46n s46c s47 s48 H R) : L7 s0 s1 s1n s1c s7 s7n s7c s46 s46n s46c s47 s48 H R :=
  goL_of_den (an := an) (fuel := 100000) (X := L7n s0 s1 s1n s1c s7 s7n s7c s46 s46n s46c s47 s48 H R) mixed fn (by kernel_rfl) (fun ρ0 => by kernel_rfl) h
def go (s0 : Int) (s1 : Option Addr) (s1n : Nat) (s1c : Nat) (s2 : Option Addr) (s2n : Nat) (s2c : Nat) (H : Heap) (R : Ending → Heap → Prop) : Prop :=
  iteB (decide (((s1n : Nat) : Int) > (2147483647 : Int))) (
    R (.returned (.bool true)) H) <|
  iteB (decide (((s2n : Nat) : Int) > (2147483647 : Int))) (
    R (.returned (.bool true)) H) <|
  L0 s0 s1 s1n s1c s2 s2n s2c H R
theorem calls {s0 : Int} {s1 : Option Addr} {s1n : Nat} {s1c : Nat} {s2 : Option Addr} {s2n : Nat} {s2c : Nat} {H : Heap} {R : Ending → Heap → Prop} (h : go s0 s1 s1n s1c s2 s2n s2c H R) : CallsH Try.prog 5 ⟨[(.int .i64 s0), (.slice s1 s1n s1c), (.slice s2 s2n s2c)]⟩ H R :=
  callsH_of_den (an := an) (fuel := 100000) (X := go s0 s1 s1n s1c s2 s2n s2c H R) (c := body) mixed fn (by kernel_rfl) (by kernel_rfl) (by kernel_rfl) ok (by kernel_rfl) h
end F5
/-! ### 6 "pub-stadtholder/laws.btLive" -/
namespace F6
def an : Ann := { kinds := [], taus := [], pairs := [], lab := [] }
noncomputable def body : Code := (Try.f6.body).getD .skip
theorem fn : Try.prog.funcs[6]? = some Try.f6 := by kernel_rfl
theorem ok : codeOk an 25 body = true := by kernel_rfl
def go  (H : Heap) (R : Ending → Heap → Prop) : Prop :=
  newD H (.cells ⟨[(.int .i64 (1 : Int)), (.int .i64 (0 : Int)), (.int .i64 (4 : Int)), (.int .i64 (7 : Int)), (.int .i64 (0 : Int)), (.int .i64 (0 : Int)), (.int .i64 (0 : Int)), (.bool false), (.int .i64 (3 : Int)), (.int .i64 (0 : Int)), (.int .i64 (4 : Int)), (.int .i64 (0 : Int)), (.int .i64 (0 : Int)), (.int .i64 (0 : Int)), (.int .i64 (0 : Int)), (.bool false)]⟩ 30) fun r H1 =>
  callD Try.prog 12 [(.int .i64 (2 : Int)), (.slice (some ⟨r, 0, none⟩) 2 2)] H1 (panK R) fun v H2 =>
  tSl v fun q qn qc =>
  iteB (((qn : Nat) : Int) == (2 : Int)) (
    idxD q qn (1 : Int) fun a =>
    ldBool H2 (Addr.add (Addr.add a (Int.toNat (1 : Int) * 6)) 1) fun b =>
    iteB b (
      idxD q qn (1 : Int) fun a1 =>
      ldInt H2 (Addr.add (Addr.add a1 (Int.toNat (1 : Int) * 6)) 3) .i64 fun n =>
      ldInt H2 (Addr.add (Addr.add (Addr.add a1 (Int.toNat (1 : Int) * 6)) 3) 1) .i64 fun n1 =>
      rawB Try.prog .eql 25 (.agg ⟨[(.int .i64 n), (.int .i64 n1)]⟩) (.agg ⟨[(.int .i64 (4 : Int)), (.int .i64 (7 : Int))]⟩) fun b1 =>
      R (.returned (.bool b1)) H2) <|
    R (.returned (.bool false)) H2) <|
  R (.returned (.bool false)) H2
theorem calls  {H : Heap} {R : Ending → Heap → Prop} (h : go  H R) : CallsH Try.prog 6 ⟨[]⟩ H R :=
  callsH_of_den (an := an) (fuel := 100000) (X := go  H R) (c := body) mixed fn (by kernel_rfl) (by kernel_rfl) (by kernel_rfl) ok (by kernel_rfl) h
end F6
/-! ### 7 "pub-stadtholder/laws.btTail" -/
namespace F7
def an : Ann := { kinds := [], taus := [], pairs := [], lab := [] }
noncomputable def body : Code := (Try.f7.body).getD .skip
theorem fn : Try.prog.funcs[7]? = some Try.f7 := by kernel_rfl
theorem ok : codeOk an 27 body = true := by kernel_rfl
def go (degree : Int) (l : Option Addr) (ln : Nat) (lc : Nat) (ops : Option Addr) (opsn : Nat) (opsc : Nat) (H : Heap) (R : Ending → Heap → Prop) : Prop :=
  callD Try.prog 17 [(.slice l ln lc)] H (panK R) fun v H1 =>
  tSl v fun q qn qc =>
  apD H1 8 64 [(.int .i64 (0 : Int)), (.int .i64 (0 : Int)), (.int .i64 (0 : Int)), (.int .i64 (0 : Int)), (.int .i64 (0 : Int)), (.int .i64 (0 : Int)), (.int .i64 (0 : Int)), (.bool false)] 30 q qn qc ops opsn fun q1 q1n q1c H2 =>
  callD Try.prog 12 [(.int .i64 degree), (.slice q1 q1n q1c)] H2 (panK R) fun v1 H3 =>
  tSl v1 fun q2 q2n q2c =>
  iteB (((q2n : Nat) : Int) != (IntKind.wrap .i64 (((ln : Nat) : Int) + ((opsn : Nat) : Int)))) (
    R (.returned (.tuple ⟨[(.slice none 0 0), (.bool false)]⟩)) H3) <|
  bndD ((ln : Nat) : Int) q2n fun k =>
  R (.returned (.tuple ⟨[(.slice (slP q2 k q2c 6) (q2n - k) (q2c - k)), (.bool true)]⟩)) H3
theorem calls {degree : Int} {l : Option Addr} {ln : Nat} {lc : Nat} {ops : Option Addr} {opsn : Nat} {opsc : Nat} {H : Heap} {R : Ending → Heap → Prop} (h : go degree l ln lc ops opsn opsc H R) : CallsH Try.prog 7 ⟨[(.int .i64 degree), (.slice l ln lc), (.slice ops opsn opsc)]⟩ H R :=
  callsH_of_den (an := an) (fuel := 100000) (X := go degree l ln lc ops opsn opsc H R) (c := body) mixed fn (by kernel_rfl) (by kernel_rfl) (by kernel_rfl) ok (by kernel_rfl) h
end F7
/-! ### 8 "slices.Equal[[]pub-stadtholder/impl.El,pub-stadtholder/impl.El]" -/
namespace F8
def an : Ann := { kinds := [], taus := [(6, [[0, 1, 2, 4, 5, 6, 3, 7, 8]])], pairs := [], lab := [(40000005, [0, 1, 12, 13])] }
noncomputable def body : Code := (Try.f8.body).getD .skip
theorem fn : Try.prog.funcs[8]? = some Try.f8 := by kernel_rfl
theorem ok : codeOk an 26 body = true := by kernel_rfl
noncomputable def L0t : List Item := [.code (sub [1, 1, 0, 1, 0, 0] body), .inLoop (sub [1, 1, 0, 1, 0, 0] body), .inBlock 0, .code (sub [1, 1, 1] body)]
def L0 (s1 : Option Addr) (s1n : Nat) (s1c : Nat) (s2 : Option Addr) (s2n : Nat) (s2c : Nat) (s12 : Int) (s13 : Int) (H : Heap) (R : Ending → Heap → Prop) : Prop :=
  GoL Try.prog 8 26 L0t [0, 1, 12, 13] [(.slice s1 s1n s1c), (.slice s2 s2n s2c), (.int .i64 s12), (.int .i64 s13)] H R
def L0n (s1 : Option Addr) (s1n : Nat) (s1c : Nat) (s2 : Option Addr) (s2n : Nat) (s2c : Nat) (s12 : Int) (s13 : Int) (H : Heap) (R : Ending → Heap → Prop) : Prop :=
  iteB (decide (s13 < s12)) (
    idxD s1 s1n s13 fun a =>
    idxD s2 s2n s13 fun a1 =>
    ldInt H (Addr.add a (Int.toNat s13 * 2)) .i64 fun n =>
    ldInt H (Addr.add (Addr.add a (Int.toNat s13 * 2)) 1) .i64 fun n1 =>
    ldInt H (Addr.add a1 (Int.toNat s13 * 2)) .i64 fun n2 =>
    ldInt H (Addr.add (Addr.add a1 (Int.toNat s13 * 2)) 1) .i64 fun n3 =>
    rawB Try.prog .neq 25 (.agg ⟨[(.int .i64 n), (.int .i64 n1)]⟩) (.agg ⟨[(.int .i64 n2), (.int .i64 n3)]⟩) fun b =>
    iteB (!b) (
      R (.returned (.bool false)) H) <|
    L0 s1 s1n s1c s2 s2n s2c s12 (IntKind.wrap .i64 (s13 + (1 : Int))) H R) <|
  R (.returned (.bool true)) H
theorem L0_step {s1 : Option Addr} {s1n : Nat} {s1c : Nat} {s2 : Option Addr} {s2n : Nat} {s2c : Nat} {s12 : Int} {s13 : Int} {H : Heap} {R : Ending → Heap → Prop} (h : L0n s1 s1n s1c s2 s2n s2c s12 s13 H R) : L0 s1 s1n s1c s2 s2n s2c s12 s13 H R :=
  goL_of_den (an := an) (fuel := 100000) (X := L0n s1 s1n s1c s2 s2n s2c s12 s13 H R) mixed fn (by kernel_rfl) (fun ρ0 => by kernel_rfl) h
def go (s1 : Option Addr) (s1n : Nat) (s1c : Nat) (s2 : Option Addr) (s2n : Nat) (s2c : Nat) (H : Heap) (R : Ending → Heap → Prop) : Prop :=
  iteB (((s1n : Nat) : Int) != ((s2n : Nat) : Int)) (
    R (.returned (.bool false)) H) <|
  L0 s1 s1n s1c s2 s2n s2c ((s1n : Nat) : Int) (0 : Int) H R
theorem calls {s1 : Option Addr} {s1n : Nat} {s1c : Nat} {s2 : Option Addr} {s2n : Nat} {s2c : Nat} {H : Heap} {R : Ending → Heap → Prop} (h : go s1 s1n s1c s2 s2n s2c H R) : CallsH Try.prog 8 ⟨[(.slice s1 s1n s1c), (.slice s2 s2n s2c)]⟩ H R :=
  callsH_of_den (an := an) (fuel := 100000) (X := go s1 s1n s1c s2 s2n s2c H R) (c := body) mixed fn (by kernel_rfl) (by kernel_rfl) (by kernel_rfl) ok (by kernel_rfl) h
end F8
/-! ### 9 "pub-stadtholder/laws.btGood" -/
namespace F9
def an : Ann := { kinds := [], taus := [], pairs := [], lab := [(10000004, [1]), (40000005, [18, 19, 20]), (40000009, [18, 19, 20])] }
noncomputable def body : Code := (Try.f9.body).getD .skip
theorem fn : Try.prog.funcs[9]? = some Try.f9 := by kernel_rfl
theorem ok : codeOk an 33 body = true := by kernel_rfl
noncomputable def L0t : List Item := [.code (sub [1, 1] body)]
def L0 (ops : Option Addr) (opsn : Nat) (opsc : Nat) (H : Heap) (R : Ending → Heap → Prop) : Prop :=
  GoL Try.prog 9 33 L0t [1] [(.slice ops opsn opsc)] H R
noncomputable def L1t : List Item := [.code (sub [1, 1, 0, 1, 0, 0] body), .inLoop (sub [1, 1, 0, 1, 0, 0] body), .inBlock 0, .code (sub [1, 1, 1] body)]
def L1 (s18 : Option Addr) (s18n : Nat) (s18c : Nat) (s19 : Int) (s20 : Int) (H : Heap) (R : Ending → Heap → Prop) : Prop :=
  GoL Try.prog 9 33 L1t [18, 19, 20] [(.slice s18 s18n s18c), (.int .i64 s19), (.int .i64 s20)] H R
noncomputable def L2t : List Item := [.code (sub [1, 1, 0, 1, 0, 0, 1, 1, 1] body), .inLoop (sub [1, 1, 0, 1, 0, 0] body), .inBlock 0, .code (sub [1, 1, 1] body)]
def L2 (s18 : Option Addr) (s18n : Nat) (s18c : Nat) (s19 : Int) (s20 : Int) (H : Heap) (R : Ending → Heap → Prop) : Prop :=
  GoL Try.prog 9 33 L2t [18, 19, 20] [(.slice s18 s18n s18c), (.int .i64 s19), (.int .i64 s20)] H R
def L0n (ops : Option Addr) (opsn : Nat) (opsc : Nat) (H : Heap) (R : Ending → Heap → Prop) : Prop :=
  L1 ops opsn opsc ((opsn : Nat) : Int) (0 : Int) H R
theorem L0_step {ops : Option Addr} {opsn : Nat} {opsc : Nat} {H : Heap} {R : Ending → Heap → Prop} (h : L0n ops opsn opsc H R) : L0 ops opsn opsc H R :=
  goL_of_den (an := an) (fuel := 100000) (X := L0n ops opsn opsc H R) mixed fn (by kernel_rfl) (fun ρ0 => by kernel_rfl) h
def L1n (s18 : Option Addr) (s18n : Nat) (s18c : Nat) (s19 : Int) (s20 : Int) (H : Heap) (R : Ending → Heap → Prop) : Prop :=
  iteB (decide (s20 < s19)) (
    idxD s18 s18n s20 fun a =>
    ldInt H (Addr.add a (Int.toNat s20 * 8)) .i64 fun n =>
    ldInt H (Addr.add (Addr.add a (Int.toNat s20 * 8)) 1) .i64 fun n1 =>
    ldInt H (Addr.add (Addr.add a (Int.toNat s20 * 8)) 2) .i64 fun n2 =>
    ldInt H (Addr.add (Addr.add a (Int.toNat s20 * 8)) 3) .i64 fun n3 =>
    ldInt H (Addr.add (Addr.add a (Int.toNat s20 * 8)) 4) .i64 fun n4 =>
    ldInt H (Addr.add (Addr.add a (Int.toNat s20 * 8)) 5) .i64 fun n5 =>
    ldInt H (Addr.add (Addr.add a (Int.toNat s20 * 8)) 6) .i64 fun n6 =>
    ldBool H (Addr.add (Addr.add a (Int.toNat s20 * 8)) 7) fun b =>
    newD H (.cells ⟨[(.int .i64 (0 : Int)), (.int .i64 (0 : Int)), (.int .i64 (0 : Int)), (.int .i64 (0 : Int)), (.int .i64 (0 : Int)), (.int .i64 (0 : Int)), (.int .i64 (0 : Int)), (.bool false)]⟩ 30) fun r H1 =>
    st1 H1 ⟨r, 0, none⟩ (.int .i64 n) fun H2 =>
    st1 H2 ⟨r, 1, none⟩ (.int .i64 n1) fun H3 =>
    st1 H3 ⟨r, 2, none⟩ (.int .i64 n2) fun H4 =>
    st1 H4 ⟨r, 3, none⟩ (.int .i64 n3) fun H5 =>
    st1 H5 ⟨r, 4, none⟩ (.int .i64 n4) fun H6 =>
    st1 H6 ⟨r, 5, none⟩ (.int .i64 n5) fun H7 =>
    st1 H7 ⟨r, 6, none⟩ (.int .i64 n6) fun H8 =>
    st1 H8 ⟨r, 7, none⟩ (.bool b) fun H9 =>
    ldInt H9 ⟨r, 0, none⟩ .i64 fun n7 =>
    iteB (decide (n7 < (1 : Int))) (
      R (.returned (.bool false)) H9) <|
    ldInt H9 ⟨r, 0, none⟩ .i64 fun n8 =>
    iteB (decide (n8 > (19 : Int))) (
      R (.returned (.bool false)) H9) <|
    L2 s18 s18n s18c s19 s20 H9 R) <|
  R (.returned (.bool true)) H
theorem L1_step {s18 : Option Addr} {s18n : Nat} {s18c : Nat} {s19 : Int} {s20 : Int} {H : Heap} {R : Ending → Heap → Prop} (h : L1n s18 s18n s18c s19 s20 H R) : L1 s18 s18n s18c s19 s20 H R :=
  goL_of_den (an := an) (fuel := 100000) (X := L1n s18 s18n s18c s19 s20 H R) mixed fn (by kernel_rfl) (fun ρ0 => by kernel_rfl) h
def L2n (s18 : Option Addr) (s18n : Nat) (s18c : Nat) (s19 : Int) (s20 : Int) (H : Heap) (R : Ending → Heap → Prop) : Prop :=
  L1 s18 s18n s18c s19 (IntKind.wrap .i64 (s20 + (1 : Int))) H R
theorem L2_step {s18 : Option Addr} {s18n : Nat} {s18c : Nat} {s19 : Int} {s20 : Int} {H : Heap} {R : Ending → Heap → Prop} (h : L2n s18 s18n s18c s19 s20 H R) : L2 s18 s18n s18c s19 s20 H R :=
  goL_of_den (an := an) (fuel := 100000) (X := L2n s18 s18n s18c s19 s20 H R) mixed fn (by kernel_rfl) (fun ρ0 => by kernel_rfl) h
def go (degree : Int) (ops : Option Addr) (opsn : Nat) (opsc : Nat) (H : Heap) (R : Ending → Heap → Prop) : Prop :=
  iteB (decide (degree < (2 : Int))) (
    R (.returned (.bool false)) H) <|
  iteB (decide (degree > (64 : Int))) (
    R (.returned (.bool false)) H) <|
  iteB (decide (((opsn : Nat) : Int) > (600 : Int))) (
    R (.returned (.bool false)) H) <|
  L0 ops opsn opsc H R
theorem calls {degree : Int} {ops : Option Addr} {opsn : Nat} {opsc : Nat} {H : Heap} {R : Ending → Heap → Prop} (h : go degree ops opsn opsc H R) : CallsH Try.prog 9 ⟨[(.int .i64 degree), (.slice ops opsn opsc)]⟩ H R :=
  callsH_of_den (an := an) (fuel := 100000) (X := go degree ops opsn opsc H R) (c := body) mixed fn (by kernel_rfl) (by kernel_rfl) (by kernel_rfl) ok (by kernel_rfl) h
end F9
/-! ### 10 "pub-stadtholder/spec.Shelves" -/
namespace F10
def an : Ann := { kinds := [(11010, .grow)], taus := [(11, [[0, 1, 2, 3, 4, 5, 10, 6, 7, 8, 9, 11, 12], [0, 1, 2, 3, 4, 5, 6, 7, 8, 9, 10, 11, 12]])], pairs := [(11, [(10, 6)])], lab := [(40000005, [4, 5, 11, 12, 13]), (60000009, [4, 5, 7, 11, 12, 13]), (60000013, [4, 5, 7, 8, 9, 11, 12, 13]), (70000008, [4, 5, 11, 12, 13]), (40000015, [4, 5, 11, 12, 13])] }
noncomputable def body : Code := (Try.f10.body).getD .skip
theorem fn : Try.prog.funcs[10]? = some Try.f10 := by kernel_rfl
theorem ok : codeOk an 70 body = true := by kernel_rfl
noncomputable def L0t : List Item := [.code (sub [1, 1, 1, 0, 1, 0, 0] body), .inLoop (sub [1, 1, 1, 0, 1, 0, 0] body), .inBlock 0, .code (sub [1, 1, 1, 1] body)]
def L0 (s4 : Option Addr) (s4n : Nat) (s4c : Nat) (s5 : Option Addr) (s5n : Nat) (s5c : Nat) (s11 : Option Addr) (s11n : Nat) (s11c : Nat) (s12 : Int) (s13 : Int) (H : Heap) (R : Ending → Heap → Prop) : Prop :=
  GoL Try.prog 10 70 L0t [4, 5, 11, 12, 13] [(.slice s4 s4n s4c), (.slice s5 s5n s5c), (.slice s11 s11n s11c), (.int .i64 s12), (.int .i64 s13)] H R
noncomputable def L1t : List Item := [.code (sub [1, 1, 1, 0, 1, 0, 0, 1, 1, 0, 0, 1, 1] body), .inBlock 1, .code (sub [1, 1, 1, 0, 1, 0, 0, 1, 1, 1] body), .inLoop (sub [1, 1, 1, 0, 1, 0, 0] body), .inBlock 0, .code (sub [1, 1, 1, 1] body)]
def L1 (s4 : Option Addr) (s4n : Nat) (s4c : Nat) (s5 : Option Addr) (s5n : Nat) (s5c : Nat) (s7 : Nat) (s11 : Option Addr) (s11n : Nat) (s11c : Nat) (s12 : Int) (s13 : Int) (H : Heap) (R : Ending → Heap → Prop) : Prop :=
  GoL Try.prog 10 70 L1t [4, 5, 7, 11, 12, 13] [(.slice s4 s4n s4c), (.slice s5 s5n s5c), (.pointer (some ⟨s7, 0, none⟩)), (.slice s11 s11n s11c), (.int .i64 s12), (.int .i64 s13)] H R
noncomputable def L2t : List Item := [.code (sub [1, 1, 1, 0, 1, 0, 0, 1, 1, 0, 0, 1, 1, 1, 1] body), .inBlock 1, .code (sub [1, 1, 1, 0, 1, 0, 0, 1, 1, 1] body), .inLoop (sub [1, 1, 1, 0, 1, 0, 0] body), .inBlock 0, .code (sub [1, 1, 1, 1] body)]
def L2 (s4 : Option Addr) (s4n : Nat) (s4c : Nat) (s5 : Option Addr) (s5n : Nat) (s5c : Nat) (s7 : Nat) (s8 : Option Addr) (s8n : Nat) (s8c : Nat) (s9 : Nat) (s11 : Option Addr) (s11n : Nat) (s11c : Nat) (s12 : Int) (s13 : Int) (H : Heap) (R : Ending → Heap → Prop) : Prop :=
  GoL Try.prog 10 70 L2t [4, 5, 7, 8, 9, 11, 12, 13] [(.slice s4 s4n s4c), (.slice s5 s5n s5c), (.pointer (some ⟨s7, 0, none⟩)), (.slice s8 s8n s8c), (.pointer (some ⟨s9, 0, none⟩)), (.slice s11 s11n s11c), (.int .i64 s12), (.int .i64 s13)] H R
noncomputable def L3t : List Item := [.code (sub [1, 1, 1, 0, 1, 0, 0, 1, 1, 0, 0, 1, 0, 1, 0] body), .code (sub [1, 1, 1, 0, 1, 0, 0, 1, 1, 0, 0, 1, 1] body), .inBlock 1, .code (sub [1, 1, 1, 0, 1, 0, 0, 1, 1, 1] body), .inLoop (sub [1, 1, 1, 0, 1, 0, 0] body), .inBlock 0, .code (sub [1, 1, 1, 1] body)]
def L3 (s4 : Option Addr) (s4n : Nat) (s4c : Nat) (s5 : Option Addr) (s5n : Nat) (s5c : Nat) (s11 : Option Addr) (s11n : Nat) (s11c : Nat) (s12 : Int) (s13 : Int) (H : Heap) (R : Ending → Heap → Prop) : Prop :=
  GoL Try.prog 10 70 L3t [4, 5, 11, 12, 13] [(.slice s4 s4n s4c), (.slice s5 s5n s5c), (.slice s11 s11n s11c), (.int .i64 s12), (.int .i64 s13)] H R
noncomputable def L4t : List Item := [.code (sub [1, 1, 1, 0, 1, 0, 0, 1, 1, 1] body), .inLoop (sub [1, 1, 1, 0, 1, 0, 0] body), .inBlock 0, .code (sub [1, 1, 1, 1] body)]
def L4 (s4 : Option Addr) (s4n : Nat) (s4c : Nat) (s5 : Option Addr) (s5n : Nat) (s5c : Nat) (s11 : Option Addr) (s11n : Nat) (s11c : Nat) (s12 : Int) (s13 : Int) (H : Heap) (R : Ending → Heap → Prop) : Prop :=
  GoL Try.prog 10 70 L4t [4, 5, 11, 12, 13] [(.slice s4 s4n s4c), (.slice s5 s5n s5c), (.slice s11 s11n s11c), (.int .i64 s12), (.int .i64 s13)] H R
def L0n (s4 : Option Addr) (s4n : Nat) (s4c : Nat) (s5 : Option Addr) (s5n : Nat) (s5c : Nat) (s11 : Option Addr) (s11n : Nat) (s11c : Nat) (s12 : Int) (s13 : Int) (H : Heap) (R : Ending → Heap → Prop) : Prop :=
  iteB (decide (s13 < s12)) (
    idxD s11 s11n s13 fun a =>
    ldInt H (Addr.add a (Int.toNat s13 * 8)) .i64 fun n =>
    ldInt H (Addr.add (Addr.add a (Int.toNat s13 * 8)) 1) .i64 fun n1 =>
    ldInt H (Addr.add (Addr.add a (Int.toNat s13 * 8)) 2) .i64 fun n2 =>
    ldInt H (Addr.add (Addr.add a (Int.toNat s13 * 8)) 3) .i64 fun n3 =>
    ldInt H (Addr.add (Addr.add a (Int.toNat s13 * 8)) 4) .i64 fun n4 =>
    ldInt H (Addr.add (Addr.add a (Int.toNat s13 * 8)) 5) .i64 fun n5 =>
    ldInt H (Addr.add (Addr.add a (Int.toNat s13 * 8)) 6) .i64 fun n6 =>
    ldBool H (Addr.add (Addr.add a (Int.toNat s13 * 8)) 7) fun b =>
    newD H (.cells ⟨[(.int .i64 (0 : Int)), (.int .i64 (0 : Int)), (.int .i64 (0 : Int)), (.int .i64 (0 : Int)), (.int .i64 (0 : Int)), (.int .i64 (0 : Int)), (.int .i64 (0 : Int)), (.bool false)]⟩ 30) fun r H1 =>
    st1 H1 ⟨r, 0, none⟩ (.int .i64 n) fun H2 =>
    st1 H2 ⟨r, 1, none⟩ (.int .i64 n1) fun H3 =>
    st1 H3 ⟨r, 2, none⟩ (.int .i64 n2) fun H4 =>
    st1 H4 ⟨r, 3, none⟩ (.int .i64 n3) fun H5 =>
    st1 H5 ⟨r, 4, none⟩ (.int .i64 n4) fun H6 =>
    st1 H6 ⟨r, 5, none⟩ (.int .i64 n5) fun H7 =>
    st1 H7 ⟨r, 6, none⟩ (.int .i64 n6) fun H8 =>
    st1 H8 ⟨r, 7, none⟩ (.bool b) fun H9 =>
    ldInt H9 ⟨r, 1, none⟩ .i64 fun n7 =>
    iteB (decide (n7 < (0 : Int))) (
      L3 s4 s4n s4c s5 s5n s5c s11 s11n s11c s12 s13 H9 R) <|
    ldInt H9 ⟨r, 1, none⟩ .i64 fun n8 =>
    iteB (decide (n8 ≥ ((s4n : Nat) : Int))) (
      L3 s4 s4n s4c s5 s5n s5c s11 s11n s11c s12 s13 H9 R) <|
    L1 s4 s4n s4c s5 s5n s5c r s11 s11n s11c s12 s13 H9 R) <|
  R (.returned (.tuple ⟨[(.slice s5 s5n s5c), (.slice s4 s4n s4c)]⟩)) H
theorem L0_step {s4 : Option Addr} {s4n : Nat} {s4c : Nat} {s5 : Option Addr} {s5n : Nat} {s5c : Nat} {s11 : Option Addr} {s11n : Nat} {s11c : Nat} {s12 : Int} {s13 : Int} {H : Heap} {R : Ending → Heap → Prop} (h : L0n s4 s4n s4c s5 s5n s5c s11 s11n s11c s12 s13 H R) : L0 s4 s4n s4c s5 s5n s5c s11 s11n s11c s12 s13 H R :=
  goL_of_den (an := an) (fuel := 100000) (X := L0n s4 s4n s4c s5 s5n s5c s11 s11n s11c s12 s13 H R) mixed fn (by kernel_rfl) (fun ρ0 => by kernel_rfl) h
def L1n (s4 : Option Addr) (s4n : Nat) (s4c : Nat) (s5 : Option Addr) (s5n : Nat) (s5c : Nat) (s7 : Nat) (s11 : Option Addr) (s11n : Nat) (s11c : Nat) (s12 : Int) (s13 : Int) (H : Heap) (R : Ending → Heap → Prop) : Prop :=
  ldInt H ⟨s7, 0, none⟩ .i64 fun n =>
  iteB (n == (18 : Int)) (
    newD H (.cells ⟨[(.int .i64 (0 : Int)), (.bool false), (.int .i64 ((s4n : Nat) : Int)), (.int .i64 (0 : Int)), (.int .i64 (0 : Int)), (.slice none 0 0)]⟩ 32) fun r H1 =>
    apD H1 6 64 [(.int .i64 (0 : Int)), (.bool false), (.int .i64 (0 : Int)), (.int .i64 (0 : Int)), (.int .i64 (0 : Int)), (.slice none 0 0)] 32 s5 s5n s5c (some ⟨r, 0, none⟩) 1 fun q qn qc H2 =>
    ldInt H2 ⟨s7, 1, none⟩ .i64 fun n1 =>
    idxD s4 s4n n1 fun a =>
    ldSl H2 (Addr.add a (Int.toNat n1 * 1)) fun q1 q1n q1c =>
    newD H2 (.cells ⟨[(.slice q1 q1n q1c)]⟩ 49) fun r1 H3 =>
    apD H3 1 24 [(.slice none 0 0)] 49 s4 s4n s4c (some ⟨r1, 0, none⟩) 1 fun q2 q2n q2c H4 =>
    L4 q2 q2n q2c q qn qc s11 s11n s11c s12 s13 H4 R) <|
  (
    ldInt H ⟨s7, 1, none⟩ .i64 fun n2 =>
    idxD s4 s4n n2 fun a1 =>
    ldSl H (Addr.add a1 (Int.toNat n2 * 1)) fun q3 q3n q3c =>
    ldInt H ⟨s7, 0, none⟩ .i64 fun n3 =>
    ldInt H ⟨s7, 1, none⟩ .i64 fun n4 =>
    ldInt H ⟨s7, 2, none⟩ .i64 fun n5 =>
    ldInt H ⟨s7, 3, none⟩ .i64 fun n6 =>
    ldInt H ⟨s7, 4, none⟩ .i64 fun n7 =>
    ldInt H ⟨s7, 5, none⟩ .i64 fun n8 =>
    ldInt H ⟨s7, 6, none⟩ .i64 fun n9 =>
    ldBool H ⟨s7, 7, none⟩ fun b =>
    newD H (.cells ⟨[(.int .i64 (0 : Int)), (.bool false), (.int .i64 (0 : Int)), (.int .i64 (0 : Int)), (.int .i64 (0 : Int)), (.slice none 0 0)]⟩ 32) fun r2 H5 =>
    callD Try.prog 18 [(.slice q3 q3n q3c), (.agg ⟨[(.int .i64 n3), (.int .i64 n4), (.int .i64 n5), (.int .i64 n6), (.int .i64 n7), (.int .i64 n8), (.int .i64 n9), (.bool b)]⟩)] H5 (panK R) fun v H6 =>
    tTup v fun l =>
    tCons l fun c l1 =>
    tSl c fun q4 q4n q4c =>
    tCons l1 fun c1 l2 =>
    tAgg c1 fun l3 =>
    tCons l3 fun c2 l4 =>
    tInt c2 .i64 fun n10 =>
    tCons l4 fun c3 l5 =>
    tBool c3 fun b1 =>
    tCons l5 fun c4 l6 =>
    tInt c4 .i64 fun n11 =>
    tCons l6 fun c5 l7 =>
    tInt c5 .i64 fun n12 =>
    tCons l7 fun c6 l8 =>
    tInt c6 .i64 fun n13 =>
    tCons l8 fun c7 l9 =>
    tSl c7 fun q5 q5n q5c =>
    tNil l9 <|
    tNil l2 <|
    st1 H6 ⟨r2, 0, none⟩ (.int .i64 n10) fun H7 =>
    st1 H7 ⟨r2, 1, none⟩ (.bool b1) fun H8 =>
    st1 H8 ⟨r2, 2, none⟩ (.int .i64 n11) fun H9 =>
    st1 H9 ⟨r2, 3, none⟩ (.int .i64 n12) fun H10 =>
    st1 H10 ⟨r2, 4, none⟩ (.int .i64 n13) fun H11 =>
    st1 H11 ⟨r2, 5, none⟩ (.slice q5 q5n q5c) fun H12 =>
    L2 s4 s4n s4c s5 s5n s5c s7 q4 q4n q4c r2 s11 s11n s11c s12 s13 H12 R) ∧
  (
    ldInt H ⟨s7, 1, none⟩ .i64 fun n14 =>
    idxD s4 s4n n14 fun a2 =>
    ldSl H (Addr.add a2 (Int.toNat n14 * 1)) fun q6 q6n q6c =>
    ldInt H ⟨s7, 0, none⟩ .i64 fun n15 =>
    ldInt H ⟨s7, 1, none⟩ .i64 fun n16 =>
    ldInt H ⟨s7, 2, none⟩ .i64 fun n17 =>
    ldInt H ⟨s7, 3, none⟩ .i64 fun n18 =>
    ldInt H ⟨s7, 4, none⟩ .i64 fun n19 =>
    ldInt H ⟨s7, 5, none⟩ .i64 fun n20 =>
    ldInt H ⟨s7, 6, none⟩ .i64 fun n21 =>
    ldBool H ⟨s7, 7, none⟩ fun b2 =>
    callD Try.prog 18 [(.slice q6 q6n q6c), (.agg ⟨[(.int .i64 n15), (.int .i64 n16), (.int .i64 n17), (.int .i64 n18), (.int .i64 n19), (.int .i64 n20), (.int .i64 n21), (.bool b2)]⟩)] H (panK R) fun v1 H13 =>
    tTup v1 fun l10 =>
    tCons l10 fun c8 l11 =>
    tSl c8 fun q7 q7n q7c =>
    tCons l11 fun c9 l12 =>
    tAgg c9 fun l13 =>
    tCons l13 fun c10 l14 =>
    tInt c10 .i64 fun n22 =>
    tCons l14 fun c11 l15 =>
    tBool c11 fun b3 =>
    tCons l15 fun c12 l16 =>
    tInt c12 .i64 fun n23 =>
    tCons l16 fun c13 l17 =>
    tInt c13 .i64 fun n24 =>
    tCons l17 fun c14 l18 =>
    tInt c14 .i64 fun n25 =>
    tCons l18 fun c15 l19 =>
    tSl c15 fun q8 q8n q8c =>
    tNil l19 <|
    tNil l12 <|
    newD H13 (.cells ⟨[(.int .i64 (0 : Int)), (.bool false), (.int .i64 (0 : Int)), (.int .i64 (0 : Int)), (.int .i64 (0 : Int)), (.slice none 0 0)]⟩ 32) fun r3 H14 =>
    st1 H14 ⟨r3, 0, none⟩ (.int .i64 n22) fun H15 =>
    st1 H15 ⟨r3, 1, none⟩ (.bool b3) fun H16 =>
    st1 H16 ⟨r3, 2, none⟩ (.int .i64 n23) fun H17 =>
    st1 H17 ⟨r3, 3, none⟩ (.int .i64 n24) fun H18 =>
    st1 H18 ⟨r3, 4, none⟩ (.int .i64 n25) fun H19 =>
    st1 H19 ⟨r3, 5, none⟩ (.slice q8 q8n q8c) fun H20 =>
    L2 s4 s4n s4c s5 s5n s5c s7 q7 q7n q7c r3 s11 s11n s11c s12 s13 H20 R)
theorem L1_step {s4 : Option Addr} {s4n : Nat} {s4c : Nat} {s5 : Option Addr} {s5n : Nat} {s5c : Nat} {s7 : Nat} {s11 : Option Addr} {s11n : Nat} {s11c : Nat} {s12 : Int} {s13 : Int} {H : Heap} {R : Ending → Heap → Prop} (h : L1n s4 s4n s4c s5 s5n s5c s7 s11 s11n s11c s12 s13 H R) : L1 s4 s4n s4c s5 s5n s5c s7 s11 s11n s11c s12 s13 H R :=
  goL_of_den (an := an) (fuel := 100000) (X := L1n s4 s4n s4c s5 s5n s5c s7 s11 s11n s11c s12 s13 H R) mixed fn (by kernel_rfl) (fun ρ0 => by kernel_rfl) h
def L2n (s4 : Option Addr) (s4n : Nat) (s4c : Nat) (s5 : Option Addr) (s5n : Nat) (s5c : Nat) (s7 : Nat) (s8 : Option Addr) (s8n : Nat) (s8c : Nat) (s9 : Nat) (s11 : Option Addr) (s11n : Nat) (s11c : Nat) (s12 : Int) (s13 : Int) (H : Heap) (R : Ending → Heap → Prop) : Prop :=
  ldInt H ⟨s7, 1, none⟩ .i64 fun n =>
  idxD s4 s4n n fun a =>
  st1 H (Addr.add a (Int.toNat n * 1)) (.slice s8 s8n s8c) fun H1 =>
  ldInt H1 ⟨s9, 0, none⟩ .i64 fun n1 =>
  ldBool H1 ⟨s9, 1, none⟩ fun b =>
  ldInt H1 ⟨s9, 2, none⟩ .i64 fun n2 =>
  ldInt H1 ⟨s9, 3, none⟩ .i64 fun n3 =>
  ldInt H1 ⟨s9, 4, none⟩ .i64 fun n4 =>
  ldSl H1 ⟨s9, 5, none⟩ fun q qn qc =>
  newD H1 (.cells ⟨[(.int .i64 n1), (.bool b), (.int .i64 n2), (.int .i64 n3), (.int .i64 n4), (.slice q qn qc)]⟩ 32) fun r H2 =>
  apD H2 6 64 [(.int .i64 (0 : Int)), (.bool false), (.int .i64 (0 : Int)), (.int .i64 (0 : Int)), (.int .i64 (0 : Int)), (.slice none 0 0)] 32 s5 s5n s5c (some ⟨r, 0, none⟩) 1 fun q1 q1n q1c H3 =>
  L4 s4 s4n s4c q1 q1n q1c s11 s11n s11c s12 s13 H3 R
theorem L2_step {s4 : Option Addr} {s4n : Nat} {s4c : Nat} {s5 : Option Addr} {s5n : Nat} {s5c : Nat} {s7 : Nat} {s8 : Option Addr} {s8n : Nat} {s8c : Nat} {s9 : Nat} {s11 : Option Addr} {s11n : Nat} {s11c : Nat} {s12 : Int} {s13 : Int} {H : Heap} {R : Ending → Heap → Prop} (h : L2n s4 s4n s4c s5 s5n s5c s7 s8 s8n s8c s9 s11 s11n s11c s12 s13 H R) : L2 s4 s4n s4c s5 s5n s5c s7 s8 s8n s8c s9 s11 s11n s11c s12 s13 H R :=
  goL_of_den (an := an) (fuel := 100000) (X := L2n s4 s4n s4c s5 s5n s5c s7 s8 s8n s8c s9 s11 s11n s11c s12 s13 H R) mixed fn (by kernel_rfl) (fun ρ0 => by kernel_rfl) h
def L3n (s4 : Option Addr) (s4n : Nat) (s4c : Nat) (s5 : Option Addr) (s5n : Nat) (s5c : Nat) (s11 : Option Addr) (s11n : Nat) (s11c : Nat) (s12 : Int) (s13 : Int) (H : Heap) (R : Ending → Heap → Prop) : Prop :=
  newD H (.cells ⟨[(.int .i64 (6 : Int)), (.bool false), (.int .i64 (0 : Int)), (.int .i64 (0 : Int)), (.int .i64 (0 : Int)), (.slice none 0 0)]⟩ 32) fun r H1 =>
  apD H1 6 64 [(.int .i64 (0 : Int)), (.bool false), (.int .i64 (0 : Int)), (.int .i64 (0 : Int)), (.int .i64 (0 : Int)), (.slice none 0 0)] 32 s5 s5n s5c (some ⟨r, 0, none⟩) 1 fun q qn qc H2 =>
  L4 s4 s4n s4c q qn qc s11 s11n s11c s12 s13 H2 R
theorem L3_step {s4 : Option Addr} {s4n : Nat} {s4c : Nat} {s5 : Option Addr} {s5n : Nat} {s5c : Nat} {s11 : Option Addr} {s11n : Nat} {s11c : Nat} {s12 : Int} {s13 : Int} {H : Heap} {R : Ending → Heap → Prop} (h : L3n s4 s4n s4c s5 s5n s5c s11 s11n s11c s12 s13 H R) : L3 s4 s4n s4c s5 s5n s5c s11 s11n s11c s12 s13 H R :=
  goL_of_den (an := an) (fuel := 100000) (X := L3n s4 s4n s4c s5 s5n s5c s11 s11n s11c s12 s13 H R) mixed fn (by kernel_rfl) (fun ρ0 => by kernel_rfl) h
def L4n (s4 : Option Addr) (s4n : Nat) (s4c : Nat) (s5 : Option Addr) (s5n : Nat) (s5c : Nat) (s11 : Option Addr) (s11n : Nat) (s11c : Nat) (s12 : Int) (s13 : Int) (H : Heap) (R : Ending → Heap → Prop) : Prop :=
  L0 s4 s4n s4c s5 s5n s5c s11 s11n s11c s12 (IntKind.wrap .i64 (s13 + (1 : Int))) H R
theorem L4_step {s4 : Option Addr} {s4n : Nat} {s4c : Nat} {s5 : Option Addr} {s5n : Nat} {s5c : Nat} {s11 : Option Addr} {s11n : Nat} {s11c : Nat} {s12 : Int} {s13 : Int} {H : Heap} {R : Ending → Heap → Prop} (h : L4n s4 s4n s4c s5 s5n s5c s11 s11n s11c s12 s13 H R) : L4 s4 s4n s4c s5 s5n s5c s11 s11n s11c s12 s13 H R :=
  goL_of_den (an := an) (fuel := 100000) (X := L4n s4 s4n s4c s5 s5n s5c s11 s11n s11c s12 s13 H R) mixed fn (by kernel_rfl) (fun ρ0 => by kernel_rfl) h
def go (s0 : Option Addr) (s0n : Nat) (s0c : Nat) (H : Heap) (R : Ending → Heap → Prop) : Prop :=
  newD H (.cells ⟨[(.slice none 0 0)]⟩ 49) fun r H1 =>
  L0 (some ⟨r, 0, none⟩) 1 1 none 0 0 s0 s0n s0c ((s0n : Nat) : Int) (0 : Int) H1 R
theorem calls {s0 : Option Addr} {s0n : Nat} {s0c : Nat} {H : Heap} {R : Ending → Heap → Prop} (h : go s0 s0n s0c H R) : CallsH Try.prog 10 ⟨[(.slice s0 s0n s0c)]⟩ H R :=
  callsH_of_den (an := an) (fuel := 100000) (X := go s0 s0n s0c H R) (c := body) mixed fn (by kernel_rfl) (by kernel_rfl) (by kernel_rfl) ok (by kernel_rfl) h
end F10
/-! ### 11 "pub-stadtholder/laws.btAll" -/
namespace F11
def an : Ann := { kinds := [], taus := [(6, [[0, 1, 2, 4, 5, 6, 3, 7, 8, 9]])], pairs := [], lab := [(40000005, [0, 1, 12, 13])] }
noncomputable def body : Code := (Try.f11.body).getD .skip
theorem fn : Try.prog.funcs[11]? = some Try.f11 := by kernel_rfl
theorem ok : codeOk an 27 body = true := by kernel_rfl
noncomputable def L0t : List Item := [.code (sub [1, 1, 0, 1, 0, 0] body), .inLoop (sub [1, 1, 0, 1, 0, 0] body), .inBlock 0, .code (sub [1, 1, 1] body)]
def L0 (a : Option Addr) (an1 : Nat) (ac : Nat) (b : Option Addr) (bn : Nat) (bc : Nat) (s12 : Int) (s13 : Int) (H : Heap) (R : Ending → Heap → Prop) : Prop :=
  GoL Try.prog 11 27 L0t [0, 1, 12, 13] [(.slice a an1 ac), (.slice b bn bc), (.int .i64 s12), (.int .i64 s13)] H R
def L0n (a : Option Addr) (an1 : Nat) (ac : Nat) (b : Option Addr) (bn : Nat) (bc : Nat) (s12 : Int) (s13 : Int) (H : Heap) (R : Ending → Heap → Prop) : Prop :=
  iteB (decide (s13 < s12)) (
    idxD a an1 s13 fun a1 =>
    idxD b bn s13 fun a2 =>
    ldInt H (Addr.add a1 (Int.toNat s13 * 6)) .i64 fun n =>
    ldBool H (Addr.add (Addr.add a1 (Int.toNat s13 * 6)) 1) fun b1 =>
    ldInt H (Addr.add (Addr.add a1 (Int.toNat s13 * 6)) 2) .i64 fun n1 =>
    ldInt H (Addr.add (Addr.add a1 (Int.toNat s13 * 6)) 3) .i64 fun n2 =>
    ldInt H (Addr.add (Addr.add a1 (Int.toNat s13 * 6)) 4) .i64 fun n3 =>
    ldSl H (Addr.add (Addr.add a1 (Int.toNat s13 * 6)) 5) fun q qn qc =>
    ldInt H (Addr.add a2 (Int.toNat s13 * 6)) .i64 fun n4 =>
    ldBool H (Addr.add (Addr.add a2 (Int.toNat s13 * 6)) 1) fun b2 =>
    ldInt H (Addr.add (Addr.add a2 (Int.toNat s13 * 6)) 2) .i64 fun n5 =>
    ldInt H (Addr.add (Addr.add a2 (Int.toNat s13 * 6)) 3) .i64 fun n6 =>
    ldInt H (Addr.add (Addr.add a2 (Int.toNat s13 * 6)) 4) .i64 fun n7 =>
    ldSl H (Addr.add (Addr.add a2 (Int.toNat s13 * 6)) 5) fun q1 q1n q1c =>
    callD Try.prog 19 [(.agg ⟨[(.int .i64 n), (.bool b1), (.int .i64 n1), (.int .i64 n2), (.int .i64 n3), (.slice q qn qc)]⟩), (.agg ⟨[(.int .i64 n4), (.bool b2), (.int .i64 n5), (.int .i64 n6), (.int .i64 n7), (.slice q1 q1n q1c)]⟩)] H (panK R) fun v H1 =>
    tBool v fun b3 =>
    iteB (!b3) (
      R (.returned (.bool false)) H1) <|
    L0 a an1 ac b bn bc s12 (IntKind.wrap .i64 (s13 + (1 : Int))) H1 R) <|
  R (.returned (.bool true)) H
theorem L0_step {a : Option Addr} {an1 : Nat} {ac : Nat} {b : Option Addr} {bn : Nat} {bc : Nat} {s12 : Int} {s13 : Int} {H : Heap} {R : Ending → Heap → Prop} (h : L0n a an1 ac b bn bc s12 s13 H R) : L0 a an1 ac b bn bc s12 s13 H R :=
  goL_of_den (an := an) (fuel := 100000) (X := L0n a an1 ac b bn bc s12 s13 H R) mixed fn (by kernel_rfl) (fun ρ0 => by kernel_rfl) h
def go (a : Option Addr) (an1 : Nat) (ac : Nat) (b : Option Addr) (bn : Nat) (bc : Nat) (H : Heap) (R : Ending → Heap → Prop) : Prop :=
  iteB (((an1 : Nat) : Int) != ((bn : Nat) : Int)) (
    R (.returned (.bool false)) H) <|
  L0 a an1 ac b bn bc ((an1 : Nat) : Int) (0 : Int) H R
theorem calls {a : Option Addr} {an1 : Nat} {ac : Nat} {b : Option Addr} {bn : Nat} {bc : Nat} {H : Heap} {R : Ending → Heap → Prop} (h : go a an1 ac b bn bc H R) : CallsH Try.prog 11 ⟨[(.slice a an1 ac), (.slice b bn bc)]⟩ H R :=
  callsH_of_den (an := an) (fuel := 100000) (X := go a an1 ac b bn bc H R) (c := body) mixed fn (by kernel_rfl) (by kernel_rfl) (by kernel_rfl) ok (by kernel_rfl) h
end F11
/-! ### 12 "pub-stadtholder/impl.BTree" -/
namespace F12
def an : Ann := { kinds := [(12008, .grow)], taus := [(12, [[0, 1, 2, 3, 4, 5, 6, 7, 8, 9, 10]])], pairs := [], lab := [(40000005, [1, 5, 6, 7]), (60000010, [1, 5, 6, 7, 8]), (70000009, [1, 5, 6, 7]), (40000006, [1, 5, 6, 7])] }
noncomputable def body : Code := (Try.f12.body).getD .skip
theorem fn : Try.prog.funcs[12]? = some Try.f12 := by kernel_rfl
theorem ok : codeOk an 68 body = true := by kernel_rfl
noncomputable def L0t : List Item := [.code (sub [1, 1, 1, 0, 1, 0, 0] body), .inLoop (sub [1, 1, 1, 0, 1, 0, 0] body), .inBlock 0, .code (sub [1, 1, 1, 1] body)]
def L0 (s1 : Option Addr) (s1n : Nat) (s1c : Nat) (s5 : Option Addr) (s5n : Nat) (s5c : Nat) (s6 : Option Addr) (s6n : Nat) (s6c : Nat) (s7 : Int) (H : Heap) (R : Ending → Heap → Prop) : Prop :=
  GoL Try.prog 12 68 L0t [1, 5, 6, 7] [(.slice s1 s1n s1c), (.slice s5 s5n s5c), (.slice s6 s6n s6c), (.int .i64 s7)] H R
noncomputable def L1t : List Item := [.code (sub [1, 1, 1, 0, 1, 0, 0, 1, 0, 0, 1, 1] body), .inBlock 1, .code (sub [1, 1, 1, 0, 1, 0, 0, 1, 1] body), .inLoop (sub [1, 1, 1, 0, 1, 0, 0] body), .inBlock 0, .code (sub [1, 1, 1, 1] body)]
def L1 (s1 : Option Addr) (s1n : Nat) (s1c : Nat) (s5 : Option Addr) (s5n : Nat) (s5c : Nat) (s6 : Option Addr) (s6n : Nat) (s6c : Nat) (s7 : Int) (s8 : Nat) (H : Heap) (R : Ending → Heap → Prop) : Prop :=
  GoL Try.prog 12 68 L1t [1, 5, 6, 7, 8] [(.slice s1 s1n s1c), (.slice s5 s5n s5c), (.slice s6 s6n s6c), (.int .i64 s7), (.pointer (some ⟨s8, 0, none⟩))] H R
noncomputable def L2t : List Item := [.code (sub [1, 1, 1, 0, 1, 0, 0, 1, 0, 0, 1, 0, 1, 0] body), .code (sub [1, 1, 1, 0, 1, 0, 0, 1, 0, 0, 1, 1] body), .inBlock 1, .code (sub [1, 1, 1, 0, 1, 0, 0, 1, 1] body), .inLoop (sub [1, 1, 1, 0, 1, 0, 0] body), .inBlock 0, .code (sub [1, 1, 1, 1] body)]
def L2 (s1 : Option Addr) (s1n : Nat) (s1c : Nat) (s5 : Option Addr) (s5n : Nat) (s5c : Nat) (s6 : Option Addr) (s6n : Nat) (s6c : Nat) (s7 : Int) (H : Heap) (R : Ending → Heap → Prop) : Prop :=
  GoL Try.prog 12 68 L2t [1, 5, 6, 7] [(.slice s1 s1n s1c), (.slice s5 s5n s5c), (.slice s6 s6n s6c), (.int .i64 s7)] H R
noncomputable def L3t : List Item := [.code (sub [1, 1, 1, 0, 1, 0, 0, 1, 1] body), .inLoop (sub [1, 1, 1, 0, 1, 0, 0] body), .inBlock 0, .code (sub [1, 1, 1, 1] body)]
def L3 (s1 : Option Addr) (s1n : Nat) (s1c : Nat) (s5 : Option Addr) (s5n : Nat) (s5c : Nat) (s6 : Option Addr) (s6n : Nat) (s6c : Nat) (s7 : Int) (H : Heap) (R : Ending → Heap → Prop) : Prop :=
  GoL Try.prog 12 68 L3t [1, 5, 6, 7] [(.slice s1 s1n s1c), (.slice s5 s5n s5c), (.slice s6 s6n s6c), (.int .i64 s7)] H R
def L0n (s1 : Option Addr) (s1n : Nat) (s1c : Nat) (s5 : Option Addr) (s5n : Nat) (s5c : Nat) (s6 : Option Addr) (s6n : Nat) (s6c : Nat) (s7 : Int) (H : Heap) (R : Ending → Heap → Prop) : Prop :=
  iteB (decide (s7 < ((s1n : Nat) : Int))) (
    idxD s1 s1n s7 fun a =>
    ldInt H (Addr.add a (Int.toNat s7 * 8)) .i64 fun n =>
    ldInt H (Addr.add (Addr.add a (Int.toNat s7 * 8)) 1) .i64 fun n1 =>
    ldInt H (Addr.add (Addr.add a (Int.toNat s7 * 8)) 2) .i64 fun n2 =>
    ldInt H (Addr.add (Addr.add a (Int.toNat s7 * 8)) 3) .i64 fun n3 =>
    ldInt H (Addr.add (Addr.add a (Int.toNat s7 * 8)) 4) .i64 fun n4 =>
    ldInt H (Addr.add (Addr.add a (Int.toNat s7 * 8)) 5) .i64 fun n5 =>
    ldInt H (Addr.add (Addr.add a (Int.toNat s7 * 8)) 6) .i64 fun n6 =>
    ldBool H (Addr.add (Addr.add a (Int.toNat s7 * 8)) 7) fun b =>
    newD H (.cells ⟨[(.int .i64 (0 : Int)), (.int .i64 (0 : Int)), (.int .i64 (0 : Int)), (.int .i64 (0 : Int)), (.int .i64 (0 : Int)), (.int .i64 (0 : Int)), (.int .i64 (0 : Int)), (.bool false)]⟩ 30) fun r H1 =>
    st1 H1 ⟨r, 0, none⟩ (.int .i64 n) fun H2 =>
    st1 H2 ⟨r, 1, none⟩ (.int .i64 n1) fun H3 =>
    st1 H3 ⟨r, 2, none⟩ (.int .i64 n2) fun H4 =>
    st1 H4 ⟨r, 3, none⟩ (.int .i64 n3) fun H5 =>
    st1 H5 ⟨r, 4, none⟩ (.int .i64 n4) fun H6 =>
    st1 H6 ⟨r, 5, none⟩ (.int .i64 n5) fun H7 =>
    st1 H7 ⟨r, 6, none⟩ (.int .i64 n6) fun H8 =>
    st1 H8 ⟨r, 7, none⟩ (.bool b) fun H9 =>
    ldInt H9 ⟨r, 1, none⟩ .i64 fun n7 =>
    iteB (decide (n7 < (0 : Int))) (
      L2 s1 s1n s1c s5 s5n s5c s6 s6n s6c s7 H9 R) <|
    ldInt H9 ⟨r, 1, none⟩ .i64 fun n8 =>
    iteB (decide (n8 ≥ ((s5n : Nat) : Int))) (
      L2 s1 s1n s1c s5 s5n s5c s6 s6n s6c s7 H9 R) <|
    L1 s1 s1n s1c s5 s5n s5c s6 s6n s6c s7 r H9 R) <|
  R (.returned (.slice s6 s6n s6c)) H
theorem L0_step {s1 : Option Addr} {s1n : Nat} {s1c : Nat} {s5 : Option Addr} {s5n : Nat} {s5c : Nat} {s6 : Option Addr} {s6n : Nat} {s6c : Nat} {s7 : Int} {H : Heap} {R : Ending → Heap → Prop} (h : L0n s1 s1n s1c s5 s5n s5c s6 s6n s6c s7 H R) : L0 s1 s1n s1c s5 s5n s5c s6 s6n s6c s7 H R :=
  goL_of_den (an := an) (fuel := 100000) (X := L0n s1 s1n s1c s5 s5n s5c s6 s6n s6c s7 H R) mixed fn (by kernel_rfl) (fun ρ0 => by kernel_rfl) h
def L1n (s1 : Option Addr) (s1n : Nat) (s1c : Nat) (s5 : Option Addr) (s5n : Nat) (s5c : Nat) (s6 : Option Addr) (s6n : Nat) (s6c : Nat) (s7 : Int) (s8 : Nat) (H : Heap) (R : Ending → Heap → Prop) : Prop :=
  ldInt H ⟨s8, 0, none⟩ .i64 fun n =>
  iteB (n == (18 : Int)) (
    ldInt H ⟨s8, 1, none⟩ .i64 fun n1 =>
    idxD s5 s5n n1 fun a =>
    ldPtr H (Addr.add a (Int.toNat n1 * 1)) fun p =>
    callD Try.prog 22 [(.pointer p)] H (panK R) fun v H1 =>
    tPtr v fun p1 =>
    newD H1 (.cells ⟨[(.pointer p1)]⟩ 53) fun r H2 =>
    apD H2 1 8 [(.pointer none)] 53 s5 s5n s5c (some ⟨r, 0, none⟩) 1 fun q qn qc H3 =>
    newD H3 (.cells ⟨[(.int .i64 (0 : Int)), (.bool false), (.int .i64 (IntKind.wrap .i64 (((qn : Nat) : Int) - (1 : Int)))), (.int .i64 (0 : Int)), (.int .i64 (0 : Int)), (.slice none 0 0)]⟩ 32) fun r1 H4 =>
    apD H4 6 64 [(.int .i64 (0 : Int)), (.bool false), (.int .i64 (0 : Int)), (.int .i64 (0 : Int)), (.int .i64 (0 : Int)), (.slice none 0 0)] 32 s6 s6n s6c (some ⟨r1, 0, none⟩) 1 fun q1 q1n q1c H5 =>
    L3 s1 s1n s1c q qn qc q1 q1n q1c s7 H5 R) <|
  ldInt H ⟨s8, 1, none⟩ .i64 fun n2 =>
  idxD s5 s5n n2 fun a1 =>
  ldPtr H (Addr.add a1 (Int.toNat n2 * 1)) fun p2 =>
  ldInt H ⟨s8, 0, none⟩ .i64 fun n3 =>
  ldInt H ⟨s8, 1, none⟩ .i64 fun n4 =>
  ldInt H ⟨s8, 2, none⟩ .i64 fun n5 =>
  ldInt H ⟨s8, 3, none⟩ .i64 fun n6 =>
  ldInt H ⟨s8, 4, none⟩ .i64 fun n7 =>
  ldInt H ⟨s8, 5, none⟩ .i64 fun n8 =>
  ldInt H ⟨s8, 6, none⟩ .i64 fun n9 =>
  ldBool H ⟨s8, 7, none⟩ fun b =>
  callD Try.prog 23 [(.pointer p2), (.agg ⟨[(.int .i64 n3), (.int .i64 n4), (.int .i64 n5), (.int .i64 n6), (.int .i64 n7), (.int .i64 n8), (.int .i64 n9), (.bool b)]⟩)] H (panK R) fun v1 H6 =>
  tAgg v1 fun l =>
  tCons l fun c l1 =>
  tInt c .i64 fun n10 =>
  tCons l1 fun c1 l2 =>
  tBool c1 fun b1 =>
  tCons l2 fun c2 l3 =>
  tInt c2 .i64 fun n11 =>
  tCons l3 fun c3 l4 =>
  tInt c3 .i64 fun n12 =>
  tCons l4 fun c4 l5 =>
  tInt c4 .i64 fun n13 =>
  tCons l5 fun c5 l6 =>
  tSl c5 fun q2 q2n q2c =>
  tNil l6 <|
  newD H6 (.cells ⟨[(.int .i64 n10), (.bool b1), (.int .i64 n11), (.int .i64 n12), (.int .i64 n13), (.slice q2 q2n q2c)]⟩ 32) fun r2 H7 =>
  apD H7 6 64 [(.int .i64 (0 : Int)), (.bool false), (.int .i64 (0 : Int)), (.int .i64 (0 : Int)), (.int .i64 (0 : Int)), (.slice none 0 0)] 32 s6 s6n s6c (some ⟨r2, 0, none⟩) 1 fun q3 q3n q3c H8 =>
  L3 s1 s1n s1c s5 s5n s5c q3 q3n q3c s7 H8 R
theorem L1_step {s1 : Option Addr} {s1n : Nat} {s1c : Nat} {s5 : Option Addr} {s5n : Nat} {s5c : Nat} {s6 : Option Addr} {s6n : Nat} {s6c : Nat} {s7 : Int} {s8 : Nat} {H : Heap} {R : Ending → Heap → Prop} (h : L1n s1 s1n s1c s5 s5n s5c s6 s6n s6c s7 s8 H R) : L1 s1 s1n s1c s5 s5n s5c s6 s6n s6c s7 s8 H R :=
  goL_of_den (an := an) (fuel := 100000) (X := L1n s1 s1n s1c s5 s5n s5c s6 s6n s6c s7 s8 H R) mixed fn (by kernel_rfl) (fun ρ0 => by kernel_rfl) h
def L2n (s1 : Option Addr) (s1n : Nat) (s1c : Nat) (s5 : Option Addr) (s5n : Nat) (s5c : Nat) (s6 : Option Addr) (s6n : Nat) (s6c : Nat) (s7 : Int) (H : Heap) (R : Ending → Heap → Prop) : Prop :=
  newD H (.cells ⟨[(.int .i64 (6 : Int)), (.bool false), (.int .i64 (0 : Int)), (.int .i64 (0 : Int)), (.int .i64 (0 : Int)), (.slice none 0 0)]⟩ 32) fun r H1 =>
  apD H1 6 64 [(.int .i64 (0 : Int)), (.bool false), (.int .i64 (0 : Int)), (.int .i64 (0 : Int)), (.int .i64 (0 : Int)), (.slice none 0 0)] 32 s6 s6n s6c (some ⟨r, 0, none⟩) 1 fun q qn qc H2 =>
  L3 s1 s1n s1c s5 s5n s5c q qn qc s7 H2 R
theorem L2_step {s1 : Option Addr} {s1n : Nat} {s1c : Nat} {s5 : Option Addr} {s5n : Nat} {s5c : Nat} {s6 : Option Addr} {s6n : Nat} {s6c : Nat} {s7 : Int} {H : Heap} {R : Ending → Heap → Prop} (h : L2n s1 s1n s1c s5 s5n s5c s6 s6n s6c s7 H R) : L2 s1 s1n s1c s5 s5n s5c s6 s6n s6c s7 H R :=
  goL_of_den (an := an) (fuel := 100000) (X := L2n s1 s1n s1c s5 s5n s5c s6 s6n s6c s7 H R) mixed fn (by kernel_rfl) (fun ρ0 => by kernel_rfl) h
def L3n (s1 : Option Addr) (s1n : Nat) (s1c : Nat) (s5 : Option Addr) (s5n : Nat) (s5c : Nat) (s6 : Option Addr) (s6n : Nat) (s6c : Nat) (s7 : Int) (H : Heap) (R : Ending → Heap → Prop) : Prop :=
  L0 s1 s1n s1c s5 s5n s5c s6 s6n s6c (IntKind.wrap .i64 (s7 + (1 : Int))) H R
theorem L3_step {s1 : Option Addr} {s1n : Nat} {s1c : Nat} {s5 : Option Addr} {s5n : Nat} {s5c : Nat} {s6 : Option Addr} {s6n : Nat} {s6c : Nat} {s7 : Int} {H : Heap} {R : Ending → Heap → Prop} (h : L3n s1 s1n s1c s5 s5n s5c s6 s6n s6c s7 H R) : L3 s1 s1n s1c s5 s5n s5c s6 s6n s6c s7 H R :=
  goL_of_den (an := an) (fuel := 100000) (X := L3n s1 s1n s1c s5 s5n s5c s6 s6n s6c s7 H R) mixed fn (by kernel_rfl) (fun ρ0 => by kernel_rfl) h
def go (s0 : Int) (s1 : Option Addr) (s1n : Nat) (s1c : Nat) (H : Heap) (R : Ending → Heap → Prop) : Prop :=
  callD Try.prog 20 [(.int .i64 (if (64 : Int) < (if (2 : Int) > s0 then (2 : Int) else s0) then (64 : Int) else (if (2 : Int) > s0 then (2 : Int) else s0))), (.func (.func 21) ⟨[]⟩ ⟨[]⟩)] H (panK R) fun v H1 =>
  tPtr v fun p =>
  newD H1 (.cells ⟨[(.pointer p)]⟩ 53) fun r H2 =>
  L0 s1 s1n s1c (some ⟨r, 0, none⟩) 1 1 none 0 0 (0 : Int) H2 R
theorem calls {s0 : Int} {s1 : Option Addr} {s1n : Nat} {s1c : Nat} {H : Heap} {R : Ending → Heap → Prop} (h : go s0 s1 s1n s1c H R) : CallsH Try.prog 12 ⟨[(.int .i64 s0), (.slice s1 s1n s1c)]⟩ H R :=
  callsH_of_den (an := an) (fuel := 100000) (X := go s0 s1 s1n s1c H R) (c := body) mixed fn (by kernel_rfl) (by kernel_rfl) (by kernel_rfl) ok (by kernel_rfl) h
end F12
/-! ### 13 "pub-stadtholder/laws.btApart" -/
namespace F13
def an : Ann := { kinds := [(5003, .heavy 0), (7003, .heavy 0)], taus := [], pairs := [], lab := [(40000004, [3, 7, 8, 9])] }
noncomputable def body : Code := (Try.f13.body).getD .skip
theorem fn : Try.prog.funcs[13]? = some Try.f13 := by kernel_rfl
theorem ok : codeOk an 21 body = true := by kernel_rfl
noncomputable def L0t : List Item := [.code (sub [1, 1, 0, 1, 0, 0] body), .inLoop (sub [1, 1, 0, 1, 0, 0] body), .inBlock 0, .code (sub [1, 1, 1] body)]
def L0 (seen : Nat) (s7 : Option Addr) (s7n : Nat) (s7c : Nat) (s8 : Int) (s9 : Int) (H : Heap) (R : Ending → Heap → Prop) : Prop :=
  GoL Try.prog 13 21 L0t [3, 7, 8, 9] [(.map (some seen)), (.slice s7 s7n s7c), (.int .i64 s8), (.int .i64 s9)] H R
def L0n (seen : Nat) (s7 : Option Addr) (s7n : Nat) (s7c : Nat) (s8 : Int) (s9 : Int) (H : Heap) (R : Ending → Heap → Prop) : Prop :=
  iteB (decide (s9 < s8)) (
    idxD s7 s7n s9 fun a =>
    ldInt H (Addr.add a (Int.toNat s9 * 2)) .i64 fun n =>
    ldInt H (Addr.add (Addr.add a (Int.toNat s9 * 2)) 1) .i64 fun n1 =>
    newD H (.cells ⟨[(.int .i64 (0 : Int)), (.int .i64 (0 : Int))]⟩ 25) fun r H1 =>
    st1 H1 ⟨r, 0, none⟩ (.int .i64 n) fun H2 =>
    st1 H2 ⟨r, 1, none⟩ (.int .i64 n1) fun H3 =>
    ldInt H3 ⟨r, 0, none⟩ .i64 fun n2 =>
    valD Try.prog (Instr.lookup 59 (.map (some seen)) (.int .i64 n2) false) H3 (panK R) fun v H4 =>
    tBool v fun b =>
    iteB b (
      R (.returned (.bool false)) H4) <|
    ldInt H4 ⟨r, 0, none⟩ .i64 fun n3 =>
    uniD Try.prog (Instr.mapUpdate 59 (.map (some seen)) (.int .i64 n3) (.bool true)) H4 (panK R) fun H5 =>
    L0 seen s7 s7n s7c s8 (IntKind.wrap .i64 (s9 + (1 : Int))) H5 R) <|
  R (.returned (.bool true)) H
theorem L0_step {seen : Nat} {s7 : Option Addr} {s7n : Nat} {s7c : Nat} {s8 : Int} {s9 : Int} {H : Heap} {R : Ending → Heap → Prop} (h : L0n seen s7 s7n s7c s8 s9 H R) : L0 seen s7 s7n s7c s8 s9 H R :=
  goL_of_den (an := an) (fuel := 100000) (X := L0n seen s7 s7n s7c s8 s9 H R) mixed fn (by kernel_rfl) (fun ρ0 => by kernel_rfl) h
def go (l : Option Addr) (ln : Nat) (lc : Nat) (H : Heap) (R : Ending → Heap → Prop) : Prop :=
  newD H (.map #[] 0) fun r H1 =>
  L0 r l ln lc ((ln : Nat) : Int) (0 : Int) H1 R
theorem calls {l : Option Addr} {ln : Nat} {lc : Nat} {H : Heap} {R : Ending → Heap → Prop} (h : go l ln lc H R) : CallsH Try.prog 13 ⟨[(.slice l ln lc)]⟩ H R :=
  callsH_of_den (an := an) (fuel := 100000) (X := go l ln lc H R) (c := body) mixed fn (by kernel_rfl) (by kernel_rfl) (by kernel_rfl) ok (by kernel_rfl) h
end F13
/-! ### 14 "slices.Clone[[]pub-stadtholder/impl.El,pub-stadtholder/impl.El]" -/
namespace F14
def an : Ann := { kinds := [], taus := [], pairs := [], lab := [] }
noncomputable def body : Code := (Try.f14.body).getD .skip
theorem fn : Try.prog.funcs[14]? = some Try.f14 := by kernel_rfl
theorem ok : codeOk an 8 body = true := by kernel_rfl
def go (s : Option Addr) (sn : Nat) (sc : Nat) (H : Heap) (R : Ending → Heap → Prop) : Prop :=
  iteB (Option.isNone s) (
    R (.returned (.slice none 0 0)) H) <|
  newD H (.cells ⟨[]⟩ 25) fun r H1 =>
  apD H1 2 16 [(.int .i64 (0 : Int)), (.int .i64 (0 : Int))] 25 (some ⟨r, 0, none⟩) 0 0 s sn fun q qn qc H2 =>
  R (.returned (.slice q qn qc)) H2
theorem calls {s : Option Addr} {sn : Nat} {sc : Nat} {H : Heap} {R : Ending → Heap → Prop} (h : go s sn sc H R) : CallsH Try.prog 14 ⟨[(.slice s sn sc)]⟩ H R :=
  callsH_of_den (an := an) (fuel := 100000) (X := go s sn sc H R) (c := body) mixed fn (by kernel_rfl) (by kernel_rfl) (by kernel_rfl) ok (by kernel_rfl) h
end F14
/-! ### 15 "slices.Reverse[[]pub-stadtholder/impl.El,pub-stadtholder/impl.El]" -/
namespace F15
def an : Ann := { kinds := [], taus := [(3, [[0, 1, 2, 3, 4, 5, 6, 8, 9, 10, 7, 11, 12, 13, 14, 15]])], pairs := [], lab := [(30000002, [0, 2, 3])] }
noncomputable def body : Code := (Try.f15.body).getD .skip
theorem fn : Try.prog.funcs[15]? = some Try.f15 := by kernel_rfl
theorem ok : codeOk an 28 body = true := by kernel_rfl
noncomputable def L0t : List Item := [.code (sub [1, 0, 0] body), .inLoop (sub [1, 0, 0] body), .inBlock 0]
def L0 (s : Option Addr) (sn : Nat) (sc : Nat) (i : Int) (j : Int) (H : Heap) (R : Ending → Heap → Prop) : Prop :=
  GoL Try.prog 15 28 L0t [0, 2, 3] [(.slice s sn sc), (.int .i64 i), (.int .i64 j)] H R
def L0n (s : Option Addr) (sn : Nat) (sc : Nat) (i : Int) (j : Int) (H : Heap) (R : Ending → Heap → Prop) : Prop :=
  iteB (decide (i < j)) (
    idxD s sn j fun a =>
    idxD s sn i fun a1 =>
    ldInt H (Addr.add a (Int.toNat j * 2)) .i64 fun n =>
    ldInt H (Addr.add (Addr.add a (Int.toNat j * 2)) 1) .i64 fun n1 =>
    ldInt H (Addr.add a1 (Int.toNat i * 2)) .i64 fun n2 =>
    ldInt H (Addr.add (Addr.add a1 (Int.toNat i * 2)) 1) .i64 fun n3 =>
    idxD s sn i fun a2 =>
    st1 H (Addr.add a2 (Int.toNat i * 2)) (.int .i64 n) fun H1 =>
    st1 H1 (Addr.add (Addr.add a2 (Int.toNat i * 2)) 1) (.int .i64 n1) fun H2 =>
    idxD s sn j fun a3 =>
    st1 H2 (Addr.add a3 (Int.toNat j * 2)) (.int .i64 n2) fun H3 =>
    st1 H3 (Addr.add (Addr.add a3 (Int.toNat j * 2)) 1) (.int .i64 n3) fun H4 =>
    L0 s sn sc (IntKind.wrap .i64 (i + (1 : Int))) (IntKind.wrap .i64 (j - (1 : Int))) H4 R) <|
  R (.returned (.tuple ⟨[]⟩)) H
theorem L0_step {s : Option Addr} {sn : Nat} {sc : Nat} {i : Int} {j : Int} {H : Heap} {R : Ending → Heap → Prop} (h : L0n s sn sc i j H R) : L0 s sn sc i j H R :=
  goL_of_den (an := an) (fuel := 100000) (X := L0n s sn sc i j H R) mixed fn (by kernel_rfl) (fun ρ0 => by kernel_rfl) h
def go (s : Option Addr) (sn : Nat) (sc : Nat) (H : Heap) (R : Ending → Heap → Prop) : Prop :=
  L0 s sn sc (0 : Int) (IntKind.wrap .i64 (((sn : Nat) : Int) - (1 : Int))) H R
theorem calls {s : Option Addr} {sn : Nat} {sc : Nat} {H : Heap} {R : Ending → Heap → Prop} (h : go s sn sc H R) : CallsH Try.prog 15 ⟨[(.slice s sn sc)]⟩ H R :=
  callsH_of_den (an := an) (fuel := 100000) (X := go s sn sc H R) (c := body) mixed fn (by kernel_rfl) (by kernel_rfl) (by kernel_rfl) ok (by kernel_rfl) h
end F15
/-! ### 16 "slices.Contains[[]pub-stadtholder/impl.El,pub-stadtholder/impl.El]" -/
namespace F16
def an : Ann := { kinds := [], taus := [], pairs := [], lab := [] }
noncomputable def body : Code := (Try.f16.body).getD .skip
theorem fn : Try.prog.funcs[16]? = some Try.f16 := by kernel_rfl
theorem ok : codeOk an 9 body = true := by kernel_rfl
def go (s : Option Addr) (sn : Nat) (sc : Nat) (v_0 : Int) (v_1 : Int) (H : Heap) (R : Ending → Heap → Prop) : Prop :=
  newD H (.cells ⟨[(.int .i64 v_0), (.int .i64 v_1)]⟩ 25) fun r H1 =>
  ldInt H1 ⟨r, 0, none⟩ .i64 fun n =>
  ldInt H1 ⟨r, 1, none⟩ .i64 fun n1 =>
  callD Try.prog 24 [(.slice s sn sc), (.agg ⟨[(.int .i64 n), (.int .i64 n1)]⟩)] H1 (panK R) fun v H2 =>
  tInt v .i64 fun n2 =>
  R (.returned (.bool (decide (n2 ≥ (0 : Int))))) H2
theorem calls {s : Option Addr} {sn : Nat} {sc : Nat} {v_0 : Int} {v_1 : Int} {H : Heap} {R : Ending → Heap → Prop} (h : go s sn sc v_0 v_1 H R) : CallsH Try.prog 16 ⟨[(.slice s sn sc), (.agg ⟨[(.int .i64 v_0), (.int .i64 v_1)]⟩)]⟩ H R :=
  callsH_of_den (an := an) (fuel := 100000) (X := go s sn sc v_0 v_1 H R) (c := body) mixed fn (by kernel_rfl) (by kernel_rfl) (by kernel_rfl) ok (by kernel_rfl) h
end F16
/-! ### 17 "pub-stadtholder/laws.btPut" -/
namespace F17
def an : Ann := { kinds := [], taus := [], pairs := [], lab := [(40000004, [3, 6, 7, 8])] }
noncomputable def body : Code := (Try.f17.body).getD .skip
theorem fn : Try.prog.funcs[17]? = some Try.f17 := by kernel_rfl
theorem ok : codeOk an 19 body = true := by kernel_rfl
noncomputable def L0t : List Item := [.code (sub [1, 1, 0, 1, 0, 0] body), .inLoop (sub [1, 1, 0, 1, 0, 0] body), .inBlock 0, .code (sub [1, 1, 1] body)]
def L0 (out : Option Addr) (outn : Nat) (outc : Nat) (s6 : Option Addr) (s6n : Nat) (s6c : Nat) (s7 : Int) (s8 : Int) (H : Heap) (R : Ending → Heap → Prop) : Prop :=
  GoL Try.prog 17 19 L0t [3, 6, 7, 8] [(.slice out outn outc), (.slice s6 s6n s6c), (.int .i64 s7), (.int .i64 s8)] H R
def L0n (out : Option Addr) (outn : Nat) (outc : Nat) (s6 : Option Addr) (s6n : Nat) (s6c : Nat) (s7 : Int) (s8 : Int) (H : Heap) (R : Ending → Heap → Prop) : Prop :=
  iteB (decide (s8 < s7)) (
    idxD s6 s6n s8 fun a =>
    ldInt H (Addr.add a (Int.toNat s8 * 2)) .i64 fun n =>
    ldInt H (Addr.add (Addr.add a (Int.toNat s8 * 2)) 1) .i64 fun n1 =>
    newD H (.cells ⟨[(.int .i64 (0 : Int)), (.int .i64 (0 : Int))]⟩ 25) fun r H1 =>
    st1 H1 ⟨r, 0, none⟩ (.int .i64 n) fun H2 =>
    st1 H2 ⟨r, 1, none⟩ (.int .i64 n1) fun H3 =>
    ldInt H3 ⟨r, 0, none⟩ .i64 fun n2 =>
    ldInt H3 ⟨r, 1, none⟩ .i64 fun n3 =>
    newD H3 (.cells ⟨[(.int .i64 (1 : Int)), (.int .i64 (0 : Int)), (.int .i64 n2), (.int .i64 n3), (.int .i64 (0 : Int)), (.int .i64 (0 : Int)), (.int .i64 (0 : Int)), (.bool false)]⟩ 30) fun r1 H4 =>
    apD H4 8 64 [(.int .i64 (0 : Int)), (.int .i64 (0 : Int)), (.int .i64 (0 : Int)), (.int .i64 (0 : Int)), (.int .i64 (0 : Int)), (.int .i64 (0 : Int)), (.int .i64 (0 : Int)), (.bool false)] 30 out outn outc (some ⟨r1, 0, none⟩) 1 fun q qn qc H5 =>
    L0 q qn qc s6 s6n s6c s7 (IntKind.wrap .i64 (s8 + (1 : Int))) H5 R) <|
  R (.returned (.slice out outn outc)) H
theorem L0_step {out : Option Addr} {outn : Nat} {outc : Nat} {s6 : Option Addr} {s6n : Nat} {s6c : Nat} {s7 : Int} {s8 : Int} {H : Heap} {R : Ending → Heap → Prop} (h : L0n out outn outc s6 s6n s6c s7 s8 H R) : L0 out outn outc s6 s6n s6c s7 s8 H R :=
  goL_of_den (an := an) (fuel := 100000) (X := L0n out outn outc s6 s6n s6c s7 s8 H R) mixed fn (by kernel_rfl) (fun ρ0 => by kernel_rfl) h
def go (l : Option Addr) (ln : Nat) (lc : Nat) (H : Heap) (R : Ending → Heap → Prop) : Prop :=
  L0 none 0 0 l ln lc ((ln : Nat) : Int) (0 : Int) H R
theorem calls {l : Option Addr} {ln : Nat} {lc : Nat} {H : Heap} {R : Ending → Heap → Prop} (h : go l ln lc H R) : CallsH Try.prog 17 ⟨[(.slice l ln lc)]⟩ H R :=
  callsH_of_den (an := an) (fuel := 100000) (X := go l ln lc H R) (c := body) mixed fn (by kernel_rfl) (by kernel_rfl) (by kernel_rfl) ok (by kernel_rfl) h
end F17
/-! ### 18 "(pub-stadtholder/spec.Shelf).Do" -/
namespace F18
def an : Ann := { kinds := [], taus := [(28, [[0, 2, 1, 3]])], pairs := [], lab := [(30000015, [0, 3, 5, 7, 8, 21]), (30000025, [0, 3, 5, 8, 21]), (30000021, [0, 3, 5, 8]), (30000022, [0, 3, 5, 8, 9, 10, 11]), (30000024, [0, 5, 8, 10]), (30000009, [0, 3, 5, 6, 7, 8]), (30000011, [0, 3, 5, 6, 7, 8]), (30000013, [0, 3, 5, 6, 7, 8]), (30000014, [0, 5, 6, 8])] }
noncomputable def body : Code := (Try.f18.body).getD .skip
theorem fn : Try.prog.funcs[18]? = some Try.f18 := by kernel_rfl
theorem ok : codeOk an 101 body = true := by kernel_rfl
noncomputable def L0t : List Item := [.code (sub [1, 1, 1, 0, 1, 0, 1, 1] body), .inBlock 0, .code (sub [1, 1, 1, 1] body)]
def L0 (s0 : Option Addr) (s0n : Nat) (s0c : Nat) (s3 : Nat) (s5 : Nat) (s7 : Bool) (s8 : Nat) (s21 : Int) (H : Heap) (R : Ending → Heap → Prop) : Prop :=
  GoL Try.prog 18 101 L0t [0, 3, 5, 7, 8, 21] [(.slice s0 s0n s0c), (.pointer (some ⟨s3, 0, none⟩)), (.pointer (some ⟨s5, 0, none⟩)), (.bool s7), (.pointer (some ⟨s8, 0, none⟩)), (.int .i64 s21)] H R
noncomputable def L1t : List Item := [.code (sub [1, 1, 1, 0, 1, 0, 1, 1, 1, 1, 1, 1] body), .inBlock 0, .code (sub [1, 1, 1, 1] body)]
def L1 (s0 : Option Addr) (s0n : Nat) (s0c : Nat) (s3 : Nat) (s5 : Nat) (s8 : Nat) (s21 : Int) (H : Heap) (R : Ending → Heap → Prop) : Prop :=
  GoL Try.prog 18 101 L1t [0, 3, 5, 8, 21] [(.slice s0 s0n s0c), (.pointer (some ⟨s3, 0, none⟩)), (.pointer (some ⟨s5, 0, none⟩)), (.pointer (some ⟨s8, 0, none⟩)), (.int .i64 s21)] H R
noncomputable def L2t : List Item := [.code (sub [1, 1, 1, 0, 1, 0, 1, 1, 1, 1, 1, 0] body), .inBlock 0, .code (sub [1, 1, 1, 1] body)]
def L2 (s0 : Option Addr) (s0n : Nat) (s0c : Nat) (s3 : Nat) (s5 : Nat) (s8 : Nat) (H : Heap) (R : Ending → Heap → Prop) : Prop :=
  GoL Try.prog 18 101 L2t [0, 3, 5, 8] [(.slice s0 s0n s0c), (.pointer (some ⟨s3, 0, none⟩)), (.pointer (some ⟨s5, 0, none⟩)), (.pointer (some ⟨s8, 0, none⟩))] H R
noncomputable def L3t : List Item := [.code (sub [1, 1, 1, 0, 1, 0, 1, 1, 1, 1, 1, 0, 1] body), .inBlock 0, .code (sub [1, 1, 1, 1] body)]
def L3 (s0 : Option Addr) (s0n : Nat) (s0c : Nat) (s3 : Nat) (s5 : Nat) (s8 : Nat) (s9 : Nat) (s10 : Int) (s11 : Bool) (H : Heap) (R : Ending → Heap → Prop) : Prop :=
  GoL Try.prog 18 101 L3t [0, 3, 5, 8, 9, 10, 11] [(.slice s0 s0n s0c), (.pointer (some ⟨s3, 0, none⟩)), (.pointer (some ⟨s5, 0, none⟩)), (.pointer (some ⟨s8, 0, none⟩)), (.pointer (some ⟨s9, 0, none⟩)), (.int .i64 s10), (.bool s11)] H R
noncomputable def L4t : List Item := [.code (sub [1, 1, 1, 0, 1, 0, 1, 1, 1, 1, 1, 0, 1, 1, 1, 0] body), .inBlock 0, .code (sub [1, 1, 1, 1] body)]
def L4 (s0 : Option Addr) (s0n : Nat) (s0c : Nat) (s5 : Nat) (s8 : Nat) (s10 : Int) (H : Heap) (R : Ending → Heap → Prop) : Prop :=
  GoL Try.prog 18 101 L4t [0, 5, 8, 10] [(.slice s0 s0n s0c), (.pointer (some ⟨s5, 0, none⟩)), (.pointer (some ⟨s8, 0, none⟩)), (.int .i64 s10)] H R
noncomputable def L5t : List Item := [.code (sub [1, 1, 1, 0, 1, 0, 1, 0] body), .inBlock 0, .code (sub [1, 1, 1, 1] body)]
def L5 (s0 : Option Addr) (s0n : Nat) (s0c : Nat) (s3 : Nat) (s5 : Nat) (s6 : Int) (s7 : Bool) (s8 : Nat) (H : Heap) (R : Ending → Heap → Prop) : Prop :=
  GoL Try.prog 18 101 L5t [0, 3, 5, 6, 7, 8] [(.slice s0 s0n s0c), (.pointer (some ⟨s3, 0, none⟩)), (.pointer (some ⟨s5, 0, none⟩)), (.int .i64 s6), (.bool s7), (.pointer (some ⟨s8, 0, none⟩))] H R
noncomputable def L6t : List Item := [.code (sub [1, 1, 1, 0, 1, 0, 1, 0, 1] body), .inBlock 0, .code (sub [1, 1, 1, 1] body)]
def L6 (s0 : Option Addr) (s0n : Nat) (s0c : Nat) (s3 : Nat) (s5 : Nat) (s6 : Int) (s7 : Bool) (s8 : Nat) (H : Heap) (R : Ending → Heap → Prop) : Prop :=
  GoL Try.prog 18 101 L6t [0, 3, 5, 6, 7, 8] [(.slice s0 s0n s0c), (.pointer (some ⟨s3, 0, none⟩)), (.pointer (some ⟨s5, 0, none⟩)), (.int .i64 s6), (.bool s7), (.pointer (some ⟨s8, 0, none⟩))] H R
noncomputable def L7t : List Item := [.code (sub [1, 1, 1, 0, 1, 0, 1, 0, 1, 1] body), .inBlock 0, .code (sub [1, 1, 1, 1] body)]
def L7 (s0 : Option Addr) (s0n : Nat) (s0c : Nat) (s3 : Nat) (s5 : Nat) (s6 : Int) (s7 : Bool) (s8 : Nat) (H : Heap) (R : Ending → Heap → Prop) : Prop :=
  GoL Try.prog 18 101 L7t [0, 3, 5, 6, 7, 8] [(.slice s0 s0n s0c), (.pointer (some ⟨s3, 0, none⟩)), (.pointer (some ⟨s5, 0, none⟩)), (.int .i64 s6), (.bool s7), (.pointer (some ⟨s8, 0, none⟩))] H R
noncomputable def L8t : List Item := [.code (sub [1, 1, 1, 0, 1, 0, 1, 0, 1, 1, 1, 0] body), .inBlock 0, .code (sub [1, 1, 1, 1] body)]
def L8 (s0 : Option Addr) (s0n : Nat) (s0c : Nat) (s5 : Nat) (s6 : Int) (s8 : Nat) (H : Heap) (R : Ending → Heap → Prop) : Prop :=
  GoL Try.prog 18 101 L8t [0, 5, 6, 8] [(.slice s0 s0n s0c), (.pointer (some ⟨s5, 0, none⟩)), (.int .i64 s6), (.pointer (some ⟨s8, 0, none⟩))] H R
def L0n (s0 : Option Addr) (s0n : Nat) (s0c : Nat) (s3 : Nat) (s5 : Nat) (s7 : Bool) (s8 : Nat) (s21 : Int) (H : Heap) (R : Ending → Heap → Prop) : Prop :=
  iteB (s21 == (4 : Int)) (
    st1 H ⟨s8, 1, none⟩ (.bool s7) fun H1 =>
    ldInt H1 ⟨s8, 0, none⟩ .i64 fun n =>
    ldBool H1 ⟨s8, 1, none⟩ fun b =>
    ldInt H1 ⟨s8, 2, none⟩ .i64 fun n1 =>
    ldInt H1 ⟨s8, 3, none⟩ .i64 fun n2 =>
    ldInt H1 ⟨s8, 4, none⟩ .i64 fun n3 =>
    ldSl H1 ⟨s8, 5, none⟩ fun q qn qc =>
    st1 H1 ⟨s5, 0, none⟩ (.int .i64 n) fun H2 =>
    st1 H2 ⟨s5, 1, none⟩ (.bool b) fun H3 =>
    st1 H3 ⟨s5, 2, none⟩ (.int .i64 n1) fun H4 =>
    st1 H4 ⟨s5, 3, none⟩ (.int .i64 n2) fun H5 =>
    st1 H5 ⟨s5, 4, none⟩ (.int .i64 n3) fun H6 =>
    st1 H6 ⟨s5, 5, none⟩ (.slice q qn qc) fun H7 =>
    ldInt H7 ⟨s5, 0, none⟩ .i64 fun n4 =>
    ldBool H7 ⟨s5, 1, none⟩ fun b1 =>
    ldInt H7 ⟨s5, 2, none⟩ .i64 fun n5 =>
    ldInt H7 ⟨s5, 3, none⟩ .i64 fun n6 =>
    ldInt H7 ⟨s5, 4, none⟩ .i64 fun n7 =>
    ldSl H7 ⟨s5, 5, none⟩ fun q1 q1n q1c =>
    R (.returned (.tuple ⟨[(.slice s0 s0n s0c), (.agg ⟨[(.int .i64 n4), (.bool b1), (.int .i64 n5), (.int .i64 n6), (.int .i64 n7), (.slice q1 q1n q1c)]⟩)]⟩)) H7) <|
  iteB (s21 == (5 : Int)) (
    iteB (s21 == (5 : Int)) (
      L2 s0 s0n s0c s3 s5 s8 H R) <|
    L1 s0 s0n s0c s3 s5 s8 s21 H R) <|
  iteB (s21 == (6 : Int)) (
    iteB (s21 == (6 : Int)) (
      L2 s0 s0n s0c s3 s5 s8 H R) <|
    L1 s0 s0n s0c s3 s5 s8 s21 H R) <|
  iteB (s21 == (7 : Int)) (
    iteB (s21 == (7 : Int)) (
      L2 s0 s0n s0c s3 s5 s8 H R) <|
    L1 s0 s0n s0c s3 s5 s8 s21 H R) <|
  iteB (s21 == (8 : Int)) (
    L2 s0 s0n s0c s3 s5 s8 H R) <|
  L1 s0 s0n s0c s3 s5 s8 s21 H R
theorem L0_step {s0 : Option Addr} {s0n : Nat} {s0c : Nat} {s3 : Nat} {s5 : Nat} {s7 : Bool} {s8 : Nat} {s21 : Int} {H : Heap} {R : Ending → Heap → Prop} (h : L0n s0 s0n s0c s3 s5 s7 s8 s21 H R) : L0 s0 s0n s0c s3 s5 s7 s8 s21 H R :=
  goL_of_den (an := an) (fuel := 100000) (X := L0n s0 s0n s0c s3 s5 s7 s8 s21 H R) mixed fn (by kernel_rfl) (fun ρ0 => by kernel_rfl) h
def L1n (s0 : Option Addr) (s0n : Nat) (s0c : Nat) (s3 : Nat) (s5 : Nat) (s8 : Nat) (s21 : Int) (H : Heap) (R : Ending → Heap → Prop) : Prop :=
  iteB (s21 == (9 : Int)) (
    st1 H ⟨s8, 2, none⟩ (.int .i64 ((s0n : Nat) : Int)) fun H1 =>
    ldInt H1 ⟨s8, 0, none⟩ .i64 fun n =>
    ldBool H1 ⟨s8, 1, none⟩ fun b =>
    ldInt H1 ⟨s8, 2, none⟩ .i64 fun n1 =>
    ldInt H1 ⟨s8, 3, none⟩ .i64 fun n2 =>
    ldInt H1 ⟨s8, 4, none⟩ .i64 fun n3 =>
    ldSl H1 ⟨s8, 5, none⟩ fun q qn qc =>
    st1 H1 ⟨s5, 0, none⟩ (.int .i64 n) fun H2 =>
    st1 H2 ⟨s5, 1, none⟩ (.bool b) fun H3 =>
    st1 H3 ⟨s5, 2, none⟩ (.int .i64 n1) fun H4 =>
    st1 H4 ⟨s5, 3, none⟩ (.int .i64 n2) fun H5 =>
    st1 H5 ⟨s5, 4, none⟩ (.int .i64 n3) fun H6 =>
    st1 H6 ⟨s5, 5, none⟩ (.slice q qn qc) fun H7 =>
    ldInt H7 ⟨s5, 0, none⟩ .i64 fun n4 =>
    ldBool H7 ⟨s5, 1, none⟩ fun b1 =>
    ldInt H7 ⟨s5, 2, none⟩ .i64 fun n5 =>
    ldInt H7 ⟨s5, 3, none⟩ .i64 fun n6 =>
    ldInt H7 ⟨s5, 4, none⟩ .i64 fun n7 =>
    ldSl H7 ⟨s5, 5, none⟩ fun q1 q1n q1c =>
    R (.returned (.tuple ⟨[(.slice s0 s0n s0c), (.agg ⟨[(.int .i64 n4), (.bool b1), (.int .i64 n5), (.int .i64 n6), (.int .i64 n7), (.slice q1 q1n q1c)]⟩)]⟩)) H7) <|
  iteB (s21 == (19 : Int)) (
    ldInt H ⟨s8, 0, none⟩ .i64 fun n8 =>
    ldBool H ⟨s8, 1, none⟩ fun b2 =>
    ldInt H ⟨s8, 2, none⟩ .i64 fun n9 =>
    ldInt H ⟨s8, 3, none⟩ .i64 fun n10 =>
    ldInt H ⟨s8, 4, none⟩ .i64 fun n11 =>
    ldSl H ⟨s8, 5, none⟩ fun q2 q2n q2c =>
    st1 H ⟨s5, 0, none⟩ (.int .i64 n8) fun H8 =>
    st1 H8 ⟨s5, 1, none⟩ (.bool b2) fun H9 =>
    st1 H9 ⟨s5, 2, none⟩ (.int .i64 n9) fun H10 =>
    st1 H10 ⟨s5, 3, none⟩ (.int .i64 n10) fun H11 =>
    st1 H11 ⟨s5, 4, none⟩ (.int .i64 n11) fun H12 =>
    st1 H12 ⟨s5, 5, none⟩ (.slice q2 q2n q2c) fun H13 =>
    ldInt H13 ⟨s5, 0, none⟩ .i64 fun n12 =>
    ldBool H13 ⟨s5, 1, none⟩ fun b3 =>
    ldInt H13 ⟨s5, 2, none⟩ .i64 fun n13 =>
    ldInt H13 ⟨s5, 3, none⟩ .i64 fun n14 =>
    ldInt H13 ⟨s5, 4, none⟩ .i64 fun n15 =>
    ldSl H13 ⟨s5, 5, none⟩ fun q3 q3n q3c =>
    R (.returned (.tuple ⟨[(.slice none 0 0), (.agg ⟨[(.int .i64 n12), (.bool b3), (.int .i64 n13), (.int .i64 n14), (.int .i64 n15), (.slice q3 q3n q3c)]⟩)]⟩)) H13) <|
  ldInt H ⟨s3, 0, none⟩ .i64 fun n16 =>
  ldInt H ⟨s3, 1, none⟩ .i64 fun n17 =>
  ldInt H ⟨s3, 2, none⟩ .i64 fun n18 =>
  ldInt H ⟨s3, 3, none⟩ .i64 fun n19 =>
  ldInt H ⟨s3, 4, none⟩ .i64 fun n20 =>
  ldInt H ⟨s3, 5, none⟩ .i64 fun n21 =>
  ldInt H ⟨s3, 6, none⟩ .i64 fun n22 =>
  ldBool H ⟨s3, 7, none⟩ fun b4 =>
  callD Try.prog 29 [(.slice s0 s0n s0c), (.agg ⟨[(.int .i64 n16), (.int .i64 n17), (.int .i64 n18), (.int .i64 n19), (.int .i64 n20), (.int .i64 n21), (.int .i64 n22), (.bool b4)]⟩)] H (panK R) fun v H14 =>
  tSl v fun q4 q4n q4c =>
  st1 H14 ⟨s8, 5, none⟩ (.slice q4 q4n q4c) fun H15 =>
  ldInt H15 ⟨s8, 0, none⟩ .i64 fun n23 =>
  ldBool H15 ⟨s8, 1, none⟩ fun b5 =>
  ldInt H15 ⟨s8, 2, none⟩ .i64 fun n24 =>
  ldInt H15 ⟨s8, 3, none⟩ .i64 fun n25 =>
  ldInt H15 ⟨s8, 4, none⟩ .i64 fun n26 =>
  ldSl H15 ⟨s8, 5, none⟩ fun q5 q5n q5c =>
  st1 H15 ⟨s5, 0, none⟩ (.int .i64 n23) fun H16 =>
  st1 H16 ⟨s5, 1, none⟩ (.bool b5) fun H17 =>
  st1 H17 ⟨s5, 2, none⟩ (.int .i64 n24) fun H18 =>
  st1 H18 ⟨s5, 3, none⟩ (.int .i64 n25) fun H19 =>
  st1 H19 ⟨s5, 4, none⟩ (.int .i64 n26) fun H20 =>
  st1 H20 ⟨s5, 5, none⟩ (.slice q5 q5n q5c) fun H21 =>
  ldInt H21 ⟨s5, 0, none⟩ .i64 fun n27 =>
  ldBool H21 ⟨s5, 1, none⟩ fun b6 =>
  ldInt H21 ⟨s5, 2, none⟩ .i64 fun n28 =>
  ldInt H21 ⟨s5, 3, none⟩ .i64 fun n29 =>
  ldInt H21 ⟨s5, 4, none⟩ .i64 fun n30 =>
  ldSl H21 ⟨s5, 5, none⟩ fun q6 q6n q6c =>
  R (.returned (.tuple ⟨[(.slice s0 s0n s0c), (.agg ⟨[(.int .i64 n27), (.bool b6), (.int .i64 n28), (.int .i64 n29), (.int .i64 n30), (.slice q6 q6n q6c)]⟩)]⟩)) H21
theorem L1_step {s0 : Option Addr} {s0n : Nat} {s0c : Nat} {s3 : Nat} {s5 : Nat} {s8 : Nat} {s21 : Int} {H : Heap} {R : Ending → Heap → Prop} (h : L1n s0 s0n s0c s3 s5 s8 s21 H R) : L1 s0 s0n s0c s3 s5 s8 s21 H R :=
  goL_of_den (an := an) (fuel := 100000) (X := L1n s0 s0n s0c s3 s5 s8 s21 H R) mixed fn (by kernel_rfl) (fun ρ0 => by kernel_rfl) h
def L2n (s0 : Option Addr) (s0n : Nat) (s0c : Nat) (s3 : Nat) (s5 : Nat) (s8 : Nat) (H : Heap) (R : Ending → Heap → Prop) : Prop :=
  ldInt H ⟨s3, 0, none⟩ .i64 fun n =>
  iteB (n == (6 : Int)) (
    callD Try.prog 28 [(.slice s0 s0n s0c), (.bool true)] H (panK R) fun v H1 =>
    tTup v fun l =>
    tCons l fun c l1 =>
    tAgg c fun l2 =>
    tCons l2 fun c1 l3 =>
    tInt c1 .i64 fun n1 =>
    tCons l3 fun c2 l4 =>
    tInt c2 .i64 fun n2 =>
    tNil l4 <|
    tCons l1 fun c3 l5 =>
    tInt c3 .i64 fun n3 =>
    tCons l5 fun c4 l6 =>
    tBool c4 fun b =>
    tNil l6 <|
    newD H1 (.cells ⟨[(.int .i64 (0 : Int)), (.int .i64 (0 : Int))]⟩ 25) fun r H2 =>
    st1 H2 ⟨r, 0, none⟩ (.int .i64 n1) fun H3 =>
    st1 H3 ⟨r, 1, none⟩ (.int .i64 n2) fun H4 =>
    L3 s0 s0n s0c s3 s5 s8 r n3 b H4 R) <|
  ldInt H ⟨s3, 0, none⟩ .i64 fun n4 =>
  callD Try.prog 28 [(.slice s0 s0n s0c), (.bool (n4 == (8 : Int)))] H (panK R) fun v1 H5 =>
  tTup v1 fun l7 =>
  tCons l7 fun c5 l8 =>
  tAgg c5 fun l9 =>
  tCons l9 fun c6 l10 =>
  tInt c6 .i64 fun n5 =>
  tCons l10 fun c7 l11 =>
  tInt c7 .i64 fun n6 =>
  tNil l11 <|
  tCons l8 fun c8 l12 =>
  tInt c8 .i64 fun n7 =>
  tCons l12 fun c9 l13 =>
  tBool c9 fun b1 =>
  tNil l13 <|
  newD H5 (.cells ⟨[(.int .i64 (0 : Int)), (.int .i64 (0 : Int))]⟩ 25) fun r1 H6 =>
  st1 H6 ⟨r1, 0, none⟩ (.int .i64 n5) fun H7 =>
  st1 H7 ⟨r1, 1, none⟩ (.int .i64 n6) fun H8 =>
  L3 s0 s0n s0c s3 s5 s8 r1 n7 b1 H8 R
theorem L2_step {s0 : Option Addr} {s0n : Nat} {s0c : Nat} {s3 : Nat} {s5 : Nat} {s8 : Nat} {H : Heap} {R : Ending → Heap → Prop} (h : L2n s0 s0n s0c s3 s5 s8 H R) : L2 s0 s0n s0c s3 s5 s8 H R :=
  goL_of_den (an := an) (fuel := 100000) (X := L2n s0 s0n s0c s3 s5 s8 H R) mixed fn (by kernel_rfl) (fun ρ0 => by kernel_rfl) h
def L3n (s0 : Option Addr) (s0n : Nat) (s0c : Nat) (s3 : Nat) (s5 : Nat) (s8 : Nat) (s9 : Nat) (s10 : Int) (s11 : Bool) (H : Heap) (R : Ending → Heap → Prop) : Prop :=
  ldInt H ⟨s9, 0, none⟩ .i64 fun n =>
  ldInt H ⟨s9, 1, none⟩ .i64 fun n1 =>
  st1 H ⟨s8, 0, none⟩ (.int .i64 (0 : Int)) fun H1 =>
  st1 H1 ⟨s8, 1, none⟩ (.bool s11) fun H2 =>
  st1 H2 ⟨s8, 2, none⟩ (.int .i64 (0 : Int)) fun H3 =>
  st1 H3 ⟨s8, 3, none⟩ (.int .i64 n) fun H4 =>
  st1 H4 ⟨s8, 4, none⟩ (.int .i64 n1) fun H5 =>
  st1 H5 ⟨s8, 5, none⟩ (.slice none 0 0) fun H6 =>
  iteB s11 (
    ldInt H6 ⟨s3, 0, none⟩ .i64 fun n2 =>
    iteB (n2 == (7 : Int)) (
      L4 s0 s0n s0c s5 s8 s10 H6 R) <|
    ldInt H6 ⟨s3, 0, none⟩ .i64 fun n3 =>
    iteB (n3 == (8 : Int)) (
      L4 s0 s0n s0c s5 s8 s10 H6 R) <|
    ldInt H6 ⟨s8, 0, none⟩ .i64 fun n4 =>
    ldBool H6 ⟨s8, 1, none⟩ fun b =>
    ldInt H6 ⟨s8, 2, none⟩ .i64 fun n5 =>
    ldInt H6 ⟨s8, 3, none⟩ .i64 fun n6 =>
    ldInt H6 ⟨s8, 4, none⟩ .i64 fun n7 =>
    ldSl H6 ⟨s8, 5, none⟩ fun q qn qc =>
    st1 H6 ⟨s5, 0, none⟩ (.int .i64 n4) fun H7 =>
    st1 H7 ⟨s5, 1, none⟩ (.bool b) fun H8 =>
    st1 H8 ⟨s5, 2, none⟩ (.int .i64 n5) fun H9 =>
    st1 H9 ⟨s5, 3, none⟩ (.int .i64 n6) fun H10 =>
    st1 H10 ⟨s5, 4, none⟩ (.int .i64 n7) fun H11 =>
    st1 H11 ⟨s5, 5, none⟩ (.slice q qn qc) fun H12 =>
    ldInt H12 ⟨s5, 0, none⟩ .i64 fun n8 =>
    ldBool H12 ⟨s5, 1, none⟩ fun b1 =>
    ldInt H12 ⟨s5, 2, none⟩ .i64 fun n9 =>
    ldInt H12 ⟨s5, 3, none⟩ .i64 fun n10 =>
    ldInt H12 ⟨s5, 4, none⟩ .i64 fun n11 =>
    ldSl H12 ⟨s5, 5, none⟩ fun q1 q1n q1c =>
    R (.returned (.tuple ⟨[(.slice s0 s0n s0c), (.agg ⟨[(.int .i64 n8), (.bool b1), (.int .i64 n9), (.int .i64 n10), (.int .i64 n11), (.slice q1 q1n q1c)]⟩)]⟩)) H12) <|
  ldInt H6 ⟨s8, 0, none⟩ .i64 fun n12 =>
  ldBool H6 ⟨s8, 1, none⟩ fun b2 =>
  ldInt H6 ⟨s8, 2, none⟩ .i64 fun n13 =>
  ldInt H6 ⟨s8, 3, none⟩ .i64 fun n14 =>
  ldInt H6 ⟨s8, 4, none⟩ .i64 fun n15 =>
  ldSl H6 ⟨s8, 5, none⟩ fun q2 q2n q2c =>
  st1 H6 ⟨s5, 0, none⟩ (.int .i64 n12) fun H13 =>
  st1 H13 ⟨s5, 1, none⟩ (.bool b2) fun H14 =>
  st1 H14 ⟨s5, 2, none⟩ (.int .i64 n13) fun H15 =>
  st1 H15 ⟨s5, 3, none⟩ (.int .i64 n14) fun H16 =>
  st1 H16 ⟨s5, 4, none⟩ (.int .i64 n15) fun H17 =>
  st1 H17 ⟨s5, 5, none⟩ (.slice q2 q2n q2c) fun H18 =>
  ldInt H18 ⟨s5, 0, none⟩ .i64 fun n16 =>
  ldBool H18 ⟨s5, 1, none⟩ fun b3 =>
  ldInt H18 ⟨s5, 2, none⟩ .i64 fun n17 =>
  ldInt H18 ⟨s5, 3, none⟩ .i64 fun n18 =>
  ldInt H18 ⟨s5, 4, none⟩ .i64 fun n19 =>
  ldSl H18 ⟨s5, 5, none⟩ fun q3 q3n q3c =>
  R (.returned (.tuple ⟨[(.slice s0 s0n s0c), (.agg ⟨[(.int .i64 n16), (.bool b3), (.int .i64 n17), (.int .i64 n18), (.int .i64 n19), (.slice q3 q3n q3c)]⟩)]⟩)) H18
theorem L3_step {s0 : Option Addr} {s0n : Nat} {s0c : Nat} {s3 : Nat} {s5 : Nat} {s8 : Nat} {s9 : Nat} {s10 : Int} {s11 : Bool} {H : Heap} {R : Ending → Heap → Prop} (h : L3n s0 s0n s0c s3 s5 s8 s9 s10 s11 H R) : L3 s0 s0n s0c s3 s5 s8 s9 s10 s11 H R :=
  goL_of_den (an := an) (fuel := 100000) (X := L3n s0 s0n s0c s3 s5 s8 s9 s10 s11 H R) mixed fn (by kernel_rfl) (fun ρ0 => by kernel_rfl) h
def L4n (s0 : Option Addr) (s0n : Nat) (s0c : Nat) (s5 : Nat) (s8 : Nat) (s10 : Int) (H : Heap) (R : Ending → Heap → Prop) : Prop :=
  callD Try.prog 27 [(.slice s0 s0n s0c), (.int .i64 s10)] H (panK R) fun v H1 =>
  tSl v fun q qn qc =>
  ldInt H1 ⟨s8, 0, none⟩ .i64 fun n =>
  ldBool H1 ⟨s8, 1, none⟩ fun b =>
  ldInt H1 ⟨s8, 2, none⟩ .i64 fun n1 =>
  ldInt H1 ⟨s8, 3, none⟩ .i64 fun n2 =>
  ldInt H1 ⟨s8, 4, none⟩ .i64 fun n3 =>
  ldSl H1 ⟨s8, 5, none⟩ fun q1 q1n q1c =>
  st1 H1 ⟨s5, 0, none⟩ (.int .i64 n) fun H2 =>
  st1 H2 ⟨s5, 1, none⟩ (.bool b) fun H3 =>
  st1 H3 ⟨s5, 2, none⟩ (.int .i64 n1) fun H4 =>
  st1 H4 ⟨s5, 3, none⟩ (.int .i64 n2) fun H5 =>
  st1 H5 ⟨s5, 4, none⟩ (.int .i64 n3) fun H6 =>
  st1 H6 ⟨s5, 5, none⟩ (.slice q1 q1n q1c) fun H7 =>
  ldInt H7 ⟨s5, 0, none⟩ .i64 fun n4 =>
  ldBool H7 ⟨s5, 1, none⟩ fun b1 =>
  ldInt H7 ⟨s5, 2, none⟩ .i64 fun n5 =>
  ldInt H7 ⟨s5, 3, none⟩ .i64 fun n6 =>
  ldInt H7 ⟨s5, 4, none⟩ .i64 fun n7 =>
  ldSl H7 ⟨s5, 5, none⟩ fun q2 q2n q2c =>
  R (.returned (.tuple ⟨[(.slice q qn qc), (.agg ⟨[(.int .i64 n4), (.bool b1), (.int .i64 n5), (.int .i64 n6), (.int .i64 n7), (.slice q2 q2n q2c)]⟩)]⟩)) H7
theorem L4_step {s0 : Option Addr} {s0n : Nat} {s0c : Nat} {s5 : Nat} {s8 : Nat} {s10 : Int} {H : Heap} {R : Ending → Heap → Prop} (h : L4n s0 s0n s0c s5 s8 s10 H R) : L4 s0 s0n s0c s5 s8 s10 H R :=
  goL_of_den (an := an) (fuel := 100000) (X := L4n s0 s0n s0c s5 s8 s10 H R) mixed fn (by kernel_rfl) (fun ρ0 => by kernel_rfl) h
def L5n (s0 : Option Addr) (s0n : Nat) (s0c : Nat) (s3 : Nat) (s5 : Nat) (s6 : Int) (s7 : Bool) (s8 : Nat) (H : Heap) (R : Ending → Heap → Prop) : Prop :=
  iteB s7 (
    idxD s0 s0n s6 fun a =>
    ldInt H (Addr.add a (Int.toNat s6 * 2)) .i64 fun n =>
    ldInt H (Addr.add (Addr.add a (Int.toNat s6 * 2)) 1) .i64 fun n1 =>
    st1 H ⟨s8, 0, none⟩ (.int .i64 (0 : Int)) fun H1 =>
    st1 H1 ⟨s8, 1, none⟩ (.bool true) fun H2 =>
    st1 H2 ⟨s8, 2, none⟩ (.int .i64 (0 : Int)) fun H3 =>
    st1 H3 ⟨s8, 3, none⟩ (.int .i64 n) fun H4 =>
    st1 H4 ⟨s8, 4, none⟩ (.int .i64 n1) fun H5 =>
    st1 H5 ⟨s8, 5, none⟩ (.slice none 0 0) fun H6 =>
    L6 s0 s0n s0c s3 s5 s6 s7 s8 H6 R) <|
  L6 s0 s0n s0c s3 s5 s6 s7 s8 H R
theorem L5_step {s0 : Option Addr} {s0n : Nat} {s0c : Nat} {s3 : Nat} {s5 : Nat} {s6 : Int} {s7 : Bool} {s8 : Nat} {H : Heap} {R : Ending → Heap → Prop} (h : L5n s0 s0n s0c s3 s5 s6 s7 s8 H R) : L5 s0 s0n s0c s3 s5 s6 s7 s8 H R :=
  goL_of_den (an := an) (fuel := 100000) (X := L5n s0 s0n s0c s3 s5 s6 s7 s8 H R) mixed fn (by kernel_rfl) (fun ρ0 => by kernel_rfl) h
def L6n (s0 : Option Addr) (s0n : Nat) (s0c : Nat) (s3 : Nat) (s5 : Nat) (s6 : Int) (s7 : Bool) (s8 : Nat) (H : Heap) (R : Ending → Heap → Prop) : Prop :=
  ldInt H ⟨s3, 0, none⟩ .i64 fun n =>
  iteB (n == (1 : Int)) (
    ldInt H ⟨s3, 2, none⟩ .i64 fun n1 =>
    ldInt H ⟨s3, 3, none⟩ .i64 fun n2 =>
    callD Try.prog 26 [(.slice s0 s0n s0c), (.agg ⟨[(.int .i64 n1), (.int .i64 n2)]⟩)] H (panK R) fun v H1 =>
    tSl v fun q qn qc =>
    L7 q qn qc s3 s5 s6 s7 s8 H1 R) <|
  L7 s0 s0n s0c s3 s5 s6 s7 s8 H R
theorem L6_step {s0 : Option Addr} {s0n : Nat} {s0c : Nat} {s3 : Nat} {s5 : Nat} {s6 : Int} {s7 : Bool} {s8 : Nat} {H : Heap} {R : Ending → Heap → Prop} (h : L6n s0 s0n s0c s3 s5 s6 s7 s8 H R) : L6 s0 s0n s0c s3 s5 s6 s7 s8 H R :=
  goL_of_den (an := an) (fuel := 100000) (X := L6n s0 s0n s0c s3 s5 s6 s7 s8 H R) mixed fn (by kernel_rfl) (fun ρ0 => by kernel_rfl) h
def L7n (s0 : Option Addr) (s0n : Nat) (s0c : Nat) (s3 : Nat) (s5 : Nat) (s6 : Int) (s7 : Bool) (s8 : Nat) (H : Heap) (R : Ending → Heap → Prop) : Prop :=
  ldInt H ⟨s3, 0, none⟩ .i64 fun n =>
  iteB (n == (2 : Int)) (
    iteB s7 (
      L8 s0 s0n s0c s5 s6 s8 H R) <|
    ldInt H ⟨s8, 0, none⟩ .i64 fun n1 =>
    ldBool H ⟨s8, 1, none⟩ fun b =>
    ldInt H ⟨s8, 2, none⟩ .i64 fun n2 =>
    ldInt H ⟨s8, 3, none⟩ .i64 fun n3 =>
    ldInt H ⟨s8, 4, none⟩ .i64 fun n4 =>
    ldSl H ⟨s8, 5, none⟩ fun q qn qc =>
    st1 H ⟨s5, 0, none⟩ (.int .i64 n1) fun H1 =>
    st1 H1 ⟨s5, 1, none⟩ (.bool b) fun H2 =>
    st1 H2 ⟨s5, 2, none⟩ (.int .i64 n2) fun H3 =>
    st1 H3 ⟨s5, 3, none⟩ (.int .i64 n3) fun H4 =>
    st1 H4 ⟨s5, 4, none⟩ (.int .i64 n4) fun H5 =>
    st1 H5 ⟨s5, 5, none⟩ (.slice q qn qc) fun H6 =>
    ldInt H6 ⟨s5, 0, none⟩ .i64 fun n5 =>
    ldBool H6 ⟨s5, 1, none⟩ fun b1 =>
    ldInt H6 ⟨s5, 2, none⟩ .i64 fun n6 =>
    ldInt H6 ⟨s5, 3, none⟩ .i64 fun n7 =>
    ldInt H6 ⟨s5, 4, none⟩ .i64 fun n8 =>
    ldSl H6 ⟨s5, 5, none⟩ fun q1 q1n q1c =>
    R (.returned (.tuple ⟨[(.slice s0 s0n s0c), (.agg ⟨[(.int .i64 n5), (.bool b1), (.int .i64 n6), (.int .i64 n7), (.int .i64 n8), (.slice q1 q1n q1c)]⟩)]⟩)) H6) <|
  ldInt H ⟨s8, 0, none⟩ .i64 fun n9 =>
  ldBool H ⟨s8, 1, none⟩ fun b2 =>
  ldInt H ⟨s8, 2, none⟩ .i64 fun n10 =>
  ldInt H ⟨s8, 3, none⟩ .i64 fun n11 =>
  ldInt H ⟨s8, 4, none⟩ .i64 fun n12 =>
  ldSl H ⟨s8, 5, none⟩ fun q2 q2n q2c =>
  st1 H ⟨s5, 0, none⟩ (.int .i64 n9) fun H7 =>
  st1 H7 ⟨s5, 1, none⟩ (.bool b2) fun H8 =>
  st1 H8 ⟨s5, 2, none⟩ (.int .i64 n10) fun H9 =>
  st1 H9 ⟨s5, 3, none⟩ (.int .i64 n11) fun H10 =>
  st1 H10 ⟨s5, 4, none⟩ (.int .i64 n12) fun H11 =>
  st1 H11 ⟨s5, 5, none⟩ (.slice q2 q2n q2c) fun H12 =>
  ldInt H12 ⟨s5, 0, none⟩ .i64 fun n13 =>
  ldBool H12 ⟨s5, 1, none⟩ fun b3 =>
  ldInt H12 ⟨s5, 2, none⟩ .i64 fun n14 =>
  ldInt H12 ⟨s5, 3, none⟩ .i64 fun n15 =>
  ldInt H12 ⟨s5, 4, none⟩ .i64 fun n16 =>
  ldSl H12 ⟨s5, 5, none⟩ fun q3 q3n q3c =>
  R (.returned (.tuple ⟨[(.slice s0 s0n s0c), (.agg ⟨[(.int .i64 n13), (.bool b3), (.int .i64 n14), (.int .i64 n15), (.int .i64 n16), (.slice q3 q3n q3c)]⟩)]⟩)) H12
theorem L7_step {s0 : Option Addr} {s0n : Nat} {s0c : Nat} {s3 : Nat} {s5 : Nat} {s6 : Int} {s7 : Bool} {s8 : Nat} {H : Heap} {R : Ending → Heap → Prop} (h : L7n s0 s0n s0c s3 s5 s6 s7 s8 H R) : L7 s0 s0n s0c s3 s5 s6 s7 s8 H R :=
  goL_of_den (an := an) (fuel := 100000) (X := L7n s0 s0n s0c s3 s5 s6 s7 s8 H R) mixed fn (by kernel_rfl) (fun ρ0 => by kernel_rfl) h
def L8n (s0 : Option Addr) (s0n : Nat) (s0c : Nat) (s5 : Nat) (s6 : Int) (s8 : Nat) (H : Heap) (R : Ending → Heap → Prop) : Prop :=
  callD Try.prog 27 [(.slice s0 s0n s0c), (.int .i64 s6)] H (panK R) fun v H1 =>
  tSl v fun q qn qc =>
  ldInt H1 ⟨s8, 0, none⟩ .i64 fun n =>
  ldBool H1 ⟨s8, 1, none⟩ fun b =>
  ldInt H1 ⟨s8, 2, none⟩ .i64 fun n1 =>
  ldInt H1 ⟨s8, 3, none⟩ .i64 fun n2 =>
  ldInt H1 ⟨s8, 4, none⟩ .i64 fun n3 =>
  ldSl H1 ⟨s8, 5, none⟩ fun q1 q1n q1c =>
  st1 H1 ⟨s5, 0, none⟩ (.int .i64 n) fun H2 =>
  st1 H2 ⟨s5, 1, none⟩ (.bool b) fun H3 =>
  st1 H3 ⟨s5, 2, none⟩ (.int .i64 n1) fun H4 =>
  st1 H4 ⟨s5, 3, none⟩ (.int .i64 n2) fun H5 =>
  st1 H5 ⟨s5, 4, none⟩ (.int .i64 n3) fun H6 =>
  st1 H6 ⟨s5, 5, none⟩ (.slice q1 q1n q1c) fun H7 =>
  ldInt H7 ⟨s5, 0, none⟩ .i64 fun n4 =>
  ldBool H7 ⟨s5, 1, none⟩ fun b1 =>
  ldInt H7 ⟨s5, 2, none⟩ .i64 fun n5 =>
  ldInt H7 ⟨s5, 3, none⟩ .i64 fun n6 =>
  ldInt H7 ⟨s5, 4, none⟩ .i64 fun n7 =>
  ldSl H7 ⟨s5, 5, none⟩ fun q2 q2n q2c =>
  R (.returned (.tuple ⟨[(.slice q qn qc), (.agg ⟨[(.int .i64 n4), (.bool b1), (.int .i64 n5), (.int .i64 n6), (.int .i64 n7), (.slice q2 q2n q2c)]⟩)]⟩)) H7
theorem L8_step {s0 : Option Addr} {s0n : Nat} {s0c : Nat} {s5 : Nat} {s6 : Int} {s8 : Nat} {H : Heap} {R : Ending → Heap → Prop} (h : L8n s0 s0n s0c s5 s6 s8 H R) : L8 s0 s0n s0c s5 s6 s8 H R :=
  goL_of_den (an := an) (fuel := 100000) (X := L8n s0 s0n s0c s5 s6 s8 H R) mixed fn (by kernel_rfl) (fun ρ0 => by kernel_rfl) h
def go (s0 : Option Addr) (s0n : Nat) (s0c : Nat) (s1_0 : Int) (s1_1 : Int) (s1_2 : Int) (s1_3 : Int) (s1_4 : Int) (s1_5 : Int) (s1_6 : Int) (s1_7 : Bool) (H : Heap) (R : Ending → Heap → Prop) : Prop :=
  newD H (.cells ⟨[(.int .i64 s1_0), (.int .i64 s1_1), (.int .i64 s1_2), (.int .i64 s1_3), (.int .i64 s1_4), (.int .i64 s1_5), (.int .i64 s1_6), (.bool s1_7)]⟩ 30) fun r H1 =>
  newD H1 (.cells ⟨[(.int .i64 (0 : Int)), (.bool false), (.int .i64 (0 : Int)), (.int .i64 (0 : Int)), (.int .i64 (0 : Int)), (.slice none 0 0)]⟩ 32) fun r1 H2 =>
  ldInt H2 ⟨r, 2, none⟩ .i64 fun n =>
  callD Try.prog 25 [(.slice s0 s0n s0c), (.int .i64 n)] H2 (panK R) fun v H3 =>
  tTup v fun l =>
  tCons l fun c l1 =>
  tInt c .i64 fun n1 =>
  tCons l1 fun c1 l2 =>
  tBool c1 fun b =>
  tNil l2 <|
  newD H3 (.cells ⟨[(.int .i64 (0 : Int)), (.bool false), (.int .i64 (0 : Int)), (.int .i64 (0 : Int)), (.int .i64 (0 : Int)), (.slice none 0 0)]⟩ 32) fun r2 H4 =>
  ldInt H4 ⟨r, 0, none⟩ .i64 fun n2 =>
  iteB (n2 == (1 : Int)) (
    iteB (n2 == (1 : Int)) (
      L5 s0 s0n s0c r r1 n1 b r2 H4 R) <|
    L0 s0 s0n s0c r r1 b r2 n2 H4 R) <|
  iteB (n2 == (2 : Int)) (
    iteB (n2 == (2 : Int)) (
      L5 s0 s0n s0c r r1 n1 b r2 H4 R) <|
    L0 s0 s0n s0c r r1 b r2 n2 H4 R) <|
  iteB (n2 == (3 : Int)) (
    L5 s0 s0n s0c r r1 n1 b r2 H4 R) <|
  L0 s0 s0n s0c r r1 b r2 n2 H4 R
theorem calls {s0 : Option Addr} {s0n : Nat} {s0c : Nat} {s1_0 : Int} {s1_1 : Int} {s1_2 : Int} {s1_3 : Int} {s1_4 : Int} {s1_5 : Int} {s1_6 : Int} {s1_7 : Bool} {H : Heap} {R : Ending → Heap → Prop} (h : go s0 s0n s0c s1_0 s1_1 s1_2 s1_3 s1_4 s1_5 s1_6 s1_7 H R) : CallsH Try.prog 18 ⟨[(.slice s0 s0n s0c), (.agg ⟨[(.int .i64 s1_0), (.int .i64 s1_1), (.int .i64 s1_2), (.int .i64 s1_3), (.int .i64 s1_4), (.int .i64 s1_5), (.int .i64 s1_6), (.bool s1_7)]⟩)]⟩ H R :=
  callsH_of_den (an := an) (fuel := 100000) (X := go s0 s0n s0c s1_0 s1_1 s1_2 s1_3 s1_4 s1_5 s1_6 s1_7 H R) (c := body) mixed fn (by kernel_rfl) (by kernel_rfl) (by kernel_rfl) ok (by kernel_rfl) h
end F18
/-! ### 19 "pub-stadtholder/laws.btSame" -/
namespace F19
def an : Ann := { kinds := [], taus := [], pairs := [], lab := [] }
noncomputable def body : Code := (Try.f19.body).getD .skip
theorem fn : Try.prog.funcs[19]? = some Try.f19 := by kernel_rfl
theorem ok : codeOk an 38 body = true := by kernel_rfl
def go (a_0 : Int) (a_1 : Bool) (a_2 : Int) (a_3 : Int) (a_4 : Int) (a_5 : Option Addr) (a_5n : Nat) (a_5c : Nat) (b_0 : Int) (b_1 : Bool) (b_2 : Int) (b_3 : Int) (b_4 : Int) (b_5 : Option Addr) (b_5n : Nat) (b_5c : Nat) (H : Heap) (R : Ending → Heap → Prop) : Prop :=
  newD H (.cells ⟨[(.int .i64 a_0), (.bool a_1), (.int .i64 a_2), (.int .i64 a_3), (.int .i64 a_4), (.slice a_5 a_5n a_5c)]⟩ 32) fun r H1 =>
  newD H1 (.cells ⟨[(.int .i64 b_0), (.bool b_1), (.int .i64 b_2), (.int .i64 b_3), (.int .i64 b_4), (.slice b_5 b_5n b_5c)]⟩ 32) fun r1 H2 =>
  ldInt H2 ⟨r, 0, none⟩ .i64 fun n =>
  ldInt H2 ⟨r1, 0, none⟩ .i64 fun n1 =>
  iteB (n == n1) (
    ldBool H2 ⟨r, 1, none⟩ fun b =>
    ldBool H2 ⟨r1, 1, none⟩ fun b1 =>
    iteB (b == b1) (
      ldInt H2 ⟨r, 2, none⟩ .i64 fun n2 =>
      ldInt H2 ⟨r1, 2, none⟩ .i64 fun n3 =>
      iteB (n2 == n3) (
        ldInt H2 ⟨r, 3, none⟩ .i64 fun n4 =>
        ldInt H2 ⟨r, 4, none⟩ .i64 fun n5 =>
        ldInt H2 ⟨r1, 3, none⟩ .i64 fun n6 =>
        ldInt H2 ⟨r1, 4, none⟩ .i64 fun n7 =>
        rawB Try.prog .eql 25 (.agg ⟨[(.int .i64 n4), (.int .i64 n5)]⟩) (.agg ⟨[(.int .i64 n6), (.int .i64 n7)]⟩) fun b2 =>
        iteB b2 (
          ldSl H2 ⟨r, 5, none⟩ fun q qn qc =>
          ldSl H2 ⟨r1, 5, none⟩ fun q1 q1n q1c =>
          callD Try.prog 8 [(.slice q qn qc), (.slice q1 q1n q1c)] H2 (panK R) fun v H3 =>
          tBool v fun b3 =>
          R (.returned (.bool b3)) H3) <|
        R (.returned (.bool false)) H2) <|
      R (.returned (.bool false)) H2) <|
    R (.returned (.bool false)) H2) <|
  R (.returned (.bool false)) H2
theorem calls {a_0 : Int} {a_1 : Bool} {a_2 : Int} {a_3 : Int} {a_4 : Int} {a_5 : Option Addr} {a_5n : Nat} {a_5c : Nat} {b_0 : Int} {b_1 : Bool} {b_2 : Int} {b_3 : Int} {b_4 : Int} {b_5 : Option Addr} {b_5n : Nat} {b_5c : Nat} {H : Heap} {R : Ending → Heap → Prop} (h : go a_0 a_1 a_2 a_3 a_4 a_5 a_5n a_5c b_0 b_1 b_2 b_3 b_4 b_5 b_5n b_5c H R) : CallsH Try.prog 19 ⟨[(.agg ⟨[(.int .i64 a_0), (.bool a_1), (.int .i64 a_2), (.int .i64 a_3), (.int .i64 a_4), (.slice a_5 a_5n a_5c)]⟩), (.agg ⟨[(.int .i64 b_0), (.bool b_1), (.int .i64 b_2), (.int .i64 b_3), (.int .i64 b_4), (.slice b_5 b_5n b_5c)]⟩)]⟩ H R :=
  callsH_of_den (an := an) (fuel := 100000) (X := go a_0 a_1 a_2 a_3 a_4 a_5 a_5n a_5c b_0 b_1 b_2 b_3 b_4 b_5 b_5n b_5c H R) (c := body) mixed fn (by kernel_rfl) (by kernel_rfl) (by kernel_rfl) ok (by kernel_rfl) h
end F19
/-! ### 20 "pub-stadtholder/pub/etcdserver/btree.New[pub-stadtholder/impl.El]" -/
namespace F20
def an : Ann := { kinds := [], taus := [], pairs := [], lab := [] }
noncomputable def body : Code := (Try.f20.body).getD .skip
theorem fn : Try.prog.funcs[20]? = some Try.f20 := by kernel_rfl
theorem ok : codeOk an 9 body = true := by kernel_rfl
def go (degree : Int) (less : FV) (H : Heap) (R : Ending → Heap → Prop) : Prop :=
  callD Try.prog 31 [(.int .i64 (32 : Int))] H (panK R) fun v H1 =>
  tPtr v fun p =>
  callD Try.prog 30 [(.int .i64 degree), (FV.v less), (.pointer p)] H1 (panK R) fun v1 H2 =>
  tPtr v1 fun p1 =>
  R (.returned (.pointer p1)) H2
theorem calls {degree : Int} {less : FV} {H : Heap} {R : Ending → Heap → Prop} (h : go degree less H R) : CallsH Try.prog 20 ⟨[(.int .i64 degree), (FV.v less)]⟩ H R :=
  callsH_of_den (an := an) (fuel := 100000) (X := go degree less H R) (c := body) mixed fn (by kernel_rfl) (by kernel_rfl) (by kernel_rfl) ok (by kernel_rfl) h
end F20
/-! ### 21 "pub-stadtholder/impl.BTree$1" -/
namespace F21
def an : Ann := { kinds := [], taus := [], pairs := [], lab := [] }
noncomputable def body : Code := (Try.f21.body).getD .skip
theorem fn : Try.prog.funcs[21]? = some Try.f21 := by kernel_rfl
theorem ok : codeOk an 10 body = true := by kernel_rfl
def go (a_0 : Int) (a_1 : Int) (b_0 : Int) (b_1 : Int) (H : Heap) (R : Ending → Heap → Prop) : Prop :=
  newD H (.cells ⟨[(.int .i64 a_0), (.int .i64 a_1)]⟩ 25) fun r H1 =>
  newD H1 (.cells ⟨[(.int .i64 b_0), (.int .i64 b_1)]⟩ 25) fun r1 H2 =>
  ldInt H2 ⟨r, 0, none⟩ .i64 fun n =>
  ldInt H2 ⟨r1, 0, none⟩ .i64 fun n1 =>
  R (.returned (.bool (decide (n < n1)))) H2
theorem calls {a_0 : Int} {a_1 : Int} {b_0 : Int} {b_1 : Int} {H : Heap} {R : Ending → Heap → Prop} (h : go a_0 a_1 b_0 b_1 H R) : CallsH Try.prog 21 ⟨[(.agg ⟨[(.int .i64 a_0), (.int .i64 a_1)]⟩), (.agg ⟨[(.int .i64 b_0), (.int .i64 b_1)]⟩)]⟩ H R :=
  callsH_of_den (an := an) (fuel := 100000) (X := go a_0 a_1 b_0 b_1 H R) (c := body) mixed fn (by kernel_rfl) (by kernel_rfl) (by kernel_rfl) ok (by kernel_rfl) h
end F21
/-! ### 22 "(*pub-stadtholder/pub/etcdserver/btree.BTree[pub-stadtholder/impl.El]).Clone" -/
namespace F22
def an : Ann := { kinds := [(1012, .grow), (1013, .grow)], taus := [(1, [[0, 1, 2, 6, 7, 8, 3, 4, 5, 9, 10, 11, 12, 13, 14, 15], [0, 1, 2, 6, 7, 8, 3, 4, 5, 9, 10, 11, 13, 12, 14, 15]])], pairs := [(1, [(12, 13)])], lab := [(10000003, [0, 3, 4])] }
noncomputable def body : Code := (Try.f22.body).getD .skip
theorem fn : Try.prog.funcs[22]? = some Try.f22 := by kernel_rfl
theorem ok : codeOk an 25 body = true := by kernel_rfl
noncomputable def L0t : List Item := [.code (sub [1, 1] body)]
def L0 (t : Option Addr) (cow1 : Nat) (cow2 : Nat) (H : Heap) (R : Ending → Heap → Prop) : Prop :=
  GoL Try.prog 22 25 L0t [0, 3, 4] [(.pointer t), (.pointer (some ⟨cow1, 0, none⟩)), (.pointer (some ⟨cow2, 0, none⟩))] H R
def L0n (t : Option Addr) (cow1 : Nat) (cow2 : Nat) (H : Heap) (R : Ending → Heap → Prop) : Prop :=
  nilD t fun a =>
  ldInt H a .i64 fun n =>
  ldInt H (Addr.add a 1) .i64 fun n1 =>
  ldPtr H (Addr.add a 2) fun p =>
  ldPtr H (Addr.add a 3) fun p1 =>
  newD H (.cells ⟨[(.int .i64 (0 : Int)), (.int .i64 (0 : Int)), (.pointer none), (.pointer none)]⟩ 77) fun r H1 =>
  st1 H1 ⟨r, 0, none⟩ (.int .i64 n) fun H2 =>
  st1 H2 ⟨r, 1, none⟩ (.int .i64 n1) fun H3 =>
  st1 H3 ⟨r, 2, none⟩ (.pointer p) fun H4 =>
  st1 H4 ⟨r, 3, none⟩ (.pointer p1) fun H5 =>
  nilD t fun a1 =>
  st1 H5 (Addr.add a1 3) (.pointer (some ⟨cow1, 0, none⟩)) fun H6 =>
  st1 H6 ⟨r, 3, none⟩ (.pointer (some ⟨cow2, 0, none⟩)) fun H7 =>
  R (.returned (.pointer (some ⟨r, 0, none⟩))) H7
theorem L0_step {t : Option Addr} {cow1 : Nat} {cow2 : Nat} {H : Heap} {R : Ending → Heap → Prop} (h : L0n t cow1 cow2 H R) : L0 t cow1 cow2 H R :=
  goL_of_den (an := an) (fuel := 100000) (X := L0n t cow1 cow2 H R) mixed fn (by kernel_rfl) (fun ρ0 => by kernel_rfl) h
def go (t : Option Addr) (H : Heap) (R : Ending → Heap → Prop) : Prop :=
  (
    nilD t fun a =>
    nilD t fun a1 =>
    ldPtr H (Addr.add a 3) fun p =>
    nilD p fun a2 =>
    ldPtr H a2 fun p1 =>
    ldFn H (Addr.add a2 1) fun f =>
    ldPtr H (Addr.add a1 3) fun p2 =>
    nilD p2 fun a3 =>
    ldPtr H a3 fun p3 =>
    ldFn H (Addr.add a3 1) fun f1 =>
    newD H (.cells ⟨[(.pointer none), .nilFunc]⟩ 73) fun r H1 =>
    newD H1 (.cells ⟨[(.pointer none), .nilFunc]⟩ 73) fun r1 H2 =>
    st1 H2 ⟨r, 0, none⟩ (.pointer p1) fun H3 =>
    st1 H3 ⟨r, 1, none⟩ (FV.v f) fun H4 =>
    st1 H4 ⟨r1, 0, none⟩ (.pointer p3) fun H5 =>
    st1 H5 ⟨r1, 1, none⟩ (FV.v f1) fun H6 =>
    L0 t r r1 H6 R) ∧
  (
    nilD t fun a4 =>
    nilD t fun a5 =>
    ldPtr H (Addr.add a4 3) fun p4 =>
    nilD p4 fun a6 =>
    ldPtr H a6 fun p5 =>
    ldFn H (Addr.add a6 1) fun f2 =>
    ldPtr H (Addr.add a5 3) fun p6 =>
    nilD p6 fun a7 =>
    ldPtr H a7 fun p7 =>
    ldFn H (Addr.add a7 1) fun f3 =>
    newD H (.cells ⟨[(.pointer none), .nilFunc]⟩ 73) fun r2 H7 =>
    newD H7 (.cells ⟨[(.pointer none), .nilFunc]⟩ 73) fun r3 H8 =>
    st1 H8 ⟨r3, 0, none⟩ (.pointer p5) fun H9 =>
    st1 H9 ⟨r3, 1, none⟩ (FV.v f2) fun H10 =>
    st1 H10 ⟨r2, 0, none⟩ (.pointer p7) fun H11 =>
    st1 H11 ⟨r2, 1, none⟩ (FV.v f3) fun H12 =>
    L0 t r3 r2 H12 R)
theorem calls {t : Option Addr} {H : Heap} {R : Ending → Heap → Prop} (h : go t H R) : CallsH Try.prog 22 ⟨[(.pointer t)]⟩ H R :=
  callsH_of_den (an := an) (fuel := 100000) (X := go t H R) (c := body) mixed fn (by kernel_rfl) (by kernel_rfl) (by kernel_rfl) ok (by kernel_rfl) h
end F22
/-! ### 23 "pub-stadtholder/impl.grown" -/
namespace F23
def an : Ann := { kinds := [], taus := [], pairs := [], lab := [] }
noncomputable def body : Code := (Try.f23.body).getD .skip
theorem fn : Try.prog.funcs[23]? = some Try.f23 := by kernel_rfl
theorem ok : codeOk an 101 body = true := by kernel_rfl
def go (s0 : Option Addr) (s1_0 : Int) (s1_1 : Int) (s1_2 : Int) (s1_3 : Int) (s1_4 : Int) (s1_5 : Int) (s1_6 : Int) (s1_7 : Bool) (H : Heap) (R : Ending → Heap → Prop) : Prop :=
  newD H (.cells ⟨[(.int .i64 s1_0), (.int .i64 s1_1), (.int .i64 s1_2), (.int .i64 s1_3), (.int .i64 s1_4), (.int .i64 s1_5), (.int .i64 s1_6), (.bool s1_7)]⟩ 30) fun r H1 =>
  newD H1 (.cells ⟨[(.int .i64 (0 : Int)), (.bool false), (.int .i64 (0 : Int)), (.int .i64 (0 : Int)), (.int .i64 (0 : Int)), (.slice none 0 0)]⟩ 32) fun r1 H2 =>
  newD H2 (.cells ⟨[(.int .i64 (0 : Int)), (.bool false), (.int .i64 (0 : Int)), (.int .i64 (0 : Int)), (.int .i64 (0 : Int)), (.slice none 0 0)]⟩ 32) fun r2 H3 =>
  st1 H3 ⟨r2, 0, none⟩ (.int .i64 (0 : Int)) fun H4 =>
  st1 H4 ⟨r2, 1, none⟩ (.bool false) fun H5 =>
  st1 H5 ⟨r2, 2, none⟩ (.int .i64 (0 : Int)) fun H6 =>
  st1 H6 ⟨r2, 3, none⟩ (.int .i64 (0 : Int)) fun H7 =>
  st1 H7 ⟨r2, 4, none⟩ (.int .i64 (0 : Int)) fun H8 =>
  st1 H8 ⟨r2, 5, none⟩ (.slice none 0 0) fun H9 =>
  ldInt H9 ⟨r, 0, none⟩ .i64 fun n =>
  iteB (n == (1 : Int)) (
    ldInt H9 ⟨r, 2, none⟩ .i64 fun n1 =>
    ldInt H9 ⟨r, 3, none⟩ .i64 fun n2 =>
    callD Try.prog 32 [(.pointer s0), (.agg ⟨[(.int .i64 n1), (.int .i64 n2)]⟩)] H9 (panK R) fun v H10 =>
    tTup v fun l =>
    tCons l fun c l1 =>
    tAgg c fun l2 =>
    tCons l2 fun c1 l3 =>
    tInt c1 .i64 fun n3 =>
    tCons l3 fun c2 l4 =>
    tInt c2 .i64 fun n4 =>
    tNil l4 <|
    tCons l1 fun c3 l5 =>
    tBool c3 fun b =>
    tNil l5 <|
    st1 H10 ⟨r2, 3, none⟩ (.int .i64 n3) fun H11 =>
    st1 H11 ⟨r2, 4, none⟩ (.int .i64 n4) fun H12 =>
    st1 H12 ⟨r2, 1, none⟩ (.bool b) fun H13 =>
    ldInt H13 ⟨r2, 0, none⟩ .i64 fun n5 =>
    ldBool H13 ⟨r2, 1, none⟩ fun b1 =>
    ldInt H13 ⟨r2, 2, none⟩ .i64 fun n6 =>
    ldInt H13 ⟨r2, 3, none⟩ .i64 fun n7 =>
    ldInt H13 ⟨r2, 4, none⟩ .i64 fun n8 =>
    ldSl H13 ⟨r2, 5, none⟩ fun q qn qc =>
    st1 H13 ⟨r1, 0, none⟩ (.int .i64 n5) fun H14 =>
    st1 H14 ⟨r1, 1, none⟩ (.bool b1) fun H15 =>
    st1 H15 ⟨r1, 2, none⟩ (.int .i64 n6) fun H16 =>
    st1 H16 ⟨r1, 3, none⟩ (.int .i64 n7) fun H17 =>
    st1 H17 ⟨r1, 4, none⟩ (.int .i64 n8) fun H18 =>
    st1 H18 ⟨r1, 5, none⟩ (.slice q qn qc) fun H19 =>
    ldInt H19 ⟨r1, 0, none⟩ .i64 fun n9 =>
    ldBool H19 ⟨r1, 1, none⟩ fun b2 =>
    ldInt H19 ⟨r1, 2, none⟩ .i64 fun n10 =>
    ldInt H19 ⟨r1, 3, none⟩ .i64 fun n11 =>
    ldInt H19 ⟨r1, 4, none⟩ .i64 fun n12 =>
    ldSl H19 ⟨r1, 5, none⟩ fun q1 q1n q1c =>
    R (.returned (.agg ⟨[(.int .i64 n9), (.bool b2), (.int .i64 n10), (.int .i64 n11), (.int .i64 n12), (.slice q1 q1n q1c)]⟩)) H19) <|
  iteB (n == (2 : Int)) (
    ldInt H9 ⟨r, 2, none⟩ .i64 fun n13 =>
    ldInt H9 ⟨r, 3, none⟩ .i64 fun n14 =>
    callD Try.prog 33 [(.pointer s0), (.agg ⟨[(.int .i64 n13), (.int .i64 n14)]⟩)] H9 (panK R) fun v1 H20 =>
    tTup v1 fun l6 =>
    tCons l6 fun c4 l7 =>
    tAgg c4 fun l8 =>
    tCons l8 fun c5 l9 =>
    tInt c5 .i64 fun n15 =>
    tCons l9 fun c6 l10 =>
    tInt c6 .i64 fun n16 =>
    tNil l10 <|
    tCons l7 fun c7 l11 =>
    tBool c7 fun b3 =>
    tNil l11 <|
    st1 H20 ⟨r2, 3, none⟩ (.int .i64 n15) fun H21 =>
    st1 H21 ⟨r2, 4, none⟩ (.int .i64 n16) fun H22 =>
    st1 H22 ⟨r2, 1, none⟩ (.bool b3) fun H23 =>
    ldInt H23 ⟨r2, 0, none⟩ .i64 fun n17 =>
    ldBool H23 ⟨r2, 1, none⟩ fun b4 =>
    ldInt H23 ⟨r2, 2, none⟩ .i64 fun n18 =>
    ldInt H23 ⟨r2, 3, none⟩ .i64 fun n19 =>
    ldInt H23 ⟨r2, 4, none⟩ .i64 fun n20 =>
    ldSl H23 ⟨r2, 5, none⟩ fun q2 q2n q2c =>
    st1 H23 ⟨r1, 0, none⟩ (.int .i64 n17) fun H24 =>
    st1 H24 ⟨r1, 1, none⟩ (.bool b4) fun H25 =>
    st1 H25 ⟨r1, 2, none⟩ (.int .i64 n18) fun H26 =>
    st1 H26 ⟨r1, 3, none⟩ (.int .i64 n19) fun H27 =>
    st1 H27 ⟨r1, 4, none⟩ (.int .i64 n20) fun H28 =>
    st1 H28 ⟨r1, 5, none⟩ (.slice q2 q2n q2c) fun H29 =>
    ldInt H29 ⟨r1, 0, none⟩ .i64 fun n21 =>
    ldBool H29 ⟨r1, 1, none⟩ fun b5 =>
    ldInt H29 ⟨r1, 2, none⟩ .i64 fun n22 =>
    ldInt H29 ⟨r1, 3, none⟩ .i64 fun n23 =>
    ldInt H29 ⟨r1, 4, none⟩ .i64 fun n24 =>
    ldSl H29 ⟨r1, 5, none⟩ fun q3 q3n q3c =>
    R (.returned (.agg ⟨[(.int .i64 n21), (.bool b5), (.int .i64 n22), (.int .i64 n23), (.int .i64 n24), (.slice q3 q3n q3c)]⟩)) H29) <|
  iteB (n == (3 : Int)) (
    ldInt H9 ⟨r, 2, none⟩ .i64 fun n25 =>
    ldInt H9 ⟨r, 3, none⟩ .i64 fun n26 =>
    callD Try.prog 34 [(.pointer s0), (.agg ⟨[(.int .i64 n25), (.int .i64 n26)]⟩)] H9 (panK R) fun v2 H30 =>
    tTup v2 fun l12 =>
    tCons l12 fun c8 l13 =>
    tAgg c8 fun l14 =>
    tCons l14 fun c9 l15 =>
    tInt c9 .i64 fun n27 =>
    tCons l15 fun c10 l16 =>
    tInt c10 .i64 fun n28 =>
    tNil l16 <|
    tCons l13 fun c11 l17 =>
    tBool c11 fun b6 =>
    tNil l17 <|
    st1 H30 ⟨r2, 3, none⟩ (.int .i64 n27) fun H31 =>
    st1 H31 ⟨r2, 4, none⟩ (.int .i64 n28) fun H32 =>
    st1 H32 ⟨r2, 1, none⟩ (.bool b6) fun H33 =>
    ldInt H33 ⟨r2, 0, none⟩ .i64 fun n29 =>
    ldBool H33 ⟨r2, 1, none⟩ fun b7 =>
    ldInt H33 ⟨r2, 2, none⟩ .i64 fun n30 =>
    ldInt H33 ⟨r2, 3, none⟩ .i64 fun n31 =>
    ldInt H33 ⟨r2, 4, none⟩ .i64 fun n32 =>
    ldSl H33 ⟨r2, 5, none⟩ fun q4 q4n q4c =>
    st1 H33 ⟨r1, 0, none⟩ (.int .i64 n29) fun H34 =>
    st1 H34 ⟨r1, 1, none⟩ (.bool b7) fun H35 =>
    st1 H35 ⟨r1, 2, none⟩ (.int .i64 n30) fun H36 =>
    st1 H36 ⟨r1, 3, none⟩ (.int .i64 n31) fun H37 =>
    st1 H37 ⟨r1, 4, none⟩ (.int .i64 n32) fun H38 =>
    st1 H38 ⟨r1, 5, none⟩ (.slice q4 q4n q4c) fun H39 =>
    ldInt H39 ⟨r1, 0, none⟩ .i64 fun n33 =>
    ldBool H39 ⟨r1, 1, none⟩ fun b8 =>
    ldInt H39 ⟨r1, 2, none⟩ .i64 fun n34 =>
    ldInt H39 ⟨r1, 3, none⟩ .i64 fun n35 =>
    ldInt H39 ⟨r1, 4, none⟩ .i64 fun n36 =>
    ldSl H39 ⟨r1, 5, none⟩ fun q5 q5n q5c =>
    R (.returned (.agg ⟨[(.int .i64 n33), (.bool b8), (.int .i64 n34), (.int .i64 n35), (.int .i64 n36), (.slice q5 q5n q5c)]⟩)) H39) <|
  iteB (n == (4 : Int)) (
    ldInt H9 ⟨r, 2, none⟩ .i64 fun n37 =>
    ldInt H9 ⟨r, 3, none⟩ .i64 fun n38 =>
    callD Try.prog 35 [(.pointer s0), (.agg ⟨[(.int .i64 n37), (.int .i64 n38)]⟩)] H9 (panK R) fun v3 H40 =>
    tBool v3 fun b9 =>
    st1 H40 ⟨r2, 1, none⟩ (.bool b9) fun H41 =>
    ldInt H41 ⟨r2, 0, none⟩ .i64 fun n39 =>
    ldBool H41 ⟨r2, 1, none⟩ fun b10 =>
    ldInt H41 ⟨r2, 2, none⟩ .i64 fun n40 =>
    ldInt H41 ⟨r2, 3, none⟩ .i64 fun n41 =>
    ldInt H41 ⟨r2, 4, none⟩ .i64 fun n42 =>
    ldSl H41 ⟨r2, 5, none⟩ fun q6 q6n q6c =>
    st1 H41 ⟨r1, 0, none⟩ (.int .i64 n39) fun H42 =>
    st1 H42 ⟨r1, 1, none⟩ (.bool b10) fun H43 =>
    st1 H43 ⟨r1, 2, none⟩ (.int .i64 n40) fun H44 =>
    st1 H44 ⟨r1, 3, none⟩ (.int .i64 n41) fun H45 =>
    st1 H45 ⟨r1, 4, none⟩ (.int .i64 n42) fun H46 =>
    st1 H46 ⟨r1, 5, none⟩ (.slice q6 q6n q6c) fun H47 =>
    ldInt H47 ⟨r1, 0, none⟩ .i64 fun n43 =>
    ldBool H47 ⟨r1, 1, none⟩ fun b11 =>
    ldInt H47 ⟨r1, 2, none⟩ .i64 fun n44 =>
    ldInt H47 ⟨r1, 3, none⟩ .i64 fun n45 =>
    ldInt H47 ⟨r1, 4, none⟩ .i64 fun n46 =>
    ldSl H47 ⟨r1, 5, none⟩ fun q7 q7n q7c =>
    R (.returned (.agg ⟨[(.int .i64 n43), (.bool b11), (.int .i64 n44), (.int .i64 n45), (.int .i64 n46), (.slice q7 q7n q7c)]⟩)) H47) <|
  iteB (n == (5 : Int)) (
    callD Try.prog 36 [(.pointer s0)] H9 (panK R) fun v4 H48 =>
    tTup v4 fun l18 =>
    tCons l18 fun c12 l19 =>
    tAgg c12 fun l20 =>
    tCons l20 fun c13 l21 =>
    tInt c13 .i64 fun n47 =>
    tCons l21 fun c14 l22 =>
    tInt c14 .i64 fun n48 =>
    tNil l22 <|
    tCons l19 fun c15 l23 =>
    tBool c15 fun b12 =>
    tNil l23 <|
    st1 H48 ⟨r2, 3, none⟩ (.int .i64 n47) fun H49 =>
    st1 H49 ⟨r2, 4, none⟩ (.int .i64 n48) fun H50 =>
    st1 H50 ⟨r2, 1, none⟩ (.bool b12) fun H51 =>
    ldInt H51 ⟨r2, 0, none⟩ .i64 fun n49 =>
    ldBool H51 ⟨r2, 1, none⟩ fun b13 =>
    ldInt H51 ⟨r2, 2, none⟩ .i64 fun n50 =>
    ldInt H51 ⟨r2, 3, none⟩ .i64 fun n51 =>
    ldInt H51 ⟨r2, 4, none⟩ .i64 fun n52 =>
    ldSl H51 ⟨r2, 5, none⟩ fun q8 q8n q8c =>
    st1 H51 ⟨r1, 0, none⟩ (.int .i64 n49) fun H52 =>
    st1 H52 ⟨r1, 1, none⟩ (.bool b13) fun H53 =>
    st1 H53 ⟨r1, 2, none⟩ (.int .i64 n50) fun H54 =>
    st1 H54 ⟨r1, 3, none⟩ (.int .i64 n51) fun H55 =>
    st1 H55 ⟨r1, 4, none⟩ (.int .i64 n52) fun H56 =>
    st1 H56 ⟨r1, 5, none⟩ (.slice q8 q8n q8c) fun H57 =>
    ldInt H57 ⟨r1, 0, none⟩ .i64 fun n53 =>
    ldBool H57 ⟨r1, 1, none⟩ fun b14 =>
    ldInt H57 ⟨r1, 2, none⟩ .i64 fun n54 =>
    ldInt H57 ⟨r1, 3, none⟩ .i64 fun n55 =>
    ldInt H57 ⟨r1, 4, none⟩ .i64 fun n56 =>
    ldSl H57 ⟨r1, 5, none⟩ fun q9 q9n q9c =>
    R (.returned (.agg ⟨[(.int .i64 n53), (.bool b14), (.int .i64 n54), (.int .i64 n55), (.int .i64 n56), (.slice q9 q9n q9c)]⟩)) H57) <|
  iteB (n == (6 : Int)) (
    callD Try.prog 37 [(.pointer s0)] H9 (panK R) fun v5 H58 =>
    tTup v5 fun l24 =>
    tCons l24 fun c16 l25 =>
    tAgg c16 fun l26 =>
    tCons l26 fun c17 l27 =>
    tInt c17 .i64 fun n57 =>
    tCons l27 fun c18 l28 =>
    tInt c18 .i64 fun n58 =>
    tNil l28 <|
    tCons l25 fun c19 l29 =>
    tBool c19 fun b15 =>
    tNil l29 <|
    st1 H58 ⟨r2, 3, none⟩ (.int .i64 n57) fun H59 =>
    st1 H59 ⟨r2, 4, none⟩ (.int .i64 n58) fun H60 =>
    st1 H60 ⟨r2, 1, none⟩ (.bool b15) fun H61 =>
    ldInt H61 ⟨r2, 0, none⟩ .i64 fun n59 =>
    ldBool H61 ⟨r2, 1, none⟩ fun b16 =>
    ldInt H61 ⟨r2, 2, none⟩ .i64 fun n60 =>
    ldInt H61 ⟨r2, 3, none⟩ .i64 fun n61 =>
    ldInt H61 ⟨r2, 4, none⟩ .i64 fun n62 =>
    ldSl H61 ⟨r2, 5, none⟩ fun q10 q10n q10c =>
    st1 H61 ⟨r1, 0, none⟩ (.int .i64 n59) fun H62 =>
    st1 H62 ⟨r1, 1, none⟩ (.bool b16) fun H63 =>
    st1 H63 ⟨r1, 2, none⟩ (.int .i64 n60) fun H64 =>
    st1 H64 ⟨r1, 3, none⟩ (.int .i64 n61) fun H65 =>
    st1 H65 ⟨r1, 4, none⟩ (.int .i64 n62) fun H66 =>
    st1 H66 ⟨r1, 5, none⟩ (.slice q10 q10n q10c) fun H67 =>
    ldInt H67 ⟨r1, 0, none⟩ .i64 fun n63 =>
    ldBool H67 ⟨r1, 1, none⟩ fun b17 =>
    ldInt H67 ⟨r1, 2, none⟩ .i64 fun n64 =>
    ldInt H67 ⟨r1, 3, none⟩ .i64 fun n65 =>
    ldInt H67 ⟨r1, 4, none⟩ .i64 fun n66 =>
    ldSl H67 ⟨r1, 5, none⟩ fun q11 q11n q11c =>
    R (.returned (.agg ⟨[(.int .i64 n63), (.bool b17), (.int .i64 n64), (.int .i64 n65), (.int .i64 n66), (.slice q11 q11n q11c)]⟩)) H67) <|
  iteB (n == (7 : Int)) (
    callD Try.prog 38 [(.pointer s0)] H9 (panK R) fun v6 H68 =>
    tTup v6 fun l30 =>
    tCons l30 fun c20 l31 =>
    tAgg c20 fun l32 =>
    tCons l32 fun c21 l33 =>
    tInt c21 .i64 fun n67 =>
    tCons l33 fun c22 l34 =>
    tInt c22 .i64 fun n68 =>
    tNil l34 <|
    tCons l31 fun c23 l35 =>
    tBool c23 fun b18 =>
    tNil l35 <|
    st1 H68 ⟨r2, 3, none⟩ (.int .i64 n67) fun H69 =>
    st1 H69 ⟨r2, 4, none⟩ (.int .i64 n68) fun H70 =>
    st1 H70 ⟨r2, 1, none⟩ (.bool b18) fun H71 =>
    ldInt H71 ⟨r2, 0, none⟩ .i64 fun n69 =>
    ldBool H71 ⟨r2, 1, none⟩ fun b19 =>
    ldInt H71 ⟨r2, 2, none⟩ .i64 fun n70 =>
    ldInt H71 ⟨r2, 3, none⟩ .i64 fun n71 =>
    ldInt H71 ⟨r2, 4, none⟩ .i64 fun n72 =>
    ldSl H71 ⟨r2, 5, none⟩ fun q12 q12n q12c =>
    st1 H71 ⟨r1, 0, none⟩ (.int .i64 n69) fun H72 =>
    st1 H72 ⟨r1, 1, none⟩ (.bool b19) fun H73 =>
    st1 H73 ⟨r1, 2, none⟩ (.int .i64 n70) fun H74 =>
    st1 H74 ⟨r1, 3, none⟩ (.int .i64 n71) fun H75 =>
    st1 H75 ⟨r1, 4, none⟩ (.int .i64 n72) fun H76 =>
    st1 H76 ⟨r1, 5, none⟩ (.slice q12 q12n q12c) fun H77 =>
    ldInt H77 ⟨r1, 0, none⟩ .i64 fun n73 =>
    ldBool H77 ⟨r1, 1, none⟩ fun b20 =>
    ldInt H77 ⟨r1, 2, none⟩ .i64 fun n74 =>
    ldInt H77 ⟨r1, 3, none⟩ .i64 fun n75 =>
    ldInt H77 ⟨r1, 4, none⟩ .i64 fun n76 =>
    ldSl H77 ⟨r1, 5, none⟩ fun q13 q13n q13c =>
    R (.returned (.agg ⟨[(.int .i64 n73), (.bool b20), (.int .i64 n74), (.int .i64 n75), (.int .i64 n76), (.slice q13 q13n q13c)]⟩)) H77) <|
  iteB (n == (8 : Int)) (
    callD Try.prog 39 [(.pointer s0)] H9 (panK R) fun v7 H78 =>
    tTup v7 fun l36 =>
    tCons l36 fun c24 l37 =>
    tAgg c24 fun l38 =>
    tCons l38 fun c25 l39 =>
    tInt c25 .i64 fun n77 =>
    tCons l39 fun c26 l40 =>
    tInt c26 .i64 fun n78 =>
    tNil l40 <|
    tCons l37 fun c27 l41 =>
    tBool c27 fun b21 =>
    tNil l41 <|
    st1 H78 ⟨r2, 3, none⟩ (.int .i64 n77) fun H79 =>
    st1 H79 ⟨r2, 4, none⟩ (.int .i64 n78) fun H80 =>
    st1 H80 ⟨r2, 1, none⟩ (.bool b21) fun H81 =>
    ldInt H81 ⟨r2, 0, none⟩ .i64 fun n79 =>
    ldBool H81 ⟨r2, 1, none⟩ fun b22 =>
    ldInt H81 ⟨r2, 2, none⟩ .i64 fun n80 =>
    ldInt H81 ⟨r2, 3, none⟩ .i64 fun n81 =>
    ldInt H81 ⟨r2, 4, none⟩ .i64 fun n82 =>
    ldSl H81 ⟨r2, 5, none⟩ fun q14 q14n q14c =>
    st1 H81 ⟨r1, 0, none⟩ (.int .i64 n79) fun H82 =>
    st1 H82 ⟨r1, 1, none⟩ (.bool b22) fun H83 =>
    st1 H83 ⟨r1, 2, none⟩ (.int .i64 n80) fun H84 =>
    st1 H84 ⟨r1, 3, none⟩ (.int .i64 n81) fun H85 =>
    st1 H85 ⟨r1, 4, none⟩ (.int .i64 n82) fun H86 =>
    st1 H86 ⟨r1, 5, none⟩ (.slice q14 q14n q14c) fun H87 =>
    ldInt H87 ⟨r1, 0, none⟩ .i64 fun n83 =>
    ldBool H87 ⟨r1, 1, none⟩ fun b23 =>
    ldInt H87 ⟨r1, 2, none⟩ .i64 fun n84 =>
    ldInt H87 ⟨r1, 3, none⟩ .i64 fun n85 =>
    ldInt H87 ⟨r1, 4, none⟩ .i64 fun n86 =>
    ldSl H87 ⟨r1, 5, none⟩ fun q15 q15n q15c =>
    R (.returned (.agg ⟨[(.int .i64 n83), (.bool b23), (.int .i64 n84), (.int .i64 n85), (.int .i64 n86), (.slice q15 q15n q15c)]⟩)) H87) <|
  iteB (n == (9 : Int)) (
    callD Try.prog 40 [(.pointer s0)] H9 (panK R) fun v8 H88 =>
    tInt v8 .i64 fun n87 =>
    st1 H88 ⟨r2, 2, none⟩ (.int .i64 n87) fun H89 =>
    ldInt H89 ⟨r2, 0, none⟩ .i64 fun n88 =>
    ldBool H89 ⟨r2, 1, none⟩ fun b24 =>
    ldInt H89 ⟨r2, 2, none⟩ .i64 fun n89 =>
    ldInt H89 ⟨r2, 3, none⟩ .i64 fun n90 =>
    ldInt H89 ⟨r2, 4, none⟩ .i64 fun n91 =>
    ldSl H89 ⟨r2, 5, none⟩ fun q16 q16n q16c =>
    st1 H89 ⟨r1, 0, none⟩ (.int .i64 n88) fun H90 =>
    st1 H90 ⟨r1, 1, none⟩ (.bool b24) fun H91 =>
    st1 H91 ⟨r1, 2, none⟩ (.int .i64 n89) fun H92 =>
    st1 H92 ⟨r1, 3, none⟩ (.int .i64 n90) fun H93 =>
    st1 H93 ⟨r1, 4, none⟩ (.int .i64 n91) fun H94 =>
    st1 H94 ⟨r1, 5, none⟩ (.slice q16 q16n q16c) fun H95 =>
    ldInt H95 ⟨r1, 0, none⟩ .i64 fun n92 =>
    ldBool H95 ⟨r1, 1, none⟩ fun b25 =>
    ldInt H95 ⟨r1, 2, none⟩ .i64 fun n93 =>
    ldInt H95 ⟨r1, 3, none⟩ .i64 fun n94 =>
    ldInt H95 ⟨r1, 4, none⟩ .i64 fun n95 =>
    ldSl H95 ⟨r1, 5, none⟩ fun q17 q17n q17c =>
    R (.returned (.agg ⟨[(.int .i64 n92), (.bool b25), (.int .i64 n93), (.int .i64 n94), (.int .i64 n95), (.slice q17 q17n q17c)]⟩)) H95) <|
  iteB (n == (19 : Int)) (
    ldBool H9 ⟨r, 7, none⟩ fun b26 =>
    callD Try.prog 41 [(.pointer s0), (.bool b26)] H9 (panK R) fun v9 H96 =>
    tTup v9 fun l42 =>
    tNil l42 <|
    ldInt H96 ⟨r2, 0, none⟩ .i64 fun n96 =>
    ldBool H96 ⟨r2, 1, none⟩ fun b27 =>
    ldInt H96 ⟨r2, 2, none⟩ .i64 fun n97 =>
    ldInt H96 ⟨r2, 3, none⟩ .i64 fun n98 =>
    ldInt H96 ⟨r2, 4, none⟩ .i64 fun n99 =>
    ldSl H96 ⟨r2, 5, none⟩ fun q18 q18n q18c =>
    st1 H96 ⟨r1, 0, none⟩ (.int .i64 n96) fun H97 =>
    st1 H97 ⟨r1, 1, none⟩ (.bool b27) fun H98 =>
    st1 H98 ⟨r1, 2, none⟩ (.int .i64 n97) fun H99 =>
    st1 H99 ⟨r1, 3, none⟩ (.int .i64 n98) fun H100 =>
    st1 H100 ⟨r1, 4, none⟩ (.int .i64 n99) fun H101 =>
    st1 H101 ⟨r1, 5, none⟩ (.slice q18 q18n q18c) fun H102 =>
    ldInt H102 ⟨r1, 0, none⟩ .i64 fun n100 =>
    ldBool H102 ⟨r1, 1, none⟩ fun b28 =>
    ldInt H102 ⟨r1, 2, none⟩ .i64 fun n101 =>
    ldInt H102 ⟨r1, 3, none⟩ .i64 fun n102 =>
    ldInt H102 ⟨r1, 4, none⟩ .i64 fun n103 =>
    ldSl H102 ⟨r1, 5, none⟩ fun q19 q19n q19c =>
    R (.returned (.agg ⟨[(.int .i64 n100), (.bool b28), (.int .i64 n101), (.int .i64 n102), (.int .i64 n103), (.slice q19 q19n q19c)]⟩)) H102) <|
  ldInt H9 ⟨r, 0, none⟩ .i64 fun n104 =>
  ldInt H9 ⟨r, 1, none⟩ .i64 fun n105 =>
  ldInt H9 ⟨r, 2, none⟩ .i64 fun n106 =>
  ldInt H9 ⟨r, 3, none⟩ .i64 fun n107 =>
  ldInt H9 ⟨r, 4, none⟩ .i64 fun n108 =>
  ldInt H9 ⟨r, 5, none⟩ .i64 fun n109 =>
  ldInt H9 ⟨r, 6, none⟩ .i64 fun n110 =>
  ldBool H9 ⟨r, 7, none⟩ fun b29 =>
  callD Try.prog 42 [(.pointer s0), (.agg ⟨[(.int .i64 n104), (.int .i64 n105), (.int .i64 n106), (.int .i64 n107), (.int .i64 n108), (.int .i64 n109), (.int .i64 n110), (.bool b29)]⟩)] H9 (panK R) fun v10 H103 =>
  tSl v10 fun q20 q20n q20c =>
  st1 H103 ⟨r2, 5, none⟩ (.slice q20 q20n q20c) fun H104 =>
  ldInt H104 ⟨r2, 0, none⟩ .i64 fun n111 =>
  ldBool H104 ⟨r2, 1, none⟩ fun b30 =>
  ldInt H104 ⟨r2, 2, none⟩ .i64 fun n112 =>
  ldInt H104 ⟨r2, 3, none⟩ .i64 fun n113 =>
  ldInt H104 ⟨r2, 4, none⟩ .i64 fun n114 =>
  ldSl H104 ⟨r2, 5, none⟩ fun q21 q21n q21c =>
  st1 H104 ⟨r1, 0, none⟩ (.int .i64 n111) fun H105 =>
  st1 H105 ⟨r1, 1, none⟩ (.bool b30) fun H106 =>
  st1 H106 ⟨r1, 2, none⟩ (.int .i64 n112) fun H107 =>
  st1 H107 ⟨r1, 3, none⟩ (.int .i64 n113) fun H108 =>
  st1 H108 ⟨r1, 4, none⟩ (.int .i64 n114) fun H109 =>
  st1 H109 ⟨r1, 5, none⟩ (.slice q21 q21n q21c) fun H110 =>
  ldInt H110 ⟨r1, 0, none⟩ .i64 fun n115 =>
  ldBool H110 ⟨r1, 1, none⟩ fun b31 =>
  ldInt H110 ⟨r1, 2, none⟩ .i64 fun n116 =>
  ldInt H110 ⟨r1, 3, none⟩ .i64 fun n117 =>
  ldInt H110 ⟨r1, 4, none⟩ .i64 fun n118 =>
  ldSl H110 ⟨r1, 5, none⟩ fun q22 q22n q22c =>
  R (.returned (.agg ⟨[(.int .i64 n115), (.bool b31), (.int .i64 n116), (.int .i64 n117), (.int .i64 n118), (.slice q22 q22n q22c)]⟩)) H110
theorem calls {s0 : Option Addr} {s1_0 : Int} {s1_1 : Int} {s1_2 : Int} {s1_3 : Int} {s1_4 : Int} {s1_5 : Int} {s1_6 : Int} {s1_7 : Bool} {H : Heap} {R : Ending → Heap → Prop} (h : go s0 s1_0 s1_1 s1_2 s1_3 s1_4 s1_5 s1_6 s1_7 H R) : CallsH Try.prog 23 ⟨[(.pointer s0), (.agg ⟨[(.int .i64 s1_0), (.int .i64 s1_1), (.int .i64 s1_2), (.int .i64 s1_3), (.int .i64 s1_4), (.int .i64 s1_5), (.int .i64 s1_6), (.bool s1_7)]⟩)]⟩ H R :=
  callsH_of_den (an := an) (fuel := 100000) (X := go s0 s1_0 s1_1 s1_2 s1_3 s1_4 s1_5 s1_6 s1_7 H R) (c := body) mixed fn (by kernel_rfl) (by kernel_rfl) (by kernel_rfl) ok (by kernel_rfl) h
end F23
/-! ### 24 "slices.Index[[]pub-stadtholder/impl.El,pub-stadtholder/impl.El]" -/
namespace F24
def an : Ann := { kinds := [], taus := [(4, [[1, 2, 3, 0, 4, 5]])], pairs := [], lab := [(40000003, [0, 3, 7, 8])] }
noncomputable def body : Code := (Try.f24.body).getD .skip
theorem fn : Try.prog.funcs[24]? = some Try.f24 := by kernel_rfl
theorem ok : codeOk an 19 body = true := by kernel_rfl
noncomputable def L0t : List Item := [.code (sub [1, 0, 1, 0, 0] body), .inLoop (sub [1, 0, 1, 0, 0] body), .inBlock 0, .code (sub [1, 1] body)]
def L0 (s : Option Addr) (sn : Nat) (sc : Nat) (v : Nat) (s7 : Int) (s8 : Int) (H : Heap) (R : Ending → Heap → Prop) : Prop :=
  GoL Try.prog 24 19 L0t [0, 3, 7, 8] [(.slice s sn sc), (.pointer (some ⟨v, 0, none⟩)), (.int .i64 s7), (.int .i64 s8)] H R
def L0n (s : Option Addr) (sn : Nat) (sc : Nat) (v : Nat) (s7 : Int) (s8 : Int) (H : Heap) (R : Ending → Heap → Prop) : Prop :=
  iteB (decide (s8 < s7)) (
    idxD s sn s8 fun a =>
    ldInt H ⟨v, 0, none⟩ .i64 fun n =>
    ldInt H ⟨v, 1, none⟩ .i64 fun n1 =>
    ldInt H (Addr.add a (Int.toNat s8 * 2)) .i64 fun n2 =>
    ldInt H (Addr.add (Addr.add a (Int.toNat s8 * 2)) 1) .i64 fun n3 =>
    rawB Try.prog .eql 25 (.agg ⟨[(.int .i64 n), (.int .i64 n1)]⟩) (.agg ⟨[(.int .i64 n2), (.int .i64 n3)]⟩) fun b =>
    iteB b (
      R (.returned (.int .i64 s8)) H) <|
    L0 s sn sc v s7 (IntKind.wrap .i64 (s8 + (1 : Int))) H R) <|
  R (.returned (.int .i64 (-1 : Int))) H
theorem L0_step {s : Option Addr} {sn : Nat} {sc : Nat} {v : Nat} {s7 : Int} {s8 : Int} {H : Heap} {R : Ending → Heap → Prop} (h : L0n s sn sc v s7 s8 H R) : L0 s sn sc v s7 s8 H R :=
  goL_of_den (an := an) (fuel := 100000) (X := L0n s sn sc v s7 s8 H R) mixed fn (by kernel_rfl) (fun ρ0 => by kernel_rfl) h
def go (s : Option Addr) (sn : Nat) (sc : Nat) (v_0 : Int) (v_1 : Int) (H : Heap) (R : Ending → Heap → Prop) : Prop :=
  newD H (.cells ⟨[(.int .i64 v_0), (.int .i64 v_1)]⟩ 25) fun r H1 =>
  L0 s sn sc r ((sn : Nat) : Int) (0 : Int) H1 R
theorem calls {s : Option Addr} {sn : Nat} {sc : Nat} {v_0 : Int} {v_1 : Int} {H : Heap} {R : Ending → Heap → Prop} (h : go s sn sc v_0 v_1 H R) : CallsH Try.prog 24 ⟨[(.slice s sn sc), (.agg ⟨[(.int .i64 v_0), (.int .i64 v_1)]⟩)]⟩ H R :=
  callsH_of_den (an := an) (fuel := 100000) (X := go s sn sc v_0 v_1 H R) (c := body) mixed fn (by kernel_rfl) (by kernel_rfl) (by kernel_rfl) ok (by kernel_rfl) h
end F24
/-! ### 25 "(pub-stadtholder/spec.Shelf).at" -/
namespace F25
def an : Ann := { kinds := [], taus := [(4, [[0, 1, 2, 3, 4, 5, 6, 7, 8, 9, 11, 14, 10, 12, 13, 15]])], pairs := [], lab := [(40000003, [0, 1, 6]), (10000005, [0, 1, 6]), (40000004, [0, 1, 6])] }
noncomputable def body : Code := (Try.f25.body).getD .skip
theorem fn : Try.prog.funcs[25]? = some Try.f25 := by kernel_rfl
theorem ok : codeOk an 36 body = true := by kernel_rfl
noncomputable def L0t : List Item := [.code (sub [1, 1, 0, 0, 0] body), .inLoop (sub [1, 1, 0, 0, 0] body), .inBlock 0, .code (sub [1, 1, 1] body)]
def L0 (s : Option Addr) (sn : Nat) (sc : Nat) (key : Int) (i : Int) (H : Heap) (R : Ending → Heap → Prop) : Prop :=
  GoL Try.prog 25 36 L0t [0, 1, 6] [(.slice s sn sc), (.int .i64 key), (.int .i64 i)] H R
noncomputable def L1t : List Item := [.code (sub [1, 1, 1] body)]
def L1 (s : Option Addr) (sn : Nat) (sc : Nat) (key : Int) (i : Int) (H : Heap) (R : Ending → Heap → Prop) : Prop :=
  GoL Try.prog 25 36 L1t [0, 1, 6] [(.slice s sn sc), (.int .i64 key), (.int .i64 i)] H R
noncomputable def L2t : List Item := [.code (sub [1, 1, 0, 0, 0, 1] body), .inLoop (sub [1, 1, 0, 0, 0] body), .inBlock 0, .code (sub [1, 1, 1] body)]
def L2 (s : Option Addr) (sn : Nat) (sc : Nat) (key : Int) (i : Int) (H : Heap) (R : Ending → Heap → Prop) : Prop :=
  GoL Try.prog 25 36 L2t [0, 1, 6] [(.slice s sn sc), (.int .i64 key), (.int .i64 i)] H R
def L0n (s : Option Addr) (sn : Nat) (sc : Nat) (key : Int) (i : Int) (H : Heap) (R : Ending → Heap → Prop) : Prop :=
  iteB (decide (i < ((sn : Nat) : Int))) (
    idxD s sn i fun a =>
    ldInt H (Addr.add a (Int.toNat i * 2)) .i64 fun n =>
    iteB (decide (n < key)) (
      L2 s sn sc key i H R) <|
    L1 s sn sc key i H R) <|
  L1 s sn sc key i H R
theorem L0_step {s : Option Addr} {sn : Nat} {sc : Nat} {key : Int} {i : Int} {H : Heap} {R : Ending → Heap → Prop} (h : L0n s sn sc key i H R) : L0 s sn sc key i H R :=
  goL_of_den (an := an) (fuel := 100000) (X := L0n s sn sc key i H R) mixed fn (by kernel_rfl) (fun ρ0 => by kernel_rfl) h
def L1n (s : Option Addr) (sn : Nat) (sc : Nat) (key : Int) (i : Int) (H : Heap) (R : Ending → Heap → Prop) : Prop :=
  iteB (decide (i < ((sn : Nat) : Int))) (
    idxD s sn i fun a =>
    ldInt H (Addr.add a (Int.toNat i * 2)) .i64 fun n =>
    R (.returned (.tuple ⟨[(.int .i64 i), (.bool (n == key))]⟩)) H) <|
  R (.returned (.tuple ⟨[(.int .i64 i), (.bool false)]⟩)) H
theorem L1_step {s : Option Addr} {sn : Nat} {sc : Nat} {key : Int} {i : Int} {H : Heap} {R : Ending → Heap → Prop} (h : L1n s sn sc key i H R) : L1 s sn sc key i H R :=
  goL_of_den (an := an) (fuel := 100000) (X := L1n s sn sc key i H R) mixed fn (by kernel_rfl) (fun ρ0 => by kernel_rfl) h
def L2n (s : Option Addr) (sn : Nat) (sc : Nat) (key : Int) (i : Int) (H : Heap) (R : Ending → Heap → Prop) : Prop :=
  L0 s sn sc key (IntKind.wrap .i64 (i + (1 : Int))) H R
theorem L2_step {s : Option Addr} {sn : Nat} {sc : Nat} {key : Int} {i : Int} {H : Heap} {R : Ending → Heap → Prop} (h : L2n s sn sc key i H R) : L2 s sn sc key i H R :=
  goL_of_den (an := an) (fuel := 100000) (X := L2n s sn sc key i H R) mixed fn (by kernel_rfl) (fun ρ0 => by kernel_rfl) h
def go (s : Option Addr) (sn : Nat) (sc : Nat) (key : Int) (H : Heap) (R : Ending → Heap → Prop) : Prop :=
  L0 s sn sc key (0 : Int) H R
theorem calls {s : Option Addr} {sn : Nat} {sc : Nat} {key : Int} {H : Heap} {R : Ending → Heap → Prop} (h : go s sn sc key H R) : CallsH Try.prog 25 ⟨[(.slice s sn sc), (.int .i64 key)]⟩ H R :=
  callsH_of_den (an := an) (fuel := 100000) (X := go s sn sc key H R) (c := body) mixed fn (by kernel_rfl) (by kernel_rfl) (by kernel_rfl) ok (by kernel_rfl) h
end F25
/-! ### 26 "(pub-stadtholder/spec.Shelf).With" -/
namespace F26
def an : Ann := { kinds := [(2000, .grow), (2004, .grow), (2006, .grow)], taus := [(2, [[1, 2, 3, 5, 0, 4, 6, 7, 8], [1, 2, 3, 5, 0, 6, 4, 7, 8], [1, 2, 3, 5, 6, 0, 4, 7, 8]])], pairs := [(2, [(0, 6), (4, 6)])], lab := [(10000004, [0, 5, 6, 7]), (10000006, [0, 5, 7])] }
noncomputable def body : Code := (Try.f26.body).getD .skip
theorem fn : Try.prog.funcs[26]? = some Try.f26 := by kernel_rfl
theorem ok : codeOk an 31 body = true := by kernel_rfl
noncomputable def L0t : List Item := [.code (sub [1, 1, 1] body)]
def L0 (s : Option Addr) (sn : Nat) (sc : Nat) (i : Int) (is : Bool) (out : Option Addr) (outn : Nat) (outc : Nat) (H : Heap) (R : Ending → Heap → Prop) : Prop :=
  GoL Try.prog 26 31 L0t [0, 5, 6, 7] [(.slice s sn sc), (.int .i64 i), (.bool is), (.slice out outn outc)] H R
noncomputable def L1t : List Item := [.code (sub [1, 1, 1, 1] body)]
def L1 (s : Option Addr) (sn : Nat) (sc : Nat) (i : Int) (out : Option Addr) (outn : Nat) (outc : Nat) (H : Heap) (R : Ending → Heap → Prop) : Prop :=
  GoL Try.prog 26 31 L1t [0, 5, 7] [(.slice s sn sc), (.int .i64 i), (.slice out outn outc)] H R
def L0n (s : Option Addr) (sn : Nat) (sc : Nat) (i : Int) (is : Bool) (out : Option Addr) (outn : Nat) (outc : Nat) (H : Heap) (R : Ending → Heap → Prop) : Prop :=
  iteB is (
    L1 s sn sc (IntKind.wrap .i64 (i + (1 : Int))) out outn outc H R) <|
  L1 s sn sc i out outn outc H R
theorem L0_step {s : Option Addr} {sn : Nat} {sc : Nat} {i : Int} {is : Bool} {out : Option Addr} {outn : Nat} {outc : Nat} {H : Heap} {R : Ending → Heap → Prop} (h : L0n s sn sc i is out outn outc H R) : L0 s sn sc i is out outn outc H R :=
  goL_of_den (an := an) (fuel := 100000) (X := L0n s sn sc i is out outn outc H R) mixed fn (by kernel_rfl) (fun ρ0 => by kernel_rfl) h
def L1n (s : Option Addr) (sn : Nat) (sc : Nat) (i : Int) (out : Option Addr) (outn : Nat) (outc : Nat) (H : Heap) (R : Ending → Heap → Prop) : Prop :=
  bndD i sn fun k =>
  apD H 2 16 [(.int .i64 (0 : Int)), (.int .i64 (0 : Int))] 25 out outn outc (slP s k sc 2) (sn - k) fun q qn qc H1 =>
  R (.returned (.slice q qn qc)) H1
theorem L1_step {s : Option Addr} {sn : Nat} {sc : Nat} {i : Int} {out : Option Addr} {outn : Nat} {outc : Nat} {H : Heap} {R : Ending → Heap → Prop} (h : L1n s sn sc i out outn outc H R) : L1 s sn sc i out outn outc H R :=
  goL_of_den (an := an) (fuel := 100000) (X := L1n s sn sc i out outn outc H R) mixed fn (by kernel_rfl) (fun ρ0 => by kernel_rfl) h
def go (s : Option Addr) (sn : Nat) (sc : Nat) (e_0 : Int) (e_1 : Int) (H : Heap) (R : Ending → Heap → Prop) : Prop :=
  newD H (.cells ⟨[(.int .i64 e_0), (.int .i64 e_1)]⟩ 25) fun r H1 =>
  ldInt H1 ⟨r, 0, none⟩ .i64 fun n =>
  callD Try.prog 25 [(.slice s sn sc), (.int .i64 n)] H1 (panK R) fun v H2 =>
  tTup v fun l =>
  tCons l fun c l1 =>
  tInt c .i64 fun n1 =>
  tCons l1 fun c1 l2 =>
  tBool c1 fun b =>
  tNil l2 <|
  (
    bndD n1 sc fun k =>
    ldInt H2 ⟨r, 0, none⟩ .i64 fun n2 =>
    ldInt H2 ⟨r, 1, none⟩ .i64 fun n3 =>
    newD H2 (.cells ⟨[]⟩ 25) fun r1 H3 =>
    apD H3 2 16 [(.int .i64 (0 : Int)), (.int .i64 (0 : Int))] 25 (some ⟨r1, 0, none⟩) 0 0 (slP s 0 sc 2) k fun q qn qc H4 =>
    andD (ExtH H3 H4) <|
    newD H4 (.cells ⟨[(.int .i64 n2), (.int .i64 n3)]⟩ 25) fun r2 H5 =>
    apD H5 2 16 [(.int .i64 (0 : Int)), (.int .i64 (0 : Int))] 25 q qn qc (some ⟨r2, 0, none⟩) 1 fun q1 q1n q1c H6 =>
    L0 s sn sc n1 b q1 q1n q1c H6 R) ∧
  (
    bndD n1 sc fun k1 =>
    ldInt H2 ⟨r, 0, none⟩ .i64 fun n4 =>
    ldInt H2 ⟨r, 1, none⟩ .i64 fun n5 =>
    newD H2 (.cells ⟨[]⟩ 25) fun r3 H7 =>
    newD H7 (.cells ⟨[(.int .i64 n4), (.int .i64 n5)]⟩ 25) fun r4 H8 =>
    apD H8 2 16 [(.int .i64 (0 : Int)), (.int .i64 (0 : Int))] 25 (some ⟨r3, 0, none⟩) 0 0 (slP s 0 sc 2) k1 fun q2 q2n q2c H9 =>
    andD (ExtH H8 H9) <|
    apD H9 2 16 [(.int .i64 (0 : Int)), (.int .i64 (0 : Int))] 25 q2 q2n q2c (some ⟨r4, 0, none⟩) 1 fun q3 q3n q3c H10 =>
    L0 s sn sc n1 b q3 q3n q3c H10 R) ∧
  (
    bndD n1 sc fun k2 =>
    ldInt H2 ⟨r, 0, none⟩ .i64 fun n6 =>
    ldInt H2 ⟨r, 1, none⟩ .i64 fun n7 =>
    newD H2 (.cells ⟨[(.int .i64 n6), (.int .i64 n7)]⟩ 25) fun r5 H11 =>
    newD H11 (.cells ⟨[]⟩ 25) fun r6 H12 =>
    apD H12 2 16 [(.int .i64 (0 : Int)), (.int .i64 (0 : Int))] 25 (some ⟨r6, 0, none⟩) 0 0 (slP s 0 sc 2) k2 fun q4 q4n q4c H13 =>
    andD (ExtH H12 H13) <|
    apD H13 2 16 [(.int .i64 (0 : Int)), (.int .i64 (0 : Int))] 25 q4 q4n q4c (some ⟨r5, 0, none⟩) 1 fun q5 q5n q5c H14 =>
    L0 s sn sc n1 b q5 q5n q5c H14 R)
theorem calls {s : Option Addr} {sn : Nat} {sc : Nat} {e_0 : Int} {e_1 : Int} {H : Heap} {R : Ending → Heap → Prop} (h : go s sn sc e_0 e_1 H R) : CallsH Try.prog 26 ⟨[(.slice s sn sc), (.agg ⟨[(.int .i64 e_0), (.int .i64 e_1)]⟩)]⟩ H R :=
  callsH_of_den (an := an) (fuel := 100000) (X := go s sn sc e_0 e_1 H R) (c := body) mixed fn (by kernel_rfl) (by kernel_rfl) (by kernel_rfl) ok (by kernel_rfl) h
end F26
/-! ### 27 "(pub-stadtholder/spec.Shelf).Without" -/
namespace F27
def an : Ann := { kinds := [(1000, .grow)], taus := [(1, [[1, 2, 3, 5, 6, 7, 8, 0, 4, 9, 10]])], pairs := [], lab := [] }
noncomputable def body : Code := (Try.f27.body).getD .skip
theorem fn : Try.prog.funcs[27]? = some Try.f27 := by kernel_rfl
theorem ok : codeOk an 15 body = true := by kernel_rfl
def go (s : Option Addr) (sn : Nat) (sc : Nat) (i : Int) (H : Heap) (R : Ending → Heap → Prop) : Prop :=
  bndD i sc fun k =>
  bndD (IntKind.wrap .i64 (i + (1 : Int))) sn fun k1 =>
  newD H (.cells ⟨[]⟩ 25) fun r H1 =>
  apD H1 2 16 [(.int .i64 (0 : Int)), (.int .i64 (0 : Int))] 25 (some ⟨r, 0, none⟩) 0 0 (slP s 0 sc 2) k fun q qn qc H2 =>
  apD H2 2 16 [(.int .i64 (0 : Int)), (.int .i64 (0 : Int))] 25 q qn qc (slP s k1 sc 2) (sn - k1) fun q1 q1n q1c H3 =>
  R (.returned (.slice q1 q1n q1c)) H3
theorem calls {s : Option Addr} {sn : Nat} {sc : Nat} {i : Int} {H : Heap} {R : Ending → Heap → Prop} (h : go s sn sc i H R) : CallsH Try.prog 27 ⟨[(.slice s sn sc), (.int .i64 i)]⟩ H R :=
  callsH_of_den (an := an) (fuel := 100000) (X := go s sn sc i H R) (c := body) mixed fn (by kernel_rfl) (by kernel_rfl) (by kernel_rfl) ok (by kernel_rfl) h
end F27
/-! ### 28 "(pub-stadtholder/spec.Shelf).end" -/
namespace F28
def an : Ann := { kinds := [], taus := [], pairs := [], lab := [] }
noncomputable def body : Code := (Try.f28.body).getD .skip
theorem fn : Try.prog.funcs[28]? = some Try.f28 := by kernel_rfl
theorem ok : codeOk an 24 body = true := by kernel_rfl
def go (s : Option Addr) (sn : Nat) (sc : Nat) (last : Bool) (H : Heap) (R : Ending → Heap → Prop) : Prop :=
  newD H (.cells ⟨[(.int .i64 (0 : Int)), (.int .i64 (0 : Int))]⟩ 25) fun r H1 =>
  iteB (((sn : Nat) : Int) == (0 : Int)) (
    st1 H1 ⟨r, 0, none⟩ (.int .i64 (0 : Int)) fun H2 =>
    st1 H2 ⟨r, 1, none⟩ (.int .i64 (0 : Int)) fun H3 =>
    ldInt H3 ⟨r, 0, none⟩ .i64 fun n =>
    ldInt H3 ⟨r, 1, none⟩ .i64 fun n1 =>
    R (.returned (.tuple ⟨[(.agg ⟨[(.int .i64 n), (.int .i64 n1)]⟩), (.int .i64 (0 : Int)), (.bool false)]⟩)) H3) <|
  iteB last (
    idxD s sn (IntKind.wrap .i64 (((sn : Nat) : Int) - (1 : Int))) fun a =>
    ldInt H1 (Addr.add a (Int.toNat (IntKind.wrap .i64 (((sn : Nat) : Int) - (1 : Int))) * 2)) .i64 fun n2 =>
    ldInt H1 (Addr.add (Addr.add a (Int.toNat (IntKind.wrap .i64 (((sn : Nat) : Int) - (1 : Int))) * 2)) 1) .i64 fun n3 =>
    st1 H1 ⟨r, 0, none⟩ (.int .i64 n2) fun H4 =>
    st1 H4 ⟨r, 1, none⟩ (.int .i64 n3) fun H5 =>
    ldInt H5 ⟨r, 0, none⟩ .i64 fun n4 =>
    ldInt H5 ⟨r, 1, none⟩ .i64 fun n5 =>
    R (.returned (.tuple ⟨[(.agg ⟨[(.int .i64 n4), (.int .i64 n5)]⟩), (.int .i64 (IntKind.wrap .i64 (((sn : Nat) : Int) - (1 : Int)))), (.bool true)]⟩)) H5) <|
  idxD s sn (0 : Int) fun a1 =>
  ldInt H1 (Addr.add a1 (Int.toNat (0 : Int) * 2)) .i64 fun n6 =>
  ldInt H1 (Addr.add (Addr.add a1 (Int.toNat (0 : Int) * 2)) 1) .i64 fun n7 =>
  st1 H1 ⟨r, 0, none⟩ (.int .i64 n6) fun H6 =>
  st1 H6 ⟨r, 1, none⟩ (.int .i64 n7) fun H7 =>
  ldInt H7 ⟨r, 0, none⟩ .i64 fun n8 =>
  ldInt H7 ⟨r, 1, none⟩ .i64 fun n9 =>
  R (.returned (.tuple ⟨[(.agg ⟨[(.int .i64 n8), (.int .i64 n9)]⟩), (.int .i64 (0 : Int)), (.bool true)]⟩)) H7
theorem calls {s : Option Addr} {sn : Nat} {sc : Nat} {last : Bool} {H : Heap} {R : Ending → Heap → Prop} (h : go s sn sc last H R) : CallsH Try.prog 28 ⟨[(.slice s sn sc), (.bool last)]⟩ H R :=
  callsH_of_den (an := an) (fuel := 100000) (X := go s sn sc last H R) (c := body) mixed fn (by kernel_rfl) (by kernel_rfl) (by kernel_rfl) ok (by kernel_rfl) h
end F28
/-! ### 29 "(pub-stadtholder/spec.Shelf).Wanted" -/
namespace F29
def an : Ann := { kinds := [], taus := [], pairs := [], lab := [(40000004, [3, 5, 9, 10, 11]), (10000025, [3, 5]), (20000026, [3, 5]), (60000020, [3, 5, 7, 8, 9, 10, 11]), (40000022, [3, 5, 9, 10, 11])] }
noncomputable def body : Code := (Try.f29.body).getD .skip
theorem fn : Try.prog.funcs[29]? = some Try.f29 := by kernel_rfl
theorem ok : codeOk an 99 body = true := by kernel_rfl
noncomputable def L0t : List Item := [.code (sub [1, 1, 0, 1, 0, 0] body), .inLoop (sub [1, 1, 0, 1, 0, 0] body), .inBlock 0, .code (sub [1, 1, 1] body)]
def L0 (s3 : Nat) (s5 : Option Addr) (s5n : Nat) (s5c : Nat) (s9 : Option Addr) (s9n : Nat) (s9c : Nat) (s10 : Int) (s11 : Int) (H : Heap) (R : Ending → Heap → Prop) : Prop :=
  GoL Try.prog 29 99 L0t [3, 5, 9, 10, 11] [(.pointer (some ⟨s3, 0, none⟩)), (.slice s5 s5n s5c), (.slice s9 s9n s9c), (.int .i64 s10), (.int .i64 s11)] H R
noncomputable def L1t : List Item := [.code (sub [1, 1, 1, 1] body)]
def L1 (s3 : Nat) (s5 : Option Addr) (s5n : Nat) (s5c : Nat) (H : Heap) (R : Ending → Heap → Prop) : Prop :=
  GoL Try.prog 29 99 L1t [3, 5] [(.pointer (some ⟨s3, 0, none⟩)), (.slice s5 s5n s5c)] H R
noncomputable def L2t : List Item := [.code (sub [1, 1, 1, 1, 0, 1, 0] body), .code (sub [1, 1, 1, 1, 1] body)]
def L2 (s3 : Nat) (s5 : Option Addr) (s5n : Nat) (s5c : Nat) (H : Heap) (R : Ending → Heap → Prop) : Prop :=
  GoL Try.prog 29 99 L2t [3, 5] [(.pointer (some ⟨s3, 0, none⟩)), (.slice s5 s5n s5c)] H R
noncomputable def L3t : List Item := [.code (sub [1, 1, 0, 1, 0, 0, 1, 1, 0, 0, 1, 1, 1] body), .inBlock 1, .code (sub [1, 1, 0, 1, 0, 0, 1, 1, 1] body), .inLoop (sub [1, 1, 0, 1, 0, 0] body), .inBlock 0, .code (sub [1, 1, 1] body)]
def L3 (s3 : Nat) (s5 : Option Addr) (s5n : Nat) (s5c : Nat) (s7 : Nat) (s8 : Bool) (s9 : Option Addr) (s9n : Nat) (s9c : Nat) (s10 : Int) (s11 : Int) (H : Heap) (R : Ending → Heap → Prop) : Prop :=
  GoL Try.prog 29 99 L3t [3, 5, 7, 8, 9, 10, 11] [(.pointer (some ⟨s3, 0, none⟩)), (.slice s5 s5n s5c), (.pointer (some ⟨s7, 0, none⟩)), (.bool s8), (.slice s9 s9n s9c), (.int .i64 s10), (.int .i64 s11)] H R
noncomputable def L4t : List Item := [.code (sub [1, 1, 0, 1, 0, 0, 1, 1, 1] body), .inLoop (sub [1, 1, 0, 1, 0, 0] body), .inBlock 0, .code (sub [1, 1, 1] body)]
def L4 (s3 : Nat) (s5 : Option Addr) (s5n : Nat) (s5c : Nat) (s9 : Option Addr) (s9n : Nat) (s9c : Nat) (s10 : Int) (s11 : Int) (H : Heap) (R : Ending → Heap → Prop) : Prop :=
  GoL Try.prog 29 99 L4t [3, 5, 9, 10, 11] [(.pointer (some ⟨s3, 0, none⟩)), (.slice s5 s5n s5c), (.slice s9 s9n s9c), (.int .i64 s10), (.int .i64 s11)] H R
def L0n (s3 : Nat) (s5 : Option Addr) (s5n : Nat) (s5c : Nat) (s9 : Option Addr) (s9n : Nat) (s9c : Nat) (s10 : Int) (s11 : Int) (H : Heap) (R : Ending → Heap → Prop) : Prop :=
  iteB (decide (s11 < s10)) (
    idxD s9 s9n s11 fun a =>
    ldInt H (Addr.add a (Int.toNat s11 * 2)) .i64 fun n =>
    ldInt H (Addr.add (Addr.add a (Int.toNat s11 * 2)) 1) .i64 fun n1 =>
    newD H (.cells ⟨[(.int .i64 (0 : Int)), (.int .i64 (0 : Int))]⟩ 25) fun r H1 =>
    st1 H1 ⟨r, 0, none⟩ (.int .i64 n) fun H2 =>
    st1 H2 ⟨r, 1, none⟩ (.int .i64 n1) fun H3 =>
    ldInt H3 ⟨s3, 0, none⟩ .i64 fun n2 =>
    iteB (n2 == (11 : Int)) (
      ldInt H3 ⟨r, 0, none⟩ .i64 fun n3 =>
      ldInt H3 ⟨s3, 4, none⟩ .i64 fun n4 =>
      iteB (decide (n3 ≥ n4)) (
        ldInt H3 ⟨r, 0, none⟩ .i64 fun n5 =>
        ldInt H3 ⟨s3, 5, none⟩ .i64 fun n6 =>
        L3 s3 s5 s5n s5c r (decide (n5 < n6)) s9 s9n s9c s10 s11 H3 R) <|
      L3 s3 s5 s5n s5c r false s9 s9n s9c s10 s11 H3 R) <|
    iteB (n2 == (12 : Int)) (
      ldInt H3 ⟨r, 0, none⟩ .i64 fun n7 =>
      ldInt H3 ⟨s3, 5, none⟩ .i64 fun n8 =>
      L3 s3 s5 s5n s5c r (decide (n7 < n8)) s9 s9n s9c s10 s11 H3 R) <|
    iteB (n2 == (13 : Int)) (
      ldInt H3 ⟨r, 0, none⟩ .i64 fun n9 =>
      ldInt H3 ⟨s3, 4, none⟩ .i64 fun n10 =>
      L3 s3 s5 s5n s5c r (decide (n9 ≥ n10)) s9 s9n s9c s10 s11 H3 R) <|
    iteB (n2 == (15 : Int)) (
      ldInt H3 ⟨r, 0, none⟩ .i64 fun n11 =>
      ldInt H3 ⟨s3, 4, none⟩ .i64 fun n12 =>
      iteB (decide (n11 ≤ n12)) (
        ldInt H3 ⟨r, 0, none⟩ .i64 fun n13 =>
        ldInt H3 ⟨s3, 5, none⟩ .i64 fun n14 =>
        L3 s3 s5 s5n s5c r (decide (n13 > n14)) s9 s9n s9c s10 s11 H3 R) <|
      L3 s3 s5 s5n s5c r false s9 s9n s9c s10 s11 H3 R) <|
    iteB (n2 == (16 : Int)) (
      ldInt H3 ⟨r, 0, none⟩ .i64 fun n15 =>
      ldInt H3 ⟨s3, 4, none⟩ .i64 fun n16 =>
      L3 s3 s5 s5n s5c r (decide (n15 ≤ n16)) s9 s9n s9c s10 s11 H3 R) <|
    iteB (n2 == (17 : Int)) (
      ldInt H3 ⟨r, 0, none⟩ .i64 fun n17 =>
      ldInt H3 ⟨s3, 5, none⟩ .i64 fun n18 =>
      L3 s3 s5 s5n s5c r (decide (n17 > n18)) s9 s9n s9c s10 s11 H3 R) <|
    L3 s3 s5 s5n s5c r true s9 s9n s9c s10 s11 H3 R) <|
  ldInt H ⟨s3, 0, none⟩ .i64 fun n19 =>
  iteB (decide (n19 ≥ (14 : Int))) (
    callD Try.prog 15 [(.slice s5 s5n s5c)] H (panK R) fun v H4 =>
    tTup v fun l =>
    tNil l <|
    L1 s3 s5 s5n s5c H4 R) <|
  L1 s3 s5 s5n s5c H R
theorem L0_step {s3 : Nat} {s5 : Option Addr} {s5n : Nat} {s5c : Nat} {s9 : Option Addr} {s9n : Nat} {s9c : Nat} {s10 : Int} {s11 : Int} {H : Heap} {R : Ending → Heap → Prop} (h : L0n s3 s5 s5n s5c s9 s9n s9c s10 s11 H R) : L0 s3 s5 s5n s5c s9 s9n s9c s10 s11 H R :=
  goL_of_den (an := an) (fuel := 100000) (X := L0n s3 s5 s5n s5c s9 s9n s9c s10 s11 H R) mixed fn (by kernel_rfl) (fun ρ0 => by kernel_rfl) h
def L1n (s3 : Nat) (s5 : Option Addr) (s5n : Nat) (s5c : Nat) (H : Heap) (R : Ending → Heap → Prop) : Prop :=
  ldInt H ⟨s3, 6, none⟩ .i64 fun n =>
  iteB (decide (n > (0 : Int))) (
    ldInt H ⟨s3, 6, none⟩ .i64 fun n1 =>
    iteB (decide (((s5n : Nat) : Int) > n1)) (
      L2 s3 s5 s5n s5c H R) <|
    R (.returned (.slice s5 s5n s5c)) H) <|
  R (.returned (.slice s5 s5n s5c)) H
theorem L1_step {s3 : Nat} {s5 : Option Addr} {s5n : Nat} {s5c : Nat} {H : Heap} {R : Ending → Heap → Prop} (h : L1n s3 s5 s5n s5c H R) : L1 s3 s5 s5n s5c H R :=
  goL_of_den (an := an) (fuel := 100000) (X := L1n s3 s5 s5n s5c H R) mixed fn (by kernel_rfl) (fun ρ0 => by kernel_rfl) h
def L2n (s3 : Nat) (s5 : Option Addr) (s5n : Nat) (s5c : Nat) (H : Heap) (R : Ending → Heap → Prop) : Prop :=
  ldInt H ⟨s3, 6, none⟩ .i64 fun n =>
  bndD n s5c fun k =>
  R (.returned (.slice (slP s5 0 s5c 2) k s5c)) H
theorem L2_step {s3 : Nat} {s5 : Option Addr} {s5n : Nat} {s5c : Nat} {H : Heap} {R : Ending → Heap → Prop} (h : L2n s3 s5 s5n s5c H R) : L2 s3 s5 s5n s5c H R :=
  goL_of_den (an := an) (fuel := 100000) (X := L2n s3 s5 s5n s5c H R) mixed fn (by kernel_rfl) (fun ρ0 => by kernel_rfl) h
def L3n (s3 : Nat) (s5 : Option Addr) (s5n : Nat) (s5c : Nat) (s7 : Nat) (s8 : Bool) (s9 : Option Addr) (s9n : Nat) (s9c : Nat) (s10 : Int) (s11 : Int) (H : Heap) (R : Ending → Heap → Prop) : Prop :=
  iteB s8 (
    ldInt H ⟨s7, 0, none⟩ .i64 fun n =>
    ldInt H ⟨s7, 1, none⟩ .i64 fun n1 =>
    newD H (.cells ⟨[(.int .i64 n), (.int .i64 n1)]⟩ 25) fun r H1 =>
    apD H1 2 16 [(.int .i64 (0 : Int)), (.int .i64 (0 : Int))] 25 s5 s5n s5c (some ⟨r, 0, none⟩) 1 fun q qn qc H2 =>
    L4 s3 q qn qc s9 s9n s9c s10 s11 H2 R) <|
  L4 s3 s5 s5n s5c s9 s9n s9c s10 s11 H R
theorem L3_step {s3 : Nat} {s5 : Option Addr} {s5n : Nat} {s5c : Nat} {s7 : Nat} {s8 : Bool} {s9 : Option Addr} {s9n : Nat} {s9c : Nat} {s10 : Int} {s11 : Int} {H : Heap} {R : Ending → Heap → Prop} (h : L3n s3 s5 s5n s5c s7 s8 s9 s9n s9c s10 s11 H R) : L3 s3 s5 s5n s5c s7 s8 s9 s9n s9c s10 s11 H R :=
  goL_of_den (an := an) (fuel := 100000) (X := L3n s3 s5 s5n s5c s7 s8 s9 s9n s9c s10 s11 H R) mixed fn (by kernel_rfl) (fun ρ0 => by kernel_rfl) h
def L4n (s3 : Nat) (s5 : Option Addr) (s5n : Nat) (s5c : Nat) (s9 : Option Addr) (s9n : Nat) (s9c : Nat) (s10 : Int) (s11 : Int) (H : Heap) (R : Ending → Heap → Prop) : Prop :=
  L0 s3 s5 s5n s5c s9 s9n s9c s10 (IntKind.wrap .i64 (s11 + (1 : Int))) H R
theorem L4_step {s3 : Nat} {s5 : Option Addr} {s5n : Nat} {s5c : Nat} {s9 : Option Addr} {s9n : Nat} {s9c : Nat} {s10 : Int} {s11 : Int} {H : Heap} {R : Ending → Heap → Prop} (h : L4n s3 s5 s5n s5c s9 s9n s9c s10 s11 H R) : L4 s3 s5 s5n s5c s9 s9n s9c s10 s11 H R :=
  goL_of_den (an := an) (fuel := 100000) (X := L4n s3 s5 s5n s5c s9 s9n s9c s10 s11 H R) mixed fn (by kernel_rfl) (fun ρ0 => by kernel_rfl) h
def go (s0 : Option Addr) (s0n : Nat) (s0c : Nat) (s1_0 : Int) (s1_1 : Int) (s1_2 : Int) (s1_3 : Int) (s1_4 : Int) (s1_5 : Int) (s1_6 : Int) (s1_7 : Bool) (H : Heap) (R : Ending → Heap → Prop) : Prop :=
  newD H (.cells ⟨[(.int .i64 s1_0), (.int .i64 s1_1), (.int .i64 s1_2), (.int .i64 s1_3), (.int .i64 s1_4), (.int .i64 s1_5), (.int .i64 s1_6), (.bool s1_7)]⟩ 30) fun r H1 =>
  L0 r none 0 0 s0 s0n s0c ((s0n : Nat) : Int) (0 : Int) H1 R
theorem calls {s0 : Option Addr} {s0n : Nat} {s0c : Nat} {s1_0 : Int} {s1_1 : Int} {s1_2 : Int} {s1_3 : Int} {s1_4 : Int} {s1_5 : Int} {s1_6 : Int} {s1_7 : Bool} {H : Heap} {R : Ending → Heap → Prop} (h : go s0 s0n s0c s1_0 s1_1 s1_2 s1_3 s1_4 s1_5 s1_6 s1_7 H R) : CallsH Try.prog 29 ⟨[(.slice s0 s0n s0c), (.agg ⟨[(.int .i64 s1_0), (.int .i64 s1_1), (.int .i64 s1_2), (.int .i64 s1_3), (.int .i64 s1_4), (.int .i64 s1_5), (.int .i64 s1_6), (.bool s1_7)]⟩)]⟩ H R :=
  callsH_of_den (an := an) (fuel := 100000) (X := go s0 s0n s0c s1_0 s1_1 s1_2 s1_3 s1_4 s1_5 s1_6 s1_7 H R) (c := body) mixed fn (by kernel_rfl) (by kernel_rfl) (by kernel_rfl) ok (by kernel_rfl) h
end F29
/-! ### 30 "pub-stadtholder/pub/etcdserver/btree.NewWithFreeList[pub-stadtholder/impl.El]" -/
namespace F30
def an : Ann := { kinds := [], taus := [], pairs := [], lab := [(10000004, [0, 1, 2])] }
noncomputable def body : Code := (Try.f30.body).getD .skip
theorem fn : Try.prog.funcs[30]? = some Try.f30 := by kernel_rfl
theorem ok : codeOk an 17 body = true := by kernel_rfl
noncomputable def L0t : List Item := [.code (sub [1, 1] body)]
def L0 (degree : Int) (less : FV) (f : Option Addr) (H : Heap) (R : Ending → Heap → Prop) : Prop :=
  GoL Try.prog 30 17 L0t [0, 1, 2] [(.int .i64 degree), (FV.v less), (.pointer f)] H R
def L0n (degree : Int) (less : FV) (f : Option Addr) (H : Heap) (R : Ending → Heap → Prop) : Prop :=
  guardB (isCell (FV.v less)) <|
  newD H (.cells ⟨[(.pointer f), (FV.v less)]⟩ 73) fun r H1 =>
  newD H1 (.cells ⟨[(.int .i64 degree), (.int .i64 (0 : Int)), (.pointer none), (.pointer (some ⟨r, 0, none⟩))]⟩ 77) fun r1 H2 =>
  R (.returned (.pointer (some ⟨r1, 0, none⟩))) H2
theorem L0_step {degree : Int} {less : FV} {f : Option Addr} {H : Heap} {R : Ending → Heap → Prop} (h : L0n degree less f H R) : L0 degree less f H R :=
  goL_of_den (an := an) (fuel := 100000) (X := L0n degree less f H R) mixed fn (by kernel_rfl) (fun ρ0 => by kernel_rfl) h
def go (degree : Int) (less : FV) (f : Option Addr) (H : Heap) (R : Ending → Heap → Prop) : Prop :=
  iteB (decide (degree ≤ (1 : Int))) (
    panD (.iface 9 (.string (ByteArray.mk #[98, 97, 100, 32, 100, 101, 103, 114, 101, 101]))) H (panK R)) <|
  L0 degree less f H R
theorem calls {degree : Int} {less : FV} {f : Option Addr} {H : Heap} {R : Ending → Heap → Prop} (h : go degree less f H R) : CallsH Try.prog 30 ⟨[(.int .i64 degree), (FV.v less), (.pointer f)]⟩ H R :=
  callsH_of_den (an := an) (fuel := 100000) (X := go degree less f H R) (c := body) mixed fn (by kernel_rfl) (by kernel_rfl) (by kernel_rfl) ok (by kernel_rfl) h
end F30
/-! ### 31 "pub-stadtholder/pub/etcdserver/btree.NewFreeList[pub-stadtholder/impl.El]" -/
namespace F31
def an : Ann := { kinds := [], taus := [], pairs := [], lab := [] }
noncomputable def body : Code := (Try.f31.body).getD .skip
theorem fn : Try.prog.funcs[31]? = some Try.f31 := by kernel_rfl
theorem ok : codeOk an 7 body = true := by kernel_rfl
def go (size : Int) (H : Heap) (R : Ending → Heap → Prop) : Prop :=
  mkD H 8 [(.pointer none)] 74 (0 : Int) size fun r k c H1 =>
  newD H1 (.cells ⟨[(.slice (some ⟨r, 0, none⟩) k c)]⟩ 89) fun r1 H2 =>
  R (.returned (.pointer (some ⟨r1, 0, none⟩))) H2
theorem calls {size : Int} {H : Heap} {R : Ending → Heap → Prop} (h : go size H R) : CallsH Try.prog 31 ⟨[(.int .i64 size)]⟩ H R :=
  callsH_of_den (an := an) (fuel := 100000) (X := go size H R) (c := body) mixed fn (by kernel_rfl) (by kernel_rfl) (by kernel_rfl) ok (by kernel_rfl) h
end F31
/-! ### 32 "(*pub-stadtholder/pub/etcdserver/btree.BTree[pub-stadtholder/impl.El]).ReplaceOrInsert" -/
namespace F32
def an : Ann := { kinds := [(3012, .grow), (7011, .grow), (10012, .grow), (11013, .grow), (12011, .grow)], taus := [(3, [[0, 1, 2, 4, 5, 6, 3, 7, 8, 9, 10, 11, 12, 13, 14, 15, 16], [0, 1, 2, 4, 5, 6, 7, 8, 9, 10, 11, 12, 13, 3, 14, 15, 16]]), (5, [[0, 1, 2, 3, 5, 6, 7, 4, 8, 9, 10, 11, 12]]), (6, [[0, 1, 2, 8, 3, 4, 5, 6, 7, 9, 10], [0, 1, 2, 8, 3, 4, 5, 9, 6, 7, 10], [0, 1, 2, 8, 9, 3, 4, 5, 6, 7, 10]]), (7, [[0, 1, 2, 4, 3, 11, 5, 6, 7, 8, 9, 10, 12, 13], [0, 1, 2, 4, 3, 5, 6, 11, 7, 8, 9, 10, 12, 13], [0, 1, 2, 4, 3, 5, 6, 7, 8, 9, 10, 11, 12, 13], [0, 1, 2, 4, 11, 5, 6, 3, 7, 8, 9, 10, 12, 13], [0, 1, 2, 4, 5, 6, 3, 11, 7, 8, 9, 10, 12, 13], [0, 1, 2, 4, 5, 6, 3, 7, 8, 9, 10, 11, 12, 13]]), (10, [[0, 1, 2, 4, 5, 6, 3, 7, 8, 9, 10, 11, 12, 13, 14, 15, 16], [0, 1, 2, 4, 5, 6, 7, 8, 9, 10, 11, 12, 13, 3, 14, 15, 16]]), (11, [[0, 1, 2, 4, 5, 6, 11, 12, 3, 7, 8, 9, 10, 13, 14, 15, 16, 17], [0, 1, 2, 4, 5, 6, 11, 12, 7, 8, 9, 10, 13, 14, 3, 15, 16, 17]]), (12, [[0, 1, 2, 5, 3, 4, 11, 6, 7, 8, 9, 10, 12, 13], [0, 1, 2, 5, 3, 4, 6, 11, 7, 8, 9, 10, 12, 13], [0, 1, 2, 5, 3, 4, 6, 7, 8, 9, 10, 11, 12, 13], [0, 1, 2, 5, 3, 11, 6, 4, 7, 8, 9, 10, 12, 13], [0, 1, 2, 5, 3, 6, 4, 11, 7, 8, 9, 10, 12, 13], [0, 1, 2, 5, 3, 6, 4, 7, 8, 9, 10, 11, 12, 13], [0, 1, 2, 5, 4, 11, 6, 3, 7, 8, 9, 10, 12, 13], [0, 1, 2, 5, 4, 6, 3, 11, 7, 8, 9, 10, 12, 13], [0, 1, 2, 5, 4, 6, 3, 7, 8, 9, 10, 11, 12, 13], [0, 1, 2, 5, 11, 6, 3, 4, 7, 8, 9, 10, 12, 13], [0, 1, 2, 5, 6, 3, 4, 11, 7, 8, 9, 10, 12, 13], [0, 1, 2, 5, 6, 3, 4, 7, 8, 9, 10, 11, 12, 13]])], pairs := [(3, [(3, 13)]), (6, [(3, 9), (6, 9)]), (7, [(3, 5), (11, 5), (11, 7)]), (10, [(3, 13)]), (11, [(3, 14)]), (12, [(3, 6), (4, 6), (11, 6), (11, 7)])], lab := [(20000008, [0, 3, 4]), (20000009, [0, 3, 4, 6, 7]), (20000012, [0, 3, 4, 7, 8]), (10000013, [0, 3, 4]), (10000014, [0, 4, 9, 10]), (20000005, [0, 4, 5])] }
noncomputable def body : Code := (Try.f32.body).getD .skip
theorem fn : Try.prog.funcs[32]? = some Try.f32 := by kernel_rfl
theorem ok : codeOk an 148 body = true := by kernel_rfl
noncomputable def L0t : List Item := [.code (sub [1, 1, 1, 0, 1, 0] body), .code (sub [1, 1, 1, 1] body)]
def L0 (s0 : Option Addr) (s3 : Nat) (s4 : Nat) (H : Heap) (R : Ending → Heap → Prop) : Prop :=
  GoL Try.prog 32 148 L0t [0, 3, 4] [(.pointer s0), (.pointer (some ⟨s3, 0, none⟩)), (.pointer (some ⟨s4, 0, none⟩))] H R
noncomputable def L1t : List Item := [.code (sub [1, 1, 1, 0, 1, 0, 1] body), .code (sub [1, 1, 1, 1] body)]
def L1 (s0 : Option Addr) (s3 : Nat) (s4 : Nat) (s6 : Nat) (s7 : Option Addr) (H : Heap) (R : Ending → Heap → Prop) : Prop :=
  GoL Try.prog 32 148 L1t [0, 3, 4, 6, 7] [(.pointer s0), (.pointer (some ⟨s3, 0, none⟩)), (.pointer (some ⟨s4, 0, none⟩)), (.pointer (some ⟨s6, 0, none⟩)), (.pointer s7)] H R
noncomputable def L2t : List Item := [.code (sub [1, 1, 1, 0, 1, 0, 1, 1, 1, 1] body), .code (sub [1, 1, 1, 1] body)]
def L2 (s0 : Option Addr) (s3 : Nat) (s4 : Nat) (s7 : Option Addr) (s8 : Option Addr) (H : Heap) (R : Ending → Heap → Prop) : Prop :=
  GoL Try.prog 32 148 L2t [0, 3, 4, 7, 8] [(.pointer s0), (.pointer (some ⟨s3, 0, none⟩)), (.pointer (some ⟨s4, 0, none⟩)), (.pointer s7), (.pointer s8)] H R
noncomputable def L3t : List Item := [.code (sub [1, 1, 1, 1] body)]
def L3 (s0 : Option Addr) (s3 : Nat) (s4 : Nat) (H : Heap) (R : Ending → Heap → Prop) : Prop :=
  GoL Try.prog 32 148 L3t [0, 3, 4] [(.pointer s0), (.pointer (some ⟨s3, 0, none⟩)), (.pointer (some ⟨s4, 0, none⟩))] H R
noncomputable def L4t : List Item := [.code (sub [1, 1, 1, 1, 1] body)]
def L4 (s0 : Option Addr) (s4 : Nat) (s9 : Nat) (s10 : Bool) (H : Heap) (R : Ending → Heap → Prop) : Prop :=
  GoL Try.prog 32 148 L4t [0, 4, 9, 10] [(.pointer s0), (.pointer (some ⟨s4, 0, none⟩)), (.pointer (some ⟨s9, 0, none⟩)), (.bool s10)] H R
noncomputable def L5t : List Item := [.code (sub [1, 0, 1, 0, 1, 1] body), .code (sub [1, 1] body)]
def L5 (s0 : Option Addr) (s4 : Nat) (s5 : Bool) (H : Heap) (R : Ending → Heap → Prop) : Prop :=
  GoL Try.prog 32 148 L5t [0, 4, 5] [(.pointer s0), (.pointer (some ⟨s4, 0, none⟩)), (.bool s5)] H R
def L0n (s0 : Option Addr) (s3 : Nat) (s4 : Nat) (H : Heap) (R : Ending → Heap → Prop) : Prop :=
  (
    nilD s0 fun a =>
    ldPtr H (Addr.add a 2) fun p =>
    newD H (.cells ⟨[(.int .i64 (0 : Int)), (.int .i64 (0 : Int))]⟩ 25) fun r H1 =>
    callD Try.prog 45 [(.pointer s0)] H1 (panK R) fun v H2 =>
    tInt v .i64 fun n =>
    divD (2 : Int) <|
    callD Try.prog 46 [(.pointer p), (.int .i64 (IntKind.wrap .i64 (Int.tdiv n (2 : Int))))] H2 (panK R) fun v1 H3 =>
    tTup v1 fun l =>
    tCons l fun c l1 =>
    tAgg c fun l2 =>
    tCons l2 fun c1 l3 =>
    tInt c1 .i64 fun n1 =>
    tCons l3 fun c2 l4 =>
    tInt c2 .i64 fun n2 =>
    tNil l4 <|
    tCons l1 fun c3 l5 =>
    tPtr c3 fun p1 =>
    tNil l5 <|
    st1 H3 ⟨r, 0, none⟩ (.int .i64 n1) fun H4 =>
    st1 H4 ⟨r, 1, none⟩ (.int .i64 n2) fun H5 =>
    L1 s0 s3 s4 r p1 H5 R) ∧
  (
    nilD s0 fun a1 =>
    ldPtr H (Addr.add a1 2) fun p2 =>
    callD Try.prog 45 [(.pointer s0)] H (panK R) fun v2 H6 =>
    tInt v2 .i64 fun n3 =>
    divD (2 : Int) <|
    newD H6 (.cells ⟨[(.int .i64 (0 : Int)), (.int .i64 (0 : Int))]⟩ 25) fun r1 H7 =>
    callD Try.prog 46 [(.pointer p2), (.int .i64 (IntKind.wrap .i64 (Int.tdiv n3 (2 : Int))))] H7 (panK R) fun v3 H8 =>
    tTup v3 fun l6 =>
    tCons l6 fun c4 l7 =>
    tAgg c4 fun l8 =>
    tCons l8 fun c5 l9 =>
    tInt c5 .i64 fun n4 =>
    tCons l9 fun c6 l10 =>
    tInt c6 .i64 fun n5 =>
    tNil l10 <|
    tCons l7 fun c7 l11 =>
    tPtr c7 fun p3 =>
    tNil l11 <|
    st1 H8 ⟨r1, 0, none⟩ (.int .i64 n4) fun H9 =>
    st1 H9 ⟨r1, 1, none⟩ (.int .i64 n5) fun H10 =>
    L1 s0 s3 s4 r1 p3 H10 R) ∧
  (
    nilD s0 fun a2 =>
    ldPtr H (Addr.add a2 2) fun p4 =>
    callD Try.prog 45 [(.pointer s0)] H (panK R) fun v4 H11 =>
    tInt v4 .i64 fun n6 =>
    divD (2 : Int) <|
    callD Try.prog 46 [(.pointer p4), (.int .i64 (IntKind.wrap .i64 (Int.tdiv n6 (2 : Int))))] H11 (panK R) fun v5 H12 =>
    tTup v5 fun l12 =>
    tCons l12 fun c8 l13 =>
    tAgg c8 fun l14 =>
    tCons l14 fun c9 l15 =>
    tInt c9 .i64 fun n7 =>
    tCons l15 fun c10 l16 =>
    tInt c10 .i64 fun n8 =>
    tNil l16 <|
    tCons l13 fun c11 l17 =>
    tPtr c11 fun p5 =>
    tNil l17 <|
    newD H12 (.cells ⟨[(.int .i64 (0 : Int)), (.int .i64 (0 : Int))]⟩ 25) fun r2 H13 =>
    st1 H13 ⟨r2, 0, none⟩ (.int .i64 n7) fun H14 =>
    st1 H14 ⟨r2, 1, none⟩ (.int .i64 n8) fun H15 =>
    L1 s0 s3 s4 r2 p5 H15 R) ∧
  (
    nilD s0 fun a3 =>
    newD H (.cells ⟨[(.int .i64 (0 : Int)), (.int .i64 (0 : Int))]⟩ 25) fun r3 H16 =>
    callD Try.prog 45 [(.pointer s0)] H16 (panK R) fun v6 H17 =>
    tInt v6 .i64 fun n9 =>
    divD (2 : Int) <|
    ldPtr H17 (Addr.add a3 2) fun p6 =>
    callD Try.prog 46 [(.pointer p6), (.int .i64 (IntKind.wrap .i64 (Int.tdiv n9 (2 : Int))))] H17 (panK R) fun v7 H18 =>
    tTup v7 fun l18 =>
    tCons l18 fun c12 l19 =>
    tAgg c12 fun l20 =>
    tCons l20 fun c13 l21 =>
    tInt c13 .i64 fun n10 =>
    tCons l21 fun c14 l22 =>
    tInt c14 .i64 fun n11 =>
    tNil l22 <|
    tCons l19 fun c15 l23 =>
    tPtr c15 fun p7 =>
    tNil l23 <|
    st1 H18 ⟨r3, 0, none⟩ (.int .i64 n10) fun H19 =>
    st1 H19 ⟨r3, 1, none⟩ (.int .i64 n11) fun H20 =>
    L1 s0 s3 s4 r3 p7 H20 R) ∧
  (
    nilD s0 fun a4 =>
    callD Try.prog 45 [(.pointer s0)] H (panK R) fun v8 H21 =>
    tInt v8 .i64 fun n12 =>
    divD (2 : Int) <|
    ldPtr H21 (Addr.add a4 2) fun p8 =>
    newD H21 (.cells ⟨[(.int .i64 (0 : Int)), (.int .i64 (0 : Int))]⟩ 25) fun r4 H22 =>
    callD Try.prog 46 [(.pointer p8), (.int .i64 (IntKind.wrap .i64 (Int.tdiv n12 (2 : Int))))] H22 (panK R) fun v9 H23 =>
    tTup v9 fun l24 =>
    tCons l24 fun c16 l25 =>
    tAgg c16 fun l26 =>
    tCons l26 fun c17 l27 =>
    tInt c17 .i64 fun n13 =>
    tCons l27 fun c18 l28 =>
    tInt c18 .i64 fun n14 =>
    tNil l28 <|
    tCons l25 fun c19 l29 =>
    tPtr c19 fun p9 =>
    tNil l29 <|
    st1 H23 ⟨r4, 0, none⟩ (.int .i64 n13) fun H24 =>
    st1 H24 ⟨r4, 1, none⟩ (.int .i64 n14) fun H25 =>
    L1 s0 s3 s4 r4 p9 H25 R) ∧
  (
    nilD s0 fun a5 =>
    callD Try.prog 45 [(.pointer s0)] H (panK R) fun v10 H26 =>
    tInt v10 .i64 fun n15 =>
    divD (2 : Int) <|
    ldPtr H26 (Addr.add a5 2) fun p10 =>
    callD Try.prog 46 [(.pointer p10), (.int .i64 (IntKind.wrap .i64 (Int.tdiv n15 (2 : Int))))] H26 (panK R) fun v11 H27 =>
    tTup v11 fun l30 =>
    tCons l30 fun c20 l31 =>
    tAgg c20 fun l32 =>
    tCons l32 fun c21 l33 =>
    tInt c21 .i64 fun n16 =>
    tCons l33 fun c22 l34 =>
    tInt c22 .i64 fun n17 =>
    tNil l34 <|
    tCons l31 fun c23 l35 =>
    tPtr c23 fun p11 =>
    tNil l35 <|
    newD H27 (.cells ⟨[(.int .i64 (0 : Int)), (.int .i64 (0 : Int))]⟩ 25) fun r5 H28 =>
    st1 H28 ⟨r5, 0, none⟩ (.int .i64 n16) fun H29 =>
    st1 H29 ⟨r5, 1, none⟩ (.int .i64 n17) fun H30 =>
    L1 s0 s3 s4 r5 p11 H30 R)
theorem L0_step {s0 : Option Addr} {s3 : Nat} {s4 : Nat} {H : Heap} {R : Ending → Heap → Prop} (h : L0n s0 s3 s4 H R) : L0 s0 s3 s4 H R :=
  goL_of_den (an := an) (fuel := 100000) (X := L0n s0 s3 s4 H R) mixed fn (by kernel_rfl) (fun ρ0 => by kernel_rfl) h
def L1n (s0 : Option Addr) (s3 : Nat) (s4 : Nat) (s6 : Nat) (s7 : Option Addr) (H : Heap) (R : Ending → Heap → Prop) : Prop :=
  nilD s0 fun a =>
  ldPtr H (Addr.add a 2) fun p =>
  nilD s0 fun a1 =>
  ldPtr H (Addr.add a1 3) fun p1 =>
  callD Try.prog 43 [(.pointer p1)] H (panK R) fun v H1 =>
  tPtr v fun p2 =>
  nilD s0 fun a2 =>
  st1 H1 (Addr.add a2 2) (.pointer p2) fun H2 =>
  (
    nilD s0 fun a3 =>
    nilD s0 fun a4 =>
    ldPtr H2 (Addr.add a3 2) fun p3 =>
    ldPtr H2 (Addr.add a4 2) fun p4 =>
    nilD p4 fun a5 =>
    ldSl H2 a5 fun q qn qc =>
    ldInt H2 ⟨s6, 0, none⟩ .i64 fun n =>
    ldInt H2 ⟨s6, 1, none⟩ .i64 fun n1 =>
    newD H2 (.cells ⟨[(.int .i64 n), (.int .i64 n1)]⟩ 25) fun r H3 =>
    apD H3 2 16 [(.int .i64 (0 : Int)), (.int .i64 (0 : Int))] 25 q qn qc (some ⟨r, 0, none⟩) 1 fun q1 q1n q1c H4 =>
    nilD p3 fun a6 =>
    st1 H4 a6 (.slice q1 q1n q1c) fun H5 =>
    L2 s0 s3 s4 s7 p H5 R) ∧
  (
    nilD s0 fun a7 =>
    nilD s0 fun a8 =>
    ldPtr H2 (Addr.add a8 2) fun p5 =>
    nilD p5 fun a9 =>
    ldSl H2 a9 fun q2 q2n q2c =>
    ldInt H2 ⟨s6, 0, none⟩ .i64 fun n2 =>
    ldInt H2 ⟨s6, 1, none⟩ .i64 fun n3 =>
    newD H2 (.cells ⟨[(.int .i64 n2), (.int .i64 n3)]⟩ 25) fun r1 H6 =>
    apD H6 2 16 [(.int .i64 (0 : Int)), (.int .i64 (0 : Int))] 25 q2 q2n q2c (some ⟨r1, 0, none⟩) 1 fun q3 q3n q3c H7 =>
    ldPtr H7 (Addr.add a7 2) fun p6 =>
    nilD p6 fun a10 =>
    st1 H7 a10 (.slice q3 q3n q3c) fun H8 =>
    L2 s0 s3 s4 s7 p H8 R)
theorem L1_step {s0 : Option Addr} {s3 : Nat} {s4 : Nat} {s6 : Nat} {s7 : Option Addr} {H : Heap} {R : Ending → Heap → Prop} (h : L1n s0 s3 s4 s6 s7 H R) : L1 s0 s3 s4 s6 s7 H R :=
  goL_of_den (an := an) (fuel := 100000) (X := L1n s0 s3 s4 s6 s7 H R) mixed fn (by kernel_rfl) (fun ρ0 => by kernel_rfl) h
def L2n (s0 : Option Addr) (s3 : Nat) (s4 : Nat) (s7 : Option Addr) (s8 : Option Addr) (H : Heap) (R : Ending → Heap → Prop) : Prop :=
  (
    nilD s0 fun a =>
    nilD s0 fun a1 =>
    ldPtr H (Addr.add a 2) fun p =>
    ldPtr H (Addr.add a1 2) fun p1 =>
    nilD p1 fun a2 =>
    ldSl H (Addr.add a2 1) fun q qn qc =>
    newD H (.cells ⟨[(.pointer s8), (.pointer s7)]⟩ 74) fun r H1 =>
    apD H1 1 8 [(.pointer none)] 74 q qn qc (some ⟨r, 0, none⟩) 2 fun q1 q1n q1c H2 =>
    nilD p fun a3 =>
    st1 H2 (Addr.add a3 1) (.slice q1 q1n q1c) fun H3 =>
    L3 s0 s3 s4 H3 R) ∧
  (
    nilD s0 fun a4 =>
    nilD s0 fun a5 =>
    ldPtr H (Addr.add a5 2) fun p2 =>
    nilD p2 fun a6 =>
    ldSl H (Addr.add a6 1) fun q2 q2n q2c =>
    newD H (.cells ⟨[(.pointer s8), (.pointer s7)]⟩ 74) fun r1 H4 =>
    apD H4 1 8 [(.pointer none)] 74 q2 q2n q2c (some ⟨r1, 0, none⟩) 2 fun q3 q3n q3c H5 =>
    ldPtr H5 (Addr.add a4 2) fun p3 =>
    nilD p3 fun a7 =>
    st1 H5 (Addr.add a7 1) (.slice q3 q3n q3c) fun H6 =>
    L3 s0 s3 s4 H6 R)
theorem L2_step {s0 : Option Addr} {s3 : Nat} {s4 : Nat} {s7 : Option Addr} {s8 : Option Addr} {H : Heap} {R : Ending → Heap → Prop} (h : L2n s0 s3 s4 s7 s8 H R) : L2 s0 s3 s4 s7 s8 H R :=
  goL_of_den (an := an) (fuel := 100000) (X := L2n s0 s3 s4 s7 s8 H R) mixed fn (by kernel_rfl) (fun ρ0 => by kernel_rfl) h
def L3n (s0 : Option Addr) (s3 : Nat) (s4 : Nat) (H : Heap) (R : Ending → Heap → Prop) : Prop :=
  (
    nilD s0 fun a =>
    ldPtr H (Addr.add a 2) fun p =>
    ldInt H ⟨s3, 0, none⟩ .i64 fun n =>
    ldInt H ⟨s3, 1, none⟩ .i64 fun n1 =>
    newD H (.cells ⟨[(.int .i64 (0 : Int)), (.int .i64 (0 : Int))]⟩ 25) fun r H1 =>
    callD Try.prog 45 [(.pointer s0)] H1 (panK R) fun v H2 =>
    tInt v .i64 fun n2 =>
    callD Try.prog 47 [(.pointer p), (.agg ⟨[(.int .i64 n), (.int .i64 n1)]⟩), (.int .i64 n2)] H2 (panK R) fun v1 H3 =>
    tTup v1 fun l =>
    tCons l fun c l1 =>
    tAgg c fun l2 =>
    tCons l2 fun c1 l3 =>
    tInt c1 .i64 fun n3 =>
    tCons l3 fun c2 l4 =>
    tInt c2 .i64 fun n4 =>
    tNil l4 <|
    tCons l1 fun c3 l5 =>
    tBool c3 fun b =>
    tNil l5 <|
    st1 H3 ⟨r, 0, none⟩ (.int .i64 n3) fun H4 =>
    st1 H4 ⟨r, 1, none⟩ (.int .i64 n4) fun H5 =>
    L4 s0 s4 r b H5 R) ∧
  (
    nilD s0 fun a1 =>
    ldPtr H (Addr.add a1 2) fun p1 =>
    ldInt H ⟨s3, 0, none⟩ .i64 fun n5 =>
    ldInt H ⟨s3, 1, none⟩ .i64 fun n6 =>
    callD Try.prog 45 [(.pointer s0)] H (panK R) fun v2 H6 =>
    tInt v2 .i64 fun n7 =>
    newD H6 (.cells ⟨[(.int .i64 (0 : Int)), (.int .i64 (0 : Int))]⟩ 25) fun r1 H7 =>
    callD Try.prog 47 [(.pointer p1), (.agg ⟨[(.int .i64 n5), (.int .i64 n6)]⟩), (.int .i64 n7)] H7 (panK R) fun v3 H8 =>
    tTup v3 fun l6 =>
    tCons l6 fun c4 l7 =>
    tAgg c4 fun l8 =>
    tCons l8 fun c5 l9 =>
    tInt c5 .i64 fun n8 =>
    tCons l9 fun c6 l10 =>
    tInt c6 .i64 fun n9 =>
    tNil l10 <|
    tCons l7 fun c7 l11 =>
    tBool c7 fun b1 =>
    tNil l11 <|
    st1 H8 ⟨r1, 0, none⟩ (.int .i64 n8) fun H9 =>
    st1 H9 ⟨r1, 1, none⟩ (.int .i64 n9) fun H10 =>
    L4 s0 s4 r1 b1 H10 R) ∧
  (
    nilD s0 fun a2 =>
    ldPtr H (Addr.add a2 2) fun p2 =>
    ldInt H ⟨s3, 0, none⟩ .i64 fun n10 =>
    ldInt H ⟨s3, 1, none⟩ .i64 fun n11 =>
    callD Try.prog 45 [(.pointer s0)] H (panK R) fun v4 H11 =>
    tInt v4 .i64 fun n12 =>
    callD Try.prog 47 [(.pointer p2), (.agg ⟨[(.int .i64 n10), (.int .i64 n11)]⟩), (.int .i64 n12)] H11 (panK R) fun v5 H12 =>
    tTup v5 fun l12 =>
    tCons l12 fun c8 l13 =>
    tAgg c8 fun l14 =>
    tCons l14 fun c9 l15 =>
    tInt c9 .i64 fun n13 =>
    tCons l15 fun c10 l16 =>
    tInt c10 .i64 fun n14 =>
    tNil l16 <|
    tCons l13 fun c11 l17 =>
    tBool c11 fun b2 =>
    tNil l17 <|
    newD H12 (.cells ⟨[(.int .i64 (0 : Int)), (.int .i64 (0 : Int))]⟩ 25) fun r2 H13 =>
    st1 H13 ⟨r2, 0, none⟩ (.int .i64 n13) fun H14 =>
    st1 H14 ⟨r2, 1, none⟩ (.int .i64 n14) fun H15 =>
    L4 s0 s4 r2 b2 H15 R) ∧
  (
    nilD s0 fun a3 =>
    ldPtr H (Addr.add a3 2) fun p3 =>
    newD H (.cells ⟨[(.int .i64 (0 : Int)), (.int .i64 (0 : Int))]⟩ 25) fun r3 H16 =>
    callD Try.prog 45 [(.pointer s0)] H16 (panK R) fun v6 H17 =>
    tInt v6 .i64 fun n15 =>
    ldInt H17 ⟨s3, 0, none⟩ .i64 fun n16 =>
    ldInt H17 ⟨s3, 1, none⟩ .i64 fun n17 =>
    callD Try.prog 47 [(.pointer p3), (.agg ⟨[(.int .i64 n16), (.int .i64 n17)]⟩), (.int .i64 n15)] H17 (panK R) fun v7 H18 =>
    tTup v7 fun l18 =>
    tCons l18 fun c12 l19 =>
    tAgg c12 fun l20 =>
    tCons l20 fun c13 l21 =>
    tInt c13 .i64 fun n18 =>
    tCons l21 fun c14 l22 =>
    tInt c14 .i64 fun n19 =>
    tNil l22 <|
    tCons l19 fun c15 l23 =>
    tBool c15 fun b3 =>
    tNil l23 <|
    st1 H18 ⟨r3, 0, none⟩ (.int .i64 n18) fun H19 =>
    st1 H19 ⟨r3, 1, none⟩ (.int .i64 n19) fun H20 =>
    L4 s0 s4 r3 b3 H20 R) ∧
  (
    nilD s0 fun a4 =>
    ldPtr H (Addr.add a4 2) fun p4 =>
    callD Try.prog 45 [(.pointer s0)] H (panK R) fun v8 H21 =>
    tInt v8 .i64 fun n20 =>
    ldInt H21 ⟨s3, 0, none⟩ .i64 fun n21 =>
    ldInt H21 ⟨s3, 1, none⟩ .i64 fun n22 =>
    newD H21 (.cells ⟨[(.int .i64 (0 : Int)), (.int .i64 (0 : Int))]⟩ 25) fun r4 H22 =>
    callD Try.prog 47 [(.pointer p4), (.agg ⟨[(.int .i64 n21), (.int .i64 n22)]⟩), (.int .i64 n20)] H22 (panK R) fun v9 H23 =>
    tTup v9 fun l24 =>
    tCons l24 fun c16 l25 =>
    tAgg c16 fun l26 =>
    tCons l26 fun c17 l27 =>
    tInt c17 .i64 fun n23 =>
    tCons l27 fun c18 l28 =>
    tInt c18 .i64 fun n24 =>
    tNil l28 <|
    tCons l25 fun c19 l29 =>
    tBool c19 fun b4 =>
    tNil l29 <|
    st1 H23 ⟨r4, 0, none⟩ (.int .i64 n23) fun H24 =>
    st1 H24 ⟨r4, 1, none⟩ (.int .i64 n24) fun H25 =>
    L4 s0 s4 r4 b4 H25 R) ∧
  (
    nilD s0 fun a5 =>
    ldPtr H (Addr.add a5 2) fun p5 =>
    callD Try.prog 45 [(.pointer s0)] H (panK R) fun v10 H26 =>
    tInt v10 .i64 fun n25 =>
    ldInt H26 ⟨s3, 0, none⟩ .i64 fun n26 =>
    ldInt H26 ⟨s3, 1, none⟩ .i64 fun n27 =>
    callD Try.prog 47 [(.pointer p5), (.agg ⟨[(.int .i64 n26), (.int .i64 n27)]⟩), (.int .i64 n25)] H26 (panK R) fun v11 H27 =>
    tTup v11 fun l30 =>
    tCons l30 fun c20 l31 =>
    tAgg c20 fun l32 =>
    tCons l32 fun c21 l33 =>
    tInt c21 .i64 fun n28 =>
    tCons l33 fun c22 l34 =>
    tInt c22 .i64 fun n29 =>
    tNil l34 <|
    tCons l31 fun c23 l35 =>
    tBool c23 fun b5 =>
    tNil l35 <|
    newD H27 (.cells ⟨[(.int .i64 (0 : Int)), (.int .i64 (0 : Int))]⟩ 25) fun r5 H28 =>
    st1 H28 ⟨r5, 0, none⟩ (.int .i64 n28) fun H29 =>
    st1 H29 ⟨r5, 1, none⟩ (.int .i64 n29) fun H30 =>
    L4 s0 s4 r5 b5 H30 R) ∧
  (
    nilD s0 fun a6 =>
    ldInt H ⟨s3, 0, none⟩ .i64 fun n30 =>
    ldInt H ⟨s3, 1, none⟩ .i64 fun n31 =>
    newD H (.cells ⟨[(.int .i64 (0 : Int)), (.int .i64 (0 : Int))]⟩ 25) fun r6 H31 =>
    callD Try.prog 45 [(.pointer s0)] H31 (panK R) fun v12 H32 =>
    tInt v12 .i64 fun n32 =>
    ldPtr H32 (Addr.add a6 2) fun p6 =>
    callD Try.prog 47 [(.pointer p6), (.agg ⟨[(.int .i64 n30), (.int .i64 n31)]⟩), (.int .i64 n32)] H32 (panK R) fun v13 H33 =>
    tTup v13 fun l36 =>
    tCons l36 fun c24 l37 =>
    tAgg c24 fun l38 =>
    tCons l38 fun c25 l39 =>
    tInt c25 .i64 fun n33 =>
    tCons l39 fun c26 l40 =>
    tInt c26 .i64 fun n34 =>
    tNil l40 <|
    tCons l37 fun c27 l41 =>
    tBool c27 fun b6 =>
    tNil l41 <|
    st1 H33 ⟨r6, 0, none⟩ (.int .i64 n33) fun H34 =>
    st1 H34 ⟨r6, 1, none⟩ (.int .i64 n34) fun H35 =>
    L4 s0 s4 r6 b6 H35 R) ∧
  (
    nilD s0 fun a7 =>
    ldInt H ⟨s3, 0, none⟩ .i64 fun n35 =>
    ldInt H ⟨s3, 1, none⟩ .i64 fun n36 =>
    callD Try.prog 45 [(.pointer s0)] H (panK R) fun v14 H36 =>
    tInt v14 .i64 fun n37 =>
    ldPtr H36 (Addr.add a7 2) fun p7 =>
    newD H36 (.cells ⟨[(.int .i64 (0 : Int)), (.int .i64 (0 : Int))]⟩ 25) fun r7 H37 =>
    callD Try.prog 47 [(.pointer p7), (.agg ⟨[(.int .i64 n35), (.int .i64 n36)]⟩), (.int .i64 n37)] H37 (panK R) fun v15 H38 =>
    tTup v15 fun l42 =>
    tCons l42 fun c28 l43 =>
    tAgg c28 fun l44 =>
    tCons l44 fun c29 l45 =>
    tInt c29 .i64 fun n38 =>
    tCons l45 fun c30 l46 =>
    tInt c30 .i64 fun n39 =>
    tNil l46 <|
    tCons l43 fun c31 l47 =>
    tBool c31 fun b7 =>
    tNil l47 <|
    st1 H38 ⟨r7, 0, none⟩ (.int .i64 n38) fun H39 =>
    st1 H39 ⟨r7, 1, none⟩ (.int .i64 n39) fun H40 =>
    L4 s0 s4 r7 b7 H40 R) ∧
  (
    nilD s0 fun a8 =>
    ldInt H ⟨s3, 0, none⟩ .i64 fun n40 =>
    ldInt H ⟨s3, 1, none⟩ .i64 fun n41 =>
    callD Try.prog 45 [(.pointer s0)] H (panK R) fun v16 H41 =>
    tInt v16 .i64 fun n42 =>
    ldPtr H41 (Addr.add a8 2) fun p8 =>
    callD Try.prog 47 [(.pointer p8), (.agg ⟨[(.int .i64 n40), (.int .i64 n41)]⟩), (.int .i64 n42)] H41 (panK R) fun v17 H42 =>
    tTup v17 fun l48 =>
    tCons l48 fun c32 l49 =>
    tAgg c32 fun l50 =>
    tCons l50 fun c33 l51 =>
    tInt c33 .i64 fun n43 =>
    tCons l51 fun c34 l52 =>
    tInt c34 .i64 fun n44 =>
    tNil l52 <|
    tCons l49 fun c35 l53 =>
    tBool c35 fun b8 =>
    tNil l53 <|
    newD H42 (.cells ⟨[(.int .i64 (0 : Int)), (.int .i64 (0 : Int))]⟩ 25) fun r8 H43 =>
    st1 H43 ⟨r8, 0, none⟩ (.int .i64 n43) fun H44 =>
    st1 H44 ⟨r8, 1, none⟩ (.int .i64 n44) fun H45 =>
    L4 s0 s4 r8 b8 H45 R) ∧
  (
    nilD s0 fun a9 =>
    newD H (.cells ⟨[(.int .i64 (0 : Int)), (.int .i64 (0 : Int))]⟩ 25) fun r9 H46 =>
    callD Try.prog 45 [(.pointer s0)] H46 (panK R) fun v18 H47 =>
    tInt v18 .i64 fun n45 =>
    ldPtr H47 (Addr.add a9 2) fun p9 =>
    ldInt H47 ⟨s3, 0, none⟩ .i64 fun n46 =>
    ldInt H47 ⟨s3, 1, none⟩ .i64 fun n47 =>
    callD Try.prog 47 [(.pointer p9), (.agg ⟨[(.int .i64 n46), (.int .i64 n47)]⟩), (.int .i64 n45)] H47 (panK R) fun v19 H48 =>
    tTup v19 fun l54 =>
    tCons l54 fun c36 l55 =>
    tAgg c36 fun l56 =>
    tCons l56 fun c37 l57 =>
    tInt c37 .i64 fun n48 =>
    tCons l57 fun c38 l58 =>
    tInt c38 .i64 fun n49 =>
    tNil l58 <|
    tCons l55 fun c39 l59 =>
    tBool c39 fun b9 =>
    tNil l59 <|
    st1 H48 ⟨r9, 0, none⟩ (.int .i64 n48) fun H49 =>
    st1 H49 ⟨r9, 1, none⟩ (.int .i64 n49) fun H50 =>
    L4 s0 s4 r9 b9 H50 R) ∧
  (
    nilD s0 fun a10 =>
    callD Try.prog 45 [(.pointer s0)] H (panK R) fun v20 H51 =>
    tInt v20 .i64 fun n50 =>
    ldPtr H51 (Addr.add a10 2) fun p10 =>
    ldInt H51 ⟨s3, 0, none⟩ .i64 fun n51 =>
    ldInt H51 ⟨s3, 1, none⟩ .i64 fun n52 =>
    newD H51 (.cells ⟨[(.int .i64 (0 : Int)), (.int .i64 (0 : Int))]⟩ 25) fun r10 H52 =>
    callD Try.prog 47 [(.pointer p10), (.agg ⟨[(.int .i64 n51), (.int .i64 n52)]⟩), (.int .i64 n50)] H52 (panK R) fun v21 H53 =>
    tTup v21 fun l60 =>
    tCons l60 fun c40 l61 =>
    tAgg c40 fun l62 =>
    tCons l62 fun c41 l63 =>
    tInt c41 .i64 fun n53 =>
    tCons l63 fun c42 l64 =>
    tInt c42 .i64 fun n54 =>
    tNil l64 <|
    tCons l61 fun c43 l65 =>
    tBool c43 fun b10 =>
    tNil l65 <|
    st1 H53 ⟨r10, 0, none⟩ (.int .i64 n53) fun H54 =>
    st1 H54 ⟨r10, 1, none⟩ (.int .i64 n54) fun H55 =>
    L4 s0 s4 r10 b10 H55 R) ∧
  (
    nilD s0 fun a11 =>
    callD Try.prog 45 [(.pointer s0)] H (panK R) fun v22 H56 =>
    tInt v22 .i64 fun n55 =>
    ldPtr H56 (Addr.add a11 2) fun p11 =>
    ldInt H56 ⟨s3, 0, none⟩ .i64 fun n56 =>
    ldInt H56 ⟨s3, 1, none⟩ .i64 fun n57 =>
    callD Try.prog 47 [(.pointer p11), (.agg ⟨[(.int .i64 n56), (.int .i64 n57)]⟩), (.int .i64 n55)] H56 (panK R) fun v23 H57 =>
    tTup v23 fun l66 =>
    tCons l66 fun c44 l67 =>
    tAgg c44 fun l68 =>
    tCons l68 fun c45 l69 =>
    tInt c45 .i64 fun n58 =>
    tCons l69 fun c46 l70 =>
    tInt c46 .i64 fun n59 =>
    tNil l70 <|
    tCons l67 fun c47 l71 =>
    tBool c47 fun b11 =>
    tNil l71 <|
    newD H57 (.cells ⟨[(.int .i64 (0 : Int)), (.int .i64 (0 : Int))]⟩ 25) fun r11 H58 =>
    st1 H58 ⟨r11, 0, none⟩ (.int .i64 n58) fun H59 =>
    st1 H59 ⟨r11, 1, none⟩ (.int .i64 n59) fun H60 =>
    L4 s0 s4 r11 b11 H60 R)
theorem L3_step {s0 : Option Addr} {s3 : Nat} {s4 : Nat} {H : Heap} {R : Ending → Heap → Prop} (h : L3n s0 s3 s4 H R) : L3 s0 s3 s4 H R :=
  goL_of_den (an := an) (fuel := 100000) (X := L3n s0 s3 s4 H R) mixed fn (by kernel_rfl) (fun ρ0 => by kernel_rfl) h
def L4n (s0 : Option Addr) (s4 : Nat) (s9 : Nat) (s10 : Bool) (H : Heap) (R : Ending → Heap → Prop) : Prop :=
  iteB (!s10) (
    nilD s0 fun a =>
    ldInt H (Addr.add a 1) .i64 fun n =>
    nilD s0 fun a1 =>
    st1 H (Addr.add a1 1) (.int .i64 (IntKind.wrap .i64 (n + (1 : Int)))) fun H1 =>
    ldInt H1 ⟨s9, 0, none⟩ .i64 fun n1 =>
    ldInt H1 ⟨s9, 1, none⟩ .i64 fun n2 =>
    st1 H1 ⟨s4, 0, none⟩ (.int .i64 n1) fun H2 =>
    st1 H2 ⟨s4, 1, none⟩ (.int .i64 n2) fun H3 =>
    ldInt H3 ⟨s4, 0, none⟩ .i64 fun n3 =>
    ldInt H3 ⟨s4, 1, none⟩ .i64 fun n4 =>
    R (.returned (.tuple ⟨[(.agg ⟨[(.int .i64 n3), (.int .i64 n4)]⟩), (.bool s10)]⟩)) H3) <|
  ldInt H ⟨s9, 0, none⟩ .i64 fun n5 =>
  ldInt H ⟨s9, 1, none⟩ .i64 fun n6 =>
  st1 H ⟨s4, 0, none⟩ (.int .i64 n5) fun H4 =>
  st1 H4 ⟨s4, 1, none⟩ (.int .i64 n6) fun H5 =>
  ldInt H5 ⟨s4, 0, none⟩ .i64 fun n7 =>
  ldInt H5 ⟨s4, 1, none⟩ .i64 fun n8 =>
  R (.returned (.tuple ⟨[(.agg ⟨[(.int .i64 n7), (.int .i64 n8)]⟩), (.bool s10)]⟩)) H5
theorem L4_step {s0 : Option Addr} {s4 : Nat} {s9 : Nat} {s10 : Bool} {H : Heap} {R : Ending → Heap → Prop} (h : L4n s0 s4 s9 s10 H R) : L4 s0 s4 s9 s10 H R :=
  goL_of_den (an := an) (fuel := 100000) (X := L4n s0 s4 s9 s10 H R) mixed fn (by kernel_rfl) (fun ρ0 => by kernel_rfl) h
def L5n (s0 : Option Addr) (s4 : Nat) (s5 : Bool) (H : Heap) (R : Ending → Heap → Prop) : Prop :=
  nilD s0 fun a =>
  ldInt H (Addr.add a 1) .i64 fun n =>
  nilD s0 fun a1 =>
  st1 H (Addr.add a1 1) (.int .i64 (IntKind.wrap .i64 (n + (1 : Int)))) fun H1 =>
  ldInt H1 ⟨s4, 0, none⟩ .i64 fun n1 =>
  ldInt H1 ⟨s4, 1, none⟩ .i64 fun n2 =>
  R (.returned (.tuple ⟨[(.agg ⟨[(.int .i64 n1), (.int .i64 n2)]⟩), (.bool s5)]⟩)) H1
theorem L5_step {s0 : Option Addr} {s4 : Nat} {s5 : Bool} {H : Heap} {R : Ending → Heap → Prop} (h : L5n s0 s4 s5 H R) : L5 s0 s4 s5 H R :=
  goL_of_den (an := an) (fuel := 100000) (X := L5n s0 s4 s5 H R) mixed fn (by kernel_rfl) (fun ρ0 => by kernel_rfl) h
def go (s0 : Option Addr) (s1_0 : Int) (s1_1 : Int) (H : Heap) (R : Ending → Heap → Prop) : Prop :=
  newD H (.cells ⟨[(.int .i64 s1_0), (.int .i64 s1_1)]⟩ 25) fun r H1 =>
  newD H1 (.cells ⟨[(.int .i64 (0 : Int)), (.int .i64 (0 : Int))]⟩ 25) fun r1 H2 =>
  nilD s0 fun a =>
  ldPtr H2 (Addr.add a 2) fun p =>
  iteB (Option.isNone p) (
    nilD s0 fun a1 =>
    ldPtr H2 (Addr.add a1 3) fun p1 =>
    callD Try.prog 43 [(.pointer p1)] H2 (panK R) fun v H3 =>
    tPtr v fun p2 =>
    nilD s0 fun a2 =>
    st1 H3 (Addr.add a2 2) (.pointer p2) fun H4 =>
    (
      nilD s0 fun a3 =>
      nilD s0 fun a4 =>
      ldPtr H4 (Addr.add a3 2) fun p3 =>
      ldPtr H4 (Addr.add a4 2) fun p4 =>
      nilD p4 fun a5 =>
      ldSl H4 a5 fun q qn qc =>
      ldInt H4 ⟨r, 0, none⟩ .i64 fun n =>
      ldInt H4 ⟨r, 1, none⟩ .i64 fun n1 =>
      newD H4 (.cells ⟨[(.int .i64 n), (.int .i64 n1)]⟩ 25) fun r2 H5 =>
      apD H5 2 16 [(.int .i64 (0 : Int)), (.int .i64 (0 : Int))] 25 q qn qc (some ⟨r2, 0, none⟩) 1 fun q1 q1n q1c H6 =>
      nilD p3 fun a6 =>
      st1 H6 a6 (.slice q1 q1n q1c) fun H7 =>
      L5 s0 r1 false H7 R) ∧
    (
      nilD s0 fun a7 =>
      nilD s0 fun a8 =>
      ldPtr H4 (Addr.add a8 2) fun p5 =>
      nilD p5 fun a9 =>
      ldSl H4 a9 fun q2 q2n q2c =>
      ldInt H4 ⟨r, 0, none⟩ .i64 fun n2 =>
      ldInt H4 ⟨r, 1, none⟩ .i64 fun n3 =>
      newD H4 (.cells ⟨[(.int .i64 n2), (.int .i64 n3)]⟩ 25) fun r3 H8 =>
      apD H8 2 16 [(.int .i64 (0 : Int)), (.int .i64 (0 : Int))] 25 q2 q2n q2c (some ⟨r3, 0, none⟩) 1 fun q3 q3n q3c H9 =>
      ldPtr H9 (Addr.add a7 2) fun p6 =>
      nilD p6 fun a10 =>
      st1 H9 a10 (.slice q3 q3n q3c) fun H10 =>
      L5 s0 r1 false H10 R)) <|
  nilD s0 fun a11 =>
  nilD s0 fun a12 =>
  ldPtr H2 (Addr.add a11 2) fun p7 =>
  ldPtr H2 (Addr.add a12 3) fun p8 =>
  callD Try.prog 44 [(.pointer p7), (.pointer p8)] H2 (panK R) fun v1 H11 =>
  tPtr v1 fun p9 =>
  nilD s0 fun a13 =>
  st1 H11 (Addr.add a13 2) (.pointer p9) fun H12 =>
  (
    nilD s0 fun a14 =>
    ldPtr H12 (Addr.add a14 2) fun p10 =>
    nilD p10 fun a15 =>
    ldSl H12 a15 fun q4 q4n q4c =>
    callD Try.prog 45 [(.pointer s0)] H12 (panK R) fun v2 H13 =>
    tInt v2 .i64 fun n4 =>
    iteB (decide (((q4n : Nat) : Int) ≥ n4)) (
      L0 s0 r r1 H13 R) <|
    L3 s0 r r1 H13 R) ∧
  (
    nilD s0 fun a16 =>
    ldPtr H12 (Addr.add a16 2) fun p11 =>
    nilD p11 fun a17 =>
    callD Try.prog 45 [(.pointer s0)] H12 (panK R) fun v3 H14 =>
    tInt v3 .i64 fun n5 =>
    ldSl H14 a17 fun q5 q5n q5c =>
    iteB (decide (((q5n : Nat) : Int) ≥ n5)) (
      L0 s0 r r1 H14 R) <|
    L3 s0 r r1 H14 R) ∧
  (
    nilD s0 fun a18 =>
    callD Try.prog 45 [(.pointer s0)] H12 (panK R) fun v4 H15 =>
    tInt v4 .i64 fun n6 =>
    ldPtr H15 (Addr.add a18 2) fun p12 =>
    nilD p12 fun a19 =>
    ldSl H15 a19 fun q6 q6n q6c =>
    iteB (decide (((q6n : Nat) : Int) ≥ n6)) (
      L0 s0 r r1 H15 R) <|
    L3 s0 r r1 H15 R)
theorem calls {s0 : Option Addr} {s1_0 : Int} {s1_1 : Int} {H : Heap} {R : Ending → Heap → Prop} (h : go s0 s1_0 s1_1 H R) : CallsH Try.prog 32 ⟨[(.pointer s0), (.agg ⟨[(.int .i64 s1_0), (.int .i64 s1_1)]⟩)]⟩ H R :=
  callsH_of_den (an := an) (fuel := 100000) (X := go s0 s1_0 s1_1 H R) (c := body) mixed fn (by kernel_rfl) (by kernel_rfl) (by kernel_rfl) ok (by kernel_rfl) h
end F32
/-! ### 33 "(*pub-stadtholder/pub/etcdserver/btree.BTree[pub-stadtholder/impl.El]).Delete" -/
namespace F33
def an : Ann := { kinds := [], taus := [], pairs := [], lab := [] }
noncomputable def body : Code := (Try.f33.body).getD .skip
theorem fn : Try.prog.funcs[33]? = some Try.f33 := by kernel_rfl
theorem ok : codeOk an 11 body = true := by kernel_rfl
def go (t : Option Addr) (item_0 : Int) (item_1 : Int) (H : Heap) (R : Ending → Heap → Prop) : Prop :=
  newD H (.cells ⟨[(.int .i64 item_0), (.int .i64 item_1)]⟩ 25) fun r H1 =>
  newD H1 (.cells ⟨[(.int .i64 (0 : Int)), (.int .i64 (0 : Int))]⟩ 25) fun r1 H2 =>
  ldInt H2 ⟨r, 0, none⟩ .i64 fun n =>
  ldInt H2 ⟨r, 1, none⟩ .i64 fun n1 =>
  callD Try.prog 48 [(.pointer t), (.agg ⟨[(.int .i64 n), (.int .i64 n1)]⟩), (.int .i64 (0 : Int))] H2 (panK R) fun v H3 =>
  tTup v fun l =>
  tCons l fun c l1 =>
  tAgg c fun l2 =>
  tCons l2 fun c1 l3 =>
  tInt c1 .i64 fun n2 =>
  tCons l3 fun c2 l4 =>
  tInt c2 .i64 fun n3 =>
  tNil l4 <|
  tCons l1 fun c3 l5 =>
  tBool c3 fun b =>
  tNil l5 <|
  st1 H3 ⟨r1, 0, none⟩ (.int .i64 n2) fun H4 =>
  st1 H4 ⟨r1, 1, none⟩ (.int .i64 n3) fun H5 =>
  ldInt H5 ⟨r1, 0, none⟩ .i64 fun n4 =>
  ldInt H5 ⟨r1, 1, none⟩ .i64 fun n5 =>
  R (.returned (.tuple ⟨[(.agg ⟨[(.int .i64 n4), (.int .i64 n5)]⟩), (.bool b)]⟩)) H5
theorem calls {t : Option Addr} {item_0 : Int} {item_1 : Int} {H : Heap} {R : Ending → Heap → Prop} (h : go t item_0 item_1 H R) : CallsH Try.prog 33 ⟨[(.pointer t), (.agg ⟨[(.int .i64 item_0), (.int .i64 item_1)]⟩)]⟩ H R :=
  callsH_of_den (an := an) (fuel := 100000) (X := go t item_0 item_1 H R) (c := body) mixed fn (by kernel_rfl) (by kernel_rfl) (by kernel_rfl) ok (by kernel_rfl) h
end F33
/-! ### 34 "(*pub-stadtholder/pub/etcdserver/btree.BTree[pub-stadtholder/impl.El]).Get" -/
namespace F34
def an : Ann := { kinds := [], taus := [(2, [[0, 1, 2, 3, 4, 5, 6, 7, 8, 9]])], pairs := [], lab := [] }
noncomputable def body : Code := (Try.f34.body).getD .skip
theorem fn : Try.prog.funcs[34]? = some Try.f34 := by kernel_rfl
theorem ok : codeOk an 19 body = true := by kernel_rfl
def go (t : Option Addr) (key_0 : Int) (key_1 : Int) (H : Heap) (R : Ending → Heap → Prop) : Prop :=
  newD H (.cells ⟨[(.int .i64 key_0), (.int .i64 key_1)]⟩ 25) fun r H1 =>
  newD H1 (.cells ⟨[(.int .i64 (0 : Int)), (.int .i64 (0 : Int))]⟩ 25) fun r1 H2 =>
  nilD t fun a =>
  ldPtr H2 (Addr.add a 2) fun p =>
  iteB (Option.isNone p) (
    ldInt H2 ⟨r1, 0, none⟩ .i64 fun n =>
    ldInt H2 ⟨r1, 1, none⟩ .i64 fun n1 =>
    R (.returned (.tuple ⟨[(.agg ⟨[(.int .i64 n), (.int .i64 n1)]⟩), (.bool false)]⟩)) H2) <|
  nilD t fun a1 =>
  ldPtr H2 (Addr.add a1 2) fun p1 =>
  ldInt H2 ⟨r, 0, none⟩ .i64 fun n2 =>
  ldInt H2 ⟨r, 1, none⟩ .i64 fun n3 =>
  callD Try.prog 49 [(.pointer p1), (.agg ⟨[(.int .i64 n2), (.int .i64 n3)]⟩)] H2 (panK R) fun v H3 =>
  tTup v fun l =>
  tCons l fun c l1 =>
  tAgg c fun l2 =>
  tCons l2 fun c1 l3 =>
  tInt c1 .i64 fun n4 =>
  tCons l3 fun c2 l4 =>
  tInt c2 .i64 fun n5 =>
  tNil l4 <|
  tCons l1 fun c3 l5 =>
  tBool c3 fun b =>
  tNil l5 <|
  st1 H3 ⟨r1, 0, none⟩ (.int .i64 n4) fun H4 =>
  st1 H4 ⟨r1, 1, none⟩ (.int .i64 n5) fun H5 =>
  ldInt H5 ⟨r1, 0, none⟩ .i64 fun n6 =>
  ldInt H5 ⟨r1, 1, none⟩ .i64 fun n7 =>
  R (.returned (.tuple ⟨[(.agg ⟨[(.int .i64 n6), (.int .i64 n7)]⟩), (.bool b)]⟩)) H5
theorem calls {t : Option Addr} {key_0 : Int} {key_1 : Int} {H : Heap} {R : Ending → Heap → Prop} (h : go t key_0 key_1 H R) : CallsH Try.prog 34 ⟨[(.pointer t), (.agg ⟨[(.int .i64 key_0), (.int .i64 key_1)]⟩)]⟩ H R :=
  callsH_of_den (an := an) (fuel := 100000) (X := go t key_0 key_1 H R) (c := body) mixed fn (by kernel_rfl) (by kernel_rfl) (by kernel_rfl) ok (by kernel_rfl) h
end F34
/-! ### 35 "(*pub-stadtholder/pub/etcdserver/btree.BTree[pub-stadtholder/impl.El]).Has" -/
namespace F35
def an : Ann := { kinds := [], taus := [], pairs := [], lab := [] }
noncomputable def body : Code := (Try.f35.body).getD .skip
theorem fn : Try.prog.funcs[35]? = some Try.f35 := by kernel_rfl
theorem ok : codeOk an 14 body = true := by kernel_rfl
def go (t : Option Addr) (key_0 : Int) (key_1 : Int) (H : Heap) (R : Ending → Heap → Prop) : Prop :=
  newD H (.cells ⟨[(.int .i64 key_0), (.int .i64 key_1)]⟩ 25) fun r H1 =>
  ldInt H1 ⟨r, 0, none⟩ .i64 fun n =>
  ldInt H1 ⟨r, 1, none⟩ .i64 fun n1 =>
  callD Try.prog 34 [(.pointer t), (.agg ⟨[(.int .i64 n), (.int .i64 n1)]⟩)] H1 (panK R) fun v H2 =>
  tTup v fun l =>
  tCons l fun c l1 =>
  tAgg c fun l2 =>
  tCons l2 fun c1 l3 =>
  tInt c1 .i64 fun n2 =>
  tCons l3 fun c2 l4 =>
  tInt c2 .i64 fun n3 =>
  tNil l4 <|
  tCons l1 fun c3 l5 =>
  tBool c3 fun b =>
  tNil l5 <|
  newD H2 (.cells ⟨[(.int .i64 (0 : Int)), (.int .i64 (0 : Int))]⟩ 25) fun r1 H3 =>
  st1 H3 ⟨r1, 0, none⟩ (.int .i64 n2) fun H4 =>
  st1 H4 ⟨r1, 1, none⟩ (.int .i64 n3) fun H5 =>
  R (.returned (.bool b)) H5
theorem calls {t : Option Addr} {key_0 : Int} {key_1 : Int} {H : Heap} {R : Ending → Heap → Prop} (h : go t key_0 key_1 H R) : CallsH Try.prog 35 ⟨[(.pointer t), (.agg ⟨[(.int .i64 key_0), (.int .i64 key_1)]⟩)]⟩ H R :=
  callsH_of_den (an := an) (fuel := 100000) (X := go t key_0 key_1 H R) (c := body) mixed fn (by kernel_rfl) (by kernel_rfl) (by kernel_rfl) ok (by kernel_rfl) h
end F35
/-! ### 36 "(*pub-stadtholder/pub/etcdserver/btree.BTree[pub-stadtholder/impl.El]).Min" -/
namespace F36
def an : Ann := { kinds := [], taus := [], pairs := [], lab := [] }
noncomputable def body : Code := (Try.f36.body).getD .skip
theorem fn : Try.prog.funcs[36]? = some Try.f36 := by kernel_rfl
theorem ok : codeOk an 11 body = true := by kernel_rfl
def go (t : Option Addr) (H : Heap) (R : Ending → Heap → Prop) : Prop :=
  newD H (.cells ⟨[(.int .i64 (0 : Int)), (.int .i64 (0 : Int))]⟩ 25) fun r H1 =>
  nilD t fun a =>
  ldPtr H1 (Addr.add a 2) fun p =>
  callD Try.prog 50 [(.pointer p)] H1 (panK R) fun v H2 =>
  tTup v fun l =>
  tCons l fun c l1 =>
  tAgg c fun l2 =>
  tCons l2 fun c1 l3 =>
  tInt c1 .i64 fun n =>
  tCons l3 fun c2 l4 =>
  tInt c2 .i64 fun n1 =>
  tNil l4 <|
  tCons l1 fun c3 l5 =>
  tBool c3 fun b =>
  tNil l5 <|
  st1 H2 ⟨r, 0, none⟩ (.int .i64 n) fun H3 =>
  st1 H3 ⟨r, 1, none⟩ (.int .i64 n1) fun H4 =>
  ldInt H4 ⟨r, 0, none⟩ .i64 fun n2 =>
  ldInt H4 ⟨r, 1, none⟩ .i64 fun n3 =>
  R (.returned (.tuple ⟨[(.agg ⟨[(.int .i64 n2), (.int .i64 n3)]⟩), (.bool b)]⟩)) H4
theorem calls {t : Option Addr} {H : Heap} {R : Ending → Heap → Prop} (h : go t H R) : CallsH Try.prog 36 ⟨[(.pointer t)]⟩ H R :=
  callsH_of_den (an := an) (fuel := 100000) (X := go t H R) (c := body) mixed fn (by kernel_rfl) (by kernel_rfl) (by kernel_rfl) ok (by kernel_rfl) h
end F36
/-! ### 37 "(*pub-stadtholder/pub/etcdserver/btree.BTree[pub-stadtholder/impl.El]).Max" -/
namespace F37
def an : Ann := { kinds := [], taus := [], pairs := [], lab := [] }
noncomputable def body : Code := (Try.f37.body).getD .skip
theorem fn : Try.prog.funcs[37]? = some Try.f37 := by kernel_rfl
theorem ok : codeOk an 11 body = true := by kernel_rfl
def go (t : Option Addr) (H : Heap) (R : Ending → Heap → Prop) : Prop :=
  newD H (.cells ⟨[(.int .i64 (0 : Int)), (.int .i64 (0 : Int))]⟩ 25) fun r H1 =>
  nilD t fun a =>
  ldPtr H1 (Addr.add a 2) fun p =>
  callD Try.prog 51 [(.pointer p)] H1 (panK R) fun v H2 =>
  tTup v fun l =>
  tCons l fun c l1 =>
  tAgg c fun l2 =>
  tCons l2 fun c1 l3 =>
  tInt c1 .i64 fun n =>
  tCons l3 fun c2 l4 =>
  tInt c2 .i64 fun n1 =>
  tNil l4 <|
  tCons l1 fun c3 l5 =>
  tBool c3 fun b =>
  tNil l5 <|
  st1 H2 ⟨r, 0, none⟩ (.int .i64 n) fun H3 =>
  st1 H3 ⟨r, 1, none⟩ (.int .i64 n1) fun H4 =>
  ldInt H4 ⟨r, 0, none⟩ .i64 fun n2 =>
  ldInt H4 ⟨r, 1, none⟩ .i64 fun n3 =>
  R (.returned (.tuple ⟨[(.agg ⟨[(.int .i64 n2), (.int .i64 n3)]⟩), (.bool b)]⟩)) H4
theorem calls {t : Option Addr} {H : Heap} {R : Ending → Heap → Prop} (h : go t H R) : CallsH Try.prog 37 ⟨[(.pointer t)]⟩ H R :=
  callsH_of_den (an := an) (fuel := 100000) (X := go t H R) (c := body) mixed fn (by kernel_rfl) (by kernel_rfl) (by kernel_rfl) ok (by kernel_rfl) h
end F37
/-! ### 38 "(*pub-stadtholder/pub/etcdserver/btree.BTree[pub-stadtholder/impl.El]).DeleteMin" -/
namespace F38
def an : Ann := { kinds := [], taus := [], pairs := [], lab := [] }
noncomputable def body : Code := (Try.f38.body).getD .skip
theorem fn : Try.prog.funcs[38]? = some Try.f38 := by kernel_rfl
theorem ok : codeOk an 10 body = true := by kernel_rfl
def go (t : Option Addr) (H : Heap) (R : Ending → Heap → Prop) : Prop :=
  newD H (.cells ⟨[(.int .i64 (0 : Int)), (.int .i64 (0 : Int))]⟩ 25) fun r H1 =>
  newD H1 (.cells ⟨[(.int .i64 (0 : Int)), (.int .i64 (0 : Int))]⟩ 25) fun r1 H2 =>
  ldInt H2 ⟨r1, 0, none⟩ .i64 fun n =>
  ldInt H2 ⟨r1, 1, none⟩ .i64 fun n1 =>
  callD Try.prog 48 [(.pointer t), (.agg ⟨[(.int .i64 n), (.int .i64 n1)]⟩), (.int .i64 (1 : Int))] H2 (panK R) fun v H3 =>
  tTup v fun l =>
  tCons l fun c l1 =>
  tAgg c fun l2 =>
  tCons l2 fun c1 l3 =>
  tInt c1 .i64 fun n2 =>
  tCons l3 fun c2 l4 =>
  tInt c2 .i64 fun n3 =>
  tNil l4 <|
  tCons l1 fun c3 l5 =>
  tBool c3 fun b =>
  tNil l5 <|
  st1 H3 ⟨r, 0, none⟩ (.int .i64 n2) fun H4 =>
  st1 H4 ⟨r, 1, none⟩ (.int .i64 n3) fun H5 =>
  ldInt H5 ⟨r, 0, none⟩ .i64 fun n4 =>
  ldInt H5 ⟨r, 1, none⟩ .i64 fun n5 =>
  R (.returned (.tuple ⟨[(.agg ⟨[(.int .i64 n4), (.int .i64 n5)]⟩), (.bool b)]⟩)) H5
theorem calls {t : Option Addr} {H : Heap} {R : Ending → Heap → Prop} (h : go t H R) : CallsH Try.prog 38 ⟨[(.pointer t)]⟩ H R :=
  callsH_of_den (an := an) (fuel := 100000) (X := go t H R) (c := body) mixed fn (by kernel_rfl) (by kernel_rfl) (by kernel_rfl) ok (by kernel_rfl) h
end F38
/-! ### 39 "(*pub-stadtholder/pub/etcdserver/btree.BTree[pub-stadtholder/impl.El]).DeleteMax" -/
namespace F39
def an : Ann := { kinds := [], taus := [], pairs := [], lab := [] }
noncomputable def body : Code := (Try.f39.body).getD .skip
theorem fn : Try.prog.funcs[39]? = some Try.f39 := by kernel_rfl
theorem ok : codeOk an 10 body = true := by kernel_rfl
def go (t : Option Addr) (H : Heap) (R : Ending → Heap → Prop) : Prop :=
  newD H (.cells ⟨[(.int .i64 (0 : Int)), (.int .i64 (0 : Int))]⟩ 25) fun r H1 =>
  newD H1 (.cells ⟨[(.int .i64 (0 : Int)), (.int .i64 (0 : Int))]⟩ 25) fun r1 H2 =>
  ldInt H2 ⟨r1, 0, none⟩ .i64 fun n =>
  ldInt H2 ⟨r1, 1, none⟩ .i64 fun n1 =>
  callD Try.prog 48 [(.pointer t), (.agg ⟨[(.int .i64 n), (.int .i64 n1)]⟩), (.int .i64 (2 : Int))] H2 (panK R) fun v H3 =>
  tTup v fun l =>
  tCons l fun c l1 =>
  tAgg c fun l2 =>
  tCons l2 fun c1 l3 =>
  tInt c1 .i64 fun n2 =>
  tCons l3 fun c2 l4 =>
  tInt c2 .i64 fun n3 =>
  tNil l4 <|
  tCons l1 fun c3 l5 =>
  tBool c3 fun b =>
  tNil l5 <|
  st1 H3 ⟨r, 0, none⟩ (.int .i64 n2) fun H4 =>
  st1 H4 ⟨r, 1, none⟩ (.int .i64 n3) fun H5 =>
  ldInt H5 ⟨r, 0, none⟩ .i64 fun n4 =>
  ldInt H5 ⟨r, 1, none⟩ .i64 fun n5 =>
  R (.returned (.tuple ⟨[(.agg ⟨[(.int .i64 n4), (.int .i64 n5)]⟩), (.bool b)]⟩)) H5
theorem calls {t : Option Addr} {H : Heap} {R : Ending → Heap → Prop} (h : go t H R) : CallsH Try.prog 39 ⟨[(.pointer t)]⟩ H R :=
  callsH_of_den (an := an) (fuel := 100000) (X := go t H R) (c := body) mixed fn (by kernel_rfl) (by kernel_rfl) (by kernel_rfl) ok (by kernel_rfl) h
end F39
/-! ### 40 "(*pub-stadtholder/pub/etcdserver/btree.BTree[pub-stadtholder/impl.El]).Len" -/
namespace F40
def an : Ann := { kinds := [], taus := [], pairs := [], lab := [] }
noncomputable def body : Code := (Try.f40.body).getD .skip
theorem fn : Try.prog.funcs[40]? = some Try.f40 := by kernel_rfl
theorem ok : codeOk an 7 body = true := by kernel_rfl
def go (t : Option Addr) (H : Heap) (R : Ending → Heap → Prop) : Prop :=
  nilD t fun a =>
  ldInt H (Addr.add a 1) .i64 fun n =>
  R (.returned (.int .i64 n)) H
theorem calls {t : Option Addr} {H : Heap} {R : Ending → Heap → Prop} (h : go t H R) : CallsH Try.prog 40 ⟨[(.pointer t)]⟩ H R :=
  callsH_of_den (an := an) (fuel := 100000) (X := go t H R) (c := body) mixed fn (by kernel_rfl) (by kernel_rfl) (by kernel_rfl) ok (by kernel_rfl) h
end F40
/-! ### 41 "(*pub-stadtholder/pub/etcdserver/btree.BTree[pub-stadtholder/impl.El]).Clear" -/
namespace F41
def an : Ann := { kinds := [], taus := [(1, [[0, 1, 2, 4, 5, 6, 3, 7, 8]])], pairs := [], lab := [(20000002, [0]), (10000003, [0])] }
noncomputable def body : Code := (Try.f41.body).getD .skip
theorem fn : Try.prog.funcs[41]? = some Try.f41 := by kernel_rfl
theorem ok : codeOk an 27 body = true := by kernel_rfl
noncomputable def L0t : List Item := [.code (sub [0, 1, 0] body), .code (sub [1] body)]
def L0 (t : Option Addr) (H : Heap) (R : Ending → Heap → Prop) : Prop :=
  GoL Try.prog 41 27 L0t [0] [(.pointer t)] H R
noncomputable def L1t : List Item := [.code (sub [1] body)]
def L1 (t : Option Addr) (H : Heap) (R : Ending → Heap → Prop) : Prop :=
  GoL Try.prog 41 27 L1t [0] [(.pointer t)] H R
def L0n (t : Option Addr) (H : Heap) (R : Ending → Heap → Prop) : Prop :=
  nilD t fun a =>
  nilD t fun a1 =>
  ldPtr H (Addr.add a 2) fun p =>
  ldPtr H (Addr.add a1 3) fun p1 =>
  callD Try.prog 52 [(.pointer p), (.pointer p1)] H (panK R) fun v H1 =>
  tBool v fun b =>
  L1 t H1 R
theorem L0_step {t : Option Addr} {H : Heap} {R : Ending → Heap → Prop} (h : L0n t H R) : L0 t H R :=
  goL_of_den (an := an) (fuel := 100000) (X := L0n t H R) mixed fn (by kernel_rfl) (fun ρ0 => by kernel_rfl) h
def L1n (t : Option Addr) (H : Heap) (R : Ending → Heap → Prop) : Prop :=
  nilD t fun a =>
  st1 H (Addr.add a 2) (.pointer none) fun H1 =>
  nilD t fun a1 =>
  st1 H1 (Addr.add a1 1) (.int .i64 (0 : Int)) fun H2 =>
  R (.returned (.tuple ⟨[]⟩)) H2
theorem L1_step {t : Option Addr} {H : Heap} {R : Ending → Heap → Prop} (h : L1n t H R) : L1 t H R :=
  goL_of_den (an := an) (fuel := 100000) (X := L1n t H R) mixed fn (by kernel_rfl) (fun ρ0 => by kernel_rfl) h
def go (t : Option Addr) (addNodesToFreelist : Bool) (H : Heap) (R : Ending → Heap → Prop) : Prop :=
  nilD t fun a =>
  ldPtr H (Addr.add a 2) fun p =>
  iteB (!(Option.isNone p)) (
    iteB addNodesToFreelist (
      L0 t H R) <|
    L1 t H R) <|
  L1 t H R
theorem calls {t : Option Addr} {addNodesToFreelist : Bool} {H : Heap} {R : Ending → Heap → Prop} (h : go t addNodesToFreelist H R) : CallsH Try.prog 41 ⟨[(.pointer t), (.bool addNodesToFreelist)]⟩ H R :=
  callsH_of_den (an := an) (fuel := 100000) (X := go t addNodesToFreelist H R) (c := body) mixed fn (by kernel_rfl) (by kernel_rfl) (by kernel_rfl) ok (by kernel_rfl) h
end F41
/-! ### 42 "pub-stadtholder/impl.listed" -/
namespace F42
def an : Ann := { kinds := [], taus := [], pairs := [], lab := [] }
noncomputable def body : Code := (Try.f42.body).getD .skip
theorem fn : Try.prog.funcs[42]? = some Try.f42 := by kernel_rfl
theorem ok : codeOk an 67 body = true := by kernel_rfl
def go (s0 : Option Addr) (s1_0 : Int) (s1_1 : Int) (s1_2 : Int) (s1_3 : Int) (s1_4 : Int) (s1_5 : Int) (s1_6 : Int) (s1_7 : Bool) (H : Heap) (R : Ending → Heap → Prop) : Prop :=
  newD H (.cells ⟨[(.int .i64 s1_0), (.int .i64 s1_1), (.int .i64 s1_2), (.int .i64 s1_3), (.int .i64 s1_4), (.int .i64 s1_5), (.int .i64 s1_6), (.bool s1_7)]⟩ 30) fun r H1 =>
  newD H1 (.cells ⟨[(.slice none 0 0)]⟩ 22) fun r1 H2 =>
  ldInt H2 ⟨r, 4, none⟩ .i64 fun n =>
  newD H2 (.cells ⟨[(.int .i64 (0 : Int)), (.int .i64 (0 : Int))]⟩ 25) fun r2 H3 =>
  st1 H3 ⟨r2, 0, none⟩ (.int .i64 n) fun H4 =>
  st1 H4 ⟨r2, 1, none⟩ (.int .i64 (0 : Int)) fun H5 =>
  ldInt H5 ⟨r, 5, none⟩ .i64 fun n1 =>
  newD H5 (.cells ⟨[(.int .i64 (0 : Int)), (.int .i64 (0 : Int))]⟩ 25) fun r3 H6 =>
  st1 H6 ⟨r3, 0, none⟩ (.int .i64 n1) fun H7 =>
  st1 H7 ⟨r3, 1, none⟩ (.int .i64 (0 : Int)) fun H8 =>
  ldInt H8 ⟨r, 0, none⟩ .i64 fun n2 =>
  iteB (n2 == (10 : Int)) (
    callD Try.prog 54 [(.pointer s0), (.func (.func 53) ⟨[]⟩ ⟨[(.pointer (some ⟨r1, 0, none⟩)), (.pointer (some ⟨r, 0, none⟩))]⟩)] H8 (panK R) fun v H9 =>
    tTup v fun l =>
    tNil l <|
    ldSl H9 ⟨r1, 0, none⟩ fun q qn qc =>
    R (.returned (.slice q qn qc)) H9) <|
  iteB (n2 == (11 : Int)) (
    ldInt H8 ⟨r2, 0, none⟩ .i64 fun n3 =>
    ldInt H8 ⟨r2, 1, none⟩ .i64 fun n4 =>
    ldInt H8 ⟨r3, 0, none⟩ .i64 fun n5 =>
    ldInt H8 ⟨r3, 1, none⟩ .i64 fun n6 =>
    callD Try.prog 55 [(.pointer s0), (.agg ⟨[(.int .i64 n3), (.int .i64 n4)]⟩), (.agg ⟨[(.int .i64 n5), (.int .i64 n6)]⟩), (.func (.func 53) ⟨[]⟩ ⟨[(.pointer (some ⟨r1, 0, none⟩)), (.pointer (some ⟨r, 0, none⟩))]⟩)] H8 (panK R) fun v1 H10 =>
    tTup v1 fun l1 =>
    tNil l1 <|
    ldSl H10 ⟨r1, 0, none⟩ fun q1 q1n q1c =>
    R (.returned (.slice q1 q1n q1c)) H10) <|
  iteB (n2 == (12 : Int)) (
    ldInt H8 ⟨r3, 0, none⟩ .i64 fun n7 =>
    ldInt H8 ⟨r3, 1, none⟩ .i64 fun n8 =>
    callD Try.prog 56 [(.pointer s0), (.agg ⟨[(.int .i64 n7), (.int .i64 n8)]⟩), (.func (.func 53) ⟨[]⟩ ⟨[(.pointer (some ⟨r1, 0, none⟩)), (.pointer (some ⟨r, 0, none⟩))]⟩)] H8 (panK R) fun v2 H11 =>
    tTup v2 fun l2 =>
    tNil l2 <|
    ldSl H11 ⟨r1, 0, none⟩ fun q2 q2n q2c =>
    R (.returned (.slice q2 q2n q2c)) H11) <|
  iteB (n2 == (13 : Int)) (
    ldInt H8 ⟨r2, 0, none⟩ .i64 fun n9 =>
    ldInt H8 ⟨r2, 1, none⟩ .i64 fun n10 =>
    callD Try.prog 57 [(.pointer s0), (.agg ⟨[(.int .i64 n9), (.int .i64 n10)]⟩), (.func (.func 53) ⟨[]⟩ ⟨[(.pointer (some ⟨r1, 0, none⟩)), (.pointer (some ⟨r, 0, none⟩))]⟩)] H8 (panK R) fun v3 H12 =>
    tTup v3 fun l3 =>
    tNil l3 <|
    ldSl H12 ⟨r1, 0, none⟩ fun q3 q3n q3c =>
    R (.returned (.slice q3 q3n q3c)) H12) <|
  iteB (n2 == (14 : Int)) (
    callD Try.prog 58 [(.pointer s0), (.func (.func 53) ⟨[]⟩ ⟨[(.pointer (some ⟨r1, 0, none⟩)), (.pointer (some ⟨r, 0, none⟩))]⟩)] H8 (panK R) fun v4 H13 =>
    tTup v4 fun l4 =>
    tNil l4 <|
    ldSl H13 ⟨r1, 0, none⟩ fun q4 q4n q4c =>
    R (.returned (.slice q4 q4n q4c)) H13) <|
  iteB (n2 == (15 : Int)) (
    ldInt H8 ⟨r2, 0, none⟩ .i64 fun n11 =>
    ldInt H8 ⟨r2, 1, none⟩ .i64 fun n12 =>
    ldInt H8 ⟨r3, 0, none⟩ .i64 fun n13 =>
    ldInt H8 ⟨r3, 1, none⟩ .i64 fun n14 =>
    callD Try.prog 59 [(.pointer s0), (.agg ⟨[(.int .i64 n11), (.int .i64 n12)]⟩), (.agg ⟨[(.int .i64 n13), (.int .i64 n14)]⟩), (.func (.func 53) ⟨[]⟩ ⟨[(.pointer (some ⟨r1, 0, none⟩)), (.pointer (some ⟨r, 0, none⟩))]⟩)] H8 (panK R) fun v5 H14 =>
    tTup v5 fun l5 =>
    tNil l5 <|
    ldSl H14 ⟨r1, 0, none⟩ fun q5 q5n q5c =>
    R (.returned (.slice q5 q5n q5c)) H14) <|
  iteB (n2 == (16 : Int)) (
    ldInt H8 ⟨r2, 0, none⟩ .i64 fun n15 =>
    ldInt H8 ⟨r2, 1, none⟩ .i64 fun n16 =>
    callD Try.prog 60 [(.pointer s0), (.agg ⟨[(.int .i64 n15), (.int .i64 n16)]⟩), (.func (.func 53) ⟨[]⟩ ⟨[(.pointer (some ⟨r1, 0, none⟩)), (.pointer (some ⟨r, 0, none⟩))]⟩)] H8 (panK R) fun v6 H15 =>
    tTup v6 fun l6 =>
    tNil l6 <|
    ldSl H15 ⟨r1, 0, none⟩ fun q6 q6n q6c =>
    R (.returned (.slice q6 q6n q6c)) H15) <|
  iteB (n2 == (17 : Int)) (
    ldInt H8 ⟨r3, 0, none⟩ .i64 fun n17 =>
    ldInt H8 ⟨r3, 1, none⟩ .i64 fun n18 =>
    callD Try.prog 61 [(.pointer s0), (.agg ⟨[(.int .i64 n17), (.int .i64 n18)]⟩), (.func (.func 53) ⟨[]⟩ ⟨[(.pointer (some ⟨r1, 0, none⟩)), (.pointer (some ⟨r, 0, none⟩))]⟩)] H8 (panK R) fun v7 H16 =>
    tTup v7 fun l7 =>
    tNil l7 <|
    ldSl H16 ⟨r1, 0, none⟩ fun q7 q7n q7c =>
    R (.returned (.slice q7 q7n q7c)) H16) <|
  ldSl H8 ⟨r1, 0, none⟩ fun q8 q8n q8c =>
  R (.returned (.slice q8 q8n q8c)) H8
theorem calls {s0 : Option Addr} {s1_0 : Int} {s1_1 : Int} {s1_2 : Int} {s1_3 : Int} {s1_4 : Int} {s1_5 : Int} {s1_6 : Int} {s1_7 : Bool} {H : Heap} {R : Ending → Heap → Prop} (h : go s0 s1_0 s1_1 s1_2 s1_3 s1_4 s1_5 s1_6 s1_7 H R) : CallsH Try.prog 42 ⟨[(.pointer s0), (.agg ⟨[(.int .i64 s1_0), (.int .i64 s1_1), (.int .i64 s1_2), (.int .i64 s1_3), (.int .i64 s1_4), (.int .i64 s1_5), (.int .i64 s1_6), (.bool s1_7)]⟩)]⟩ H R :=
  callsH_of_den (an := an) (fuel := 100000) (X := go s0 s1_0 s1_1 s1_2 s1_3 s1_4 s1_5 s1_6 s1_7 H R) (c := body) mixed fn (by kernel_rfl) (by kernel_rfl) (by kernel_rfl) ok (by kernel_rfl) h
end F42
end Go.Proofs.Ytdgcdjlomindhaa
