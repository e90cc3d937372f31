/- What functions of this seat do, each proved by a walk; no condition. -/
import Derived.Test.YtdgcdjlomindhaaBA
set_option linter.unusedVariables false
namespace Go.Proofs.Ytdgcdjlomindhaa
open Go Go.Den Go.Proofs
/-! ### 43 "(*pub-stadtholder/pub/etcdserver/btree.copyOnWriteContext[pub-stadtholder/impl.El]).newNode" -/
namespace F43
def an : Ann := { kinds := [], taus := [], pairs := [], lab := [] }
noncomputable def body : Code := (Try.f43.body).getD .skip
theorem fn : Try.prog.funcs[43]? = some Try.f43 := by kernel_rfl
theorem ok : codeOk an 12 body = true := by kernel_rfl
def go (c : Option Addr) (H : Heap) (R : Ending → Heap → Prop) : Prop :=
  nilD c fun a =>
  ldPtr H a fun p =>
  callD Try.prog 62 [(.pointer p)] H (panK R) fun v H1 =>
  tPtr v fun p1 =>
  nilD p1 fun a1 =>
  st1 H1 (Addr.add a1 2) (.pointer c) fun H2 =>
  R (.returned (.pointer p1)) H2
theorem calls {c : Option Addr} {H : Heap} {R : Ending → Heap → Prop} (h : go c H R) : CallsH Try.prog 43 ⟨[(.pointer c)]⟩ H R :=
  callsH_of_den (an := an) (fuel := 100000) (X := go c H R) (c := body) mixed fn (by kernel_rfl) (by kernel_rfl) (by kernel_rfl) ok (by kernel_rfl) h
end F43
/-! ### 44 "(*pub-stadtholder/pub/etcdserver/btree.node[pub-stadtholder/impl.El]).mutableFor" -/
namespace F44
def an : Ann := { kinds := [(1005, .read), (6011, .grow), (10011, .grow)], taus := [(4, [[0, 1, 2, 5, 6, 7, 3, 4, 8, 9, 10]]), (5, [[0, 1, 2, 3, 5, 6, 7, 4, 8, 9, 10, 11, 12, 13]]), (6, [[0, 1, 2, 3, 6, 7, 8, 4, 5, 9, 10, 11, 12, 13, 14]]), (7, [[0, 1, 2, 4, 5, 6, 3, 7, 8]]), (8, [[0, 1, 2, 5, 6, 7, 3, 4, 8, 9, 10]]), (9, [[0, 1, 2, 3, 5, 6, 7, 4, 8, 9, 10, 11, 12, 13]]), (10, [[0, 1, 2, 3, 6, 7, 8, 4, 5, 9, 10, 11, 12, 13, 14]]), (11, [[0, 1, 2, 4, 5, 6, 3, 7, 8]])], pairs := [], lab := [(10000008, [0, 5]), (10000012, [0, 5])] }
noncomputable def body : Code := (Try.f44.body).getD .skip
theorem fn : Try.prog.funcs[44]? = some Try.f44 := by kernel_rfl
theorem ok : codeOk an 110 body = true := by kernel_rfl
noncomputable def L0t : List Item := [.code (sub [1, 1, 1, 1] body)]
def L0 (s0 : Option Addr) (s5 : Option Addr) (H : Heap) (R : Ending → Heap → Prop) : Prop :=
  GoL Try.prog 44 110 L0t [0, 5] [(.pointer s0), (.pointer s5)] H R
noncomputable def L1t : List Item := [.code (sub [1, 1, 1, 1, 1, 1] body)]
def L1 (s0 : Option Addr) (s5 : Option Addr) (H : Heap) (R : Ending → Heap → Prop) : Prop :=
  GoL Try.prog 44 110 L1t [0, 5] [(.pointer s0), (.pointer s5)] H R
def L0n (s0 : Option Addr) (s5 : Option Addr) (H : Heap) (R : Ending → Heap → Prop) : Prop :=
  nilD s5 fun a =>
  nilD s0 fun a1 =>
  ldSl H a fun q qn qc =>
  ldSl H a1 fun q1 q1n q1c =>
  cpD H 2 q qn q1 q1n fun k H1 =>
  nilD s5 fun a2 =>
  nilD s0 fun a3 =>
  ldSl H1 (Addr.add a2 1) fun q2 q2n q2c =>
  ldSl H1 (Addr.add a3 1) fun q3 q3n q3c =>
  iteB (decide (((q2c : Nat) : Int) ≥ ((q3n : Nat) : Int))) (
    nilD s5 fun a4 =>
    nilD s0 fun a5 =>
    ldSl H1 (Addr.add a4 1) fun q4 q4n q4c =>
    ldSl H1 (Addr.add a5 1) fun q5 q5n q5c =>
    bndD ((q5n : Nat) : Int) q4c fun k1 =>
    nilD s5 fun a6 =>
    st1 H1 (Addr.add a6 1) (.slice (slP q4 0 q4c 1) k1 q4c) fun H2 =>
    L1 s0 s5 H2 R) <|
  nilD s0 fun a7 =>
  nilD s0 fun a8 =>
  ldSl H1 (Addr.add a7 1) fun q6 q6n q6c =>
  ldSl H1 (Addr.add a8 1) fun q7 q7n q7c =>
  mkD H1 8 [(.pointer none)] 74 ((q6n : Nat) : Int) ((q7c : Nat) : Int) fun r k2 c H3 =>
  nilD s5 fun a9 =>
  st1 H3 (Addr.add a9 1) (.slice (some ⟨r, 0, none⟩) k2 c) fun H4 =>
  L1 s0 s5 H4 R
theorem L0_step {s0 : Option Addr} {s5 : Option Addr} {H : Heap} {R : Ending → Heap → Prop} (h : L0n s0 s5 H R) : L0 s0 s5 H R :=
  goL_of_den (an := an) (fuel := 100000) (X := L0n s0 s5 H R) mixed fn (by kernel_rfl) (fun ρ0 => by kernel_rfl) h
def L1n (s0 : Option Addr) (s5 : Option Addr) (H : Heap) (R : Ending → Heap → Prop) : Prop :=
  nilD s5 fun a =>
  nilD s0 fun a1 =>
  ldSl H (Addr.add a 1) fun q qn qc =>
  ldSl H (Addr.add a1 1) fun q1 q1n q1c =>
  cpD H 1 q qn q1 q1n fun k H1 =>
  R (.returned (.pointer s5)) H1
theorem L1_step {s0 : Option Addr} {s5 : Option Addr} {H : Heap} {R : Ending → Heap → Prop} (h : L1n s0 s5 H R) : L1 s0 s5 H R :=
  goL_of_den (an := an) (fuel := 100000) (X := L1n s0 s5 H R) mixed fn (by kernel_rfl) (fun ρ0 => by kernel_rfl) h
def go (s0 : Option Addr) (s1 : Option Addr) (H : Heap) (R : Ending → Heap → Prop) : Prop :=
  nilD s0 fun a =>
  ldPtr H (Addr.add a 2) fun p =>
  pqD H p s1 fun b =>
  iteB b (
    R (.returned (.pointer s0)) H) <|
  callD Try.prog 43 [(.pointer s1)] H (panK R) fun v H1 =>
  tPtr v fun p1 =>
  nilD p1 fun a1 =>
  nilD s0 fun a2 =>
  ldSl H1 a1 fun q qn qc =>
  ldSl H1 a2 fun q1 q1n q1c =>
  iteB (decide (((qc : Nat) : Int) ≥ ((q1n : Nat) : Int))) (
    nilD p1 fun a3 =>
    nilD s0 fun a4 =>
    ldSl H1 a3 fun q2 q2n q2c =>
    ldSl H1 a4 fun q3 q3n q3c =>
    bndD ((q3n : Nat) : Int) q2c fun k =>
    nilD p1 fun a5 =>
    st1 H1 a5 (.slice (slP q2 0 q2c 2) k q2c) fun H2 =>
    L0 s0 p1 H2 R) <|
  nilD s0 fun a6 =>
  nilD s0 fun a7 =>
  ldSl H1 a6 fun q4 q4n q4c =>
  ldSl H1 a7 fun q5 q5n q5c =>
  mkD H1 16 [(.int .i64 (0 : Int)), (.int .i64 (0 : Int))] 25 ((q4n : Nat) : Int) ((q5c : Nat) : Int) fun r k1 c H3 =>
  nilD p1 fun a8 =>
  st1 H3 a8 (.slice (some ⟨r, 0, none⟩) k1 c) fun H4 =>
  L0 s0 p1 H4 R
theorem calls {s0 : Option Addr} {s1 : Option Addr} {H : Heap} {R : Ending → Heap → Prop} (h : go s0 s1 H R) : CallsH Try.prog 44 ⟨[(.pointer s0), (.pointer s1)]⟩ H R :=
  callsH_of_den (an := an) (fuel := 100000) (X := go s0 s1 H R) (c := body) mixed fn (by kernel_rfl) (by kernel_rfl) (by kernel_rfl) ok (by kernel_rfl) h
end F44
/-! ### 45 "(*pub-stadtholder/pub/etcdserver/btree.BTree[pub-stadtholder/impl.El]).maxItems" -/
namespace F45
def an : Ann := { kinds := [], taus := [], pairs := [], lab := [] }
noncomputable def body : Code := (Try.f45.body).getD .skip
theorem fn : Try.prog.funcs[45]? = some Try.f45 := by kernel_rfl
theorem ok : codeOk an 9 body = true := by kernel_rfl
def go (t : Option Addr) (H : Heap) (R : Ending → Heap → Prop) : Prop :=
  nilD t fun a =>
  ldInt H a .i64 fun n =>
  R (.returned (.int .i64 (IntKind.wrap .i64 ((IntKind.wrap .i64 (n * (2 : Int))) - (1 : Int))))) H
theorem calls {t : Option Addr} {H : Heap} {R : Ending → Heap → Prop} (h : go t H R) : CallsH Try.prog 45 ⟨[(.pointer t)]⟩ H R :=
  callsH_of_den (an := an) (fuel := 100000) (X := go t H R) (c := body) mixed fn (by kernel_rfl) (by kernel_rfl) (by kernel_rfl) ok (by kernel_rfl) h
end F45
/-! ### 46 "(*pub-stadtholder/pub/etcdserver/btree.node[pub-stadtholder/impl.El]).split" -/
namespace F46
def an : Ann := { kinds := [], taus := [(3, [[0, 1, 2, 3, 5, 6, 7, 9, 10, 4, 8, 11, 12, 13, 14, 15]]), (6, [[0, 1, 2, 3, 5, 6, 7, 9, 10, 4, 8, 11, 12, 13, 14, 15]])], pairs := [], lab := [] }
noncomputable def body : Code := (Try.f46.body).getD .skip
theorem fn : Try.prog.funcs[46]? = some Try.f46 := by kernel_rfl
theorem ok : codeOk an 69 body = true := by kernel_rfl
def go (s0 : Option Addr) (s1 : Int) (H : Heap) (R : Ending → Heap → Prop) : Prop :=
  newD H (.cells ⟨[(.int .i64 (0 : Int)), (.int .i64 (0 : Int))]⟩ 25) fun r H1 =>
  nilD s0 fun a =>
  ldSl H1 a fun q qn qc =>
  idxD q qn s1 fun a1 =>
  ldInt H1 (Addr.add a1 (Int.toNat s1 * 2)) .i64 fun n =>
  ldInt H1 (Addr.add (Addr.add a1 (Int.toNat s1 * 2)) 1) .i64 fun n1 =>
  newD H1 (.cells ⟨[(.int .i64 (0 : Int)), (.int .i64 (0 : Int))]⟩ 25) fun r1 H2 =>
  st1 H2 ⟨r1, 0, none⟩ (.int .i64 n) fun H3 =>
  st1 H3 ⟨r1, 1, none⟩ (.int .i64 n1) fun H4 =>
  nilD s0 fun a2 =>
  ldPtr H4 (Addr.add a2 2) fun p =>
  callD Try.prog 43 [(.pointer p)] H4 (panK R) fun v H5 =>
  tPtr v fun p1 =>
  nilD p1 fun a3 =>
  nilD s0 fun a4 =>
  ldSl H5 a3 fun q1 q1n q1c =>
  ldSl H5 a4 fun q2 q2n q2c =>
  bndD (IntKind.wrap .i64 (s1 + (1 : Int))) q2n fun k =>
  apD H5 2 16 [(.int .i64 (0 : Int)), (.int .i64 (0 : Int))] 25 q1 q1n q1c (slP q2 k q2c 2) (q2n - k) fun q3 q3n q3c H6 =>
  nilD p1 fun a5 =>
  st1 H6 a5 (.slice q3 q3n q3c) fun H7 =>
  nilD s0 fun a6 =>
  callD Try.prog 63 [(.pointer (some a6)), (.int .i64 s1)] H7 (panK R) fun v1 H8 =>
  tTup v1 fun l =>
  tNil l <|
  nilD s0 fun a7 =>
  ldSl H8 (Addr.add a7 1) fun q4 q4n q4c =>
  iteB (decide (((q4n : Nat) : Int) > (0 : Int))) (
    nilD p1 fun a8 =>
    nilD s0 fun a9 =>
    ldSl H8 (Addr.add a8 1) fun q5 q5n q5c =>
    ldSl H8 (Addr.add a9 1) fun q6 q6n q6c =>
    bndD (IntKind.wrap .i64 (s1 + (1 : Int))) q6n fun k1 =>
    apD H8 1 8 [(.pointer none)] 74 q5 q5n q5c (slP q6 k1 q6c 1) (q6n - k1) fun q7 q7n q7c H9 =>
    nilD p1 fun a10 =>
    st1 H9 (Addr.add a10 1) (.slice q7 q7n q7c) fun H10 =>
    nilD s0 fun a11 =>
    callD Try.prog 64 [(.pointer (some (Addr.add a11 1))), (.int .i64 (IntKind.wrap .i64 (s1 + (1 : Int))))] H10 (panK R) fun v2 H11 =>
    tTup v2 fun l1 =>
    tNil l1 <|
    ldInt H11 ⟨r1, 0, none⟩ .i64 fun n2 =>
    ldInt H11 ⟨r1, 1, none⟩ .i64 fun n3 =>
    st1 H11 ⟨r, 0, none⟩ (.int .i64 n2) fun H12 =>
    st1 H12 ⟨r, 1, none⟩ (.int .i64 n3) fun H13 =>
    ldInt H13 ⟨r, 0, none⟩ .i64 fun n4 =>
    ldInt H13 ⟨r, 1, none⟩ .i64 fun n5 =>
    R (.returned (.tuple ⟨[(.agg ⟨[(.int .i64 n4), (.int .i64 n5)]⟩), (.pointer p1)]⟩)) H13) <|
  ldInt H8 ⟨r1, 0, none⟩ .i64 fun n6 =>
  ldInt H8 ⟨r1, 1, none⟩ .i64 fun n7 =>
  st1 H8 ⟨r, 0, none⟩ (.int .i64 n6) fun H14 =>
  st1 H14 ⟨r, 1, none⟩ (.int .i64 n7) fun H15 =>
  ldInt H15 ⟨r, 0, none⟩ .i64 fun n8 =>
  ldInt H15 ⟨r, 1, none⟩ .i64 fun n9 =>
  R (.returned (.tuple ⟨[(.agg ⟨[(.int .i64 n8), (.int .i64 n9)]⟩), (.pointer p1)]⟩)) H15
theorem calls {s0 : Option Addr} {s1 : Int} {H : Heap} {R : Ending → Heap → Prop} (h : go s0 s1 H R) : CallsH Try.prog 46 ⟨[(.pointer s0), (.int .i64 s1)]⟩ H R :=
  callsH_of_den (an := an) (fuel := 100000) (X := go s0 s1 H R) (c := body) mixed fn (by kernel_rfl) (by kernel_rfl) (by kernel_rfl) ok (by kernel_rfl) h
end F46
/-! ### 47 "(*pub-stadtholder/pub/etcdserver/btree.node[pub-stadtholder/impl.El]).insert" -/
namespace F47
def an : Ann := { kinds := [(16002, .grow)], taus := [(1, [[0, 1, 2, 5, 6, 7, 3, 4, 8, 9, 10, 11, 12, 13, 14, 15, 16, 17]]), (4, [[0, 1, 2, 4, 3, 5, 6, 7]]), (7, [[0, 1, 2, 3, 4, 5]]), (11, [[0, 1, 2, 4, 3, 5, 6, 7]]), (13, [[0, 1, 2, 3, 4, 5, 6, 7, 8, 9, 10]]), (14, [[0, 1, 2, 3, 4, 5, 6, 7, 8, 9, 10]]), (16, [[0, 1, 4, 3, 2, 5, 6, 7, 8, 9]])], pairs := [], lab := [(10000017, [0, 2, 4, 6, 8])] }
noncomputable def body : Code := (Try.f47.body).getD .skip
theorem fn : Try.prog.funcs[47]? = some Try.f47 := by kernel_rfl
theorem ok : codeOk an 115 body = true := by kernel_rfl
noncomputable def L0t : List Item := [.code (sub [1, 1, 1, 1, 1] body)]
def L0 (s0 : Option Addr) (s2 : Int) (s4 : Nat) (s6 : Nat) (s8 : Int) (H : Heap) (R : Ending → Heap → Prop) : Prop :=
  GoL Try.prog 47 115 L0t [0, 2, 4, 6, 8] [(.pointer s0), (.int .i64 s2), (.pointer (some ⟨s4, 0, none⟩)), (.pointer (some ⟨s6, 0, none⟩)), (.int .i64 s8)] H R
def L0n (s0 : Option Addr) (s2 : Int) (s4 : Nat) (s6 : Nat) (s8 : Int) (H : Heap) (R : Ending → Heap → Prop) : Prop :=
  ldInt H ⟨s4, 0, none⟩ .i64 fun n =>
  ldInt H ⟨s4, 1, none⟩ .i64 fun n1 =>
  callD Try.prog 68 [(.pointer s0), (.int .i64 s8)] H nope fun v H1 =>
  tPtr v fun p =>
  andD (ExtH H H1) <|
  callD Try.prog 47 [(.pointer p), (.agg ⟨[(.int .i64 n), (.int .i64 n1)]⟩), (.int .i64 s2)] H1 (panK R) fun v1 H2 =>
  tTup v1 fun l =>
  tCons l fun c l1 =>
  tAgg c fun l2 =>
  tCons l2 fun c1 l3 =>
  tInt c1 .i64 fun n2 =>
  tCons l3 fun c2 l4 =>
  tInt c2 .i64 fun n3 =>
  tNil l4 <|
  tCons l1 fun c3 l5 =>
  tBool c3 fun b =>
  tNil l5 <|
  st1 H2 ⟨s6, 0, none⟩ (.int .i64 n2) fun H3 =>
  st1 H3 ⟨s6, 1, none⟩ (.int .i64 n3) fun H4 =>
  ldInt H4 ⟨s6, 0, none⟩ .i64 fun n4 =>
  ldInt H4 ⟨s6, 1, none⟩ .i64 fun n5 =>
  R (.returned (.tuple ⟨[(.agg ⟨[(.int .i64 n4), (.int .i64 n5)]⟩), (.bool b)]⟩)) H4
theorem L0_step {s0 : Option Addr} {s2 : Int} {s4 : Nat} {s6 : Nat} {s8 : Int} {H : Heap} {R : Ending → Heap → Prop} (h : L0n s0 s2 s4 s6 s8 H R) : L0 s0 s2 s4 s6 s8 H R :=
  goL_of_den (an := an) (fuel := 100000) (X := L0n s0 s2 s4 s6 s8 H R) mixed fn (by kernel_rfl) (fun ρ0 => by kernel_rfl) h
def go (s0 : Option Addr) (s1_0 : Int) (s1_1 : Int) (s2 : Int) (H : Heap) (R : Ending → Heap → Prop) : Prop :=
  newD H (.cells ⟨[(.int .i64 s1_0), (.int .i64 s1_1)]⟩ 25) fun r H1 =>
  newD H1 (.cells ⟨[(.int .i64 (0 : Int)), (.int .i64 (0 : Int))]⟩ 25) fun r1 H2 =>
  nilD s0 fun a =>
  nilD s0 fun a1 =>
  ldSl H2 a fun q qn qc =>
  ldInt H2 ⟨r, 0, none⟩ .i64 fun n =>
  ldInt H2 ⟨r, 1, none⟩ .i64 fun n1 =>
  ldPtr H2 (Addr.add a1 2) fun p =>
  nilD p fun a2 =>
  ldFn H2 (Addr.add a2 1) fun f =>
  callD Try.prog 65 [(.slice q qn qc), (.agg ⟨[(.int .i64 n), (.int .i64 n1)]⟩), (FV.v f)] H2 (panK R) fun v H3 =>
  tTup v fun l =>
  tCons l fun c l1 =>
  tInt c .i64 fun n2 =>
  tCons l1 fun c1 l2 =>
  tBool c1 fun b =>
  tNil l2 <|
  iteB b (
    nilD s0 fun a3 =>
    ldSl H3 a3 fun q1 q1n q1c =>
    idxD q1 q1n n2 fun a4 =>
    ldInt H3 (Addr.add a4 (Int.toNat n2 * 2)) .i64 fun n3 =>
    ldInt H3 (Addr.add (Addr.add a4 (Int.toNat n2 * 2)) 1) .i64 fun n4 =>
    newD H3 (.cells ⟨[(.int .i64 (0 : Int)), (.int .i64 (0 : Int))]⟩ 25) fun r2 H4 =>
    st1 H4 ⟨r2, 0, none⟩ (.int .i64 n3) fun H5 =>
    st1 H5 ⟨r2, 1, none⟩ (.int .i64 n4) fun H6 =>
    nilD s0 fun a5 =>
    ldSl H6 a5 fun q2 q2n q2c =>
    ldInt H6 ⟨r, 0, none⟩ .i64 fun n5 =>
    ldInt H6 ⟨r, 1, none⟩ .i64 fun n6 =>
    idxD q2 q2n n2 fun a6 =>
    st1 H6 (Addr.add a6 (Int.toNat n2 * 2)) (.int .i64 n5) fun H7 =>
    st1 H7 (Addr.add (Addr.add a6 (Int.toNat n2 * 2)) 1) (.int .i64 n6) fun H8 =>
    ldInt H8 ⟨r2, 0, none⟩ .i64 fun n7 =>
    ldInt H8 ⟨r2, 1, none⟩ .i64 fun n8 =>
    st1 H8 ⟨r1, 0, none⟩ (.int .i64 n7) fun H9 =>
    st1 H9 ⟨r1, 1, none⟩ (.int .i64 n8) fun H10 =>
    ldInt H10 ⟨r1, 0, none⟩ .i64 fun n9 =>
    ldInt H10 ⟨r1, 1, none⟩ .i64 fun n10 =>
    R (.returned (.tuple ⟨[(.agg ⟨[(.int .i64 n9), (.int .i64 n10)]⟩), (.bool true)]⟩)) H10) <|
  nilD s0 fun a7 =>
  ldSl H3 (Addr.add a7 1) fun q3 q3n q3c =>
  iteB (((q3n : Nat) : Int) == (0 : Int)) (
    nilD s0 fun a8 =>
    ldInt H3 ⟨r, 0, none⟩ .i64 fun n11 =>
    ldInt H3 ⟨r, 1, none⟩ .i64 fun n12 =>
    callD Try.prog 66 [(.pointer (some a8)), (.int .i64 n2), (.agg ⟨[(.int .i64 n11), (.int .i64 n12)]⟩)] H3 (panK R) fun v1 H11 =>
    tTup v1 fun l3 =>
    tNil l3 <|
    ldInt H11 ⟨r1, 0, none⟩ .i64 fun n13 =>
    ldInt H11 ⟨r1, 1, none⟩ .i64 fun n14 =>
    R (.returned (.tuple ⟨[(.agg ⟨[(.int .i64 n13), (.int .i64 n14)]⟩), (.bool false)]⟩)) H11) <|
  callD Try.prog 67 [(.pointer s0), (.int .i64 n2), (.int .i64 s2)] H3 (panK R) fun v2 H12 =>
  tBool v2 fun b1 =>
  iteB b1 (
    nilD s0 fun a9 =>
    ldSl H12 a9 fun q4 q4n q4c =>
    idxD q4 q4n n2 fun a10 =>
    ldInt H12 (Addr.add a10 (Int.toNat n2 * 2)) .i64 fun n15 =>
    ldInt H12 (Addr.add (Addr.add a10 (Int.toNat n2 * 2)) 1) .i64 fun n16 =>
    newD H12 (.cells ⟨[(.int .i64 (0 : Int)), (.int .i64 (0 : Int))]⟩ 25) fun r3 H13 =>
    st1 H13 ⟨r3, 0, none⟩ (.int .i64 n15) fun H14 =>
    st1 H14 ⟨r3, 1, none⟩ (.int .i64 n16) fun H15 =>
    nilD s0 fun a11 =>
    ldPtr H15 (Addr.add a11 2) fun p1 =>
    nilD p1 fun a12 =>
    ldFn H15 (Addr.add a12 1) fun f1 =>
    ldInt H15 ⟨r, 0, none⟩ .i64 fun n17 =>
    ldInt H15 ⟨r, 1, none⟩ .i64 fun n18 =>
    ldInt H15 ⟨r3, 0, none⟩ .i64 fun n19 =>
    ldInt H15 ⟨r3, 1, none⟩ .i64 fun n20 =>
    callV Try.prog (FV.v f1) [(.agg ⟨[(.int .i64 n17), (.int .i64 n18)]⟩), (.agg ⟨[(.int .i64 n19), (.int .i64 n20)]⟩)] H15 (panK R) fun v3 H16 =>
    tBool v3 fun b2 =>
    iteB b2 (
      L0 s0 s2 r r1 n2 H16 R) <|
    nilD s0 fun a13 =>
    ldPtr H16 (Addr.add a13 2) fun p2 =>
    nilD p2 fun a14 =>
    ldFn H16 (Addr.add a14 1) fun f2 =>
    ldInt H16 ⟨r3, 0, none⟩ .i64 fun n21 =>
    ldInt H16 ⟨r3, 1, none⟩ .i64 fun n22 =>
    ldInt H16 ⟨r, 0, none⟩ .i64 fun n23 =>
    ldInt H16 ⟨r, 1, none⟩ .i64 fun n24 =>
    callV Try.prog (FV.v f2) [(.agg ⟨[(.int .i64 n21), (.int .i64 n22)]⟩), (.agg ⟨[(.int .i64 n23), (.int .i64 n24)]⟩)] H16 (panK R) fun v4 H17 =>
    tBool v4 fun b3 =>
    iteB b3 (
      L0 s0 s2 r r1 (IntKind.wrap .i64 (n2 + (1 : Int))) H17 R) <|
    nilD s0 fun a15 =>
    ldSl H17 a15 fun q5 q5n q5c =>
    idxD q5 q5n n2 fun a16 =>
    ldInt H17 (Addr.add a16 (Int.toNat n2 * 2)) .i64 fun n25 =>
    ldInt H17 (Addr.add (Addr.add a16 (Int.toNat n2 * 2)) 1) .i64 fun n26 =>
    newD H17 (.cells ⟨[(.int .i64 (0 : Int)), (.int .i64 (0 : Int))]⟩ 25) fun r4 H18 =>
    st1 H18 ⟨r4, 0, none⟩ (.int .i64 n25) fun H19 =>
    st1 H19 ⟨r4, 1, none⟩ (.int .i64 n26) fun H20 =>
    nilD s0 fun a17 =>
    ldSl H20 a17 fun q6 q6n q6c =>
    ldInt H20 ⟨r, 0, none⟩ .i64 fun n27 =>
    ldInt H20 ⟨r, 1, none⟩ .i64 fun n28 =>
    idxD q6 q6n n2 fun a18 =>
    st1 H20 (Addr.add a18 (Int.toNat n2 * 2)) (.int .i64 n27) fun H21 =>
    st1 H21 (Addr.add (Addr.add a18 (Int.toNat n2 * 2)) 1) (.int .i64 n28) fun H22 =>
    ldInt H22 ⟨r4, 0, none⟩ .i64 fun n29 =>
    ldInt H22 ⟨r4, 1, none⟩ .i64 fun n30 =>
    st1 H22 ⟨r1, 0, none⟩ (.int .i64 n29) fun H23 =>
    st1 H23 ⟨r1, 1, none⟩ (.int .i64 n30) fun H24 =>
    ldInt H24 ⟨r1, 0, none⟩ .i64 fun n31 =>
    ldInt H24 ⟨r1, 1, none⟩ .i64 fun n32 =>
    R (.returned (.tuple ⟨[(.agg ⟨[(.int .i64 n31), (.int .i64 n32)]⟩), (.bool true)]⟩)) H24) <|
  L0 s0 s2 r r1 n2 H12 R
theorem calls {s0 : Option Addr} {s1_0 : Int} {s1_1 : Int} {s2 : Int} {H : Heap} {R : Ending → Heap → Prop} (h : go s0 s1_0 s1_1 s2 H R) : CallsH Try.prog 47 ⟨[(.pointer s0), (.agg ⟨[(.int .i64 s1_0), (.int .i64 s1_1)]⟩), (.int .i64 s2)]⟩ H R :=
  callsH_of_den (an := an) (fuel := 100000) (X := go s0 s1_0 s1_1 s2 H R) (c := body) mixed fn (by kernel_rfl) (by kernel_rfl) (by kernel_rfl) ok (by kernel_rfl) h
end F47
/-! ### 48 "(*pub-stadtholder/pub/etcdserver/btree.BTree[pub-stadtholder/impl.El]).deleteItem" -/
namespace F48
def an : Ann := { kinds := [(3006, .grow), (3012, .grow)], taus := [(2, [[0, 1, 2, 3, 5, 6, 7, 4, 8, 9, 10, 11, 12]]), (3, [[0, 1, 2, 5, 7, 3, 4, 6, 12, 8, 9, 10, 11, 13, 14], [0, 1, 2, 5, 7, 3, 4, 6, 8, 9, 10, 11, 12, 13, 14], [0, 1, 2, 5, 7, 3, 4, 12, 6, 8, 9, 10, 11, 13, 14]])], pairs := [(3, [(6, 12), (12, 8)])], lab := [(10000003, [0, 2, 4, 6]), (10000005, [0, 6, 8, 9]), (20000006, [0, 6, 8, 9]), (10000009, [0, 6, 8, 9])] }
noncomputable def body : Code := (Try.f48.body).getD .skip
theorem fn : Try.prog.funcs[48]? = some Try.f48 := by kernel_rfl
theorem ok : codeOk an 103 body = true := by kernel_rfl
noncomputable def L0t : List Item := [.code (sub [1, 1] body)]
def L0 (s0 : Option Addr) (s2 : Int) (s4 : Nat) (s6 : Nat) (H : Heap) (R : Ending → Heap → Prop) : Prop :=
  GoL Try.prog 48 103 L0t [0, 2, 4, 6] [(.pointer s0), (.int .i64 s2), (.pointer (some ⟨s4, 0, none⟩)), (.pointer (some ⟨s6, 0, none⟩))] H R
noncomputable def L1t : List Item := [.code (sub [1, 1, 1, 1] body)]
def L1 (s0 : Option Addr) (s6 : Nat) (s8 : Nat) (s9 : Bool) (H : Heap) (R : Ending → Heap → Prop) : Prop :=
  GoL Try.prog 48 103 L1t [0, 6, 8, 9] [(.pointer s0), (.pointer (some ⟨s6, 0, none⟩)), (.pointer (some ⟨s8, 0, none⟩)), (.bool s9)] H R
noncomputable def L2t : List Item := [.code (sub [1, 1, 1, 1, 0, 1, 0] body), .code (sub [1, 1, 1, 1, 1] body)]
def L2 (s0 : Option Addr) (s6 : Nat) (s8 : Nat) (s9 : Bool) (H : Heap) (R : Ending → Heap → Prop) : Prop :=
  GoL Try.prog 48 103 L2t [0, 6, 8, 9] [(.pointer s0), (.pointer (some ⟨s6, 0, none⟩)), (.pointer (some ⟨s8, 0, none⟩)), (.bool s9)] H R
noncomputable def L3t : List Item := [.code (sub [1, 1, 1, 1, 1] body)]
def L3 (s0 : Option Addr) (s6 : Nat) (s8 : Nat) (s9 : Bool) (H : Heap) (R : Ending → Heap → Prop) : Prop :=
  GoL Try.prog 48 103 L3t [0, 6, 8, 9] [(.pointer s0), (.pointer (some ⟨s6, 0, none⟩)), (.pointer (some ⟨s8, 0, none⟩)), (.bool s9)] H R
def L0n (s0 : Option Addr) (s2 : Int) (s4 : Nat) (s6 : Nat) (H : Heap) (R : Ending → Heap → Prop) : Prop :=
  nilD s0 fun a =>
  nilD s0 fun a1 =>
  ldPtr H (Addr.add a 2) fun p =>
  ldPtr H (Addr.add a1 3) fun p1 =>
  callD Try.prog 44 [(.pointer p), (.pointer p1)] H (panK R) fun v H1 =>
  tPtr v fun p2 =>
  nilD s0 fun a2 =>
  st1 H1 (Addr.add a2 2) (.pointer p2) fun H2 =>
  (
    nilD s0 fun a3 =>
    ldPtr H2 (Addr.add a3 2) fun p3 =>
    ldInt H2 ⟨s4, 0, none⟩ .i64 fun n =>
    ldInt H2 ⟨s4, 1, none⟩ .i64 fun n1 =>
    callD Try.prog 70 [(.pointer s0)] H2 nope fun v1 H3 =>
    tInt v1 .i64 fun n2 =>
    andD (ExtH H2 H3) <|
    newD H3 (.cells ⟨[(.int .i64 (0 : Int)), (.int .i64 (0 : Int))]⟩ 25) fun r H4 =>
    callD Try.prog 69 [(.pointer p3), (.agg ⟨[(.int .i64 n), (.int .i64 n1)]⟩), (.int .i64 n2), (.int .i64 s2)] H4 (panK R) fun v2 H5 =>
    tTup v2 fun l =>
    tCons l fun c l1 =>
    tAgg c fun l2 =>
    tCons l2 fun c1 l3 =>
    tInt c1 .i64 fun n3 =>
    tCons l3 fun c2 l4 =>
    tInt c2 .i64 fun n4 =>
    tNil l4 <|
    tCons l1 fun c3 l5 =>
    tBool c3 fun b =>
    tNil l5 <|
    st1 H5 ⟨r, 0, none⟩ (.int .i64 n3) fun H6 =>
    st1 H6 ⟨r, 1, none⟩ (.int .i64 n4) fun H7 =>
    L1 s0 s6 r b H7 R) ∧
  (
    nilD s0 fun a4 =>
    ldPtr H2 (Addr.add a4 2) fun p4 =>
    ldInt H2 ⟨s4, 0, none⟩ .i64 fun n5 =>
    ldInt H2 ⟨s4, 1, none⟩ .i64 fun n6 =>
    callD Try.prog 70 [(.pointer s0)] H2 nope fun v3 H8 =>
    tInt v3 .i64 fun n7 =>
    andD (ExtH H2 H8) <|
    callD Try.prog 69 [(.pointer p4), (.agg ⟨[(.int .i64 n5), (.int .i64 n6)]⟩), (.int .i64 n7), (.int .i64 s2)] H8 (panK R) fun v4 H9 =>
    tTup v4 fun l6 =>
    tCons l6 fun c4 l7 =>
    tAgg c4 fun l8 =>
    tCons l8 fun c5 l9 =>
    tInt c5 .i64 fun n8 =>
    tCons l9 fun c6 l10 =>
    tInt c6 .i64 fun n9 =>
    tNil l10 <|
    tCons l7 fun c7 l11 =>
    tBool c7 fun b1 =>
    tNil l11 <|
    newD H9 (.cells ⟨[(.int .i64 (0 : Int)), (.int .i64 (0 : Int))]⟩ 25) fun r1 H10 =>
    st1 H10 ⟨r1, 0, none⟩ (.int .i64 n8) fun H11 =>
    st1 H11 ⟨r1, 1, none⟩ (.int .i64 n9) fun H12 =>
    L1 s0 s6 r1 b1 H12 R) ∧
  (
    nilD s0 fun a5 =>
    ldPtr H2 (Addr.add a5 2) fun p5 =>
    ldInt H2 ⟨s4, 0, none⟩ .i64 fun n10 =>
    ldInt H2 ⟨s4, 1, none⟩ .i64 fun n11 =>
    newD H2 (.cells ⟨[(.int .i64 (0 : Int)), (.int .i64 (0 : Int))]⟩ 25) fun r2 H13 =>
    callD Try.prog 70 [(.pointer s0)] H13 nope fun v5 H14 =>
    tInt v5 .i64 fun n12 =>
    andD (ExtH H13 H14) <|
    callD Try.prog 69 [(.pointer p5), (.agg ⟨[(.int .i64 n10), (.int .i64 n11)]⟩), (.int .i64 n12), (.int .i64 s2)] H14 (panK R) fun v6 H15 =>
    tTup v6 fun l12 =>
    tCons l12 fun c8 l13 =>
    tAgg c8 fun l14 =>
    tCons l14 fun c9 l15 =>
    tInt c9 .i64 fun n13 =>
    tCons l15 fun c10 l16 =>
    tInt c10 .i64 fun n14 =>
    tNil l16 <|
    tCons l13 fun c11 l17 =>
    tBool c11 fun b2 =>
    tNil l17 <|
    st1 H15 ⟨r2, 0, none⟩ (.int .i64 n13) fun H16 =>
    st1 H16 ⟨r2, 1, none⟩ (.int .i64 n14) fun H17 =>
    L1 s0 s6 r2 b2 H17 R)
theorem L0_step {s0 : Option Addr} {s2 : Int} {s4 : Nat} {s6 : Nat} {H : Heap} {R : Ending → Heap → Prop} (h : L0n s0 s2 s4 s6 H R) : L0 s0 s2 s4 s6 H R :=
  goL_of_den (an := an) (fuel := 100000) (X := L0n s0 s2 s4 s6 H R) mixed fn (by kernel_rfl) (fun ρ0 => by kernel_rfl) h
def L1n (s0 : Option Addr) (s6 : Nat) (s8 : Nat) (s9 : Bool) (H : Heap) (R : Ending → Heap → Prop) : Prop :=
  nilD s0 fun a =>
  ldPtr H (Addr.add a 2) fun p =>
  nilD p fun a1 =>
  ldSl H a1 fun q qn qc =>
  iteB (((qn : Nat) : Int) == (0 : Int)) (
    nilD s0 fun a2 =>
    ldPtr H (Addr.add a2 2) fun p1 =>
    nilD p1 fun a3 =>
    ldSl H (Addr.add a3 1) fun q1 q1n q1c =>
    iteB (decide (((q1n : Nat) : Int) > (0 : Int))) (
      L2 s0 s6 s8 s9 H R) <|
    L3 s0 s6 s8 s9 H R) <|
  L3 s0 s6 s8 s9 H R
theorem L1_step {s0 : Option Addr} {s6 : Nat} {s8 : Nat} {s9 : Bool} {H : Heap} {R : Ending → Heap → Prop} (h : L1n s0 s6 s8 s9 H R) : L1 s0 s6 s8 s9 H R :=
  goL_of_den (an := an) (fuel := 100000) (X := L1n s0 s6 s8 s9 H R) mixed fn (by kernel_rfl) (fun ρ0 => by kernel_rfl) h
def L2n (s0 : Option Addr) (s6 : Nat) (s8 : Nat) (s9 : Bool) (H : Heap) (R : Ending → Heap → Prop) : Prop :=
  nilD s0 fun a =>
  ldPtr H (Addr.add a 2) fun p =>
  nilD s0 fun a1 =>
  ldPtr H (Addr.add a1 2) fun p1 =>
  nilD p1 fun a2 =>
  ldSl H (Addr.add a2 1) fun q qn qc =>
  idxD q qn (0 : Int) fun a3 =>
  ldPtr H (Addr.add a3 (Int.toNat (0 : Int) * 1)) fun p2 =>
  nilD s0 fun a4 =>
  st1 H (Addr.add a4 2) (.pointer p2) fun H1 =>
  nilD s0 fun a5 =>
  ldPtr H1 (Addr.add a5 3) fun p3 =>
  callD Try.prog 71 [(.pointer p3), (.pointer p)] H1 (panK R) fun v H2 =>
  tInt v .i64 fun n =>
  L3 s0 s6 s8 s9 H2 R
theorem L2_step {s0 : Option Addr} {s6 : Nat} {s8 : Nat} {s9 : Bool} {H : Heap} {R : Ending → Heap → Prop} (h : L2n s0 s6 s8 s9 H R) : L2 s0 s6 s8 s9 H R :=
  goL_of_den (an := an) (fuel := 100000) (X := L2n s0 s6 s8 s9 H R) mixed fn (by kernel_rfl) (fun ρ0 => by kernel_rfl) h
def L3n (s0 : Option Addr) (s6 : Nat) (s8 : Nat) (s9 : Bool) (H : Heap) (R : Ending → Heap → Prop) : Prop :=
  iteB s9 (
    nilD s0 fun a =>
    ldInt H (Addr.add a 1) .i64 fun n =>
    nilD s0 fun a1 =>
    st1 H (Addr.add a1 1) (.int .i64 (IntKind.wrap .i64 (n - (1 : Int)))) fun H1 =>
    ldInt H1 ⟨s8, 0, none⟩ .i64 fun n1 =>
    ldInt H1 ⟨s8, 1, none⟩ .i64 fun n2 =>
    st1 H1 ⟨s6, 0, none⟩ (.int .i64 n1) fun H2 =>
    st1 H2 ⟨s6, 1, none⟩ (.int .i64 n2) fun H3 =>
    ldInt H3 ⟨s6, 0, none⟩ .i64 fun n3 =>
    ldInt H3 ⟨s6, 1, none⟩ .i64 fun n4 =>
    R (.returned (.tuple ⟨[(.agg ⟨[(.int .i64 n3), (.int .i64 n4)]⟩), (.bool s9)]⟩)) H3) <|
  ldInt H ⟨s8, 0, none⟩ .i64 fun n5 =>
  ldInt H ⟨s8, 1, none⟩ .i64 fun n6 =>
  st1 H ⟨s6, 0, none⟩ (.int .i64 n5) fun H4 =>
  st1 H4 ⟨s6, 1, none⟩ (.int .i64 n6) fun H5 =>
  ldInt H5 ⟨s6, 0, none⟩ .i64 fun n7 =>
  ldInt H5 ⟨s6, 1, none⟩ .i64 fun n8 =>
  R (.returned (.tuple ⟨[(.agg ⟨[(.int .i64 n7), (.int .i64 n8)]⟩), (.bool s9)]⟩)) H5
theorem L3_step {s0 : Option Addr} {s6 : Nat} {s8 : Nat} {s9 : Bool} {H : Heap} {R : Ending → Heap → Prop} (h : L3n s0 s6 s8 s9 H R) : L3 s0 s6 s8 s9 H R :=
  goL_of_den (an := an) (fuel := 100000) (X := L3n s0 s6 s8 s9 H R) mixed fn (by kernel_rfl) (fun ρ0 => by kernel_rfl) h
def go (s0 : Option Addr) (s1_0 : Int) (s1_1 : Int) (s2 : Int) (H : Heap) (R : Ending → Heap → Prop) : Prop :=
  newD H (.cells ⟨[(.int .i64 s1_0), (.int .i64 s1_1)]⟩ 25) fun r H1 =>
  newD H1 (.cells ⟨[(.int .i64 (0 : Int)), (.int .i64 (0 : Int))]⟩ 25) fun r1 H2 =>
  nilD s0 fun a =>
  ldPtr H2 (Addr.add a 2) fun p =>
  iteB (Option.isNone p) (
    ldInt H2 ⟨r1, 0, none⟩ .i64 fun n =>
    ldInt H2 ⟨r1, 1, none⟩ .i64 fun n1 =>
    R (.returned (.tuple ⟨[(.agg ⟨[(.int .i64 n), (.int .i64 n1)]⟩), (.bool false)]⟩)) H2) <|
  nilD s0 fun a1 =>
  ldPtr H2 (Addr.add a1 2) fun p1 =>
  nilD p1 fun a2 =>
  ldSl H2 a2 fun q qn qc =>
  iteB (((qn : Nat) : Int) == (0 : Int)) (
    ldInt H2 ⟨r1, 0, none⟩ .i64 fun n2 =>
    ldInt H2 ⟨r1, 1, none⟩ .i64 fun n3 =>
    R (.returned (.tuple ⟨[(.agg ⟨[(.int .i64 n2), (.int .i64 n3)]⟩), (.bool false)]⟩)) H2) <|
  L0 s0 s2 r r1 H2 R
theorem calls {s0 : Option Addr} {s1_0 : Int} {s1_1 : Int} {s2 : Int} {H : Heap} {R : Ending → Heap → Prop} (h : go s0 s1_0 s1_1 s2 H R) : CallsH Try.prog 48 ⟨[(.pointer s0), (.agg ⟨[(.int .i64 s1_0), (.int .i64 s1_1)]⟩), (.int .i64 s2)]⟩ H R :=
  callsH_of_den (an := an) (fuel := 100000) (X := go s0 s1_0 s1_1 s2 H R) (c := body) mixed fn (by kernel_rfl) (by kernel_rfl) (by kernel_rfl) ok (by kernel_rfl) h
end F48
/-! ### 49 "(*pub-stadtholder/pub/etcdserver/btree.node[pub-stadtholder/impl.El]).get" -/
namespace F49
def an : Ann := { kinds := [], taus := [(1, [[0, 1, 2, 5, 6, 7, 3, 4, 8, 9, 10, 11, 12, 13, 14, 15, 16, 17]]), (5, [[0, 1, 2, 4, 3, 5, 6, 7, 8, 9, 10, 11, 12]])], pairs := [], lab := [] }
noncomputable def body : Code := (Try.f49.body).getD .skip
theorem fn : Try.prog.funcs[49]? = some Try.f49 := by kernel_rfl
theorem ok : codeOk an 49 body = true := by kernel_rfl
def go (n : Option Addr) (key_0 : Int) (key_1 : Int) (H : Heap) (R : Ending → Heap → Prop) : Prop :=
  newD H (.cells ⟨[(.int .i64 key_0), (.int .i64 key_1)]⟩ 25) fun r H1 =>
  newD H1 (.cells ⟨[(.int .i64 (0 : Int)), (.int .i64 (0 : Int))]⟩ 25) fun r1 H2 =>
  nilD n fun a =>
  nilD n fun a1 =>
  ldSl H2 a fun q qn qc =>
  ldInt H2 ⟨r, 0, none⟩ .i64 fun n1 =>
  ldInt H2 ⟨r, 1, none⟩ .i64 fun n2 =>
  ldPtr H2 (Addr.add a1 2) fun p =>
  nilD p fun a2 =>
  ldFn H2 (Addr.add a2 1) fun f =>
  callD Try.prog 65 [(.slice q qn qc), (.agg ⟨[(.int .i64 n1), (.int .i64 n2)]⟩), (FV.v f)] H2 (panK R) fun v H3 =>
  tTup v fun l =>
  tCons l fun c l1 =>
  tInt c .i64 fun n3 =>
  tCons l1 fun c1 l2 =>
  tBool c1 fun b =>
  tNil l2 <|
  iteB b (
    nilD n fun a3 =>
    ldSl H3 a3 fun q1 q1n q1c =>
    idxD q1 q1n n3 fun a4 =>
    ldInt H3 (Addr.add a4 (Int.toNat n3 * 2)) .i64 fun n4 =>
    ldInt H3 (Addr.add (Addr.add a4 (Int.toNat n3 * 2)) 1) .i64 fun n5 =>
    st1 H3 ⟨r1, 0, none⟩ (.int .i64 n4) fun H4 =>
    st1 H4 ⟨r1, 1, none⟩ (.int .i64 n5) fun H5 =>
    ldInt H5 ⟨r1, 0, none⟩ .i64 fun n6 =>
    ldInt H5 ⟨r1, 1, none⟩ .i64 fun n7 =>
    R (.returned (.tuple ⟨[(.agg ⟨[(.int .i64 n6), (.int .i64 n7)]⟩), (.bool true)]⟩)) H5) <|
  nilD n fun a5 =>
  ldSl H3 (Addr.add a5 1) fun q2 q2n q2c =>
  iteB (decide (((q2n : Nat) : Int) > (0 : Int))) (
    nilD n fun a6 =>
    ldSl H3 (Addr.add a6 1) fun q3 q3n q3c =>
    idxD q3 q3n n3 fun a7 =>
    ldPtr H3 (Addr.add a7 (Int.toNat n3 * 1)) fun p1 =>
    ldInt H3 ⟨r, 0, none⟩ .i64 fun n8 =>
    ldInt H3 ⟨r, 1, none⟩ .i64 fun n9 =>
    callD Try.prog 49 [(.pointer p1), (.agg ⟨[(.int .i64 n8), (.int .i64 n9)]⟩)] H3 (panK R) fun v1 H6 =>
    tTup v1 fun l3 =>
    tCons l3 fun c2 l4 =>
    tAgg c2 fun l5 =>
    tCons l5 fun c3 l6 =>
    tInt c3 .i64 fun n10 =>
    tCons l6 fun c4 l7 =>
    tInt c4 .i64 fun n11 =>
    tNil l7 <|
    tCons l4 fun c5 l8 =>
    tBool c5 fun b1 =>
    tNil l8 <|
    st1 H6 ⟨r1, 0, none⟩ (.int .i64 n10) fun H7 =>
    st1 H7 ⟨r1, 1, none⟩ (.int .i64 n11) fun H8 =>
    ldInt H8 ⟨r1, 0, none⟩ .i64 fun n12 =>
    ldInt H8 ⟨r1, 1, none⟩ .i64 fun n13 =>
    R (.returned (.tuple ⟨[(.agg ⟨[(.int .i64 n12), (.int .i64 n13)]⟩), (.bool b1)]⟩)) H8) <|
  ldInt H3 ⟨r1, 0, none⟩ .i64 fun n14 =>
  ldInt H3 ⟨r1, 1, none⟩ .i64 fun n15 =>
  R (.returned (.tuple ⟨[(.agg ⟨[(.int .i64 n14), (.int .i64 n15)]⟩), (.bool false)]⟩)) H3
theorem calls {n : Option Addr} {key_0 : Int} {key_1 : Int} {H : Heap} {R : Ending → Heap → Prop} (h : go n key_0 key_1 H R) : CallsH Try.prog 49 ⟨[(.pointer n), (.agg ⟨[(.int .i64 key_0), (.int .i64 key_1)]⟩)]⟩ H R :=
  callsH_of_den (an := an) (fuel := 100000) (X := go n key_0 key_1 H R) (c := body) mixed fn (by kernel_rfl) (by kernel_rfl) (by kernel_rfl) ok (by kernel_rfl) h
end F49
/-! ### 50 "pub-stadtholder/pub/etcdserver/btree.min[pub-stadtholder/impl.El]" -/
namespace F50
def an : Ann := { kinds := [], taus := [], pairs := [], lab := [(40000003, [0, 2, 3])] }
noncomputable def body : Code := (Try.f50.body).getD .skip
theorem fn : Try.prog.funcs[50]? = some Try.f50 := by kernel_rfl
theorem ok : codeOk an 30 body = true := by kernel_rfl
noncomputable def L0t : List Item := [.code (sub [1, 1, 0, 0, 0] body), .inLoop (sub [1, 1, 0, 0, 0] body), .inBlock 0, .code (sub [1, 1, 1] body)]
def L0 (n : Option Addr) (x_ : Nat) (found : Bool) (H : Heap) (R : Ending → Heap → Prop) : Prop :=
  GoL Try.prog 50 30 L0t [0, 2, 3] [(.pointer n), (.pointer (some ⟨x_, 0, none⟩)), (.bool found)] H R
def L0n (n : Option Addr) (x_ : Nat) (found : Bool) (H : Heap) (R : Ending → Heap → Prop) : Prop :=
  nilD n fun a =>
  ldSl H (Addr.add a 1) fun q qn qc =>
  iteB (decide (((qn : Nat) : Int) > (0 : Int))) (
    nilD n fun a1 =>
    ldSl H (Addr.add a1 1) fun q1 q1n q1c =>
    idxD q1 q1n (0 : Int) fun a2 =>
    ldPtr H (Addr.add a2 (Int.toNat (0 : Int) * 1)) fun p =>
    L0 p x_ found H R) <|
  nilD n fun a3 =>
  ldSl H a3 fun q2 q2n q2c =>
  iteB (((q2n : Nat) : Int) == (0 : Int)) (
    ldInt H ⟨x_, 0, none⟩ .i64 fun n1 =>
    ldInt H ⟨x_, 1, none⟩ .i64 fun n2 =>
    R (.returned (.tuple ⟨[(.agg ⟨[(.int .i64 n1), (.int .i64 n2)]⟩), (.bool found)]⟩)) H) <|
  nilD n fun a4 =>
  ldSl H a4 fun q3 q3n q3c =>
  idxD q3 q3n (0 : Int) fun a5 =>
  ldInt H (Addr.add a5 (Int.toNat (0 : Int) * 2)) .i64 fun n3 =>
  ldInt H (Addr.add (Addr.add a5 (Int.toNat (0 : Int) * 2)) 1) .i64 fun n4 =>
  st1 H ⟨x_, 0, none⟩ (.int .i64 n3) fun H1 =>
  st1 H1 ⟨x_, 1, none⟩ (.int .i64 n4) fun H2 =>
  ldInt H2 ⟨x_, 0, none⟩ .i64 fun n5 =>
  ldInt H2 ⟨x_, 1, none⟩ .i64 fun n6 =>
  R (.returned (.tuple ⟨[(.agg ⟨[(.int .i64 n5), (.int .i64 n6)]⟩), (.bool true)]⟩)) H2
theorem L0_step {n : Option Addr} {x_ : Nat} {found : Bool} {H : Heap} {R : Ending → Heap → Prop} (h : L0n n x_ found H R) : L0 n x_ found H R :=
  goL_of_den (an := an) (fuel := 100000) (X := L0n n x_ found H R) mixed fn (by kernel_rfl) (fun ρ0 => by kernel_rfl) h
def go (n : Option Addr) (H : Heap) (R : Ending → Heap → Prop) : Prop :=
  newD H (.cells ⟨[(.int .i64 (0 : Int)), (.int .i64 (0 : Int))]⟩ 25) fun r H1 =>
  iteB (Option.isNone n) (
    ldInt H1 ⟨r, 0, none⟩ .i64 fun n1 =>
    ldInt H1 ⟨r, 1, none⟩ .i64 fun n2 =>
    R (.returned (.tuple ⟨[(.agg ⟨[(.int .i64 n1), (.int .i64 n2)]⟩), (.bool false)]⟩)) H1) <|
  L0 n r false H1 R
theorem calls {n : Option Addr} {H : Heap} {R : Ending → Heap → Prop} (h : go n H R) : CallsH Try.prog 50 ⟨[(.pointer n)]⟩ H R :=
  callsH_of_den (an := an) (fuel := 100000) (X := go n H R) (c := body) mixed fn (by kernel_rfl) (by kernel_rfl) (by kernel_rfl) ok (by kernel_rfl) h
end F50
/-! ### 51 "pub-stadtholder/pub/etcdserver/btree.max[pub-stadtholder/impl.El]" -/
namespace F51
def an : Ann := { kinds := [], taus := [(3, [[0, 1, 2, 4, 5, 6, 3, 7, 8, 9, 10, 11, 12]]), (5, [[0, 1, 2, 4, 5, 6, 3, 7, 8, 9, 10, 11, 12, 13]])], pairs := [], lab := [(40000003, [0, 2, 3])] }
noncomputable def body : Code := (Try.f51.body).getD .skip
theorem fn : Try.prog.funcs[51]? = some Try.f51 := by kernel_rfl
theorem ok : codeOk an 42 body = true := by kernel_rfl
noncomputable def L0t : List Item := [.code (sub [1, 1, 0, 0, 0] body), .inLoop (sub [1, 1, 0, 0, 0] body), .inBlock 0, .code (sub [1, 1, 1] body)]
def L0 (n : Option Addr) (x_ : Nat) (found : Bool) (H : Heap) (R : Ending → Heap → Prop) : Prop :=
  GoL Try.prog 51 42 L0t [0, 2, 3] [(.pointer n), (.pointer (some ⟨x_, 0, none⟩)), (.bool found)] H R
def L0n (n : Option Addr) (x_ : Nat) (found : Bool) (H : Heap) (R : Ending → Heap → Prop) : Prop :=
  nilD n fun a =>
  ldSl H (Addr.add a 1) fun q qn qc =>
  iteB (decide (((qn : Nat) : Int) > (0 : Int))) (
    nilD n fun a1 =>
    nilD n fun a2 =>
    ldSl H (Addr.add a1 1) fun q1 q1n q1c =>
    ldSl H (Addr.add a2 1) fun q2 q2n q2c =>
    idxD q1 q1n (IntKind.wrap .i64 (((q2n : Nat) : Int) - (1 : Int))) fun a3 =>
    ldPtr H (Addr.add a3 (Int.toNat (IntKind.wrap .i64 (((q2n : Nat) : Int) - (1 : Int))) * 1)) fun p =>
    L0 p x_ found H R) <|
  nilD n fun a4 =>
  ldSl H a4 fun q3 q3n q3c =>
  iteB (((q3n : Nat) : Int) == (0 : Int)) (
    ldInt H ⟨x_, 0, none⟩ .i64 fun n1 =>
    ldInt H ⟨x_, 1, none⟩ .i64 fun n2 =>
    R (.returned (.tuple ⟨[(.agg ⟨[(.int .i64 n1), (.int .i64 n2)]⟩), (.bool found)]⟩)) H) <|
  nilD n fun a5 =>
  nilD n fun a6 =>
  ldSl H a5 fun q4 q4n q4c =>
  ldSl H a6 fun q5 q5n q5c =>
  idxD q4 q4n (IntKind.wrap .i64 (((q5n : Nat) : Int) - (1 : Int))) fun a7 =>
  ldInt H (Addr.add a7 (Int.toNat (IntKind.wrap .i64 (((q5n : Nat) : Int) - (1 : Int))) * 2)) .i64 fun n3 =>
  ldInt H (Addr.add (Addr.add a7 (Int.toNat (IntKind.wrap .i64 (((q5n : Nat) : Int) - (1 : Int))) * 2)) 1) .i64 fun n4 =>
  st1 H ⟨x_, 0, none⟩ (.int .i64 n3) fun H1 =>
  st1 H1 ⟨x_, 1, none⟩ (.int .i64 n4) fun H2 =>
  ldInt H2 ⟨x_, 0, none⟩ .i64 fun n5 =>
  ldInt H2 ⟨x_, 1, none⟩ .i64 fun n6 =>
  R (.returned (.tuple ⟨[(.agg ⟨[(.int .i64 n5), (.int .i64 n6)]⟩), (.bool true)]⟩)) H2
theorem L0_step {n : Option Addr} {x_ : Nat} {found : Bool} {H : Heap} {R : Ending → Heap → Prop} (h : L0n n x_ found H R) : L0 n x_ found H R :=
  goL_of_den (an := an) (fuel := 100000) (X := L0n n x_ found H R) mixed fn (by kernel_rfl) (fun ρ0 => by kernel_rfl) h
def go (n : Option Addr) (H : Heap) (R : Ending → Heap → Prop) : Prop :=
  newD H (.cells ⟨[(.int .i64 (0 : Int)), (.int .i64 (0 : Int))]⟩ 25) fun r H1 =>
  iteB (Option.isNone n) (
    ldInt H1 ⟨r, 0, none⟩ .i64 fun n1 =>
    ldInt H1 ⟨r, 1, none⟩ .i64 fun n2 =>
    R (.returned (.tuple ⟨[(.agg ⟨[(.int .i64 n1), (.int .i64 n2)]⟩), (.bool false)]⟩)) H1) <|
  L0 n r false H1 R
theorem calls {n : Option Addr} {H : Heap} {R : Ending → Heap → Prop} (h : go n H R) : CallsH Try.prog 51 ⟨[(.pointer n)]⟩ H R :=
  callsH_of_den (an := an) (fuel := 100000) (X := go n H R) (c := body) mixed fn (by kernel_rfl) (by kernel_rfl) (by kernel_rfl) ok (by kernel_rfl) h
end F51
/-! ### 52 "(*pub-stadtholder/pub/etcdserver/btree.node[pub-stadtholder/impl.El]).reset" -/
namespace F52
def an : Ann := { kinds := [], taus := [], pairs := [], lab := [(40000003, [0, 1, 10, 11, 12])] }
noncomputable def body : Code := (Try.f52.body).getD .skip
theorem fn : Try.prog.funcs[52]? = some Try.f52 := by kernel_rfl
theorem ok : codeOk an 25 body = true := by kernel_rfl
noncomputable def L0t : List Item := [.code (sub [1, 0, 1, 0, 0] body), .inLoop (sub [1, 0, 1, 0, 0] body), .inBlock 0, .code (sub [1, 1] body)]
def L0 (n : Option Addr) (c : Option Addr) (s10 : Option Addr) (s10n : Nat) (s10c : Nat) (s11 : Int) (s12 : Int) (H : Heap) (R : Ending → Heap → Prop) : Prop :=
  GoL Try.prog 52 25 L0t [0, 1, 10, 11, 12] [(.pointer n), (.pointer c), (.slice s10 s10n s10c), (.int .i64 s11), (.int .i64 s12)] H R
def L0n (n : Option Addr) (c : Option Addr) (s10 : Option Addr) (s10n : Nat) (s10c : Nat) (s11 : Int) (s12 : Int) (H : Heap) (R : Ending → Heap → Prop) : Prop :=
  iteB (decide (s12 < s11)) (
    idxD s10 s10n s12 fun a =>
    ldPtr H (Addr.add a (Int.toNat s12 * 1)) fun p =>
    callD Try.prog 52 [(.pointer p), (.pointer c)] H (panK R) fun v H1 =>
    tBool v fun b =>
    iteB (!b) (
      R (.returned (.bool false)) H1) <|
    L0 n c s10 s10n s10c s11 (IntKind.wrap .i64 (s12 + (1 : Int))) H1 R) <|
  callD Try.prog 71 [(.pointer c), (.pointer n)] H (panK R) fun v1 H2 =>
  tInt v1 .i64 fun n1 =>
  R (.returned (.bool (n1 != (0 : Int)))) H2
theorem L0_step {n : Option Addr} {c : Option Addr} {s10 : Option Addr} {s10n : Nat} {s10c : Nat} {s11 : Int} {s12 : Int} {H : Heap} {R : Ending → Heap → Prop} (h : L0n n c s10 s10n s10c s11 s12 H R) : L0 n c s10 s10n s10c s11 s12 H R :=
  goL_of_den (an := an) (fuel := 100000) (X := L0n n c s10 s10n s10c s11 s12 H R) mixed fn (by kernel_rfl) (fun ρ0 => by kernel_rfl) h
def go (n : Option Addr) (c : Option Addr) (H : Heap) (R : Ending → Heap → Prop) : Prop :=
  nilD n fun a =>
  ldSl H (Addr.add a 1) fun q qn qc =>
  L0 n c q qn qc ((qn : Nat) : Int) (0 : Int) H R
theorem calls {n : Option Addr} {c : Option Addr} {H : Heap} {R : Ending → Heap → Prop} (h : go n c H R) : CallsH Try.prog 52 ⟨[(.pointer n), (.pointer c)]⟩ H R :=
  callsH_of_den (an := an) (fuel := 100000) (X := go n c H R) (c := body) mixed fn (by kernel_rfl) (by kernel_rfl) (by kernel_rfl) ok (by kernel_rfl) h
end F52
/-! ### 53 "pub-stadtholder/impl.listed$1" -/
namespace F53
def an : Ann := { kinds := [], taus := [], pairs := [], lab := [] }
noncomputable def body : Code := (Try.f53.body).getD .skip
theorem fn : Try.prog.funcs[53]? = some Try.f53 := by kernel_rfl
theorem ok : codeOk an 19 body = true := by kernel_rfl
def go (x_0 : Int) (x_1 : Int) (s1 : Addr) (s2 : Addr) (H : Heap) (R : Ending → Heap → Prop) : Prop :=
  newD H (.cells ⟨[(.int .i64 x_0), (.int .i64 x_1)]⟩ 25) fun r H1 =>
  ldSl H1 s1 fun q qn qc =>
  ldInt H1 ⟨r, 0, none⟩ .i64 fun n =>
  ldInt H1 ⟨r, 1, none⟩ .i64 fun n1 =>
  newD H1 (.cells ⟨[(.int .i64 n), (.int .i64 n1)]⟩ 25) fun r1 H2 =>
  apD H2 2 16 [(.int .i64 (0 : Int)), (.int .i64 (0 : Int))] 25 q qn qc (some ⟨r1, 0, none⟩) 1 fun q1 q1n q1c H3 =>
  st1 H3 s1 (.slice q1 q1n q1c) fun H4 =>
  ldInt H4 (Addr.add s2 6) .i64 fun n2 =>
  iteB (decide (n2 ≤ (0 : Int))) (
    R (.returned (.bool true)) H4) <|
  ldSl H4 s1 fun q2 q2n q2c =>
  ldInt H4 (Addr.add s2 6) .i64 fun n3 =>
  R (.returned (.bool (decide (((q2n : Nat) : Int) < n3)))) H4
theorem calls {x_0 : Int} {x_1 : Int} {s1 : Addr} {s2 : Addr} {H : Heap} {R : Ending → Heap → Prop} (h : go x_0 x_1 s1 s2 H R) : CallsH Try.prog 53 ⟨[(.agg ⟨[(.int .i64 x_0), (.int .i64 x_1)]⟩), (.pointer (some s1)), (.pointer (some s2))]⟩ H R :=
  callsH_of_den (an := an) (fuel := 100000) (X := go x_0 x_1 s1 s2 H R) (c := body) mixed fn (by kernel_rfl) (by kernel_rfl) (by kernel_rfl) ok (by kernel_rfl) h
end F53
/-! ### 54 "(*pub-stadtholder/pub/etcdserver/btree.BTree[pub-stadtholder/impl.El]).Ascend" -/
namespace F54
def an : Ann := { kinds := [(1004, .grow), (1005, .grow)], taus := [(1, [[0, 1, 2, 6, 3, 4, 5, 7]])], pairs := [], lab := [] }
noncomputable def body : Code := (Try.f54.body).getD .skip
theorem fn : Try.prog.funcs[54]? = some Try.f54 := by kernel_rfl
theorem ok : codeOk an 17 body = true := by kernel_rfl
def go (t : Option Addr) (iterator : FV) (H : Heap) (R : Ending → Heap → Prop) : Prop :=
  nilD t fun a =>
  ldPtr H (Addr.add a 2) fun p =>
  iteB (Option.isNone p) (
    R (.returned (.tuple ⟨[]⟩)) H) <|
  nilD t fun a1 =>
  ldPtr H (Addr.add a1 2) fun p1 =>
  callD Try.prog 73 [] H nope fun v H1 =>
  tAgg v fun l =>
  tCons l fun c l1 =>
  tInt c .i64 fun n =>
  tCons l1 fun c1 l2 =>
  tInt c1 .i64 fun n1 =>
  tCons l2 fun c2 l3 =>
  tBool c2 fun b =>
  tNil l3 <|
  andD (ExtH H H1) <|
  callD Try.prog 73 [] H1 nope fun v1 H2 =>
  tAgg v1 fun l4 =>
  tCons l4 fun c3 l5 =>
  tInt c3 .i64 fun n2 =>
  tCons l5 fun c4 l6 =>
  tInt c4 .i64 fun n3 =>
  tCons l6 fun c5 l7 =>
  tBool c5 fun b1 =>
  tNil l7 <|
  andD (ExtH H1 H2) <|
  callD Try.prog 72 [(.pointer p1), (.int .i64 (1 : Int)), (.agg ⟨[(.int .i64 n), (.int .i64 n1), (.bool b)]⟩), (.agg ⟨[(.int .i64 n2), (.int .i64 n3), (.bool b1)]⟩), (.bool false), (.bool false), (FV.v iterator)] H2 (panK R) fun v2 H3 =>
  tTup v2 fun l8 =>
  tCons l8 fun c6 l9 =>
  tBool c6 fun b2 =>
  tCons l9 fun c7 l10 =>
  tBool c7 fun b3 =>
  tNil l10 <|
  R (.returned (.tuple ⟨[]⟩)) H3
theorem calls {t : Option Addr} {iterator : FV} {H : Heap} {R : Ending → Heap → Prop} (h : go t iterator H R) : CallsH Try.prog 54 ⟨[(.pointer t), (FV.v iterator)]⟩ H R :=
  callsH_of_den (an := an) (fuel := 100000) (X := go t iterator H R) (c := body) mixed fn (by kernel_rfl) (by kernel_rfl) (by kernel_rfl) ok (by kernel_rfl) h
end F54
/-! ### 55 "(*pub-stadtholder/pub/etcdserver/btree.BTree[pub-stadtholder/impl.El]).AscendRange" -/
namespace F55
def an : Ann := { kinds := [(2005, .grow), (2007, .grow)], taus := [(2, [[0, 1, 2, 8, 3, 4, 6, 5, 7, 9]])], pairs := [], lab := [] }
noncomputable def body : Code := (Try.f55.body).getD .skip
theorem fn : Try.prog.funcs[55]? = some Try.f55 := by kernel_rfl
theorem ok : codeOk an 23 body = true := by kernel_rfl
def go (t : Option Addr) (greaterOrEqual_0 : Int) (greaterOrEqual_1 : Int) (lessThan_0 : Int) (lessThan_1 : Int) (iterator : FV) (H : Heap) (R : Ending → Heap → Prop) : Prop :=
  newD H (.cells ⟨[(.int .i64 greaterOrEqual_0), (.int .i64 greaterOrEqual_1)]⟩ 25) fun r H1 =>
  newD H1 (.cells ⟨[(.int .i64 lessThan_0), (.int .i64 lessThan_1)]⟩ 25) fun r1 H2 =>
  nilD t fun a =>
  ldPtr H2 (Addr.add a 2) fun p =>
  iteB (Option.isNone p) (
    R (.returned (.tuple ⟨[]⟩)) H2) <|
  nilD t fun a1 =>
  ldPtr H2 (Addr.add a1 2) fun p1 =>
  ldInt H2 ⟨r, 0, none⟩ .i64 fun n =>
  ldInt H2 ⟨r, 1, none⟩ .i64 fun n1 =>
  ldInt H2 ⟨r1, 0, none⟩ .i64 fun n2 =>
  ldInt H2 ⟨r1, 1, none⟩ .i64 fun n3 =>
  callD Try.prog 74 [(.agg ⟨[(.int .i64 n), (.int .i64 n1)]⟩)] H2 nope fun v H3 =>
  tAgg v fun l =>
  tCons l fun c l1 =>
  tInt c .i64 fun n4 =>
  tCons l1 fun c1 l2 =>
  tInt c1 .i64 fun n5 =>
  tCons l2 fun c2 l3 =>
  tBool c2 fun b =>
  tNil l3 <|
  andD (ExtH H2 H3) <|
  callD Try.prog 74 [(.agg ⟨[(.int .i64 n2), (.int .i64 n3)]⟩)] H3 nope fun v1 H4 =>
  tAgg v1 fun l4 =>
  tCons l4 fun c3 l5 =>
  tInt c3 .i64 fun n6 =>
  tCons l5 fun c4 l6 =>
  tInt c4 .i64 fun n7 =>
  tCons l6 fun c5 l7 =>
  tBool c5 fun b1 =>
  tNil l7 <|
  andD (ExtH H3 H4) <|
  callD Try.prog 72 [(.pointer p1), (.int .i64 (1 : Int)), (.agg ⟨[(.int .i64 n4), (.int .i64 n5), (.bool b)]⟩), (.agg ⟨[(.int .i64 n6), (.int .i64 n7), (.bool b1)]⟩), (.bool true), (.bool false), (FV.v iterator)] H4 (panK R) fun v2 H5 =>
  tTup v2 fun l8 =>
  tCons l8 fun c6 l9 =>
  tBool c6 fun b2 =>
  tCons l9 fun c7 l10 =>
  tBool c7 fun b3 =>
  tNil l10 <|
  R (.returned (.tuple ⟨[]⟩)) H5
theorem calls {t : Option Addr} {greaterOrEqual_0 : Int} {greaterOrEqual_1 : Int} {lessThan_0 : Int} {lessThan_1 : Int} {iterator : FV} {H : Heap} {R : Ending → Heap → Prop} (h : go t greaterOrEqual_0 greaterOrEqual_1 lessThan_0 lessThan_1 iterator H R) : CallsH Try.prog 55 ⟨[(.pointer t), (.agg ⟨[(.int .i64 greaterOrEqual_0), (.int .i64 greaterOrEqual_1)]⟩), (.agg ⟨[(.int .i64 lessThan_0), (.int .i64 lessThan_1)]⟩), (FV.v iterator)]⟩ H R :=
  callsH_of_den (an := an) (fuel := 100000) (X := go t greaterOrEqual_0 greaterOrEqual_1 lessThan_0 lessThan_1 iterator H R) (c := body) mixed fn (by kernel_rfl) (by kernel_rfl) (by kernel_rfl) ok (by kernel_rfl) h
end F55
/-! ### 56 "(*pub-stadtholder/pub/etcdserver/btree.BTree[pub-stadtholder/impl.El]).AscendLessThan" -/
namespace F56
def an : Ann := { kinds := [(2004, .grow), (2006, .grow)], taus := [(2, [[0, 1, 2, 7, 3, 5, 4, 6, 8]])], pairs := [], lab := [] }
noncomputable def body : Code := (Try.f56.body).getD .skip
theorem fn : Try.prog.funcs[56]? = some Try.f56 := by kernel_rfl
theorem ok : codeOk an 20 body = true := by kernel_rfl
def go (t : Option Addr) (pivot_0 : Int) (pivot_1 : Int) (iterator : FV) (H : Heap) (R : Ending → Heap → Prop) : Prop :=
  newD H (.cells ⟨[(.int .i64 pivot_0), (.int .i64 pivot_1)]⟩ 25) fun r H1 =>
  nilD t fun a =>
  ldPtr H1 (Addr.add a 2) fun p =>
  iteB (Option.isNone p) (
    R (.returned (.tuple ⟨[]⟩)) H1) <|
  nilD t fun a1 =>
  ldPtr H1 (Addr.add a1 2) fun p1 =>
  ldInt H1 ⟨r, 0, none⟩ .i64 fun n =>
  ldInt H1 ⟨r, 1, none⟩ .i64 fun n1 =>
  callD Try.prog 73 [] H1 nope fun v H2 =>
  tAgg v fun l =>
  tCons l fun c l1 =>
  tInt c .i64 fun n2 =>
  tCons l1 fun c1 l2 =>
  tInt c1 .i64 fun n3 =>
  tCons l2 fun c2 l3 =>
  tBool c2 fun b =>
  tNil l3 <|
  andD (ExtH H1 H2) <|
  callD Try.prog 74 [(.agg ⟨[(.int .i64 n), (.int .i64 n1)]⟩)] H2 nope fun v1 H3 =>
  tAgg v1 fun l4 =>
  tCons l4 fun c3 l5 =>
  tInt c3 .i64 fun n4 =>
  tCons l5 fun c4 l6 =>
  tInt c4 .i64 fun n5 =>
  tCons l6 fun c5 l7 =>
  tBool c5 fun b1 =>
  tNil l7 <|
  andD (ExtH H2 H3) <|
  callD Try.prog 72 [(.pointer p1), (.int .i64 (1 : Int)), (.agg ⟨[(.int .i64 n2), (.int .i64 n3), (.bool b)]⟩), (.agg ⟨[(.int .i64 n4), (.int .i64 n5), (.bool b1)]⟩), (.bool false), (.bool false), (FV.v iterator)] H3 (panK R) fun v2 H4 =>
  tTup v2 fun l8 =>
  tCons l8 fun c6 l9 =>
  tBool c6 fun b2 =>
  tCons l9 fun c7 l10 =>
  tBool c7 fun b3 =>
  tNil l10 <|
  R (.returned (.tuple ⟨[]⟩)) H4
theorem calls {t : Option Addr} {pivot_0 : Int} {pivot_1 : Int} {iterator : FV} {H : Heap} {R : Ending → Heap → Prop} (h : go t pivot_0 pivot_1 iterator H R) : CallsH Try.prog 56 ⟨[(.pointer t), (.agg ⟨[(.int .i64 pivot_0), (.int .i64 pivot_1)]⟩), (FV.v iterator)]⟩ H R :=
  callsH_of_den (an := an) (fuel := 100000) (X := go t pivot_0 pivot_1 iterator H R) (c := body) mixed fn (by kernel_rfl) (by kernel_rfl) (by kernel_rfl) ok (by kernel_rfl) h
end F56
/-! ### 57 "(*pub-stadtholder/pub/etcdserver/btree.BTree[pub-stadtholder/impl.El]).AscendGreaterOrEqual" -/
namespace F57
def an : Ann := { kinds := [(2005, .grow), (2006, .grow)], taus := [(2, [[0, 1, 2, 7, 3, 4, 5, 6, 8]])], pairs := [], lab := [] }
noncomputable def body : Code := (Try.f57.body).getD .skip
theorem fn : Try.prog.funcs[57]? = some Try.f57 := by kernel_rfl
theorem ok : codeOk an 20 body = true := by kernel_rfl
def go (t : Option Addr) (pivot_0 : Int) (pivot_1 : Int) (iterator : FV) (H : Heap) (R : Ending → Heap → Prop) : Prop :=
  newD H (.cells ⟨[(.int .i64 pivot_0), (.int .i64 pivot_1)]⟩ 25) fun r H1 =>
  nilD t fun a =>
  ldPtr H1 (Addr.add a 2) fun p =>
  iteB (Option.isNone p) (
    R (.returned (.tuple ⟨[]⟩)) H1) <|
  nilD t fun a1 =>
  ldPtr H1 (Addr.add a1 2) fun p1 =>
  ldInt H1 ⟨r, 0, none⟩ .i64 fun n =>
  ldInt H1 ⟨r, 1, none⟩ .i64 fun n1 =>
  callD Try.prog 74 [(.agg ⟨[(.int .i64 n), (.int .i64 n1)]⟩)] H1 nope fun v H2 =>
  tAgg v fun l =>
  tCons l fun c l1 =>
  tInt c .i64 fun n2 =>
  tCons l1 fun c1 l2 =>
  tInt c1 .i64 fun n3 =>
  tCons l2 fun c2 l3 =>
  tBool c2 fun b =>
  tNil l3 <|
  andD (ExtH H1 H2) <|
  callD Try.prog 73 [] H2 nope fun v1 H3 =>
  tAgg v1 fun l4 =>
  tCons l4 fun c3 l5 =>
  tInt c3 .i64 fun n4 =>
  tCons l5 fun c4 l6 =>
  tInt c4 .i64 fun n5 =>
  tCons l6 fun c5 l7 =>
  tBool c5 fun b1 =>
  tNil l7 <|
  andD (ExtH H2 H3) <|
  callD Try.prog 72 [(.pointer p1), (.int .i64 (1 : Int)), (.agg ⟨[(.int .i64 n2), (.int .i64 n3), (.bool b)]⟩), (.agg ⟨[(.int .i64 n4), (.int .i64 n5), (.bool b1)]⟩), (.bool true), (.bool false), (FV.v iterator)] H3 (panK R) fun v2 H4 =>
  tTup v2 fun l8 =>
  tCons l8 fun c6 l9 =>
  tBool c6 fun b2 =>
  tCons l9 fun c7 l10 =>
  tBool c7 fun b3 =>
  tNil l10 <|
  R (.returned (.tuple ⟨[]⟩)) H4
theorem calls {t : Option Addr} {pivot_0 : Int} {pivot_1 : Int} {iterator : FV} {H : Heap} {R : Ending → Heap → Prop} (h : go t pivot_0 pivot_1 iterator H R) : CallsH Try.prog 57 ⟨[(.pointer t), (.agg ⟨[(.int .i64 pivot_0), (.int .i64 pivot_1)]⟩), (FV.v iterator)]⟩ H R :=
  callsH_of_den (an := an) (fuel := 100000) (X := go t pivot_0 pivot_1 iterator H R) (c := body) mixed fn (by kernel_rfl) (by kernel_rfl) (by kernel_rfl) ok (by kernel_rfl) h
end F57
/-! ### 58 "(*pub-stadtholder/pub/etcdserver/btree.BTree[pub-stadtholder/impl.El]).Descend" -/
namespace F58
def an : Ann := { kinds := [(1004, .grow), (1005, .grow)], taus := [(1, [[0, 1, 2, 6, 3, 4, 5, 7]])], pairs := [], lab := [] }
noncomputable def body : Code := (Try.f58.body).getD .skip
theorem fn : Try.prog.funcs[58]? = some Try.f58 := by kernel_rfl
theorem ok : codeOk an 17 body = true := by kernel_rfl
def go (t : Option Addr) (iterator : FV) (H : Heap) (R : Ending → Heap → Prop) : Prop :=
  nilD t fun a =>
  ldPtr H (Addr.add a 2) fun p =>
  iteB (Option.isNone p) (
    R (.returned (.tuple ⟨[]⟩)) H) <|
  nilD t fun a1 =>
  ldPtr H (Addr.add a1 2) fun p1 =>
  callD Try.prog 73 [] H nope fun v H1 =>
  tAgg v fun l =>
  tCons l fun c l1 =>
  tInt c .i64 fun n =>
  tCons l1 fun c1 l2 =>
  tInt c1 .i64 fun n1 =>
  tCons l2 fun c2 l3 =>
  tBool c2 fun b =>
  tNil l3 <|
  andD (ExtH H H1) <|
  callD Try.prog 73 [] H1 nope fun v1 H2 =>
  tAgg v1 fun l4 =>
  tCons l4 fun c3 l5 =>
  tInt c3 .i64 fun n2 =>
  tCons l5 fun c4 l6 =>
  tInt c4 .i64 fun n3 =>
  tCons l6 fun c5 l7 =>
  tBool c5 fun b1 =>
  tNil l7 <|
  andD (ExtH H1 H2) <|
  callD Try.prog 72 [(.pointer p1), (.int .i64 (-1 : Int)), (.agg ⟨[(.int .i64 n), (.int .i64 n1), (.bool b)]⟩), (.agg ⟨[(.int .i64 n2), (.int .i64 n3), (.bool b1)]⟩), (.bool false), (.bool false), (FV.v iterator)] H2 (panK R) fun v2 H3 =>
  tTup v2 fun l8 =>
  tCons l8 fun c6 l9 =>
  tBool c6 fun b2 =>
  tCons l9 fun c7 l10 =>
  tBool c7 fun b3 =>
  tNil l10 <|
  R (.returned (.tuple ⟨[]⟩)) H3
theorem calls {t : Option Addr} {iterator : FV} {H : Heap} {R : Ending → Heap → Prop} (h : go t iterator H R) : CallsH Try.prog 58 ⟨[(.pointer t), (FV.v iterator)]⟩ H R :=
  callsH_of_den (an := an) (fuel := 100000) (X := go t iterator H R) (c := body) mixed fn (by kernel_rfl) (by kernel_rfl) (by kernel_rfl) ok (by kernel_rfl) h
end F58
/-! ### 59 "(*pub-stadtholder/pub/etcdserver/btree.BTree[pub-stadtholder/impl.El]).DescendRange" -/
namespace F59
def an : Ann := { kinds := [(2005, .grow), (2007, .grow)], taus := [(2, [[0, 1, 2, 8, 3, 4, 6, 5, 7, 9]])], pairs := [], lab := [] }
noncomputable def body : Code := (Try.f59.body).getD .skip
theorem fn : Try.prog.funcs[59]? = some Try.f59 := by kernel_rfl
theorem ok : codeOk an 23 body = true := by kernel_rfl
def go (t : Option Addr) (lessOrEqual_0 : Int) (lessOrEqual_1 : Int) (greaterThan_0 : Int) (greaterThan_1 : Int) (iterator : FV) (H : Heap) (R : Ending → Heap → Prop) : Prop :=
  newD H (.cells ⟨[(.int .i64 lessOrEqual_0), (.int .i64 lessOrEqual_1)]⟩ 25) fun r H1 =>
  newD H1 (.cells ⟨[(.int .i64 greaterThan_0), (.int .i64 greaterThan_1)]⟩ 25) fun r1 H2 =>
  nilD t fun a =>
  ldPtr H2 (Addr.add a 2) fun p =>
  iteB (Option.isNone p) (
    R (.returned (.tuple ⟨[]⟩)) H2) <|
  nilD t fun a1 =>
  ldPtr H2 (Addr.add a1 2) fun p1 =>
  ldInt H2 ⟨r, 0, none⟩ .i64 fun n =>
  ldInt H2 ⟨r, 1, none⟩ .i64 fun n1 =>
  ldInt H2 ⟨r1, 0, none⟩ .i64 fun n2 =>
  ldInt H2 ⟨r1, 1, none⟩ .i64 fun n3 =>
  callD Try.prog 74 [(.agg ⟨[(.int .i64 n), (.int .i64 n1)]⟩)] H2 nope fun v H3 =>
  tAgg v fun l =>
  tCons l fun c l1 =>
  tInt c .i64 fun n4 =>
  tCons l1 fun c1 l2 =>
  tInt c1 .i64 fun n5 =>
  tCons l2 fun c2 l3 =>
  tBool c2 fun b =>
  tNil l3 <|
  andD (ExtH H2 H3) <|
  callD Try.prog 74 [(.agg ⟨[(.int .i64 n2), (.int .i64 n3)]⟩)] H3 nope fun v1 H4 =>
  tAgg v1 fun l4 =>
  tCons l4 fun c3 l5 =>
  tInt c3 .i64 fun n6 =>
  tCons l5 fun c4 l6 =>
  tInt c4 .i64 fun n7 =>
  tCons l6 fun c5 l7 =>
  tBool c5 fun b1 =>
  tNil l7 <|
  andD (ExtH H3 H4) <|
  callD Try.prog 72 [(.pointer p1), (.int .i64 (-1 : Int)), (.agg ⟨[(.int .i64 n4), (.int .i64 n5), (.bool b)]⟩), (.agg ⟨[(.int .i64 n6), (.int .i64 n7), (.bool b1)]⟩), (.bool true), (.bool false), (FV.v iterator)] H4 (panK R) fun v2 H5 =>
  tTup v2 fun l8 =>
  tCons l8 fun c6 l9 =>
  tBool c6 fun b2 =>
  tCons l9 fun c7 l10 =>
  tBool c7 fun b3 =>
  tNil l10 <|
  R (.returned (.tuple ⟨[]⟩)) H5
theorem calls {t : Option Addr} {lessOrEqual_0 : Int} {lessOrEqual_1 : Int} {greaterThan_0 : Int} {greaterThan_1 : Int} {iterator : FV} {H : Heap} {R : Ending → Heap → Prop} (h : go t lessOrEqual_0 lessOrEqual_1 greaterThan_0 greaterThan_1 iterator H R) : CallsH Try.prog 59 ⟨[(.pointer t), (.agg ⟨[(.int .i64 lessOrEqual_0), (.int .i64 lessOrEqual_1)]⟩), (.agg ⟨[(.int .i64 greaterThan_0), (.int .i64 greaterThan_1)]⟩), (FV.v iterator)]⟩ H R :=
  callsH_of_den (an := an) (fuel := 100000) (X := go t lessOrEqual_0 lessOrEqual_1 greaterThan_0 greaterThan_1 iterator H R) (c := body) mixed fn (by kernel_rfl) (by kernel_rfl) (by kernel_rfl) ok (by kernel_rfl) h
end F59
/-! ### 60 "(*pub-stadtholder/pub/etcdserver/btree.BTree[pub-stadtholder/impl.El]).DescendLessOrEqual" -/
namespace F60
def an : Ann := { kinds := [(2005, .grow), (2006, .grow)], taus := [(2, [[0, 1, 2, 7, 3, 4, 5, 6, 8]])], pairs := [], lab := [] }
noncomputable def body : Code := (Try.f60.body).getD .skip
theorem fn : Try.prog.funcs[60]? = some Try.f60 := by kernel_rfl
theorem ok : codeOk an 20 body = true := by kernel_rfl
def go (t : Option Addr) (pivot_0 : Int) (pivot_1 : Int) (iterator : FV) (H : Heap) (R : Ending → Heap → Prop) : Prop :=
  newD H (.cells ⟨[(.int .i64 pivot_0), (.int .i64 pivot_1)]⟩ 25) fun r H1 =>
  nilD t fun a =>
  ldPtr H1 (Addr.add a 2) fun p =>
  iteB (Option.isNone p) (
    R (.returned (.tuple ⟨[]⟩)) H1) <|
  nilD t fun a1 =>
  ldPtr H1 (Addr.add a1 2) fun p1 =>
  ldInt H1 ⟨r, 0, none⟩ .i64 fun n =>
  ldInt H1 ⟨r, 1, none⟩ .i64 fun n1 =>
  callD Try.prog 74 [(.agg ⟨[(.int .i64 n), (.int .i64 n1)]⟩)] H1 nope fun v H2 =>
  tAgg v fun l =>
  tCons l fun c l1 =>
  tInt c .i64 fun n2 =>
  tCons l1 fun c1 l2 =>
  tInt c1 .i64 fun n3 =>
  tCons l2 fun c2 l3 =>
  tBool c2 fun b =>
  tNil l3 <|
  andD (ExtH H1 H2) <|
  callD Try.prog 73 [] H2 nope fun v1 H3 =>
  tAgg v1 fun l4 =>
  tCons l4 fun c3 l5 =>
  tInt c3 .i64 fun n4 =>
  tCons l5 fun c4 l6 =>
  tInt c4 .i64 fun n5 =>
  tCons l6 fun c5 l7 =>
  tBool c5 fun b1 =>
  tNil l7 <|
  andD (ExtH H2 H3) <|
  callD Try.prog 72 [(.pointer p1), (.int .i64 (-1 : Int)), (.agg ⟨[(.int .i64 n2), (.int .i64 n3), (.bool b)]⟩), (.agg ⟨[(.int .i64 n4), (.int .i64 n5), (.bool b1)]⟩), (.bool true), (.bool false), (FV.v iterator)] H3 (panK R) fun v2 H4 =>
  tTup v2 fun l8 =>
  tCons l8 fun c6 l9 =>
  tBool c6 fun b2 =>
  tCons l9 fun c7 l10 =>
  tBool c7 fun b3 =>
  tNil l10 <|
  R (.returned (.tuple ⟨[]⟩)) H4
theorem calls {t : Option Addr} {pivot_0 : Int} {pivot_1 : Int} {iterator : FV} {H : Heap} {R : Ending → Heap → Prop} (h : go t pivot_0 pivot_1 iterator H R) : CallsH Try.prog 60 ⟨[(.pointer t), (.agg ⟨[(.int .i64 pivot_0), (.int .i64 pivot_1)]⟩), (FV.v iterator)]⟩ H R :=
  callsH_of_den (an := an) (fuel := 100000) (X := go t pivot_0 pivot_1 iterator H R) (c := body) mixed fn (by kernel_rfl) (by kernel_rfl) (by kernel_rfl) ok (by kernel_rfl) h
end F60
/-! ### 61 "(*pub-stadtholder/pub/etcdserver/btree.BTree[pub-stadtholder/impl.El]).DescendGreaterThan" -/
namespace F61
def an : Ann := { kinds := [(2004, .grow), (2006, .grow)], taus := [(2, [[0, 1, 2, 7, 3, 5, 4, 6, 8]])], pairs := [], lab := [] }
noncomputable def body : Code := (Try.f61.body).getD .skip
theorem fn : Try.prog.funcs[61]? = some Try.f61 := by kernel_rfl
theorem ok : codeOk an 20 body = true := by kernel_rfl
def go (t : Option Addr) (pivot_0 : Int) (pivot_1 : Int) (iterator : FV) (H : Heap) (R : Ending → Heap → Prop) : Prop :=
  newD H (.cells ⟨[(.int .i64 pivot_0), (.int .i64 pivot_1)]⟩ 25) fun r H1 =>
  nilD t fun a =>
  ldPtr H1 (Addr.add a 2) fun p =>
  iteB (Option.isNone p) (
    R (.returned (.tuple ⟨[]⟩)) H1) <|
  nilD t fun a1 =>
  ldPtr H1 (Addr.add a1 2) fun p1 =>
  ldInt H1 ⟨r, 0, none⟩ .i64 fun n =>
  ldInt H1 ⟨r, 1, none⟩ .i64 fun n1 =>
  callD Try.prog 73 [] H1 nope fun v H2 =>
  tAgg v fun l =>
  tCons l fun c l1 =>
  tInt c .i64 fun n2 =>
  tCons l1 fun c1 l2 =>
  tInt c1 .i64 fun n3 =>
  tCons l2 fun c2 l3 =>
  tBool c2 fun b =>
  tNil l3 <|
  andD (ExtH H1 H2) <|
  callD Try.prog 74 [(.agg ⟨[(.int .i64 n), (.int .i64 n1)]⟩)] H2 nope fun v1 H3 =>
  tAgg v1 fun l4 =>
  tCons l4 fun c3 l5 =>
  tInt c3 .i64 fun n4 =>
  tCons l5 fun c4 l6 =>
  tInt c4 .i64 fun n5 =>
  tCons l6 fun c5 l7 =>
  tBool c5 fun b1 =>
  tNil l7 <|
  andD (ExtH H2 H3) <|
  callD Try.prog 72 [(.pointer p1), (.int .i64 (-1 : Int)), (.agg ⟨[(.int .i64 n2), (.int .i64 n3), (.bool b)]⟩), (.agg ⟨[(.int .i64 n4), (.int .i64 n5), (.bool b1)]⟩), (.bool false), (.bool false), (FV.v iterator)] H3 (panK R) fun v2 H4 =>
  tTup v2 fun l8 =>
  tCons l8 fun c6 l9 =>
  tBool c6 fun b2 =>
  tCons l9 fun c7 l10 =>
  tBool c7 fun b3 =>
  tNil l10 <|
  R (.returned (.tuple ⟨[]⟩)) H4
theorem calls {t : Option Addr} {pivot_0 : Int} {pivot_1 : Int} {iterator : FV} {H : Heap} {R : Ending → Heap → Prop} (h : go t pivot_0 pivot_1 iterator H R) : CallsH Try.prog 61 ⟨[(.pointer t), (.agg ⟨[(.int .i64 pivot_0), (.int .i64 pivot_1)]⟩), (FV.v iterator)]⟩ H R :=
  callsH_of_den (an := an) (fuel := 100000) (X := go t pivot_0 pivot_1 iterator H R) (c := body) mixed fn (by kernel_rfl) (by kernel_rfl) (by kernel_rfl) ok (by kernel_rfl) h
end F61
/-! ### 62 "(*pub-stadtholder/pub/etcdserver/btree.FreeList[pub-stadtholder/impl.El]).newNode" -/
namespace F62
def an : Ann := { kinds := [(1002, .read), (4002, .read), (9002, .read)], taus := [], pairs := [], lab := [] }
noncomputable def body : Code := (Try.f62.body).getD .skip
theorem fn : Try.prog.funcs[62]? = some Try.f62 := by kernel_rfl
theorem ok : codeOk an 47 body = true := by kernel_rfl
def go (f : Option Addr) (H : Heap) (R : Ending → Heap → Prop) : Prop :=
  nilD f fun a =>
  zfD Try.prog H 89 0 (.pointer (some a)) fun a1 =>
  callD Try.prog 75 [(.pointer (some a1))] H (panK R) fun v H1 =>
  tTup v fun l =>
  tNil l <|
  nilD f fun a2 =>
  ldSl H1 a2 fun q qn qc =>
  iteB (decide ((IntKind.wrap .i64 (((qn : Nat) : Int) - (1 : Int))) < (0 : Int))) (
    nilD f fun a3 =>
    zfD Try.prog H1 89 0 (.pointer (some a3)) fun a4 =>
    callD Try.prog 76 [(.pointer (some a4))] H1 (panK R) fun v1 H2 =>
    tTup v1 fun l1 =>
    tNil l1 <|
    newD H2 (.cells ⟨[(.slice none 0 0), (.slice none 0 0), (.pointer none)]⟩ 94) fun r H3 =>
    R (.returned (.pointer (some ⟨r, 0, none⟩))) H3) <|
  nilD f fun a5 =>
  ldSl H1 a5 fun q1 q1n q1c =>
  idxD q1 q1n (IntKind.wrap .i64 (((qn : Nat) : Int) - (1 : Int))) fun a6 =>
  ldPtr H1 (Addr.add a6 (Int.toNat (IntKind.wrap .i64 (((qn : Nat) : Int) - (1 : Int))) * 1)) fun p =>
  nilD f fun a7 =>
  ldSl H1 a7 fun q2 q2n q2c =>
  idxD q2 q2n (IntKind.wrap .i64 (((qn : Nat) : Int) - (1 : Int))) fun a8 =>
  st1 H1 (Addr.add a8 (Int.toNat (IntKind.wrap .i64 (((qn : Nat) : Int) - (1 : Int))) * 1)) (.pointer none) fun H4 =>
  nilD f fun a9 =>
  ldSl H4 a9 fun q3 q3n q3c =>
  bndD (IntKind.wrap .i64 (((qn : Nat) : Int) - (1 : Int))) q3c fun k =>
  nilD f fun a10 =>
  st1 H4 a10 (.slice (slP q3 0 q3c 1) k q3c) fun H5 =>
  nilD f fun a11 =>
  zfD Try.prog H5 89 0 (.pointer (some a11)) fun a12 =>
  callD Try.prog 76 [(.pointer (some a12))] H5 (panK R) fun v2 H6 =>
  tTup v2 fun l2 =>
  tNil l2 <|
  R (.returned (.pointer p)) H6
theorem calls {f : Option Addr} {H : Heap} {R : Ending → Heap → Prop} (h : go f H R) : CallsH Try.prog 62 ⟨[(.pointer f)]⟩ H R :=
  callsH_of_den (an := an) (fuel := 100000) (X := go f H R) (c := body) mixed fn (by kernel_rfl) (by kernel_rfl) (by kernel_rfl) ok (by kernel_rfl) h
end F62
/-! ### 63 "(*pub-stadtholder/pub/etcdserver/btree.items[pub-stadtholder/impl.El]).truncate" -/
namespace F63
def an : Ann := { kinds := [], taus := [(1, [[0, 1, 2, 4, 6, 7, 9, 3, 5, 8, 10, 11, 12, 13]])], pairs := [], lab := [(30000005, [4, 5, 6])] }
noncomputable def body : Code := (Try.f63.body).getD .skip
theorem fn : Try.prog.funcs[63]? = some Try.f63 := by kernel_rfl
theorem ok : codeOk an 29 body = true := by kernel_rfl
noncomputable def L0t : List Item := [.code (sub [1, 1, 1, 1, 0, 0] body), .inLoop (sub [1, 1, 1, 1, 0, 0] body), .inBlock 0]
def L0 (toClear : Option Addr) (toClearn : Nat) (toClearc : Nat) (zero_ : Nat) (i : Int) (H : Heap) (R : Ending → Heap → Prop) : Prop :=
  GoL Try.prog 63 29 L0t [4, 5, 6] [(.slice toClear toClearn toClearc), (.pointer (some ⟨zero_, 0, none⟩)), (.int .i64 i)] H R
def L0n (toClear : Option Addr) (toClearn : Nat) (toClearc : Nat) (zero_ : Nat) (i : Int) (H : Heap) (R : Ending → Heap → Prop) : Prop :=
  iteB (decide (i < ((toClearn : Nat) : Int))) (
    ldInt H ⟨zero_, 0, none⟩ .i64 fun n =>
    ldInt H ⟨zero_, 1, none⟩ .i64 fun n1 =>
    idxD toClear toClearn i fun a =>
    st1 H (Addr.add a (Int.toNat i * 2)) (.int .i64 n) fun H1 =>
    st1 H1 (Addr.add (Addr.add a (Int.toNat i * 2)) 1) (.int .i64 n1) fun H2 =>
    L0 toClear toClearn toClearc zero_ (IntKind.wrap .i64 (i + (1 : Int))) H2 R) <|
  R (.returned (.tuple ⟨[]⟩)) H
theorem L0_step {toClear : Option Addr} {toClearn : Nat} {toClearc : Nat} {zero_ : Nat} {i : Int} {H : Heap} {R : Ending → Heap → Prop} (h : L0n toClear toClearn toClearc zero_ i H R) : L0 toClear toClearn toClearc zero_ i H R :=
  goL_of_den (an := an) (fuel := 100000) (X := L0n toClear toClearn toClearc zero_ i H R) mixed fn (by kernel_rfl) (fun ρ0 => by kernel_rfl) h
def go (s : Option Addr) (index : Int) (H : Heap) (R : Ending → Heap → Prop) : Prop :=
  nilD s fun a =>
  nilD s fun a1 =>
  ldSl H a fun q qn qc =>
  bndD index qc fun k =>
  ldSl H a1 fun q1 q1n q1c =>
  bndD index q1n fun k1 =>
  nilD s fun a2 =>
  st1 H a2 (.slice (slP q 0 qc 2) k qc) fun H1 =>
  newD H1 (.cells ⟨[(.int .i64 (0 : Int)), (.int .i64 (0 : Int))]⟩ 25) fun r H2 =>
  L0 (slP q1 k1 q1c 2) (q1n - k1) (q1c - k1) r (0 : Int) H2 R
theorem calls {s : Option Addr} {index : Int} {H : Heap} {R : Ending → Heap → Prop} (h : go s index H R) : CallsH Try.prog 63 ⟨[(.pointer s), (.int .i64 index)]⟩ H R :=
  callsH_of_den (an := an) (fuel := 100000) (X := go s index H R) (c := body) mixed fn (by kernel_rfl) (by kernel_rfl) (by kernel_rfl) ok (by kernel_rfl) h
end F63
/-! ### 64 "(*pub-stadtholder/pub/etcdserver/btree.items[*pub-stadtholder/pub/etcdserver/btree.node[pub-stadtholder/impl.El]]).truncate" -/
namespace F64
def an : Ann := { kinds := [], taus := [(1, [[0, 1, 2, 4, 6, 7, 9, 3, 5, 8, 10, 11, 12, 13]])], pairs := [], lab := [(30000005, [4, 5, 6])] }
noncomputable def body : Code := (Try.f64.body).getD .skip
theorem fn : Try.prog.funcs[64]? = some Try.f64 := by kernel_rfl
theorem ok : codeOk an 29 body = true := by kernel_rfl
noncomputable def L0t : List Item := [.code (sub [1, 1, 1, 1, 0, 0] body), .inLoop (sub [1, 1, 1, 1, 0, 0] body), .inBlock 0]
def L0 (toClear : Option Addr) (toClearn : Nat) (toClearc : Nat) (zero_ : Option Addr) (i : Int) (H : Heap) (R : Ending → Heap → Prop) : Prop :=
  GoL Try.prog 64 29 L0t [4, 5, 6] [(.slice toClear toClearn toClearc), (.pointer zero_), (.int .i64 i)] H R
def L0n (toClear : Option Addr) (toClearn : Nat) (toClearc : Nat) (zero_ : Option Addr) (i : Int) (H : Heap) (R : Ending → Heap → Prop) : Prop :=
  iteB (decide (i < ((toClearn : Nat) : Int))) (
    idxD toClear toClearn i fun a =>
    st1 H (Addr.add a (Int.toNat i * 1)) (.pointer zero_) fun H1 =>
    L0 toClear toClearn toClearc zero_ (IntKind.wrap .i64 (i + (1 : Int))) H1 R) <|
  R (.returned (.tuple ⟨[]⟩)) H
theorem L0_step {toClear : Option Addr} {toClearn : Nat} {toClearc : Nat} {zero_ : Option Addr} {i : Int} {H : Heap} {R : Ending → Heap → Prop} (h : L0n toClear toClearn toClearc zero_ i H R) : L0 toClear toClearn toClearc zero_ i H R :=
  goL_of_den (an := an) (fuel := 100000) (X := L0n toClear toClearn toClearc zero_ i H R) mixed fn (by kernel_rfl) (fun ρ0 => by kernel_rfl) h
def go (s : Option Addr) (index : Int) (H : Heap) (R : Ending → Heap → Prop) : Prop :=
  nilD s fun a =>
  nilD s fun a1 =>
  ldSl H a fun q qn qc =>
  bndD index qc fun k =>
  ldSl H a1 fun q1 q1n q1c =>
  bndD index q1n fun k1 =>
  nilD s fun a2 =>
  st1 H a2 (.slice (slP q 0 qc 1) k qc) fun H1 =>
  L0 (slP q1 k1 q1c 1) (q1n - k1) (q1c - k1) none (0 : Int) H1 R
theorem calls {s : Option Addr} {index : Int} {H : Heap} {R : Ending → Heap → Prop} (h : go s index H R) : CallsH Try.prog 64 ⟨[(.pointer s), (.int .i64 index)]⟩ H R :=
  callsH_of_den (an := an) (fuel := 100000) (X := go s index H R) (c := body) mixed fn (by kernel_rfl) (by kernel_rfl) (by kernel_rfl) ok (by kernel_rfl) h
end F64
/-! ### 65 "(pub-stadtholder/pub/etcdserver/btree.items[pub-stadtholder/impl.El]).find" -/
namespace F65
def an : Ann := { kinds := [], taus := [(2, [[0, 1, 2, 5, 6, 3, 4, 7, 8, 9, 10, 11, 12]])], pairs := [], lab := [] }
noncomputable def body : Code := (Try.f65.body).getD .skip
theorem fn : Try.prog.funcs[65]? = some Try.f65 := by kernel_rfl
theorem ok : codeOk an 29 body = true := by kernel_rfl
def go (s : Option Addr) (sn : Nat) (sc : Nat) (item_0 : Int) (item_1 : Int) (less : FV) (H : Heap) (R : Ending → Heap → Prop) : Prop :=
  newD H (.cells ⟨[(.slice s sn sc)]⟩ 91) fun r H1 =>
  newD H1 (.cells ⟨[(.int .i64 item_0), (.int .i64 item_1)]⟩ 25) fun r1 H2 =>
  guardB (isCell (FV.v less)) <|
  newD H2 (.cells ⟨[(FV.v less)]⟩ 55) fun r2 H3 =>
  ldSl H3 ⟨r, 0, none⟩ fun q qn qc =>
  callD Try.prog 77 [(.int .i64 ((qn : Nat) : Int)), (.func (.func 78) ⟨[]⟩ ⟨[(.pointer (some ⟨r2, 0, none⟩)), (.pointer (some ⟨r1, 0, none⟩)), (.pointer (some ⟨r, 0, none⟩))]⟩)] H3 (panK R) fun v H4 =>
  tInt v .i64 fun n =>
  iteB (decide (n > (0 : Int))) (
    ldFn H4 ⟨r2, 0, none⟩ fun f =>
    ldSl H4 ⟨r, 0, none⟩ fun q1 q1n q1c =>
    idxD q1 q1n (IntKind.wrap .i64 (n - (1 : Int))) fun a =>
    ldInt H4 (Addr.add a (Int.toNat (IntKind.wrap .i64 (n - (1 : Int))) * 2)) .i64 fun n1 =>
    ldInt H4 (Addr.add (Addr.add a (Int.toNat (IntKind.wrap .i64 (n - (1 : Int))) * 2)) 1) .i64 fun n2 =>
    ldInt H4 ⟨r1, 0, none⟩ .i64 fun n3 =>
    ldInt H4 ⟨r1, 1, none⟩ .i64 fun n4 =>
    callV Try.prog (FV.v f) [(.agg ⟨[(.int .i64 n1), (.int .i64 n2)]⟩), (.agg ⟨[(.int .i64 n3), (.int .i64 n4)]⟩)] H4 (panK R) fun v1 H5 =>
    tBool v1 fun b =>
    iteB (!b) (
      R (.returned (.tuple ⟨[(.int .i64 (IntKind.wrap .i64 (n - (1 : Int)))), (.bool true)]⟩)) H5) <|
    R (.returned (.tuple ⟨[(.int .i64 n), (.bool false)]⟩)) H5) <|
  R (.returned (.tuple ⟨[(.int .i64 n), (.bool false)]⟩)) H4
theorem calls {s : Option Addr} {sn : Nat} {sc : Nat} {item_0 : Int} {item_1 : Int} {less : FV} {H : Heap} {R : Ending → Heap → Prop} (h : go s sn sc item_0 item_1 less H R) : CallsH Try.prog 65 ⟨[(.slice s sn sc), (.agg ⟨[(.int .i64 item_0), (.int .i64 item_1)]⟩), (FV.v less)]⟩ H R :=
  callsH_of_den (an := an) (fuel := 100000) (X := go s sn sc item_0 item_1 less H R) (c := body) mixed fn (by kernel_rfl) (by kernel_rfl) (by kernel_rfl) ok (by kernel_rfl) h
end F65
/-! ### 66 "(*pub-stadtholder/pub/etcdserver/btree.items[pub-stadtholder/impl.El]).insertAt" -/
namespace F66
def an : Ann := { kinds := [(2005, .grow)], taus := [(2, [[0, 1, 2, 3, 4, 5, 6, 7, 8]]), (4, [[0, 1, 3, 4, 6, 7, 9, 2, 5, 8, 10, 11]]), (5, [[0, 1, 3, 2, 4, 5, 6]])], pairs := [], lab := [(10000006, [0, 1, 5])] }
noncomputable def body : Code := (Try.f66.body).getD .skip
theorem fn : Try.prog.funcs[66]? = some Try.f66 := by kernel_rfl
theorem ok : codeOk an 39 body = true := by kernel_rfl
noncomputable def L0t : List Item := [.code (sub [1, 1, 1, 1] body)]
def L0 (s : Option Addr) (index : Int) (item : Nat) (H : Heap) (R : Ending → Heap → Prop) : Prop :=
  GoL Try.prog 66 39 L0t [0, 1, 5] [(.pointer s), (.int .i64 index), (.pointer (some ⟨item, 0, none⟩))] H R
def L0n (s : Option Addr) (index : Int) (item : Nat) (H : Heap) (R : Ending → Heap → Prop) : Prop :=
  nilD s fun a =>
  ldSl H a fun q qn qc =>
  ldInt H ⟨item, 0, none⟩ .i64 fun n =>
  ldInt H ⟨item, 1, none⟩ .i64 fun n1 =>
  idxD q qn index fun a1 =>
  st1 H (Addr.add a1 (Int.toNat index * 2)) (.int .i64 n) fun H1 =>
  st1 H1 (Addr.add (Addr.add a1 (Int.toNat index * 2)) 1) (.int .i64 n1) fun H2 =>
  R (.returned (.tuple ⟨[]⟩)) H2
theorem L0_step {s : Option Addr} {index : Int} {item : Nat} {H : Heap} {R : Ending → Heap → Prop} (h : L0n s index item H R) : L0 s index item H R :=
  goL_of_den (an := an) (fuel := 100000) (X := L0n s index item H R) mixed fn (by kernel_rfl) (fun ρ0 => by kernel_rfl) h
def go (s : Option Addr) (index : Int) (item_0 : Int) (item_1 : Int) (H : Heap) (R : Ending → Heap → Prop) : Prop :=
  newD H (.cells ⟨[(.int .i64 item_0), (.int .i64 item_1)]⟩ 25) fun r H1 =>
  newD H1 (.cells ⟨[(.int .i64 (0 : Int)), (.int .i64 (0 : Int))]⟩ 25) fun r1 H2 =>
  nilD s fun a =>
  ldSl H2 a fun q qn qc =>
  ldInt H2 ⟨r1, 0, none⟩ .i64 fun n =>
  ldInt H2 ⟨r1, 1, none⟩ .i64 fun n1 =>
  newD H2 (.cells ⟨[(.int .i64 n), (.int .i64 n1)]⟩ 25) fun r2 H3 =>
  apD H3 2 16 [(.int .i64 (0 : Int)), (.int .i64 (0 : Int))] 25 q qn qc (some ⟨r2, 0, none⟩) 1 fun q1 q1n q1c H4 =>
  nilD s fun a1 =>
  st1 H4 a1 (.slice q1 q1n q1c) fun H5 =>
  nilD s fun a2 =>
  ldSl H5 a2 fun q2 q2n q2c =>
  iteB (decide (index < ((q2n : Nat) : Int))) (
    nilD s fun a3 =>
    nilD s fun a4 =>
    ldSl H5 a3 fun q3 q3n q3c =>
    bndD (IntKind.wrap .i64 (index + (1 : Int))) q3n fun k =>
    ldSl H5 a4 fun q4 q4n q4c =>
    bndD index q4n fun k1 =>
    cpD H5 2 (slP q3 k q3c 2) (q3n - k) (slP q4 k1 q4c 2) (q4n - k1) fun k2 H6 =>
    L0 s index r H6 R) <|
  L0 s index r H5 R
theorem calls {s : Option Addr} {index : Int} {item_0 : Int} {item_1 : Int} {H : Heap} {R : Ending → Heap → Prop} (h : go s index item_0 item_1 H R) : CallsH Try.prog 66 ⟨[(.pointer s), (.int .i64 index), (.agg ⟨[(.int .i64 item_0), (.int .i64 item_1)]⟩)]⟩ H R :=
  callsH_of_den (an := an) (fuel := 100000) (X := go s index item_0 item_1 H R) (c := body) mixed fn (by kernel_rfl) (by kernel_rfl) (by kernel_rfl) ok (by kernel_rfl) h
end F66
/-! ### 67 "(*pub-stadtholder/pub/etcdserver/btree.node[pub-stadtholder/impl.El]).maybeSplitChild" -/
namespace F67
def an : Ann := { kinds := [], taus := [(5, [[0, 1, 2, 3, 4, 5]])], pairs := [], lab := [] }
noncomputable def body : Code := (Try.f67.body).getD .skip
theorem fn : Try.prog.funcs[67]? = some Try.f67 := by kernel_rfl
theorem ok : codeOk an 46 body = true := by kernel_rfl
def go (n : Option Addr) (i : Int) (maxItems : Int) (H : Heap) (R : Ending → Heap → Prop) : Prop :=
  nilD n fun a =>
  ldSl H (Addr.add a 1) fun q qn qc =>
  idxD q qn i fun a1 =>
  ldPtr H (Addr.add a1 (Int.toNat i * 1)) fun p =>
  nilD p fun a2 =>
  ldSl H a2 fun q1 q1n q1c =>
  iteB (decide (((q1n : Nat) : Int) < maxItems)) (
    R (.returned (.bool false)) H) <|
  callD Try.prog 68 [(.pointer n), (.int .i64 i)] H (panK R) fun v H1 =>
  tPtr v fun p1 =>
  divD (2 : Int) <|
  callD Try.prog 46 [(.pointer p1), (.int .i64 (IntKind.wrap .i64 (Int.tdiv maxItems (2 : Int))))] H1 (panK R) fun v1 H2 =>
  tTup v1 fun l =>
  tCons l fun c l1 =>
  tAgg c fun l2 =>
  tCons l2 fun c1 l3 =>
  tInt c1 .i64 fun n1 =>
  tCons l3 fun c2 l4 =>
  tInt c2 .i64 fun n2 =>
  tNil l4 <|
  tCons l1 fun c3 l5 =>
  tPtr c3 fun p2 =>
  tNil l5 <|
  newD H2 (.cells ⟨[(.int .i64 (0 : Int)), (.int .i64 (0 : Int))]⟩ 25) fun r H3 =>
  st1 H3 ⟨r, 0, none⟩ (.int .i64 n1) fun H4 =>
  st1 H4 ⟨r, 1, none⟩ (.int .i64 n2) fun H5 =>
  nilD n fun a3 =>
  ldInt H5 ⟨r, 0, none⟩ .i64 fun n3 =>
  ldInt H5 ⟨r, 1, none⟩ .i64 fun n4 =>
  callD Try.prog 66 [(.pointer (some a3)), (.int .i64 i), (.agg ⟨[(.int .i64 n3), (.int .i64 n4)]⟩)] H5 (panK R) fun v2 H6 =>
  tTup v2 fun l6 =>
  tNil l6 <|
  nilD n fun a4 =>
  callD Try.prog 79 [(.pointer (some (Addr.add a4 1))), (.int .i64 (IntKind.wrap .i64 (i + (1 : Int)))), (.pointer p2)] H6 (panK R) fun v3 H7 =>
  tTup v3 fun l7 =>
  tNil l7 <|
  R (.returned (.bool true)) H7
theorem calls {n : Option Addr} {i : Int} {maxItems : Int} {H : Heap} {R : Ending → Heap → Prop} (h : go n i maxItems H R) : CallsH Try.prog 67 ⟨[(.pointer n), (.int .i64 i), (.int .i64 maxItems)]⟩ H R :=
  callsH_of_den (an := an) (fuel := 100000) (X := go n i maxItems H R) (c := body) mixed fn (by kernel_rfl) (by kernel_rfl) (by kernel_rfl) ok (by kernel_rfl) h
end F67
/-! ### 68 "(*pub-stadtholder/pub/etcdserver/btree.node[pub-stadtholder/impl.El]).mutableChild" -/
namespace F68
def an : Ann := { kinds := [], taus := [(1, [[0, 1, 2, 4, 7, 8, 9, 3, 5, 6, 10, 11, 12]])], pairs := [], lab := [] }
noncomputable def body : Code := (Try.f68.body).getD .skip
theorem fn : Try.prog.funcs[68]? = some Try.f68 := by kernel_rfl
theorem ok : codeOk an 26 body = true := by kernel_rfl
def go (n : Option Addr) (i : Int) (H : Heap) (R : Ending → Heap → Prop) : Prop :=
  nilD n fun a =>
  nilD n fun a1 =>
  ldSl H (Addr.add a 1) fun q qn qc =>
  idxD q qn i fun a2 =>
  ldPtr H (Addr.add a2 (Int.toNat i * 1)) fun p =>
  ldPtr H (Addr.add a1 2) fun p1 =>
  callD Try.prog 44 [(.pointer p), (.pointer p1)] H (panK R) fun v H1 =>
  tPtr v fun p2 =>
  nilD n fun a3 =>
  ldSl H1 (Addr.add a3 1) fun q1 q1n q1c =>
  idxD q1 q1n i fun a4 =>
  st1 H1 (Addr.add a4 (Int.toNat i * 1)) (.pointer p2) fun H2 =>
  R (.returned (.pointer p2)) H2
theorem calls {n : Option Addr} {i : Int} {H : Heap} {R : Ending → Heap → Prop} (h : go n i H R) : CallsH Try.prog 68 ⟨[(.pointer n), (.int .i64 i)]⟩ H R :=
  callsH_of_den (an := an) (fuel := 100000) (X := go n i H R) (c := body) mixed fn (by kernel_rfl) (by kernel_rfl) (by kernel_rfl) ok (by kernel_rfl) h
end F68
/-! ### 69 "(*pub-stadtholder/pub/etcdserver/btree.node[pub-stadtholder/impl.El]).remove" -/
namespace F69
def an : Ann := { kinds := [], taus := [(14, [[0, 1, 2, 5, 6, 7, 3, 4, 8, 9, 10, 11, 12, 13, 14, 15, 16, 17]]), (24, [[0, 1, 2, 4, 5, 7, 3, 6, 8, 9, 10, 11, 12, 13], [0, 1, 2, 4, 5, 7, 6, 8, 9, 10, 11, 3, 12, 13]])], pairs := [(24, [(3, 8)])], lab := [(10000019, [0, 2, 3, 5, 8, 10, 11])] }
noncomputable def body : Code := (Try.f69.body).getD .skip
theorem fn : Try.prog.funcs[69]? = some Try.f69 := by kernel_rfl
theorem ok : codeOk an 129 body = true := by kernel_rfl
noncomputable def L0t : List Item := [.code (sub [1, 1, 1, 1] body)]
def L0 (s0 : Option Addr) (s2 : Int) (s3 : Int) (s5 : Nat) (s8 : Nat) (s10 : Int) (s11 : Bool) (H : Heap) (R : Ending → Heap → Prop) : Prop :=
  GoL Try.prog 69 129 L0t [0, 2, 3, 5, 8, 10, 11] [(.pointer s0), (.int .i64 s2), (.int .i64 s3), (.pointer (some ⟨s5, 0, none⟩)), (.pointer (some ⟨s8, 0, none⟩)), (.int .i64 s10), (.bool s11)] H R
def L0n (s0 : Option Addr) (s2 : Int) (s3 : Int) (s5 : Nat) (s8 : Nat) (s10 : Int) (s11 : Bool) (H : Heap) (R : Ending → Heap → Prop) : Prop :=
  nilD s0 fun a =>
  ldSl H (Addr.add a 1) fun q qn qc =>
  idxD q qn s10 fun a1 =>
  ldPtr H (Addr.add a1 (Int.toNat s10 * 1)) fun p =>
  nilD p fun a2 =>
  ldSl H a2 fun q1 q1n q1c =>
  iteB (decide (((q1n : Nat) : Int) ≤ s2)) (
    ldInt H ⟨s5, 0, none⟩ .i64 fun n =>
    ldInt H ⟨s5, 1, none⟩ .i64 fun n1 =>
    callD Try.prog 82 [(.pointer s0), (.int .i64 s10), (.agg ⟨[(.int .i64 n), (.int .i64 n1)]⟩), (.int .i64 s2), (.int .i64 s3)] H (panK R) fun v H1 =>
    tTup v fun l =>
    tCons l fun c l1 =>
    tAgg c fun l2 =>
    tCons l2 fun c1 l3 =>
    tInt c1 .i64 fun n2 =>
    tCons l3 fun c2 l4 =>
    tInt c2 .i64 fun n3 =>
    tNil l4 <|
    tCons l1 fun c3 l5 =>
    tBool c3 fun b =>
    tNil l5 <|
    st1 H1 ⟨s8, 0, none⟩ (.int .i64 n2) fun H2 =>
    st1 H2 ⟨s8, 1, none⟩ (.int .i64 n3) fun H3 =>
    ldInt H3 ⟨s8, 0, none⟩ .i64 fun n4 =>
    ldInt H3 ⟨s8, 1, none⟩ .i64 fun n5 =>
    R (.returned (.tuple ⟨[(.agg ⟨[(.int .i64 n4), (.int .i64 n5)]⟩), (.bool b)]⟩)) H3) <|
  callD Try.prog 68 [(.pointer s0), (.int .i64 s10)] H (panK R) fun v1 H4 =>
  tPtr v1 fun p1 =>
  iteB s11 (
    nilD s0 fun a3 =>
    ldSl H4 a3 fun q2 q2n q2c =>
    idxD q2 q2n s10 fun a4 =>
    ldInt H4 (Addr.add a4 (Int.toNat s10 * 2)) .i64 fun n6 =>
    ldInt H4 (Addr.add (Addr.add a4 (Int.toNat s10 * 2)) 1) .i64 fun n7 =>
    newD H4 (.cells ⟨[(.int .i64 (0 : Int)), (.int .i64 (0 : Int))]⟩ 25) fun r H5 =>
    st1 H5 ⟨r, 0, none⟩ (.int .i64 n6) fun H6 =>
    st1 H6 ⟨r, 1, none⟩ (.int .i64 n7) fun H7 =>
    newD H7 (.cells ⟨[(.int .i64 (0 : Int)), (.int .i64 (0 : Int))]⟩ 25) fun r1 H8 =>
    (
      nilD s0 fun a5 =>
      ldSl H8 a5 fun q3 q3n q3c =>
      ldInt H8 ⟨r1, 0, none⟩ .i64 fun n8 =>
      ldInt H8 ⟨r1, 1, none⟩ .i64 fun n9 =>
      callD Try.prog 69 [(.pointer p1), (.agg ⟨[(.int .i64 n8), (.int .i64 n9)]⟩), (.int .i64 s2), (.int .i64 (2 : Int))] H8 (panK R) fun v2 H9 =>
      tTup v2 fun l6 =>
      tCons l6 fun c4 l7 =>
      tAgg c4 fun l8 =>
      tCons l8 fun c5 l9 =>
      tInt c5 .i64 fun n10 =>
      tCons l9 fun c6 l10 =>
      tInt c6 .i64 fun n11 =>
      tNil l10 <|
      tCons l7 fun c7 l11 =>
      tBool c7 fun b1 =>
      tNil l11 <|
      idxD q3 q3n s10 fun a6 =>
      st1 H9 (Addr.add a6 (Int.toNat s10 * 2)) (.int .i64 n10) fun H10 =>
      st1 H10 (Addr.add (Addr.add a6 (Int.toNat s10 * 2)) 1) (.int .i64 n11) fun H11 =>
      ldInt H11 ⟨r, 0, none⟩ .i64 fun n12 =>
      ldInt H11 ⟨r, 1, none⟩ .i64 fun n13 =>
      st1 H11 ⟨s8, 0, none⟩ (.int .i64 n12) fun H12 =>
      st1 H12 ⟨s8, 1, none⟩ (.int .i64 n13) fun H13 =>
      ldInt H13 ⟨s8, 0, none⟩ .i64 fun n14 =>
      ldInt H13 ⟨s8, 1, none⟩ .i64 fun n15 =>
      R (.returned (.tuple ⟨[(.agg ⟨[(.int .i64 n14), (.int .i64 n15)]⟩), (.bool true)]⟩)) H13) ∧
    (
      nilD s0 fun a7 =>
      ldInt H8 ⟨r1, 0, none⟩ .i64 fun n16 =>
      ldInt H8 ⟨r1, 1, none⟩ .i64 fun n17 =>
      callD Try.prog 69 [(.pointer p1), (.agg ⟨[(.int .i64 n16), (.int .i64 n17)]⟩), (.int .i64 s2), (.int .i64 (2 : Int))] H8 (panK R) fun v3 H14 =>
      tTup v3 fun l12 =>
      tCons l12 fun c8 l13 =>
      tAgg c8 fun l14 =>
      tCons l14 fun c9 l15 =>
      tInt c9 .i64 fun n18 =>
      tCons l15 fun c10 l16 =>
      tInt c10 .i64 fun n19 =>
      tNil l16 <|
      tCons l13 fun c11 l17 =>
      tBool c11 fun b2 =>
      tNil l17 <|
      ldSl H14 a7 fun q4 q4n q4c =>
      idxD q4 q4n s10 fun a8 =>
      st1 H14 (Addr.add a8 (Int.toNat s10 * 2)) (.int .i64 n18) fun H15 =>
      st1 H15 (Addr.add (Addr.add a8 (Int.toNat s10 * 2)) 1) (.int .i64 n19) fun H16 =>
      ldInt H16 ⟨r, 0, none⟩ .i64 fun n20 =>
      ldInt H16 ⟨r, 1, none⟩ .i64 fun n21 =>
      st1 H16 ⟨s8, 0, none⟩ (.int .i64 n20) fun H17 =>
      st1 H17 ⟨s8, 1, none⟩ (.int .i64 n21) fun H18 =>
      ldInt H18 ⟨s8, 0, none⟩ .i64 fun n22 =>
      ldInt H18 ⟨s8, 1, none⟩ .i64 fun n23 =>
      R (.returned (.tuple ⟨[(.agg ⟨[(.int .i64 n22), (.int .i64 n23)]⟩), (.bool true)]⟩)) H18)) <|
  ldInt H4 ⟨s5, 0, none⟩ .i64 fun n24 =>
  ldInt H4 ⟨s5, 1, none⟩ .i64 fun n25 =>
  callD Try.prog 69 [(.pointer p1), (.agg ⟨[(.int .i64 n24), (.int .i64 n25)]⟩), (.int .i64 s2), (.int .i64 s3)] H4 (panK R) fun v4 H19 =>
  tTup v4 fun l18 =>
  tCons l18 fun c12 l19 =>
  tAgg c12 fun l20 =>
  tCons l20 fun c13 l21 =>
  tInt c13 .i64 fun n26 =>
  tCons l21 fun c14 l22 =>
  tInt c14 .i64 fun n27 =>
  tNil l22 <|
  tCons l19 fun c15 l23 =>
  tBool c15 fun b3 =>
  tNil l23 <|
  st1 H19 ⟨s8, 0, none⟩ (.int .i64 n26) fun H20 =>
  st1 H20 ⟨s8, 1, none⟩ (.int .i64 n27) fun H21 =>
  ldInt H21 ⟨s8, 0, none⟩ .i64 fun n28 =>
  ldInt H21 ⟨s8, 1, none⟩ .i64 fun n29 =>
  R (.returned (.tuple ⟨[(.agg ⟨[(.int .i64 n28), (.int .i64 n29)]⟩), (.bool b3)]⟩)) H21
theorem L0_step {s0 : Option Addr} {s2 : Int} {s3 : Int} {s5 : Nat} {s8 : Nat} {s10 : Int} {s11 : Bool} {H : Heap} {R : Ending → Heap → Prop} (h : L0n s0 s2 s3 s5 s8 s10 s11 H R) : L0 s0 s2 s3 s5 s8 s10 s11 H R :=
  goL_of_den (an := an) (fuel := 100000) (X := L0n s0 s2 s3 s5 s8 s10 s11 H R) mixed fn (by kernel_rfl) (fun ρ0 => by kernel_rfl) h
def go (s0 : Option Addr) (s1_0 : Int) (s1_1 : Int) (s2 : Int) (s3 : Int) (H : Heap) (R : Ending → Heap → Prop) : Prop :=
  newD H (.cells ⟨[(.int .i64 s1_0), (.int .i64 s1_1)]⟩ 25) fun r H1 =>
  newD H1 (.cells ⟨[(.int .i64 (0 : Int)), (.int .i64 (0 : Int))]⟩ 25) fun r1 H2 =>
  iteB (s3 == (2 : Int)) (
    nilD s0 fun a =>
    ldSl H2 (Addr.add a 1) fun q qn qc =>
    iteB (((qn : Nat) : Int) == (0 : Int)) (
      nilD s0 fun a1 =>
      callD Try.prog 80 [(.pointer (some a1))] H2 (panK R) fun v H3 =>
      tAgg v fun l =>
      tCons l fun c l1 =>
      tInt c .i64 fun n =>
      tCons l1 fun c1 l2 =>
      tInt c1 .i64 fun n1 =>
      tNil l2 <|
      st1 H3 ⟨r1, 0, none⟩ (.int .i64 n) fun H4 =>
      st1 H4 ⟨r1, 1, none⟩ (.int .i64 n1) fun H5 =>
      ldInt H5 ⟨r1, 0, none⟩ .i64 fun n2 =>
      ldInt H5 ⟨r1, 1, none⟩ .i64 fun n3 =>
      R (.returned (.tuple ⟨[(.agg ⟨[(.int .i64 n2), (.int .i64 n3)]⟩), (.bool true)]⟩)) H5) <|
    nilD s0 fun a2 =>
    ldSl H2 a2 fun q1 q1n q1c =>
    L0 s0 s2 s3 r r1 ((q1n : Nat) : Int) false H2 R) <|
  iteB (s3 == (1 : Int)) (
    nilD s0 fun a3 =>
    ldSl H2 (Addr.add a3 1) fun q2 q2n q2c =>
    iteB (((q2n : Nat) : Int) == (0 : Int)) (
      nilD s0 fun a4 =>
      callD Try.prog 81 [(.pointer (some a4)), (.int .i64 (0 : Int))] H2 (panK R) fun v1 H6 =>
      tAgg v1 fun l3 =>
      tCons l3 fun c2 l4 =>
      tInt c2 .i64 fun n4 =>
      tCons l4 fun c3 l5 =>
      tInt c3 .i64 fun n5 =>
      tNil l5 <|
      st1 H6 ⟨r1, 0, none⟩ (.int .i64 n4) fun H7 =>
      st1 H7 ⟨r1, 1, none⟩ (.int .i64 n5) fun H8 =>
      ldInt H8 ⟨r1, 0, none⟩ .i64 fun n6 =>
      ldInt H8 ⟨r1, 1, none⟩ .i64 fun n7 =>
      R (.returned (.tuple ⟨[(.agg ⟨[(.int .i64 n6), (.int .i64 n7)]⟩), (.bool true)]⟩)) H8) <|
    L0 s0 s2 s3 r r1 (0 : Int) false H2 R) <|
  iteB (s3 == (0 : Int)) (
    nilD s0 fun a5 =>
    nilD s0 fun a6 =>
    ldSl H2 a5 fun q3 q3n q3c =>
    ldInt H2 ⟨r, 0, none⟩ .i64 fun n8 =>
    ldInt H2 ⟨r, 1, none⟩ .i64 fun n9 =>
    ldPtr H2 (Addr.add a6 2) fun p =>
    nilD p fun a7 =>
    ldFn H2 (Addr.add a7 1) fun f =>
    callD Try.prog 65 [(.slice q3 q3n q3c), (.agg ⟨[(.int .i64 n8), (.int .i64 n9)]⟩), (FV.v f)] H2 (panK R) fun v2 H9 =>
    tTup v2 fun l6 =>
    tCons l6 fun c4 l7 =>
    tInt c4 .i64 fun n10 =>
    tCons l7 fun c5 l8 =>
    tBool c5 fun b =>
    tNil l8 <|
    nilD s0 fun a8 =>
    ldSl H9 (Addr.add a8 1) fun q4 q4n q4c =>
    iteB (((q4n : Nat) : Int) == (0 : Int)) (
      iteB b (
        nilD s0 fun a9 =>
        callD Try.prog 81 [(.pointer (some a9)), (.int .i64 n10)] H9 (panK R) fun v3 H10 =>
        tAgg v3 fun l9 =>
        tCons l9 fun c6 l10 =>
        tInt c6 .i64 fun n11 =>
        tCons l10 fun c7 l11 =>
        tInt c7 .i64 fun n12 =>
        tNil l11 <|
        st1 H10 ⟨r1, 0, none⟩ (.int .i64 n11) fun H11 =>
        st1 H11 ⟨r1, 1, none⟩ (.int .i64 n12) fun H12 =>
        ldInt H12 ⟨r1, 0, none⟩ .i64 fun n13 =>
        ldInt H12 ⟨r1, 1, none⟩ .i64 fun n14 =>
        R (.returned (.tuple ⟨[(.agg ⟨[(.int .i64 n13), (.int .i64 n14)]⟩), (.bool true)]⟩)) H12) <|
      ldInt H9 ⟨r1, 0, none⟩ .i64 fun n15 =>
      ldInt H9 ⟨r1, 1, none⟩ .i64 fun n16 =>
      R (.returned (.tuple ⟨[(.agg ⟨[(.int .i64 n15), (.int .i64 n16)]⟩), (.bool false)]⟩)) H9) <|
    L0 s0 s2 s3 r r1 n10 b H9 R) <|
  panD (.iface 9 (.string (ByteArray.mk #[105, 110, 118, 97, 108, 105, 100, 32, 116, 121, 112, 101]))) H2 (panK R)
theorem calls {s0 : Option Addr} {s1_0 : Int} {s1_1 : Int} {s2 : Int} {s3 : Int} {H : Heap} {R : Ending → Heap → Prop} (h : go s0 s1_0 s1_1 s2 s3 H R) : CallsH Try.prog 69 ⟨[(.pointer s0), (.agg ⟨[(.int .i64 s1_0), (.int .i64 s1_1)]⟩), (.int .i64 s2), (.int .i64 s3)]⟩ H R :=
  callsH_of_den (an := an) (fuel := 100000) (X := go s0 s1_0 s1_1 s2 s3 H R) (c := body) mixed fn (by kernel_rfl) (by kernel_rfl) (by kernel_rfl) ok (by kernel_rfl) h
end F69
/-! ### 70 "(*pub-stadtholder/pub/etcdserver/btree.BTree[pub-stadtholder/impl.El]).minItems" -/
namespace F70
def an : Ann := { kinds := [], taus := [], pairs := [], lab := [] }
noncomputable def body : Code := (Try.f70.body).getD .skip
theorem fn : Try.prog.funcs[70]? = some Try.f70 := by kernel_rfl
theorem ok : codeOk an 8 body = true := by kernel_rfl
def go (t : Option Addr) (H : Heap) (R : Ending → Heap → Prop) : Prop :=
  nilD t fun a =>
  ldInt H a .i64 fun n =>
  R (.returned (.int .i64 (IntKind.wrap .i64 (n - (1 : Int))))) H
theorem calls {t : Option Addr} {H : Heap} {R : Ending → Heap → Prop} (h : go t H R) : CallsH Try.prog 70 ⟨[(.pointer t)]⟩ H R :=
  callsH_of_den (an := an) (fuel := 100000) (X := go t H R) (c := body) mixed fn (by kernel_rfl) (by kernel_rfl) (by kernel_rfl) ok (by kernel_rfl) h
end F70
/-! ### 71 "(*pub-stadtholder/pub/etcdserver/btree.copyOnWriteContext[pub-stadtholder/impl.El]).freeNode" -/
namespace F71
def an : Ann := { kinds := [(1005, .read)], taus := [], pairs := [], lab := [] }
noncomputable def body : Code := (Try.f71.body).getD .skip
theorem fn : Try.prog.funcs[71]? = some Try.f71 := by kernel_rfl
theorem ok : codeOk an 28 body = true := by kernel_rfl
def go (c : Option Addr) (n : Option Addr) (H : Heap) (R : Ending → Heap → Prop) : Prop :=
  nilD n fun a =>
  ldPtr H (Addr.add a 2) fun p =>
  pqD H p c fun b =>
  iteB b (
    nilD n fun a1 =>
    callD Try.prog 63 [(.pointer (some a1)), (.int .i64 (0 : Int))] H (panK R) fun v H1 =>
    tTup v fun l =>
    tNil l <|
    nilD n fun a2 =>
    callD Try.prog 64 [(.pointer (some (Addr.add a2 1))), (.int .i64 (0 : Int))] H1 (panK R) fun v1 H2 =>
    tTup v1 fun l1 =>
    tNil l1 <|
    nilD n fun a3 =>
    st1 H2 (Addr.add a3 2) (.pointer none) fun H3 =>
    nilD c fun a4 =>
    ldPtr H3 a4 fun p1 =>
    callD Try.prog 83 [(.pointer p1), (.pointer n)] H3 (panK R) fun v2 H4 =>
    tBool v2 fun b1 =>
    iteB b1 (
      R (.returned (.int .i64 (1 : Int))) H4) <|
    R (.returned (.int .i64 (0 : Int))) H4) <|
  R (.returned (.int .i64 (2 : Int))) H
theorem calls {c : Option Addr} {n : Option Addr} {H : Heap} {R : Ending → Heap → Prop} (h : go c n H R) : CallsH Try.prog 71 ⟨[(.pointer c), (.pointer n)]⟩ H R :=
  callsH_of_den (an := an) (fuel := 100000) (X := go c n H R) (c := body) mixed fn (by kernel_rfl) (by kernel_rfl) (by kernel_rfl) ok (by kernel_rfl) h
end F71
/-! ### 72 "(*pub-stadtholder/pub/etcdserver/btree.node[pub-stadtholder/impl.El]).iterate" -/
namespace F72
def an : Ann := { kinds := [], taus := [(6, [[0, 1, 2, 4, 6, 7, 8, 3, 5, 9, 10, 11, 12, 13, 14, 15, 16, 17]]), (11, [[0, 1, 2, 4, 7, 10, 11, 12, 3, 5, 6, 8, 9, 13, 14, 15, 16, 17, 18]]), (14, [[0, 1, 2, 3, 4, 5, 6, 7, 8, 9, 10, 11, 12, 13, 18, 20, 21, 22, 24, 14, 15, 16, 17, 19, 23, 25, 26, 27, 28, 29]]), (17, [[0, 1, 2, 3, 4, 5, 10, 11, 12, 14, 17, 6, 7, 8, 9, 13, 15, 16, 18, 19, 20, 21]]), (22, [[0, 1, 2, 4, 5, 6, 12, 15, 16, 17, 3, 7, 8, 9, 10, 11, 13, 14, 18, 19, 20, 21, 22, 23]]), (27, [[0, 1, 2, 4, 6, 7, 8, 3, 5, 9, 10, 11, 12, 13, 14, 15, 16, 17, 18]]), (34, [[0, 1, 2, 3, 4, 5, 10, 11, 12, 14, 17, 6, 7, 8, 9, 13, 15, 16, 18, 19, 20, 21]]), (35, [[0, 1, 2, 3, 4, 5, 6, 7, 8, 13, 15, 16, 17, 19, 9, 10, 11, 12, 14, 18, 20, 21, 22, 23]]), (37, [[0, 1, 2, 4, 5, 8, 11, 12, 13, 3, 6, 7, 9, 10, 14, 15, 16, 17, 18, 19]]), (40, [[0, 1, 2, 3, 4, 5, 10, 12, 13, 14, 16, 6, 7, 8, 9, 11, 15, 17, 18, 19, 20, 21]]), (46, [[0, 1, 2, 6, 9, 10, 11, 3, 4, 5, 7, 8, 12, 13, 14, 15, 16, 17]])], pairs := [], lab := [(30000032, [0, 1, 4, 5, 6, 9, 10, 18]), (60000033, [0, 1, 4, 5, 6, 9, 10, 20]), (90000036, [0, 1, 4, 5, 6, 9, 10, 20]), (80000037, [0, 1, 4, 5, 6, 9, 10, 20]), (80000041, [0, 1, 4, 5, 6, 9, 10, 20]), (80000043, [0, 1, 4, 6, 9, 10, 20]), (60000034, [0, 1, 4, 5, 6, 9, 10, 20]), (30000008, [0, 1, 4, 5, 6, 9, 10, 18]), (60000009, [0, 1, 4, 5, 6, 9, 10, 19]), (80000015, [0, 1, 4, 5, 6, 9, 10, 19]), (80000017, [0, 1, 4, 6, 9, 10, 19]), (80000020, [0, 1, 4, 5, 6, 9, 10, 19]), (90000016, [0, 1, 4, 6, 9, 10, 19]), (60000010, [0, 1, 4, 5, 6, 9, 10, 19])] }
noncomputable def body : Code := (Try.f72.body).getD .skip
theorem fn : Try.prog.funcs[72]? = some Try.f72 := by kernel_rfl
theorem ok : codeOk an 343 body = true := by kernel_rfl
noncomputable def L0t : List Item := [.code (sub [1, 1, 1, 0, 1, 0, 1, 1, 1, 0, 1] body), .inBlock 0, .code (sub [1, 1, 1, 1] body)]
def L0 (s0 : Option Addr) (s1 : Int) (s4 : Bool) (s5 : Bool) (s6 : FV) (s9 : Nat) (s10 : Nat) (s18 : Int) (H : Heap) (R : Ending → Heap → Prop) : Prop :=
  GoL Try.prog 72 343 L0t [0, 1, 4, 5, 6, 9, 10, 18] [(.pointer s0), (.int .i64 s1), (.bool s4), (.bool s5), (FV.v s6), (.pointer (some ⟨s9, 0, none⟩)), (.pointer (some ⟨s10, 0, none⟩)), (.int .i64 s18)] H R
noncomputable def L1t : List Item := [.code (sub [1, 1, 1, 0, 1, 0, 1, 1, 1, 0, 1, 0, 1, 0, 0] body), .inLoop (sub [1, 1, 1, 0, 1, 0, 1, 1, 1, 0, 1, 0, 1, 0, 0] body), .inBlock 3, .code (sub [1, 1, 1, 0, 1, 0, 1, 1, 1, 0, 1, 1] body), .inBlock 0, .code (sub [1, 1, 1, 1] body)]
def L1 (s0 : Option Addr) (s1 : Int) (s4 : Bool) (s5 : Bool) (s6 : FV) (s9 : Nat) (s10 : Nat) (s20 : Int) (H : Heap) (R : Ending → Heap → Prop) : Prop :=
  GoL Try.prog 72 343 L1t [0, 1, 4, 5, 6, 9, 10, 20] [(.pointer s0), (.int .i64 s1), (.bool s4), (.bool s5), (FV.v s6), (.pointer (some ⟨s9, 0, none⟩)), (.pointer (some ⟨s10, 0, none⟩)), (.int .i64 s20)] H R
noncomputable def L2t : List Item := [.code (sub [1, 1, 1, 0, 1, 0, 1, 1, 1, 0, 1, 0, 1, 0, 0, 1, 0, 0, 0, 1, 0] body), .code (sub [1, 1, 1, 0, 1, 0, 1, 1, 1, 0, 1, 0, 1, 0, 0, 1, 0, 0, 1] body), .inBlock 4, .code (sub [1, 1, 1, 0, 1, 0, 1, 1, 1, 0, 1, 0, 1, 0, 0, 1, 1] body), .inLoop (sub [1, 1, 1, 0, 1, 0, 1, 1, 1, 0, 1, 0, 1, 0, 0] body), .inBlock 3, .code (sub [1, 1, 1, 0, 1, 0, 1, 1, 1, 0, 1, 1] body), .inBlock 0, .code (sub [1, 1, 1, 1] body)]
def L2 (s0 : Option Addr) (s1 : Int) (s4 : Bool) (s5 : Bool) (s6 : FV) (s9 : Nat) (s10 : Nat) (s20 : Int) (H : Heap) (R : Ending → Heap → Prop) : Prop :=
  GoL Try.prog 72 343 L2t [0, 1, 4, 5, 6, 9, 10, 20] [(.pointer s0), (.int .i64 s1), (.bool s4), (.bool s5), (FV.v s6), (.pointer (some ⟨s9, 0, none⟩)), (.pointer (some ⟨s10, 0, none⟩)), (.int .i64 s20)] H R
noncomputable def L3t : List Item := [.code (sub [1, 1, 1, 0, 1, 0, 1, 1, 1, 0, 1, 0, 1, 0, 0, 1, 0, 0, 1] body), .inBlock 4, .code (sub [1, 1, 1, 0, 1, 0, 1, 1, 1, 0, 1, 0, 1, 0, 0, 1, 1] body), .inLoop (sub [1, 1, 1, 0, 1, 0, 1, 1, 1, 0, 1, 0, 1, 0, 0] body), .inBlock 3, .code (sub [1, 1, 1, 0, 1, 0, 1, 1, 1, 0, 1, 1] body), .inBlock 0, .code (sub [1, 1, 1, 1] body)]
def L3 (s0 : Option Addr) (s1 : Int) (s4 : Bool) (s5 : Bool) (s6 : FV) (s9 : Nat) (s10 : Nat) (s20 : Int) (H : Heap) (R : Ending → Heap → Prop) : Prop :=
  GoL Try.prog 72 343 L3t [0, 1, 4, 5, 6, 9, 10, 20] [(.pointer s0), (.int .i64 s1), (.bool s4), (.bool s5), (FV.v s6), (.pointer (some ⟨s9, 0, none⟩)), (.pointer (some ⟨s10, 0, none⟩)), (.int .i64 s20)] H R
noncomputable def L4t : List Item := [.code (sub [1, 1, 1, 0, 1, 0, 1, 1, 1, 0, 1, 0, 1, 0, 0, 1, 0, 0, 1, 1] body), .inBlock 4, .code (sub [1, 1, 1, 0, 1, 0, 1, 1, 1, 0, 1, 0, 1, 0, 0, 1, 1] body), .inLoop (sub [1, 1, 1, 0, 1, 0, 1, 1, 1, 0, 1, 0, 1, 0, 0] body), .inBlock 3, .code (sub [1, 1, 1, 0, 1, 0, 1, 1, 1, 0, 1, 1] body), .inBlock 0, .code (sub [1, 1, 1, 1] body)]
def L4 (s0 : Option Addr) (s1 : Int) (s4 : Bool) (s5 : Bool) (s6 : FV) (s9 : Nat) (s10 : Nat) (s20 : Int) (H : Heap) (R : Ending → Heap → Prop) : Prop :=
  GoL Try.prog 72 343 L4t [0, 1, 4, 5, 6, 9, 10, 20] [(.pointer s0), (.int .i64 s1), (.bool s4), (.bool s5), (FV.v s6), (.pointer (some ⟨s9, 0, none⟩)), (.pointer (some ⟨s10, 0, none⟩)), (.int .i64 s20)] H R
noncomputable def L5t : List Item := [.code (sub [1, 1, 1, 0, 1, 0, 1, 1, 1, 0, 1, 0, 1, 0, 0, 1, 0, 0, 1, 1, 1] body), .inBlock 4, .code (sub [1, 1, 1, 0, 1, 0, 1, 1, 1, 0, 1, 0, 1, 0, 0, 1, 1] body), .inLoop (sub [1, 1, 1, 0, 1, 0, 1, 1, 1, 0, 1, 0, 1, 0, 0] body), .inBlock 3, .code (sub [1, 1, 1, 0, 1, 0, 1, 1, 1, 0, 1, 1] body), .inBlock 0, .code (sub [1, 1, 1, 1] body)]
def L5 (s0 : Option Addr) (s1 : Int) (s4 : Bool) (s6 : FV) (s9 : Nat) (s10 : Nat) (s20 : Int) (H : Heap) (R : Ending → Heap → Prop) : Prop :=
  GoL Try.prog 72 343 L5t [0, 1, 4, 6, 9, 10, 20] [(.pointer s0), (.int .i64 s1), (.bool s4), (FV.v s6), (.pointer (some ⟨s9, 0, none⟩)), (.pointer (some ⟨s10, 0, none⟩)), (.int .i64 s20)] H R
noncomputable def L6t : List Item := [.code (sub [1, 1, 1, 0, 1, 0, 1, 1, 1, 0, 1, 0, 1, 0, 0, 1, 1] body), .inLoop (sub [1, 1, 1, 0, 1, 0, 1, 1, 1, 0, 1, 0, 1, 0, 0] body), .inBlock 3, .code (sub [1, 1, 1, 0, 1, 0, 1, 1, 1, 0, 1, 1] body), .inBlock 0, .code (sub [1, 1, 1, 1] body)]
def L6 (s0 : Option Addr) (s1 : Int) (s4 : Bool) (s5 : Bool) (s6 : FV) (s9 : Nat) (s10 : Nat) (s20 : Int) (H : Heap) (R : Ending → Heap → Prop) : Prop :=
  GoL Try.prog 72 343 L6t [0, 1, 4, 5, 6, 9, 10, 20] [(.pointer s0), (.int .i64 s1), (.bool s4), (.bool s5), (FV.v s6), (.pointer (some ⟨s9, 0, none⟩)), (.pointer (some ⟨s10, 0, none⟩)), (.int .i64 s20)] H R
noncomputable def L7t : List Item := [.code (sub [1, 1, 1, 0, 1, 0, 1, 0, 1] body), .inBlock 0, .code (sub [1, 1, 1, 1] body)]
def L7 (s0 : Option Addr) (s1 : Int) (s4 : Bool) (s5 : Bool) (s6 : FV) (s9 : Nat) (s10 : Nat) (s18 : Int) (H : Heap) (R : Ending → Heap → Prop) : Prop :=
  GoL Try.prog 72 343 L7t [0, 1, 4, 5, 6, 9, 10, 18] [(.pointer s0), (.int .i64 s1), (.bool s4), (.bool s5), (FV.v s6), (.pointer (some ⟨s9, 0, none⟩)), (.pointer (some ⟨s10, 0, none⟩)), (.int .i64 s18)] H R
noncomputable def L8t : List Item := [.code (sub [1, 1, 1, 0, 1, 0, 1, 0, 1, 0, 1, 0, 0] body), .inLoop (sub [1, 1, 1, 0, 1, 0, 1, 0, 1, 0, 1, 0, 0] body), .inBlock 1, .code (sub [1, 1, 1, 0, 1, 0, 1, 0, 1, 1] body), .inBlock 0, .code (sub [1, 1, 1, 1] body)]
def L8 (s0 : Option Addr) (s1 : Int) (s4 : Bool) (s5 : Bool) (s6 : FV) (s9 : Nat) (s10 : Nat) (s19 : Int) (H : Heap) (R : Ending → Heap → Prop) : Prop :=
  GoL Try.prog 72 343 L8t [0, 1, 4, 5, 6, 9, 10, 19] [(.pointer s0), (.int .i64 s1), (.bool s4), (.bool s5), (FV.v s6), (.pointer (some ⟨s9, 0, none⟩)), (.pointer (some ⟨s10, 0, none⟩)), (.int .i64 s19)] H R
noncomputable def L9t : List Item := [.code (sub [1, 1, 1, 0, 1, 0, 1, 0, 1, 0, 1, 0, 0, 1, 0, 0, 1] body), .inBlock 2, .code (sub [1, 1, 1, 0, 1, 0, 1, 0, 1, 0, 1, 0, 0, 1, 1] body), .inLoop (sub [1, 1, 1, 0, 1, 0, 1, 0, 1, 0, 1, 0, 0] body), .inBlock 1, .code (sub [1, 1, 1, 0, 1, 0, 1, 0, 1, 1] body), .inBlock 0, .code (sub [1, 1, 1, 1] body)]
def L9 (s0 : Option Addr) (s1 : Int) (s4 : Bool) (s5 : Bool) (s6 : FV) (s9 : Nat) (s10 : Nat) (s19 : Int) (H : Heap) (R : Ending → Heap → Prop) : Prop :=
  GoL Try.prog 72 343 L9t [0, 1, 4, 5, 6, 9, 10, 19] [(.pointer s0), (.int .i64 s1), (.bool s4), (.bool s5), (FV.v s6), (.pointer (some ⟨s9, 0, none⟩)), (.pointer (some ⟨s10, 0, none⟩)), (.int .i64 s19)] H R
noncomputable def L10t : List Item := [.code (sub [1, 1, 1, 0, 1, 0, 1, 0, 1, 0, 1, 0, 0, 1, 0, 0, 1, 1] body), .inBlock 2, .code (sub [1, 1, 1, 0, 1, 0, 1, 0, 1, 0, 1, 0, 0, 1, 1] body), .inLoop (sub [1, 1, 1, 0, 1, 0, 1, 0, 1, 0, 1, 0, 0] body), .inBlock 1, .code (sub [1, 1, 1, 0, 1, 0, 1, 0, 1, 1] body), .inBlock 0, .code (sub [1, 1, 1, 1] body)]
def L10 (s0 : Option Addr) (s1 : Int) (s4 : Bool) (s6 : FV) (s9 : Nat) (s10 : Nat) (s19 : Int) (H : Heap) (R : Ending → Heap → Prop) : Prop :=
  GoL Try.prog 72 343 L10t [0, 1, 4, 6, 9, 10, 19] [(.pointer s0), (.int .i64 s1), (.bool s4), (FV.v s6), (.pointer (some ⟨s9, 0, none⟩)), (.pointer (some ⟨s10, 0, none⟩)), (.int .i64 s19)] H R
noncomputable def L11t : List Item := [.code (sub [1, 1, 1, 0, 1, 0, 1, 0, 1, 0, 1, 0, 0, 1, 0, 0, 1, 1, 1, 1] body), .inBlock 2, .code (sub [1, 1, 1, 0, 1, 0, 1, 0, 1, 0, 1, 0, 0, 1, 1] body), .inLoop (sub [1, 1, 1, 0, 1, 0, 1, 0, 1, 0, 1, 0, 0] body), .inBlock 1, .code (sub [1, 1, 1, 0, 1, 0, 1, 0, 1, 1] body), .inBlock 0, .code (sub [1, 1, 1, 1] body)]
def L11 (s0 : Option Addr) (s1 : Int) (s4 : Bool) (s5 : Bool) (s6 : FV) (s9 : Nat) (s10 : Nat) (s19 : Int) (H : Heap) (R : Ending → Heap → Prop) : Prop :=
  GoL Try.prog 72 343 L11t [0, 1, 4, 5, 6, 9, 10, 19] [(.pointer s0), (.int .i64 s1), (.bool s4), (.bool s5), (FV.v s6), (.pointer (some ⟨s9, 0, none⟩)), (.pointer (some ⟨s10, 0, none⟩)), (.int .i64 s19)] H R
noncomputable def L12t : List Item := [.code (sub [1, 1, 1, 0, 1, 0, 1, 0, 1, 0, 1, 0, 0, 1, 0, 0, 1, 0, 1, 0] body), .code (sub [1, 1, 1, 0, 1, 0, 1, 0, 1, 0, 1, 0, 0, 1, 0, 0, 1, 1] body), .inBlock 2, .code (sub [1, 1, 1, 0, 1, 0, 1, 0, 1, 0, 1, 0, 0, 1, 1] body), .inLoop (sub [1, 1, 1, 0, 1, 0, 1, 0, 1, 0, 1, 0, 0] body), .inBlock 1, .code (sub [1, 1, 1, 0, 1, 0, 1, 0, 1, 1] body), .inBlock 0, .code (sub [1, 1, 1, 1] body)]
def L12 (s0 : Option Addr) (s1 : Int) (s4 : Bool) (s6 : FV) (s9 : Nat) (s10 : Nat) (s19 : Int) (H : Heap) (R : Ending → Heap → Prop) : Prop :=
  GoL Try.prog 72 343 L12t [0, 1, 4, 6, 9, 10, 19] [(.pointer s0), (.int .i64 s1), (.bool s4), (FV.v s6), (.pointer (some ⟨s9, 0, none⟩)), (.pointer (some ⟨s10, 0, none⟩)), (.int .i64 s19)] H R
noncomputable def L13t : List Item := [.code (sub [1, 1, 1, 0, 1, 0, 1, 0, 1, 0, 1, 0, 0, 1, 1] body), .inLoop (sub [1, 1, 1, 0, 1, 0, 1, 0, 1, 0, 1, 0, 0] body), .inBlock 1, .code (sub [1, 1, 1, 0, 1, 0, 1, 0, 1, 1] body), .inBlock 0, .code (sub [1, 1, 1, 1] body)]
def L13 (s0 : Option Addr) (s1 : Int) (s4 : Bool) (s5 : Bool) (s6 : FV) (s9 : Nat) (s10 : Nat) (s19 : Int) (H : Heap) (R : Ending → Heap → Prop) : Prop :=
  GoL Try.prog 72 343 L13t [0, 1, 4, 5, 6, 9, 10, 19] [(.pointer s0), (.int .i64 s1), (.bool s4), (.bool s5), (FV.v s6), (.pointer (some ⟨s9, 0, none⟩)), (.pointer (some ⟨s10, 0, none⟩)), (.int .i64 s19)] H R
def L0n (s0 : Option Addr) (s1 : Int) (s4 : Bool) (s5 : Bool) (s6 : FV) (s9 : Nat) (s10 : Nat) (s18 : Int) (H : Heap) (R : Ending → Heap → Prop) : Prop :=
  L1 s0 s1 s4 s5 s6 s9 s10 s18 H R
theorem L0_step {s0 : Option Addr} {s1 : Int} {s4 : Bool} {s5 : Bool} {s6 : FV} {s9 : Nat} {s10 : Nat} {s18 : Int} {H : Heap} {R : Ending → Heap → Prop} (h : L0n s0 s1 s4 s5 s6 s9 s10 s18 H R) : L0 s0 s1 s4 s5 s6 s9 s10 s18 H R :=
  goL_of_den (an := an) (fuel := 100000) (X := L0n s0 s1 s4 s5 s6 s9 s10 s18 H R) mixed fn (by kernel_rfl) (fun ρ0 => by kernel_rfl) h
def L1n (s0 : Option Addr) (s1 : Int) (s4 : Bool) (s5 : Bool) (s6 : FV) (s9 : Nat) (s10 : Nat) (s20 : Int) (H : Heap) (R : Ending → Heap → Prop) : Prop :=
  iteB (decide (s20 ≥ (0 : Int))) (
    ldBool H ⟨s9, 2, none⟩ fun b =>
    iteB b (
      nilD s0 fun a =>
      nilD s0 fun a1 =>
      ldPtr H (Addr.add a 2) fun p =>
      nilD p fun a2 =>
      ldFn H (Addr.add a2 1) fun f =>
      ldSl H a1 fun q qn qc =>
      idxD q qn s20 fun a3 =>
      ldInt H (Addr.add a3 (Int.toNat s20 * 2)) .i64 fun n =>
      ldInt H (Addr.add (Addr.add a3 (Int.toNat s20 * 2)) 1) .i64 fun n1 =>
      ldInt H ⟨s9, 0, none⟩ .i64 fun n2 =>
      ldInt H ⟨s9, 1, none⟩ .i64 fun n3 =>
      callV Try.prog (FV.v f) [(.agg ⟨[(.int .i64 n), (.int .i64 n1)]⟩), (.agg ⟨[(.int .i64 n2), (.int .i64 n3)]⟩)] H (panK R) fun v H1 =>
      tBool v fun b1 =>
      iteB (!b1) (
        L2 s0 s1 s4 s5 s6 s9 s10 s20 H1 R) <|
      L3 s0 s1 s4 s5 s6 s9 s10 s20 H1 R) <|
    L3 s0 s1 s4 s5 s6 s9 s10 s20 H R) <|
  nilD s0 fun a4 =>
  ldSl H (Addr.add a4 1) fun q1 q1n q1c =>
  iteB (decide (((q1n : Nat) : Int) > (0 : Int))) (
    nilD s0 fun a5 =>
    ldSl H (Addr.add a5 1) fun q2 q2n q2c =>
    idxD q2 q2n (0 : Int) fun a6 =>
    ldPtr H (Addr.add a6 (Int.toNat (0 : Int) * 1)) fun p1 =>
    ldInt H ⟨s9, 0, none⟩ .i64 fun n4 =>
    ldInt H ⟨s9, 1, none⟩ .i64 fun n5 =>
    ldBool H ⟨s9, 2, none⟩ fun b2 =>
    ldInt H ⟨s10, 0, none⟩ .i64 fun n6 =>
    ldInt H ⟨s10, 1, none⟩ .i64 fun n7 =>
    ldBool H ⟨s10, 2, none⟩ fun b3 =>
    callD Try.prog 72 [(.pointer p1), (.int .i64 s1), (.agg ⟨[(.int .i64 n4), (.int .i64 n5), (.bool b2)]⟩), (.agg ⟨[(.int .i64 n6), (.int .i64 n7), (.bool b3)]⟩), (.bool s4), (.bool s5), (FV.v s6)] H (panK R) fun v1 H2 =>
    tTup v1 fun l =>
    tCons l fun c l1 =>
    tBool c fun b4 =>
    tCons l1 fun c1 l2 =>
    tBool c1 fun b5 =>
    tNil l2 <|
    iteB (!b5) (
      R (.returned (.tuple ⟨[(.bool b4), (.bool false)]⟩)) H2) <|
    R (.returned (.tuple ⟨[(.bool b4), (.bool true)]⟩)) H2) <|
  R (.returned (.tuple ⟨[(.bool s5), (.bool true)]⟩)) H
theorem L1_step {s0 : Option Addr} {s1 : Int} {s4 : Bool} {s5 : Bool} {s6 : FV} {s9 : Nat} {s10 : Nat} {s20 : Int} {H : Heap} {R : Ending → Heap → Prop} (h : L1n s0 s1 s4 s5 s6 s9 s10 s20 H R) : L1 s0 s1 s4 s5 s6 s9 s10 s20 H R :=
  goL_of_den (an := an) (fuel := 100000) (X := L1n s0 s1 s4 s5 s6 s9 s10 s20 H R) mixed fn (by kernel_rfl) (fun ρ0 => by kernel_rfl) h
def L2n (s0 : Option Addr) (s1 : Int) (s4 : Bool) (s5 : Bool) (s6 : FV) (s9 : Nat) (s10 : Nat) (s20 : Int) (H : Heap) (R : Ending → Heap → Prop) : Prop :=
  iteB (!s4) (
    L6 s0 s1 s4 s5 s6 s9 s10 s20 H R) <|
  iteB s5 (
    L6 s0 s1 s4 s5 s6 s9 s10 s20 H R) <|
  nilD s0 fun a =>
  nilD s0 fun a1 =>
  ldPtr H (Addr.add a 2) fun p =>
  nilD p fun a2 =>
  ldFn H (Addr.add a2 1) fun f =>
  ldInt H ⟨s9, 0, none⟩ .i64 fun n =>
  ldInt H ⟨s9, 1, none⟩ .i64 fun n1 =>
  ldSl H a1 fun q qn qc =>
  idxD q qn s20 fun a3 =>
  ldInt H (Addr.add a3 (Int.toNat s20 * 2)) .i64 fun n2 =>
  ldInt H (Addr.add (Addr.add a3 (Int.toNat s20 * 2)) 1) .i64 fun n3 =>
  callV Try.prog (FV.v f) [(.agg ⟨[(.int .i64 n), (.int .i64 n1)]⟩), (.agg ⟨[(.int .i64 n2), (.int .i64 n3)]⟩)] H (panK R) fun v H1 =>
  tBool v fun b =>
  iteB b (
    L6 s0 s1 s4 s5 s6 s9 s10 s20 H1 R) <|
  L3 s0 s1 s4 s5 s6 s9 s10 s20 H1 R
theorem L2_step {s0 : Option Addr} {s1 : Int} {s4 : Bool} {s5 : Bool} {s6 : FV} {s9 : Nat} {s10 : Nat} {s20 : Int} {H : Heap} {R : Ending → Heap → Prop} (h : L2n s0 s1 s4 s5 s6 s9 s10 s20 H R) : L2 s0 s1 s4 s5 s6 s9 s10 s20 H R :=
  goL_of_den (an := an) (fuel := 100000) (X := L2n s0 s1 s4 s5 s6 s9 s10 s20 H R) mixed fn (by kernel_rfl) (fun ρ0 => by kernel_rfl) h
def L3n (s0 : Option Addr) (s1 : Int) (s4 : Bool) (s5 : Bool) (s6 : FV) (s9 : Nat) (s10 : Nat) (s20 : Int) (H : Heap) (R : Ending → Heap → Prop) : Prop :=
  nilD s0 fun a =>
  ldSl H (Addr.add a 1) fun q qn qc =>
  iteB (decide (((qn : Nat) : Int) > (0 : Int))) (
    nilD s0 fun a1 =>
    ldSl H (Addr.add a1 1) fun q1 q1n q1c =>
    idxD q1 q1n (IntKind.wrap .i64 (s20 + (1 : Int))) fun a2 =>
    ldPtr H (Addr.add a2 (Int.toNat (IntKind.wrap .i64 (s20 + (1 : Int))) * 1)) fun p =>
    ldInt H ⟨s9, 0, none⟩ .i64 fun n =>
    ldInt H ⟨s9, 1, none⟩ .i64 fun n1 =>
    ldBool H ⟨s9, 2, none⟩ fun b =>
    ldInt H ⟨s10, 0, none⟩ .i64 fun n2 =>
    ldInt H ⟨s10, 1, none⟩ .i64 fun n3 =>
    ldBool H ⟨s10, 2, none⟩ fun b1 =>
    callD Try.prog 72 [(.pointer p), (.int .i64 s1), (.agg ⟨[(.int .i64 n), (.int .i64 n1), (.bool b)]⟩), (.agg ⟨[(.int .i64 n2), (.int .i64 n3), (.bool b1)]⟩), (.bool s4), (.bool s5), (FV.v s6)] H (panK R) fun v H1 =>
    tTup v fun l =>
    tCons l fun c l1 =>
    tBool c fun b2 =>
    tCons l1 fun c1 l2 =>
    tBool c1 fun b3 =>
    tNil l2 <|
    iteB (!b3) (
      R (.returned (.tuple ⟨[(.bool b2), (.bool false)]⟩)) H1) <|
    L4 s0 s1 s4 b2 s6 s9 s10 s20 H1 R) <|
  L4 s0 s1 s4 s5 s6 s9 s10 s20 H R
theorem L3_step {s0 : Option Addr} {s1 : Int} {s4 : Bool} {s5 : Bool} {s6 : FV} {s9 : Nat} {s10 : Nat} {s20 : Int} {H : Heap} {R : Ending → Heap → Prop} (h : L3n s0 s1 s4 s5 s6 s9 s10 s20 H R) : L3 s0 s1 s4 s5 s6 s9 s10 s20 H R :=
  goL_of_den (an := an) (fuel := 100000) (X := L3n s0 s1 s4 s5 s6 s9 s10 s20 H R) mixed fn (by kernel_rfl) (fun ρ0 => by kernel_rfl) h
def L4n (s0 : Option Addr) (s1 : Int) (s4 : Bool) (s5 : Bool) (s6 : FV) (s9 : Nat) (s10 : Nat) (s20 : Int) (H : Heap) (R : Ending → Heap → Prop) : Prop :=
  ldBool H ⟨s10, 2, none⟩ fun b =>
  iteB b (
    nilD s0 fun a =>
    nilD s0 fun a1 =>
    ldPtr H (Addr.add a 2) fun p =>
    nilD p fun a2 =>
    ldFn H (Addr.add a2 1) fun f =>
    ldInt H ⟨s10, 0, none⟩ .i64 fun n =>
    ldInt H ⟨s10, 1, none⟩ .i64 fun n1 =>
    ldSl H a1 fun q qn qc =>
    idxD q qn s20 fun a3 =>
    ldInt H (Addr.add a3 (Int.toNat s20 * 2)) .i64 fun n2 =>
    ldInt H (Addr.add (Addr.add a3 (Int.toNat s20 * 2)) 1) .i64 fun n3 =>
    callV Try.prog (FV.v f) [(.agg ⟨[(.int .i64 n), (.int .i64 n1)]⟩), (.agg ⟨[(.int .i64 n2), (.int .i64 n3)]⟩)] H (panK R) fun v H1 =>
    tBool v fun b1 =>
    iteB (!b1) (
      R (.returned (.tuple ⟨[(.bool s5), (.bool false)]⟩)) H1) <|
    L5 s0 s1 s4 s6 s9 s10 s20 H1 R) <|
  L5 s0 s1 s4 s6 s9 s10 s20 H R
theorem L4_step {s0 : Option Addr} {s1 : Int} {s4 : Bool} {s5 : Bool} {s6 : FV} {s9 : Nat} {s10 : Nat} {s20 : Int} {H : Heap} {R : Ending → Heap → Prop} (h : L4n s0 s1 s4 s5 s6 s9 s10 s20 H R) : L4 s0 s1 s4 s5 s6 s9 s10 s20 H R :=
  goL_of_den (an := an) (fuel := 100000) (X := L4n s0 s1 s4 s5 s6 s9 s10 s20 H R) mixed fn (by kernel_rfl) (fun ρ0 => by kernel_rfl) h
def L5n (s0 : Option Addr) (s1 : Int) (s4 : Bool) (s6 : FV) (s9 : Nat) (s10 : Nat) (s20 : Int) (H : Heap) (R : Ending → Heap → Prop) : Prop :=
  nilD s0 fun a =>
  ldSl H a fun q qn qc =>
  idxD q qn s20 fun a1 =>
  ldInt H (Addr.add a1 (Int.toNat s20 * 2)) .i64 fun n =>
  ldInt H (Addr.add (Addr.add a1 (Int.toNat s20 * 2)) 1) .i64 fun n1 =>
  callV Try.prog (FV.v s6) [(.agg ⟨[(.int .i64 n), (.int .i64 n1)]⟩)] H (panK R) fun v H1 =>
  tBool v fun b =>
  iteB (!b) (
    R (.returned (.tuple ⟨[(.bool true), (.bool false)]⟩)) H1) <|
  L6 s0 s1 s4 true s6 s9 s10 s20 H1 R
theorem L5_step {s0 : Option Addr} {s1 : Int} {s4 : Bool} {s6 : FV} {s9 : Nat} {s10 : Nat} {s20 : Int} {H : Heap} {R : Ending → Heap → Prop} (h : L5n s0 s1 s4 s6 s9 s10 s20 H R) : L5 s0 s1 s4 s6 s9 s10 s20 H R :=
  goL_of_den (an := an) (fuel := 100000) (X := L5n s0 s1 s4 s6 s9 s10 s20 H R) mixed fn (by kernel_rfl) (fun ρ0 => by kernel_rfl) h
def L6n (s0 : Option Addr) (s1 : Int) (s4 : Bool) (s5 : Bool) (s6 : FV) (s9 : Nat) (s10 : Nat) (s20 : Int) (H : Heap) (R : Ending → Heap → Prop) : Prop :=
  L1 s0 s1 s4 s5 s6 s9 s10 (IntKind.wrap .i64 (s20 - (1 : Int))) H R
theorem L6_step {s0 : Option Addr} {s1 : Int} {s4 : Bool} {s5 : Bool} {s6 : FV} {s9 : Nat} {s10 : Nat} {s20 : Int} {H : Heap} {R : Ending → Heap → Prop} (h : L6n s0 s1 s4 s5 s6 s9 s10 s20 H R) : L6 s0 s1 s4 s5 s6 s9 s10 s20 H R :=
  goL_of_den (an := an) (fuel := 100000) (X := L6n s0 s1 s4 s5 s6 s9 s10 s20 H R) mixed fn (by kernel_rfl) (fun ρ0 => by kernel_rfl) h
def L7n (s0 : Option Addr) (s1 : Int) (s4 : Bool) (s5 : Bool) (s6 : FV) (s9 : Nat) (s10 : Nat) (s18 : Int) (H : Heap) (R : Ending → Heap → Prop) : Prop :=
  L8 s0 s1 s4 s5 s6 s9 s10 s18 H R
theorem L7_step {s0 : Option Addr} {s1 : Int} {s4 : Bool} {s5 : Bool} {s6 : FV} {s9 : Nat} {s10 : Nat} {s18 : Int} {H : Heap} {R : Ending → Heap → Prop} (h : L7n s0 s1 s4 s5 s6 s9 s10 s18 H R) : L7 s0 s1 s4 s5 s6 s9 s10 s18 H R :=
  goL_of_den (an := an) (fuel := 100000) (X := L7n s0 s1 s4 s5 s6 s9 s10 s18 H R) mixed fn (by kernel_rfl) (fun ρ0 => by kernel_rfl) h
def L8n (s0 : Option Addr) (s1 : Int) (s4 : Bool) (s5 : Bool) (s6 : FV) (s9 : Nat) (s10 : Nat) (s19 : Int) (H : Heap) (R : Ending → Heap → Prop) : Prop :=
  nilD s0 fun a =>
  ldSl H a fun q qn qc =>
  iteB (decide (s19 < ((qn : Nat) : Int))) (
    nilD s0 fun a1 =>
    ldSl H (Addr.add a1 1) fun q1 q1n q1c =>
    iteB (decide (((q1n : Nat) : Int) > (0 : Int))) (
      nilD s0 fun a2 =>
      ldSl H (Addr.add a2 1) fun q2 q2n q2c =>
      idxD q2 q2n s19 fun a3 =>
      ldPtr H (Addr.add a3 (Int.toNat s19 * 1)) fun p =>
      ldInt H ⟨s9, 0, none⟩ .i64 fun n =>
      ldInt H ⟨s9, 1, none⟩ .i64 fun n1 =>
      ldBool H ⟨s9, 2, none⟩ fun b =>
      ldInt H ⟨s10, 0, none⟩ .i64 fun n2 =>
      ldInt H ⟨s10, 1, none⟩ .i64 fun n3 =>
      ldBool H ⟨s10, 2, none⟩ fun b1 =>
      callD Try.prog 72 [(.pointer p), (.int .i64 s1), (.agg ⟨[(.int .i64 n), (.int .i64 n1), (.bool b)]⟩), (.agg ⟨[(.int .i64 n2), (.int .i64 n3), (.bool b1)]⟩), (.bool s4), (.bool s5), (FV.v s6)] H (panK R) fun v H1 =>
      tTup v fun l =>
      tCons l fun c l1 =>
      tBool c fun b2 =>
      tCons l1 fun c1 l2 =>
      tBool c1 fun b3 =>
      tNil l2 <|
      iteB (!b3) (
        R (.returned (.tuple ⟨[(.bool b2), (.bool false)]⟩)) H1) <|
      L9 s0 s1 s4 b2 s6 s9 s10 s19 H1 R) <|
    L9 s0 s1 s4 s5 s6 s9 s10 s19 H R) <|
  nilD s0 fun a4 =>
  ldSl H (Addr.add a4 1) fun q3 q3n q3c =>
  iteB (decide (((q3n : Nat) : Int) > (0 : Int))) (
    nilD s0 fun a5 =>
    nilD s0 fun a6 =>
    ldSl H (Addr.add a5 1) fun q4 q4n q4c =>
    ldSl H (Addr.add a6 1) fun q5 q5n q5c =>
    idxD q4 q4n (IntKind.wrap .i64 (((q5n : Nat) : Int) - (1 : Int))) fun a7 =>
    ldPtr H (Addr.add a7 (Int.toNat (IntKind.wrap .i64 (((q5n : Nat) : Int) - (1 : Int))) * 1)) fun p1 =>
    ldInt H ⟨s9, 0, none⟩ .i64 fun n4 =>
    ldInt H ⟨s9, 1, none⟩ .i64 fun n5 =>
    ldBool H ⟨s9, 2, none⟩ fun b4 =>
    ldInt H ⟨s10, 0, none⟩ .i64 fun n6 =>
    ldInt H ⟨s10, 1, none⟩ .i64 fun n7 =>
    ldBool H ⟨s10, 2, none⟩ fun b5 =>
    callD Try.prog 72 [(.pointer p1), (.int .i64 s1), (.agg ⟨[(.int .i64 n4), (.int .i64 n5), (.bool b4)]⟩), (.agg ⟨[(.int .i64 n6), (.int .i64 n7), (.bool b5)]⟩), (.bool s4), (.bool s5), (FV.v s6)] H (panK R) fun v1 H2 =>
    tTup v1 fun l3 =>
    tCons l3 fun c2 l4 =>
    tBool c2 fun b6 =>
    tCons l4 fun c3 l5 =>
    tBool c3 fun b7 =>
    tNil l5 <|
    iteB (!b7) (
      R (.returned (.tuple ⟨[(.bool b6), (.bool false)]⟩)) H2) <|
    R (.returned (.tuple ⟨[(.bool b6), (.bool true)]⟩)) H2) <|
  R (.returned (.tuple ⟨[(.bool s5), (.bool true)]⟩)) H
theorem L8_step {s0 : Option Addr} {s1 : Int} {s4 : Bool} {s5 : Bool} {s6 : FV} {s9 : Nat} {s10 : Nat} {s19 : Int} {H : Heap} {R : Ending → Heap → Prop} (h : L8n s0 s1 s4 s5 s6 s9 s10 s19 H R) : L8 s0 s1 s4 s5 s6 s9 s10 s19 H R :=
  goL_of_den (an := an) (fuel := 100000) (X := L8n s0 s1 s4 s5 s6 s9 s10 s19 H R) mixed fn (by kernel_rfl) (fun ρ0 => by kernel_rfl) h
def L9n (s0 : Option Addr) (s1 : Int) (s4 : Bool) (s5 : Bool) (s6 : FV) (s9 : Nat) (s10 : Nat) (s19 : Int) (H : Heap) (R : Ending → Heap → Prop) : Prop :=
  iteB (!s4) (
    iteB (!s5) (
      ldBool H ⟨s9, 2, none⟩ fun b =>
      iteB b (
        nilD s0 fun a =>
        nilD s0 fun a1 =>
        ldPtr H (Addr.add a 2) fun p =>
        nilD p fun a2 =>
        ldFn H (Addr.add a2 1) fun f =>
        ldInt H ⟨s9, 0, none⟩ .i64 fun n =>
        ldInt H ⟨s9, 1, none⟩ .i64 fun n1 =>
        ldSl H a1 fun q qn qc =>
        idxD q qn s19 fun a3 =>
        ldInt H (Addr.add a3 (Int.toNat s19 * 2)) .i64 fun n2 =>
        ldInt H (Addr.add (Addr.add a3 (Int.toNat s19 * 2)) 1) .i64 fun n3 =>
        callV Try.prog (FV.v f) [(.agg ⟨[(.int .i64 n), (.int .i64 n1)]⟩), (.agg ⟨[(.int .i64 n2), (.int .i64 n3)]⟩)] H (panK R) fun v H1 =>
        tBool v fun b1 =>
        iteB (!b1) (
          L12 s0 s1 s4 s6 s9 s10 s19 H1 R) <|
        L10 s0 s1 s4 s6 s9 s10 s19 H1 R) <|
      L10 s0 s1 s4 s6 s9 s10 s19 H R) <|
    L10 s0 s1 s4 s6 s9 s10 s19 H R) <|
  L10 s0 s1 s4 s6 s9 s10 s19 H R
theorem L9_step {s0 : Option Addr} {s1 : Int} {s4 : Bool} {s5 : Bool} {s6 : FV} {s9 : Nat} {s10 : Nat} {s19 : Int} {H : Heap} {R : Ending → Heap → Prop} (h : L9n s0 s1 s4 s5 s6 s9 s10 s19 H R) : L9 s0 s1 s4 s5 s6 s9 s10 s19 H R :=
  goL_of_den (an := an) (fuel := 100000) (X := L9n s0 s1 s4 s5 s6 s9 s10 s19 H R) mixed fn (by kernel_rfl) (fun ρ0 => by kernel_rfl) h
def L10n (s0 : Option Addr) (s1 : Int) (s4 : Bool) (s6 : FV) (s9 : Nat) (s10 : Nat) (s19 : Int) (H : Heap) (R : Ending → Heap → Prop) : Prop :=
  ldBool H ⟨s10, 2, none⟩ fun b =>
  iteB b (
    nilD s0 fun a =>
    nilD s0 fun a1 =>
    ldPtr H (Addr.add a 2) fun p =>
    nilD p fun a2 =>
    ldFn H (Addr.add a2 1) fun f =>
    ldSl H a1 fun q qn qc =>
    idxD q qn s19 fun a3 =>
    ldInt H (Addr.add a3 (Int.toNat s19 * 2)) .i64 fun n =>
    ldInt H (Addr.add (Addr.add a3 (Int.toNat s19 * 2)) 1) .i64 fun n1 =>
    ldInt H ⟨s10, 0, none⟩ .i64 fun n2 =>
    ldInt H ⟨s10, 1, none⟩ .i64 fun n3 =>
    callV Try.prog (FV.v f) [(.agg ⟨[(.int .i64 n), (.int .i64 n1)]⟩), (.agg ⟨[(.int .i64 n2), (.int .i64 n3)]⟩)] H (panK R) fun v H1 =>
    tBool v fun b1 =>
    iteB (!b1) (
      R (.returned (.tuple ⟨[(.bool true), (.bool false)]⟩)) H1) <|
    L11 s0 s1 s4 true s6 s9 s10 s19 H1 R) <|
  L11 s0 s1 s4 true s6 s9 s10 s19 H R
theorem L10_step {s0 : Option Addr} {s1 : Int} {s4 : Bool} {s6 : FV} {s9 : Nat} {s10 : Nat} {s19 : Int} {H : Heap} {R : Ending → Heap → Prop} (h : L10n s0 s1 s4 s6 s9 s10 s19 H R) : L10 s0 s1 s4 s6 s9 s10 s19 H R :=
  goL_of_den (an := an) (fuel := 100000) (X := L10n s0 s1 s4 s6 s9 s10 s19 H R) mixed fn (by kernel_rfl) (fun ρ0 => by kernel_rfl) h
def L11n (s0 : Option Addr) (s1 : Int) (s4 : Bool) (s5 : Bool) (s6 : FV) (s9 : Nat) (s10 : Nat) (s19 : Int) (H : Heap) (R : Ending → Heap → Prop) : Prop :=
  nilD s0 fun a =>
  ldSl H a fun q qn qc =>
  idxD q qn s19 fun a1 =>
  ldInt H (Addr.add a1 (Int.toNat s19 * 2)) .i64 fun n =>
  ldInt H (Addr.add (Addr.add a1 (Int.toNat s19 * 2)) 1) .i64 fun n1 =>
  callV Try.prog (FV.v s6) [(.agg ⟨[(.int .i64 n), (.int .i64 n1)]⟩)] H (panK R) fun v H1 =>
  tBool v fun b =>
  iteB (!b) (
    R (.returned (.tuple ⟨[(.bool s5), (.bool false)]⟩)) H1) <|
  L13 s0 s1 s4 s5 s6 s9 s10 s19 H1 R
theorem L11_step {s0 : Option Addr} {s1 : Int} {s4 : Bool} {s5 : Bool} {s6 : FV} {s9 : Nat} {s10 : Nat} {s19 : Int} {H : Heap} {R : Ending → Heap → Prop} (h : L11n s0 s1 s4 s5 s6 s9 s10 s19 H R) : L11 s0 s1 s4 s5 s6 s9 s10 s19 H R :=
  goL_of_den (an := an) (fuel := 100000) (X := L11n s0 s1 s4 s5 s6 s9 s10 s19 H R) mixed fn (by kernel_rfl) (fun ρ0 => by kernel_rfl) h
def L12n (s0 : Option Addr) (s1 : Int) (s4 : Bool) (s6 : FV) (s9 : Nat) (s10 : Nat) (s19 : Int) (H : Heap) (R : Ending → Heap → Prop) : Prop :=
  L13 s0 s1 s4 true s6 s9 s10 s19 H R
theorem L12_step {s0 : Option Addr} {s1 : Int} {s4 : Bool} {s6 : FV} {s9 : Nat} {s10 : Nat} {s19 : Int} {H : Heap} {R : Ending → Heap → Prop} (h : L12n s0 s1 s4 s6 s9 s10 s19 H R) : L12 s0 s1 s4 s6 s9 s10 s19 H R :=
  goL_of_den (an := an) (fuel := 100000) (X := L12n s0 s1 s4 s6 s9 s10 s19 H R) mixed fn (by kernel_rfl) (fun ρ0 => by kernel_rfl) h
def L13n (s0 : Option Addr) (s1 : Int) (s4 : Bool) (s5 : Bool) (s6 : FV) (s9 : Nat) (s10 : Nat) (s19 : Int) (H : Heap) (R : Ending → Heap → Prop) : Prop :=
  L8 s0 s1 s4 s5 s6 s9 s10 (IntKind.wrap .i64 (s19 + (1 : Int))) H R
theorem L13_step {s0 : Option Addr} {s1 : Int} {s4 : Bool} {s5 : Bool} {s6 : FV} {s9 : Nat} {s10 : Nat} {s19 : Int} {H : Heap} {R : Ending → Heap → Prop} (h : L13n s0 s1 s4 s5 s6 s9 s10 s19 H R) : L13 s0 s1 s4 s5 s6 s9 s10 s19 H R :=
  goL_of_den (an := an) (fuel := 100000) (X := L13n s0 s1 s4 s5 s6 s9 s10 s19 H R) mixed fn (by kernel_rfl) (fun ρ0 => by kernel_rfl) h
def go (s0 : Option Addr) (s1 : Int) (s2_0 : Int) (s2_1 : Int) (s2_2 : Bool) (s3_0 : Int) (s3_1 : Int) (s3_2 : Bool) (s4 : Bool) (s5 : Bool) (s6 : FV) (H : Heap) (R : Ending → Heap → Prop) : Prop :=
  newD H (.cells ⟨[(.int .i64 s2_0), (.int .i64 s2_1), (.bool s2_2)]⟩ 119) fun r H1 =>
  newD H1 (.cells ⟨[(.int .i64 s3_0), (.int .i64 s3_1), (.bool s3_2)]⟩ 119) fun r1 H2 =>
  iteB (s1 == (1 : Int)) (
    ldBool H2 ⟨r, 2, none⟩ fun b =>
    iteB b (
      nilD s0 fun a =>
      nilD s0 fun a1 =>
      ldSl H2 a fun q qn qc =>
      ldInt H2 ⟨r, 0, none⟩ .i64 fun n =>
      ldInt H2 ⟨r, 1, none⟩ .i64 fun n1 =>
      ldPtr H2 (Addr.add a1 2) fun p =>
      nilD p fun a2 =>
      ldFn H2 (Addr.add a2 1) fun f =>
      callD Try.prog 65 [(.slice q qn qc), (.agg ⟨[(.int .i64 n), (.int .i64 n1)]⟩), (FV.v f)] H2 (panK R) fun v H3 =>
      tTup v fun l =>
      tCons l fun c l1 =>
      tInt c .i64 fun n2 =>
      tCons l1 fun c1 l2 =>
      tBool c1 fun b1 =>
      tNil l2 <|
      L7 s0 s1 s4 s5 s6 r r1 n2 H3 R) <|
    L7 s0 s1 s4 s5 s6 r r1 (0 : Int) H2 R) <|
  iteB (s1 == (-1 : Int)) (
    ldBool H2 ⟨r, 2, none⟩ fun b2 =>
    iteB b2 (
      nilD s0 fun a3 =>
      nilD s0 fun a4 =>
      ldSl H2 a3 fun q1 q1n q1c =>
      ldInt H2 ⟨r, 0, none⟩ .i64 fun n3 =>
      ldInt H2 ⟨r, 1, none⟩ .i64 fun n4 =>
      ldPtr H2 (Addr.add a4 2) fun p1 =>
      nilD p1 fun a5 =>
      ldFn H2 (Addr.add a5 1) fun f1 =>
      callD Try.prog 65 [(.slice q1 q1n q1c), (.agg ⟨[(.int .i64 n3), (.int .i64 n4)]⟩), (FV.v f1)] H2 (panK R) fun v1 H4 =>
      tTup v1 fun l3 =>
      tCons l3 fun c2 l4 =>
      tInt c2 .i64 fun n5 =>
      tCons l4 fun c3 l5 =>
      tBool c3 fun b3 =>
      tNil l5 <|
      iteB (!b3) (
        L0 s0 s1 s4 s5 s6 r r1 (IntKind.wrap .i64 (n5 - (1 : Int))) H4 R) <|
      L0 s0 s1 s4 s5 s6 r r1 n5 H4 R) <|
    nilD s0 fun a6 =>
    ldSl H2 a6 fun q2 q2n q2c =>
    L0 s0 s1 s4 s5 s6 r r1 (IntKind.wrap .i64 (((q2n : Nat) : Int) - (1 : Int))) H2 R) <|
  R (.returned (.tuple ⟨[(.bool s5), (.bool true)]⟩)) H2
theorem calls {s0 : Option Addr} {s1 : Int} {s2_0 : Int} {s2_1 : Int} {s2_2 : Bool} {s3_0 : Int} {s3_1 : Int} {s3_2 : Bool} {s4 : Bool} {s5 : Bool} {s6 : FV} {H : Heap} {R : Ending → Heap → Prop} (h : go s0 s1 s2_0 s2_1 s2_2 s3_0 s3_1 s3_2 s4 s5 s6 H R) : CallsH Try.prog 72 ⟨[(.pointer s0), (.int .i64 s1), (.agg ⟨[(.int .i64 s2_0), (.int .i64 s2_1), (.bool s2_2)]⟩), (.agg ⟨[(.int .i64 s3_0), (.int .i64 s3_1), (.bool s3_2)]⟩), (.bool s4), (.bool s5), (FV.v s6)]⟩ H R :=
  callsH_of_den (an := an) (fuel := 100000) (X := go s0 s1 s2_0 s2_1 s2_2 s3_0 s3_1 s3_2 s4 s5 s6 H R) (c := body) mixed fn (by kernel_rfl) (by kernel_rfl) (by kernel_rfl) ok (by kernel_rfl) h
end F72
/-! ### 73 "pub-stadtholder/pub/etcdserver/btree.empty[pub-stadtholder/impl.El]" -/
namespace F73
def an : Ann := { kinds := [], taus := [], pairs := [], lab := [] }
noncomputable def body : Code := (Try.f73.body).getD .skip
theorem fn : Try.prog.funcs[73]? = some Try.f73 := by kernel_rfl
theorem ok : codeOk an 2 body = true := by kernel_rfl
def go  (H : Heap) (R : Ending → Heap → Prop) : Prop :=
  newD H (.cells ⟨[(.int .i64 (0 : Int)), (.int .i64 (0 : Int)), (.bool false)]⟩ 119) fun r H1 =>
  st1 H1 ⟨r, 0, none⟩ (.int .i64 (0 : Int)) fun H2 =>
  st1 H2 ⟨r, 1, none⟩ (.int .i64 (0 : Int)) fun H3 =>
  st1 H3 ⟨r, 2, none⟩ (.bool false) fun H4 =>
  ldInt H4 ⟨r, 0, none⟩ .i64 fun n =>
  ldInt H4 ⟨r, 1, none⟩ .i64 fun n1 =>
  ldBool H4 ⟨r, 2, none⟩ fun b =>
  R (.returned (.agg ⟨[(.int .i64 n), (.int .i64 n1), (.bool b)]⟩)) H4
theorem calls  {H : Heap} {R : Ending → Heap → Prop} (h : go  H R) : CallsH Try.prog 73 ⟨[]⟩ H R :=
  callsH_of_den (an := an) (fuel := 100000) (X := go  H R) (c := body) mixed fn (by kernel_rfl) (by kernel_rfl) (by kernel_rfl) ok (by kernel_rfl) h
end F73
/-! ### 74 "pub-stadtholder/pub/etcdserver/btree.optional[pub-stadtholder/impl.El]" -/
namespace F74
def an : Ann := { kinds := [], taus := [], pairs := [], lab := [] }
noncomputable def body : Code := (Try.f74.body).getD .skip
theorem fn : Try.prog.funcs[74]? = some Try.f74 := by kernel_rfl
theorem ok : codeOk an 5 body = true := by kernel_rfl
def go (item_0 : Int) (item_1 : Int) (H : Heap) (R : Ending → Heap → Prop) : Prop :=
  newD H (.cells ⟨[(.int .i64 item_0), (.int .i64 item_1)]⟩ 25) fun r H1 =>
  newD H1 (.cells ⟨[(.int .i64 (0 : Int)), (.int .i64 (0 : Int)), (.bool false)]⟩ 119) fun r1 H2 =>
  ldInt H2 ⟨r, 0, none⟩ .i64 fun n =>
  ldInt H2 ⟨r, 1, none⟩ .i64 fun n1 =>
  st1 H2 ⟨r1, 0, none⟩ (.int .i64 n) fun H3 =>
  st1 H3 ⟨r1, 1, none⟩ (.int .i64 n1) fun H4 =>
  st1 H4 ⟨r1, 2, none⟩ (.bool true) fun H5 =>
  ldInt H5 ⟨r1, 0, none⟩ .i64 fun n2 =>
  ldInt H5 ⟨r1, 1, none⟩ .i64 fun n3 =>
  ldBool H5 ⟨r1, 2, none⟩ fun b =>
  R (.returned (.agg ⟨[(.int .i64 n2), (.int .i64 n3), (.bool b)]⟩)) H5
theorem calls {item_0 : Int} {item_1 : Int} {H : Heap} {R : Ending → Heap → Prop} (h : go item_0 item_1 H R) : CallsH Try.prog 74 ⟨[(.agg ⟨[(.int .i64 item_0), (.int .i64 item_1)]⟩)]⟩ H R :=
  callsH_of_den (an := an) (fuel := 100000) (X := go item_0 item_1 H R) (c := body) mixed fn (by kernel_rfl) (by kernel_rfl) (by kernel_rfl) ok (by kernel_rfl) h
end F74
/-! ### 75 "(*pub-stadtholder/pub/stand/sync.Mutex).Lock" -/
namespace F75
def an : Ann := { kinds := [], taus := [], pairs := [], lab := [] }
noncomputable def body : Code := (Try.f75.body).getD .skip
theorem fn : Try.prog.funcs[75]? = some Try.f75 := by kernel_rfl
theorem ok : codeOk an 2 body = true := by kernel_rfl
def go (m : Option Addr) (H : Heap) (R : Ending → Heap → Prop) : Prop :=
  R (.returned (.tuple ⟨[]⟩)) H
theorem calls {m : Option Addr} {H : Heap} {R : Ending → Heap → Prop} (h : go m H R) : CallsH Try.prog 75 ⟨[(.pointer m)]⟩ H R :=
  callsH_of_den (an := an) (fuel := 100000) (X := go m H R) (c := body) mixed fn (by kernel_rfl) (by kernel_rfl) (by kernel_rfl) ok (by kernel_rfl) h
end F75
/-! ### 76 "(*pub-stadtholder/pub/stand/sync.Mutex).Unlock" -/
namespace F76
def an : Ann := { kinds := [], taus := [], pairs := [], lab := [] }
noncomputable def body : Code := (Try.f76.body).getD .skip
theorem fn : Try.prog.funcs[76]? = some Try.f76 := by kernel_rfl
theorem ok : codeOk an 2 body = true := by kernel_rfl
def go (m : Option Addr) (H : Heap) (R : Ending → Heap → Prop) : Prop :=
  R (.returned (.tuple ⟨[]⟩)) H
theorem calls {m : Option Addr} {H : Heap} {R : Ending → Heap → Prop} (h : go m H R) : CallsH Try.prog 76 ⟨[(.pointer m)]⟩ H R :=
  callsH_of_den (an := an) (fuel := 100000) (X := go m H R) (c := body) mixed fn (by kernel_rfl) (by kernel_rfl) (by kernel_rfl) ok (by kernel_rfl) h
end F76
/-! ### 77 "sort.Search" -/
namespace F77
def an : Ann := { kinds := [], taus := [], pairs := [], lab := [(40000003, [1, 5, 6])] }
noncomputable def body : Code := (Try.f77.body).getD .skip
theorem fn : Try.prog.funcs[77]? = some Try.f77 := by kernel_rfl
theorem ok : codeOk an 26 body = true := by kernel_rfl
noncomputable def L0t : List Item := [.code (sub [1, 1, 0, 0, 0] body), .inLoop (sub [1, 1, 0, 0, 0] body), .inBlock 0, .code (sub [1, 1, 1] body)]
def L0 (f : FV) (i : Int) (j : Int) (H : Heap) (R : Ending → Heap → Prop) : Prop :=
  GoL Try.prog 77 26 L0t [1, 5, 6] [(FV.v f), (.int .i64 i), (.int .i64 j)] H R
def L0n (f : FV) (i : Int) (j : Int) (H : Heap) (R : Ending → Heap → Prop) : Prop :=
  iteB (decide (i < j)) (
    shD (1 : Int) <|
    callV Try.prog (FV.v f) [(.int .i64 (IntKind.wrap .i64 (shrZ .u64 (IntKind.wrap .u64 (IntKind.wrap .i64 (i + j))) (1 : Int))))] H (panK R) fun v H1 =>
    tBool v fun b =>
    iteB (!b) (
      L0 f (IntKind.wrap .i64 ((IntKind.wrap .i64 (shrZ .u64 (IntKind.wrap .u64 (IntKind.wrap .i64 (i + j))) (1 : Int))) + (1 : Int))) j H1 R) <|
    L0 f i (IntKind.wrap .i64 (shrZ .u64 (IntKind.wrap .u64 (IntKind.wrap .i64 (i + j))) (1 : Int))) H1 R) <|
  R (.returned (.int .i64 i)) H
theorem L0_step {f : FV} {i : Int} {j : Int} {H : Heap} {R : Ending → Heap → Prop} (h : L0n f i j H R) : L0 f i j H R :=
  goL_of_den (an := an) (fuel := 100000) (X := L0n f i j H R) mixed fn (by kernel_rfl) (fun ρ0 => by kernel_rfl) h
def go (n : Int) (f : FV) (H : Heap) (R : Ending → Heap → Prop) : Prop :=
  L0 f (0 : Int) n H R
theorem calls {n : Int} {f : FV} {H : Heap} {R : Ending → Heap → Prop} (h : go n f H R) : CallsH Try.prog 77 ⟨[(.int .i64 n), (FV.v f)]⟩ H R :=
  callsH_of_den (an := an) (fuel := 100000) (X := go n f H R) (c := body) mixed fn (by kernel_rfl) (by kernel_rfl) (by kernel_rfl) ok (by kernel_rfl) h
end F77
/-! ### 78 "(pub-stadtholder/pub/etcdserver/btree.items[pub-stadtholder/impl.El]).find$1" -/
namespace F78
def an : Ann := { kinds := [], taus := [(1, [[3, 0, 1, 2, 4, 5, 6, 7]])], pairs := [], lab := [] }
noncomputable def body : Code := (Try.f78.body).getD .skip
theorem fn : Try.prog.funcs[78]? = some Try.f78 := by kernel_rfl
theorem ok : codeOk an 13 body = true := by kernel_rfl
def go (i : Int) (s1 : Addr) (s2 : Addr) (s3 : Addr) (H : Heap) (R : Ending → Heap → Prop) : Prop :=
  ldFn H s1 fun f =>
  ldInt H s2 .i64 fun n =>
  ldInt H (Addr.add s2 1) .i64 fun n1 =>
  ldSl H s3 fun q qn qc =>
  idxD q qn i fun a =>
  ldInt H (Addr.add a (Int.toNat i * 2)) .i64 fun n2 =>
  ldInt H (Addr.add (Addr.add a (Int.toNat i * 2)) 1) .i64 fun n3 =>
  callV Try.prog (FV.v f) [(.agg ⟨[(.int .i64 n), (.int .i64 n1)]⟩), (.agg ⟨[(.int .i64 n2), (.int .i64 n3)]⟩)] H (panK R) fun v H1 =>
  tBool v fun b =>
  R (.returned (.bool b)) H1
theorem calls {i : Int} {s1 : Addr} {s2 : Addr} {s3 : Addr} {H : Heap} {R : Ending → Heap → Prop} (h : go i s1 s2 s3 H R) : CallsH Try.prog 78 ⟨[(.int .i64 i), (.pointer (some s1)), (.pointer (some s2)), (.pointer (some s3))]⟩ H R :=
  callsH_of_den (an := an) (fuel := 100000) (X := go i s1 s2 s3 H R) (c := body) mixed fn (by kernel_rfl) (by kernel_rfl) (by kernel_rfl) ok (by kernel_rfl) h
end F78
/-! ### 79 "(*pub-stadtholder/pub/etcdserver/btree.items[*pub-stadtholder/pub/etcdserver/btree.node[pub-stadtholder/impl.El]]).insertAt" -/
namespace F79
def an : Ann := { kinds := [], taus := [(3, [[0, 1, 3, 4, 6, 7, 9, 2, 5, 8, 10, 11]])], pairs := [], lab := [(10000005, [0, 1, 2])] }
noncomputable def body : Code := (Try.f79.body).getD .skip
theorem fn : Try.prog.funcs[79]? = some Try.f79 := by kernel_rfl
theorem ok : codeOk an 39 body = true := by kernel_rfl
noncomputable def L0t : List Item := [.code (sub [1, 1, 1] body)]
def L0 (s : Option Addr) (index : Int) (item : Option Addr) (H : Heap) (R : Ending → Heap → Prop) : Prop :=
  GoL Try.prog 79 39 L0t [0, 1, 2] [(.pointer s), (.int .i64 index), (.pointer item)] H R
def L0n (s : Option Addr) (index : Int) (item : Option Addr) (H : Heap) (R : Ending → Heap → Prop) : Prop :=
  nilD s fun a =>
  ldSl H a fun q qn qc =>
  idxD q qn index fun a1 =>
  st1 H (Addr.add a1 (Int.toNat index * 1)) (.pointer item) fun H1 =>
  R (.returned (.tuple ⟨[]⟩)) H1
theorem L0_step {s : Option Addr} {index : Int} {item : Option Addr} {H : Heap} {R : Ending → Heap → Prop} (h : L0n s index item H R) : L0 s index item H R :=
  goL_of_den (an := an) (fuel := 100000) (X := L0n s index item H R) mixed fn (by kernel_rfl) (fun ρ0 => by kernel_rfl) h
def go (s : Option Addr) (index : Int) (item : Option Addr) (H : Heap) (R : Ending → Heap → Prop) : Prop :=
  nilD s fun a =>
  ldSl H a fun q qn qc =>
  newD H (.cells ⟨[(.pointer none)]⟩ 74) fun r H1 =>
  apD H1 1 8 [(.pointer none)] 74 q qn qc (some ⟨r, 0, none⟩) 1 fun q1 q1n q1c H2 =>
  nilD s fun a1 =>
  st1 H2 a1 (.slice q1 q1n q1c) fun H3 =>
  nilD s fun a2 =>
  ldSl H3 a2 fun q2 q2n q2c =>
  iteB (decide (index < ((q2n : Nat) : Int))) (
    nilD s fun a3 =>
    nilD s fun a4 =>
    ldSl H3 a3 fun q3 q3n q3c =>
    bndD (IntKind.wrap .i64 (index + (1 : Int))) q3n fun k =>
    ldSl H3 a4 fun q4 q4n q4c =>
    bndD index q4n fun k1 =>
    cpD H3 1 (slP q3 k q3c 1) (q3n - k) (slP q4 k1 q4c 1) (q4n - k1) fun k2 H4 =>
    L0 s index item H4 R) <|
  L0 s index item H3 R
theorem calls {s : Option Addr} {index : Int} {item : Option Addr} {H : Heap} {R : Ending → Heap → Prop} (h : go s index item H R) : CallsH Try.prog 79 ⟨[(.pointer s), (.int .i64 index), (.pointer item)]⟩ H R :=
  callsH_of_den (an := an) (fuel := 100000) (X := go s index item H R) (c := body) mixed fn (by kernel_rfl) (by kernel_rfl) (by kernel_rfl) ok (by kernel_rfl) h
end F79
/-! ### 80 "(*pub-stadtholder/pub/etcdserver/btree.items[pub-stadtholder/impl.El]).pop" -/
namespace F80
def an : Ann := { kinds := [], taus := [(4, [[0, 1, 3, 2, 4, 5, 6]])], pairs := [], lab := [] }
noncomputable def body : Code := (Try.f80.body).getD .skip
theorem fn : Try.prog.funcs[80]? = some Try.f80 := by kernel_rfl
theorem ok : codeOk an 29 body = true := by kernel_rfl
def go (s : Option Addr) (H : Heap) (R : Ending → Heap → Prop) : Prop :=
  newD H (.cells ⟨[(.int .i64 (0 : Int)), (.int .i64 (0 : Int))]⟩ 25) fun r H1 =>
  nilD s fun a =>
  ldSl H1 a fun q qn qc =>
  nilD s fun a1 =>
  ldSl H1 a1 fun q1 q1n q1c =>
  idxD q1 q1n (IntKind.wrap .i64 (((qn : Nat) : Int) - (1 : Int))) fun a2 =>
  ldInt H1 (Addr.add a2 (Int.toNat (IntKind.wrap .i64 (((qn : Nat) : Int) - (1 : Int))) * 2)) .i64 fun n =>
  ldInt H1 (Addr.add (Addr.add a2 (Int.toNat (IntKind.wrap .i64 (((qn : Nat) : Int) - (1 : Int))) * 2)) 1) .i64 fun n1 =>
  st1 H1 ⟨r, 0, none⟩ (.int .i64 n) fun H2 =>
  st1 H2 ⟨r, 1, none⟩ (.int .i64 n1) fun H3 =>
  newD H3 (.cells ⟨[(.int .i64 (0 : Int)), (.int .i64 (0 : Int))]⟩ 25) fun r1 H4 =>
  nilD s fun a3 =>
  ldSl H4 a3 fun q2 q2n q2c =>
  ldInt H4 ⟨r1, 0, none⟩ .i64 fun n2 =>
  ldInt H4 ⟨r1, 1, none⟩ .i64 fun n3 =>
  idxD q2 q2n (IntKind.wrap .i64 (((qn : Nat) : Int) - (1 : Int))) fun a4 =>
  st1 H4 (Addr.add a4 (Int.toNat (IntKind.wrap .i64 (((qn : Nat) : Int) - (1 : Int))) * 2)) (.int .i64 n2) fun H5 =>
  st1 H5 (Addr.add (Addr.add a4 (Int.toNat (IntKind.wrap .i64 (((qn : Nat) : Int) - (1 : Int))) * 2)) 1) (.int .i64 n3) fun H6 =>
  nilD s fun a5 =>
  ldSl H6 a5 fun q3 q3n q3c =>
  bndD (IntKind.wrap .i64 (((qn : Nat) : Int) - (1 : Int))) q3c fun k =>
  nilD s fun a6 =>
  st1 H6 a6 (.slice (slP q3 0 q3c 2) k q3c) fun H7 =>
  ldInt H7 ⟨r, 0, none⟩ .i64 fun n4 =>
  ldInt H7 ⟨r, 1, none⟩ .i64 fun n5 =>
  R (.returned (.agg ⟨[(.int .i64 n4), (.int .i64 n5)]⟩)) H7
theorem calls {s : Option Addr} {H : Heap} {R : Ending → Heap → Prop} (h : go s H R) : CallsH Try.prog 80 ⟨[(.pointer s)]⟩ H R :=
  callsH_of_den (an := an) (fuel := 100000) (X := go s H R) (c := body) mixed fn (by kernel_rfl) (by kernel_rfl) (by kernel_rfl) ok (by kernel_rfl) h
end F80
/-! ### 81 "(*pub-stadtholder/pub/etcdserver/btree.items[pub-stadtholder/impl.El]).removeAt" -/
namespace F81
def an : Ann := { kinds := [], taus := [(2, [[0, 1, 3, 5, 6, 8, 9, 2, 4, 7, 10, 11]]), (4, [[0, 1, 3, 4, 2, 5, 6, 7, 8, 9, 10]]), (5, [[0, 1, 2, 4, 5, 3, 6, 7, 8, 9, 10, 11]])], pairs := [], lab := [] }
noncomputable def body : Code := (Try.f81.body).getD .skip
theorem fn : Try.prog.funcs[81]? = some Try.f81 := by kernel_rfl
theorem ok : codeOk an 47 body = true := by kernel_rfl
def go (s : Option Addr) (index : Int) (H : Heap) (R : Ending → Heap → Prop) : Prop :=
  newD H (.cells ⟨[(.int .i64 (0 : Int)), (.int .i64 (0 : Int))]⟩ 25) fun r H1 =>
  nilD s fun a =>
  ldSl H1 a fun q qn qc =>
  idxD q qn index fun a1 =>
  ldInt H1 (Addr.add a1 (Int.toNat index * 2)) .i64 fun n =>
  ldInt H1 (Addr.add (Addr.add a1 (Int.toNat index * 2)) 1) .i64 fun n1 =>
  newD H1 (.cells ⟨[(.int .i64 (0 : Int)), (.int .i64 (0 : Int))]⟩ 25) fun r1 H2 =>
  st1 H2 ⟨r1, 0, none⟩ (.int .i64 n) fun H3 =>
  st1 H3 ⟨r1, 1, none⟩ (.int .i64 n1) fun H4 =>
  nilD s fun a2 =>
  nilD s fun a3 =>
  ldSl H4 a2 fun q1 q1n q1c =>
  bndD index q1n fun k =>
  ldSl H4 a3 fun q2 q2n q2c =>
  bndD (IntKind.wrap .i64 (index + (1 : Int))) q2n fun k1 =>
  cpD H4 2 (slP q1 k q1c 2) (q1n - k) (slP q2 k1 q2c 2) (q2n - k1) fun k2 H5 =>
  newD H5 (.cells ⟨[(.int .i64 (0 : Int)), (.int .i64 (0 : Int))]⟩ 25) fun r2 H6 =>
  nilD s fun a4 =>
  nilD s fun a5 =>
  ldSl H6 a4 fun q3 q3n q3c =>
  ldSl H6 a5 fun q4 q4n q4c =>
  ldInt H6 ⟨r2, 0, none⟩ .i64 fun n2 =>
  ldInt H6 ⟨r2, 1, none⟩ .i64 fun n3 =>
  idxD q3 q3n (IntKind.wrap .i64 (((q4n : Nat) : Int) - (1 : Int))) fun a6 =>
  st1 H6 (Addr.add a6 (Int.toNat (IntKind.wrap .i64 (((q4n : Nat) : Int) - (1 : Int))) * 2)) (.int .i64 n2) fun H7 =>
  st1 H7 (Addr.add (Addr.add a6 (Int.toNat (IntKind.wrap .i64 (((q4n : Nat) : Int) - (1 : Int))) * 2)) 1) (.int .i64 n3) fun H8 =>
  nilD s fun a7 =>
  nilD s fun a8 =>
  ldSl H8 a7 fun q5 q5n q5c =>
  ldSl H8 a8 fun q6 q6n q6c =>
  bndD (IntKind.wrap .i64 (((q6n : Nat) : Int) - (1 : Int))) q5c fun k3 =>
  nilD s fun a9 =>
  st1 H8 a9 (.slice (slP q5 0 q5c 2) k3 q5c) fun H9 =>
  ldInt H9 ⟨r1, 0, none⟩ .i64 fun n4 =>
  ldInt H9 ⟨r1, 1, none⟩ .i64 fun n5 =>
  st1 H9 ⟨r, 0, none⟩ (.int .i64 n4) fun H10 =>
  st1 H10 ⟨r, 1, none⟩ (.int .i64 n5) fun H11 =>
  ldInt H11 ⟨r, 0, none⟩ .i64 fun n6 =>
  ldInt H11 ⟨r, 1, none⟩ .i64 fun n7 =>
  R (.returned (.agg ⟨[(.int .i64 n6), (.int .i64 n7)]⟩)) H11
theorem calls {s : Option Addr} {index : Int} {H : Heap} {R : Ending → Heap → Prop} (h : go s index H R) : CallsH Try.prog 81 ⟨[(.pointer s), (.int .i64 index)]⟩ H R :=
  callsH_of_den (an := an) (fuel := 100000) (X := go s index H R) (c := body) mixed fn (by kernel_rfl) (by kernel_rfl) (by kernel_rfl) ok (by kernel_rfl) h
end F81
/-! ### 82 "(*pub-stadtholder/pub/etcdserver/btree.node[pub-stadtholder/impl.El]).growChildAndRemove" -/
namespace F82
def an : Ann := { kinds := [(13012, .grow), (16009, .grow), (22006, .grow)], taus := [(5, [[0, 1, 2, 3, 4, 5, 7, 8, 6, 9, 10, 11]]), (6, [[0, 1, 2, 4, 5, 3, 6, 7, 8]]), (8, [[0, 1, 2, 3, 4, 5, 6, 7]]), (13, [[0, 1, 2, 3, 5, 6, 7, 9, 4, 8, 10, 11, 12, 13, 14, 15, 16]]), (14, [[0, 1, 2, 4, 3, 5, 6, 7]]), (16, [[0, 1, 2, 3, 5, 6, 7, 4, 8, 9, 10, 11, 12, 13], [0, 1, 2, 3, 5, 6, 7, 8, 4, 9, 10, 11, 12, 13]]), (22, [[0, 1, 2, 3, 4, 5, 6, 7, 8, 9, 10]]), (23, [[0, 1, 2, 3, 5, 6, 7, 4, 8, 9, 10, 11, 12]]), (24, [[0, 1, 2, 3, 5, 6, 7, 4, 8, 9, 10, 11, 12]])], pairs := [(16, [(4, 8)])], lab := [(20000010, [0, 1, 3, 4, 7, 10]), (20000018, [0, 1, 3, 4, 7, 10]), (20000020, [0, 1, 3, 4, 7, 10]), (20000011, [0, 1, 3, 4, 7, 10]), (20000003, [0, 1, 3, 4, 7, 10]), (10000027, [0, 3, 4, 7, 10])] }
noncomputable def body : Code := (Try.f82.body).getD .skip
theorem fn : Try.prog.funcs[82]? = some Try.f82 := by kernel_rfl
theorem ok : codeOk an 230 body = true := by kernel_rfl
noncomputable def L0t : List Item := [.code (sub [1, 0, 1, 1] body), .code (sub [1, 1] body)]
def L0 (s0 : Option Addr) (s1 : Int) (s3 : Int) (s4 : Int) (s7 : Nat) (s10 : Nat) (H : Heap) (R : Ending → Heap → Prop) : Prop :=
  GoL Try.prog 82 230 L0t [0, 1, 3, 4, 7, 10] [(.pointer s0), (.int .i64 s1), (.int .i64 s3), (.int .i64 s4), (.pointer (some ⟨s7, 0, none⟩)), (.pointer (some ⟨s10, 0, none⟩))] H R
noncomputable def L1t : List Item := [.code (sub [1, 0, 1, 1, 1, 1] body), .code (sub [1, 1] body)]
def L1 (s0 : Option Addr) (s1 : Int) (s3 : Int) (s4 : Int) (s7 : Nat) (s10 : Nat) (H : Heap) (R : Ending → Heap → Prop) : Prop :=
  GoL Try.prog 82 230 L1t [0, 1, 3, 4, 7, 10] [(.pointer s0), (.int .i64 s1), (.int .i64 s3), (.int .i64 s4), (.pointer (some ⟨s7, 0, none⟩)), (.pointer (some ⟨s10, 0, none⟩))] H R
noncomputable def L2t : List Item := [.code (sub [1, 0, 1, 1, 1, 1, 1] body), .code (sub [1, 1] body)]
def L2 (s0 : Option Addr) (s1 : Int) (s3 : Int) (s4 : Int) (s7 : Nat) (s10 : Nat) (H : Heap) (R : Ending → Heap → Prop) : Prop :=
  GoL Try.prog 82 230 L2t [0, 1, 3, 4, 7, 10] [(.pointer s0), (.int .i64 s1), (.int .i64 s3), (.int .i64 s4), (.pointer (some ⟨s7, 0, none⟩)), (.pointer (some ⟨s10, 0, none⟩))] H R
noncomputable def L3t : List Item := [.code (sub [1, 0, 1, 1, 1, 0] body), .code (sub [1, 1] body)]
def L3 (s0 : Option Addr) (s1 : Int) (s3 : Int) (s4 : Int) (s7 : Nat) (s10 : Nat) (H : Heap) (R : Ending → Heap → Prop) : Prop :=
  GoL Try.prog 82 230 L3t [0, 1, 3, 4, 7, 10] [(.pointer s0), (.int .i64 s1), (.int .i64 s3), (.int .i64 s4), (.pointer (some ⟨s7, 0, none⟩)), (.pointer (some ⟨s10, 0, none⟩))] H R
noncomputable def L4t : List Item := [.code (sub [1, 0, 1, 0] body), .code (sub [1, 1] body)]
def L4 (s0 : Option Addr) (s1 : Int) (s3 : Int) (s4 : Int) (s7 : Nat) (s10 : Nat) (H : Heap) (R : Ending → Heap → Prop) : Prop :=
  GoL Try.prog 82 230 L4t [0, 1, 3, 4, 7, 10] [(.pointer s0), (.int .i64 s1), (.int .i64 s3), (.int .i64 s4), (.pointer (some ⟨s7, 0, none⟩)), (.pointer (some ⟨s10, 0, none⟩))] H R
noncomputable def L5t : List Item := [.code (sub [1, 1] body)]
def L5 (s0 : Option Addr) (s3 : Int) (s4 : Int) (s7 : Nat) (s10 : Nat) (H : Heap) (R : Ending → Heap → Prop) : Prop :=
  GoL Try.prog 82 230 L5t [0, 3, 4, 7, 10] [(.pointer s0), (.int .i64 s3), (.int .i64 s4), (.pointer (some ⟨s7, 0, none⟩)), (.pointer (some ⟨s10, 0, none⟩))] H R
def L0n (s0 : Option Addr) (s1 : Int) (s3 : Int) (s4 : Int) (s7 : Nat) (s10 : Nat) (H : Heap) (R : Ending → Heap → Prop) : Prop :=
  nilD s0 fun a =>
  ldSl H a fun q qn qc =>
  iteB (decide (s1 < ((qn : Nat) : Int))) (
    nilD s0 fun a1 =>
    ldSl H (Addr.add a1 1) fun q1 q1n q1c =>
    idxD q1 q1n (IntKind.wrap .i64 (s1 + (1 : Int))) fun a2 =>
    ldPtr H (Addr.add a2 (Int.toNat (IntKind.wrap .i64 (s1 + (1 : Int))) * 1)) fun p =>
    nilD p fun a3 =>
    ldSl H a3 fun q2 q2n q2c =>
    iteB (decide (((q2n : Nat) : Int) > s3)) (
      L3 s0 s1 s3 s4 s7 s10 H R) <|
    L1 s0 s1 s3 s4 s7 s10 H R) <|
  L1 s0 s1 s3 s4 s7 s10 H R
theorem L0_step {s0 : Option Addr} {s1 : Int} {s3 : Int} {s4 : Int} {s7 : Nat} {s10 : Nat} {H : Heap} {R : Ending → Heap → Prop} (h : L0n s0 s1 s3 s4 s7 s10 H R) : L0 s0 s1 s3 s4 s7 s10 H R :=
  goL_of_den (an := an) (fuel := 100000) (X := L0n s0 s1 s3 s4 s7 s10 H R) mixed fn (by kernel_rfl) (fun ρ0 => by kernel_rfl) h
def L1n (s0 : Option Addr) (s1 : Int) (s3 : Int) (s4 : Int) (s7 : Nat) (s10 : Nat) (H : Heap) (R : Ending → Heap → Prop) : Prop :=
  nilD s0 fun a =>
  ldSl H a fun q qn qc =>
  iteB (decide (s1 ≥ ((qn : Nat) : Int))) (
    L2 s0 (IntKind.wrap .i64 (s1 - (1 : Int))) s3 s4 s7 s10 H R) <|
  L2 s0 s1 s3 s4 s7 s10 H R
theorem L1_step {s0 : Option Addr} {s1 : Int} {s3 : Int} {s4 : Int} {s7 : Nat} {s10 : Nat} {H : Heap} {R : Ending → Heap → Prop} (h : L1n s0 s1 s3 s4 s7 s10 H R) : L1 s0 s1 s3 s4 s7 s10 H R :=
  goL_of_den (an := an) (fuel := 100000) (X := L1n s0 s1 s3 s4 s7 s10 H R) mixed fn (by kernel_rfl) (fun ρ0 => by kernel_rfl) h
def L2n (s0 : Option Addr) (s1 : Int) (s3 : Int) (s4 : Int) (s7 : Nat) (s10 : Nat) (H : Heap) (R : Ending → Heap → Prop) : Prop :=
  callD Try.prog 68 [(.pointer s0), (.int .i64 s1)] H (panK R) fun v H1 =>
  tPtr v fun p =>
  nilD s0 fun a =>
  callD Try.prog 81 [(.pointer (some a)), (.int .i64 s1)] H1 (panK R) fun v1 H2 =>
  tAgg v1 fun l =>
  tCons l fun c l1 =>
  tInt c .i64 fun n =>
  tCons l1 fun c1 l2 =>
  tInt c1 .i64 fun n1 =>
  tNil l2 <|
  newD H2 (.cells ⟨[(.int .i64 (0 : Int)), (.int .i64 (0 : Int))]⟩ 25) fun r H3 =>
  st1 H3 ⟨r, 0, none⟩ (.int .i64 n) fun H4 =>
  st1 H4 ⟨r, 1, none⟩ (.int .i64 n1) fun H5 =>
  nilD s0 fun a1 =>
  callD Try.prog 85 [(.pointer (some (Addr.add a1 1))), (.int .i64 (IntKind.wrap .i64 (s1 + (1 : Int))))] H5 (panK R) fun v2 H6 =>
  tPtr v2 fun p1 =>
  nilD p fun a2 =>
  ldSl H6 a2 fun q qn qc =>
  ldInt H6 ⟨r, 0, none⟩ .i64 fun n2 =>
  ldInt H6 ⟨r, 1, none⟩ .i64 fun n3 =>
  newD H6 (.cells ⟨[(.int .i64 n2), (.int .i64 n3)]⟩ 25) fun r1 H7 =>
  apD H7 2 16 [(.int .i64 (0 : Int)), (.int .i64 (0 : Int))] 25 q qn qc (some ⟨r1, 0, none⟩) 1 fun q1 q1n q1c H8 =>
  nilD p fun a3 =>
  st1 H8 a3 (.slice q1 q1n q1c) fun H9 =>
  nilD p fun a4 =>
  nilD p1 fun a5 =>
  ldSl H9 a4 fun q2 q2n q2c =>
  ldSl H9 a5 fun q3 q3n q3c =>
  apD H9 2 16 [(.int .i64 (0 : Int)), (.int .i64 (0 : Int))] 25 q2 q2n q2c q3 q3n fun q4 q4n q4c H10 =>
  nilD p fun a6 =>
  st1 H10 a6 (.slice q4 q4n q4c) fun H11 =>
  nilD p fun a7 =>
  nilD p1 fun a8 =>
  ldSl H11 (Addr.add a7 1) fun q5 q5n q5c =>
  ldSl H11 (Addr.add a8 1) fun q6 q6n q6c =>
  apD H11 1 8 [(.pointer none)] 74 q5 q5n q5c q6 q6n fun q7 q7n q7c H12 =>
  nilD p fun a9 =>
  st1 H12 (Addr.add a9 1) (.slice q7 q7n q7c) fun H13 =>
  nilD s0 fun a10 =>
  ldPtr H13 (Addr.add a10 2) fun p2 =>
  callD Try.prog 71 [(.pointer p2), (.pointer p1)] H13 (panK R) fun v3 H14 =>
  tInt v3 .i64 fun n4 =>
  L5 s0 s3 s4 s7 s10 H14 R
theorem L2_step {s0 : Option Addr} {s1 : Int} {s3 : Int} {s4 : Int} {s7 : Nat} {s10 : Nat} {H : Heap} {R : Ending → Heap → Prop} (h : L2n s0 s1 s3 s4 s7 s10 H R) : L2 s0 s1 s3 s4 s7 s10 H R :=
  goL_of_den (an := an) (fuel := 100000) (X := L2n s0 s1 s3 s4 s7 s10 H R) mixed fn (by kernel_rfl) (fun ρ0 => by kernel_rfl) h
def L3n (s0 : Option Addr) (s1 : Int) (s3 : Int) (s4 : Int) (s7 : Nat) (s10 : Nat) (H : Heap) (R : Ending → Heap → Prop) : Prop :=
  callD Try.prog 68 [(.pointer s0), (.int .i64 s1)] H (panK R) fun v H1 =>
  tPtr v fun p =>
  callD Try.prog 68 [(.pointer s0), (.int .i64 (IntKind.wrap .i64 (s1 + (1 : Int))))] H1 (panK R) fun v1 H2 =>
  tPtr v1 fun p1 =>
  nilD p1 fun a =>
  callD Try.prog 81 [(.pointer (some a)), (.int .i64 (0 : Int))] H2 (panK R) fun v2 H3 =>
  tAgg v2 fun l =>
  tCons l fun c l1 =>
  tInt c .i64 fun n =>
  tCons l1 fun c1 l2 =>
  tInt c1 .i64 fun n1 =>
  tNil l2 <|
  newD H3 (.cells ⟨[(.int .i64 (0 : Int)), (.int .i64 (0 : Int))]⟩ 25) fun r H4 =>
  st1 H4 ⟨r, 0, none⟩ (.int .i64 n) fun H5 =>
  st1 H5 ⟨r, 1, none⟩ (.int .i64 n1) fun H6 =>
  nilD p fun a1 =>
  nilD s0 fun a2 =>
  ldSl H6 a1 fun q qn qc =>
  ldSl H6 a2 fun q1 q1n q1c =>
  idxD q1 q1n s1 fun a3 =>
  ldInt H6 (Addr.add a3 (Int.toNat s1 * 2)) .i64 fun n2 =>
  ldInt H6 (Addr.add (Addr.add a3 (Int.toNat s1 * 2)) 1) .i64 fun n3 =>
  newD H6 (.cells ⟨[(.int .i64 n2), (.int .i64 n3)]⟩ 25) fun r1 H7 =>
  apD H7 2 16 [(.int .i64 (0 : Int)), (.int .i64 (0 : Int))] 25 q qn qc (some ⟨r1, 0, none⟩) 1 fun q2 q2n q2c H8 =>
  nilD p fun a4 =>
  st1 H8 a4 (.slice q2 q2n q2c) fun H9 =>
  nilD s0 fun a5 =>
  ldSl H9 a5 fun q3 q3n q3c =>
  ldInt H9 ⟨r, 0, none⟩ .i64 fun n4 =>
  ldInt H9 ⟨r, 1, none⟩ .i64 fun n5 =>
  idxD q3 q3n s1 fun a6 =>
  st1 H9 (Addr.add a6 (Int.toNat s1 * 2)) (.int .i64 n4) fun H10 =>
  st1 H10 (Addr.add (Addr.add a6 (Int.toNat s1 * 2)) 1) (.int .i64 n5) fun H11 =>
  nilD p1 fun a7 =>
  ldSl H11 (Addr.add a7 1) fun q4 q4n q4c =>
  iteB (decide (((q4n : Nat) : Int) > (0 : Int))) (
    (
      nilD p fun a8 =>
      nilD p1 fun a9 =>
      ldSl H11 (Addr.add a8 1) fun q5 q5n q5c =>
      callD Try.prog 85 [(.pointer (some (Addr.add a9 1))), (.int .i64 (0 : Int))] H11 (panK R) fun v3 H12 =>
      tPtr v3 fun p2 =>
      newD H12 (.cells ⟨[(.pointer p2)]⟩ 74) fun r2 H13 =>
      apD H13 1 8 [(.pointer none)] 74 q5 q5n q5c (some ⟨r2, 0, none⟩) 1 fun q6 q6n q6c H14 =>
      nilD p fun a10 =>
      st1 H14 (Addr.add a10 1) (.slice q6 q6n q6c) fun H15 =>
      L5 s0 s3 s4 s7 s10 H15 R) ∧
    (
      nilD p fun a11 =>
      nilD p1 fun a12 =>
      callD Try.prog 85 [(.pointer (some (Addr.add a12 1))), (.int .i64 (0 : Int))] H11 (panK R) fun v4 H16 =>
      tPtr v4 fun p3 =>
      ldSl H16 (Addr.add a11 1) fun q7 q7n q7c =>
      newD H16 (.cells ⟨[(.pointer p3)]⟩ 74) fun r3 H17 =>
      apD H17 1 8 [(.pointer none)] 74 q7 q7n q7c (some ⟨r3, 0, none⟩) 1 fun q8 q8n q8c H18 =>
      nilD p fun a13 =>
      st1 H18 (Addr.add a13 1) (.slice q8 q8n q8c) fun H19 =>
      L5 s0 s3 s4 s7 s10 H19 R)) <|
  L5 s0 s3 s4 s7 s10 H11 R
theorem L3_step {s0 : Option Addr} {s1 : Int} {s3 : Int} {s4 : Int} {s7 : Nat} {s10 : Nat} {H : Heap} {R : Ending → Heap → Prop} (h : L3n s0 s1 s3 s4 s7 s10 H R) : L3 s0 s1 s3 s4 s7 s10 H R :=
  goL_of_den (an := an) (fuel := 100000) (X := L3n s0 s1 s3 s4 s7 s10 H R) mixed fn (by kernel_rfl) (fun ρ0 => by kernel_rfl) h
def L4n (s0 : Option Addr) (s1 : Int) (s3 : Int) (s4 : Int) (s7 : Nat) (s10 : Nat) (H : Heap) (R : Ending → Heap → Prop) : Prop :=
  callD Try.prog 68 [(.pointer s0), (.int .i64 s1)] H (panK R) fun v H1 =>
  tPtr v fun p =>
  callD Try.prog 68 [(.pointer s0), (.int .i64 (IntKind.wrap .i64 (s1 - (1 : Int))))] H1 (panK R) fun v1 H2 =>
  tPtr v1 fun p1 =>
  nilD p1 fun a =>
  callD Try.prog 80 [(.pointer (some a))] H2 (panK R) fun v2 H3 =>
  tAgg v2 fun l =>
  tCons l fun c l1 =>
  tInt c .i64 fun n =>
  tCons l1 fun c1 l2 =>
  tInt c1 .i64 fun n1 =>
  tNil l2 <|
  newD H3 (.cells ⟨[(.int .i64 (0 : Int)), (.int .i64 (0 : Int))]⟩ 25) fun r H4 =>
  st1 H4 ⟨r, 0, none⟩ (.int .i64 n) fun H5 =>
  st1 H5 ⟨r, 1, none⟩ (.int .i64 n1) fun H6 =>
  nilD p fun a1 =>
  nilD s0 fun a2 =>
  ldSl H6 a2 fun q qn qc =>
  idxD q qn (IntKind.wrap .i64 (s1 - (1 : Int))) fun a3 =>
  ldInt H6 (Addr.add a3 (Int.toNat (IntKind.wrap .i64 (s1 - (1 : Int))) * 2)) .i64 fun n2 =>
  ldInt H6 (Addr.add (Addr.add a3 (Int.toNat (IntKind.wrap .i64 (s1 - (1 : Int))) * 2)) 1) .i64 fun n3 =>
  callD Try.prog 66 [(.pointer (some a1)), (.int .i64 (0 : Int)), (.agg ⟨[(.int .i64 n2), (.int .i64 n3)]⟩)] H6 (panK R) fun v3 H7 =>
  tTup v3 fun l3 =>
  tNil l3 <|
  nilD s0 fun a4 =>
  ldSl H7 a4 fun q1 q1n q1c =>
  ldInt H7 ⟨r, 0, none⟩ .i64 fun n4 =>
  ldInt H7 ⟨r, 1, none⟩ .i64 fun n5 =>
  idxD q1 q1n (IntKind.wrap .i64 (s1 - (1 : Int))) fun a5 =>
  st1 H7 (Addr.add a5 (Int.toNat (IntKind.wrap .i64 (s1 - (1 : Int))) * 2)) (.int .i64 n4) fun H8 =>
  st1 H8 (Addr.add (Addr.add a5 (Int.toNat (IntKind.wrap .i64 (s1 - (1 : Int))) * 2)) 1) (.int .i64 n5) fun H9 =>
  nilD p1 fun a6 =>
  ldSl H9 (Addr.add a6 1) fun q2 q2n q2c =>
  iteB (decide (((q2n : Nat) : Int) > (0 : Int))) (
    nilD p fun a7 =>
    nilD p1 fun a8 =>
    callD Try.prog 84 [(.pointer (some (Addr.add a8 1)))] H9 (panK R) fun v4 H10 =>
    tPtr v4 fun p2 =>
    callD Try.prog 79 [(.pointer (some (Addr.add a7 1))), (.int .i64 (0 : Int)), (.pointer p2)] H10 (panK R) fun v5 H11 =>
    tTup v5 fun l4 =>
    tNil l4 <|
    L5 s0 s3 s4 s7 s10 H11 R) <|
  L5 s0 s3 s4 s7 s10 H9 R
theorem L4_step {s0 : Option Addr} {s1 : Int} {s3 : Int} {s4 : Int} {s7 : Nat} {s10 : Nat} {H : Heap} {R : Ending → Heap → Prop} (h : L4n s0 s1 s3 s4 s7 s10 H R) : L4 s0 s1 s3 s4 s7 s10 H R :=
  goL_of_den (an := an) (fuel := 100000) (X := L4n s0 s1 s3 s4 s7 s10 H R) mixed fn (by kernel_rfl) (fun ρ0 => by kernel_rfl) h
def L5n (s0 : Option Addr) (s3 : Int) (s4 : Int) (s7 : Nat) (s10 : Nat) (H : Heap) (R : Ending → Heap → Prop) : Prop :=
  ldInt H ⟨s7, 0, none⟩ .i64 fun n =>
  ldInt H ⟨s7, 1, none⟩ .i64 fun n1 =>
  callD Try.prog 69 [(.pointer s0), (.agg ⟨[(.int .i64 n), (.int .i64 n1)]⟩), (.int .i64 s3), (.int .i64 s4)] H (panK R) fun v H1 =>
  tTup v fun l =>
  tCons l fun c l1 =>
  tAgg c fun l2 =>
  tCons l2 fun c1 l3 =>
  tInt c1 .i64 fun n2 =>
  tCons l3 fun c2 l4 =>
  tInt c2 .i64 fun n3 =>
  tNil l4 <|
  tCons l1 fun c3 l5 =>
  tBool c3 fun b =>
  tNil l5 <|
  st1 H1 ⟨s10, 0, none⟩ (.int .i64 n2) fun H2 =>
  st1 H2 ⟨s10, 1, none⟩ (.int .i64 n3) fun H3 =>
  ldInt H3 ⟨s10, 0, none⟩ .i64 fun n4 =>
  ldInt H3 ⟨s10, 1, none⟩ .i64 fun n5 =>
  R (.returned (.tuple ⟨[(.agg ⟨[(.int .i64 n4), (.int .i64 n5)]⟩), (.bool b)]⟩)) H3
theorem L5_step {s0 : Option Addr} {s3 : Int} {s4 : Int} {s7 : Nat} {s10 : Nat} {H : Heap} {R : Ending → Heap → Prop} (h : L5n s0 s3 s4 s7 s10 H R) : L5 s0 s3 s4 s7 s10 H R :=
  goL_of_den (an := an) (fuel := 100000) (X := L5n s0 s3 s4 s7 s10 H R) mixed fn (by kernel_rfl) (fun ρ0 => by kernel_rfl) h
def go (s0 : Option Addr) (s1 : Int) (s2_0 : Int) (s2_1 : Int) (s3 : Int) (s4 : Int) (H : Heap) (R : Ending → Heap → Prop) : Prop :=
  newD H (.cells ⟨[(.int .i64 s2_0), (.int .i64 s2_1)]⟩ 25) fun r H1 =>
  newD H1 (.cells ⟨[(.int .i64 (0 : Int)), (.int .i64 (0 : Int))]⟩ 25) fun r1 H2 =>
  iteB (decide (s1 > (0 : Int))) (
    nilD s0 fun a =>
    ldSl H2 (Addr.add a 1) fun q qn qc =>
    idxD q qn (IntKind.wrap .i64 (s1 - (1 : Int))) fun a1 =>
    ldPtr H2 (Addr.add a1 (Int.toNat (IntKind.wrap .i64 (s1 - (1 : Int))) * 1)) fun p =>
    nilD p fun a2 =>
    ldSl H2 a2 fun q1 q1n q1c =>
    iteB (decide (((q1n : Nat) : Int) > s3)) (
      L4 s0 s1 s3 s4 r r1 H2 R) <|
    L0 s0 s1 s3 s4 r r1 H2 R) <|
  L0 s0 s1 s3 s4 r r1 H2 R
theorem calls {s0 : Option Addr} {s1 : Int} {s2_0 : Int} {s2_1 : Int} {s3 : Int} {s4 : Int} {H : Heap} {R : Ending → Heap → Prop} (h : go s0 s1 s2_0 s2_1 s3 s4 H R) : CallsH Try.prog 82 ⟨[(.pointer s0), (.int .i64 s1), (.agg ⟨[(.int .i64 s2_0), (.int .i64 s2_1)]⟩), (.int .i64 s3), (.int .i64 s4)]⟩ H R :=
  callsH_of_den (an := an) (fuel := 100000) (X := go s0 s1 s2_0 s2_1 s3 s4 H R) (c := body) mixed fn (by kernel_rfl) (by kernel_rfl) (by kernel_rfl) ok (by kernel_rfl) h
end F82
/-! ### 83 "(*pub-stadtholder/pub/etcdserver/btree.FreeList[pub-stadtholder/impl.El]).freeNode" -/
namespace F83
def an : Ann := { kinds := [(1002, .read), (5002, .read)], taus := [(2, [[0, 1, 2, 5, 6, 7, 3, 4, 8, 9, 10]])], pairs := [], lab := [] }
noncomputable def body : Code := (Try.f83.body).getD .skip
theorem fn : Try.prog.funcs[83]? = some Try.f83 := by kernel_rfl
theorem ok : codeOk an 34 body = true := by kernel_rfl
def go (f : Option Addr) (n : Option Addr) (H : Heap) (R : Ending → Heap → Prop) : Prop :=
  nilD f fun a =>
  zfD Try.prog H 89 0 (.pointer (some a)) fun a1 =>
  callD Try.prog 75 [(.pointer (some a1))] H (panK R) fun v H1 =>
  tTup v fun l =>
  tNil l <|
  nilD f fun a2 =>
  nilD f fun a3 =>
  ldSl H1 a2 fun q qn qc =>
  ldSl H1 a3 fun q1 q1n q1c =>
  iteB (decide (((qn : Nat) : Int) < ((q1c : Nat) : Int))) (
    nilD f fun a4 =>
    ldSl H1 a4 fun q2 q2n q2c =>
    newD H1 (.cells ⟨[(.pointer n)]⟩ 74) fun r H2 =>
    apD H2 1 8 [(.pointer none)] 74 q2 q2n q2c (some ⟨r, 0, none⟩) 1 fun q3 q3n q3c H3 =>
    nilD f fun a5 =>
    st1 H3 a5 (.slice q3 q3n q3c) fun H4 =>
    nilD f fun a6 =>
    zfD Try.prog H4 89 0 (.pointer (some a6)) fun a7 =>
    callD Try.prog 76 [(.pointer (some a7))] H4 (panK R) fun v1 H5 =>
    tTup v1 fun l1 =>
    tNil l1 <|
    R (.returned (.bool true)) H5) <|
  nilD f fun a8 =>
  zfD Try.prog H1 89 0 (.pointer (some a8)) fun a9 =>
  callD Try.prog 76 [(.pointer (some a9))] H1 (panK R) fun v2 H6 =>
  tTup v2 fun l2 =>
  tNil l2 <|
  R (.returned (.bool false)) H6
theorem calls {f : Option Addr} {n : Option Addr} {H : Heap} {R : Ending → Heap → Prop} (h : go f n H R) : CallsH Try.prog 83 ⟨[(.pointer f), (.pointer n)]⟩ H R :=
  callsH_of_den (an := an) (fuel := 100000) (X := go f n H R) (c := body) mixed fn (by kernel_rfl) (by kernel_rfl) (by kernel_rfl) ok (by kernel_rfl) h
end F83
/-! ### 84 "(*pub-stadtholder/pub/etcdserver/btree.items[*pub-stadtholder/pub/etcdserver/btree.node[pub-stadtholder/impl.El]]).pop" -/
namespace F84
def an : Ann := { kinds := [], taus := [], pairs := [], lab := [] }
noncomputable def body : Code := (Try.f84.body).getD .skip
theorem fn : Try.prog.funcs[84]? = some Try.f84 := by kernel_rfl
theorem ok : codeOk an 29 body = true := by kernel_rfl
def go (s : Option Addr) (H : Heap) (R : Ending → Heap → Prop) : Prop :=
  nilD s fun a =>
  ldSl H a fun q qn qc =>
  nilD s fun a1 =>
  ldSl H a1 fun q1 q1n q1c =>
  idxD q1 q1n (IntKind.wrap .i64 (((qn : Nat) : Int) - (1 : Int))) fun a2 =>
  ldPtr H (Addr.add a2 (Int.toNat (IntKind.wrap .i64 (((qn : Nat) : Int) - (1 : Int))) * 1)) fun p =>
  nilD s fun a3 =>
  ldSl H a3 fun q2 q2n q2c =>
  idxD q2 q2n (IntKind.wrap .i64 (((qn : Nat) : Int) - (1 : Int))) fun a4 =>
  st1 H (Addr.add a4 (Int.toNat (IntKind.wrap .i64 (((qn : Nat) : Int) - (1 : Int))) * 1)) (.pointer none) fun H1 =>
  nilD s fun a5 =>
  ldSl H1 a5 fun q3 q3n q3c =>
  bndD (IntKind.wrap .i64 (((qn : Nat) : Int) - (1 : Int))) q3c fun k =>
  nilD s fun a6 =>
  st1 H1 a6 (.slice (slP q3 0 q3c 1) k q3c) fun H2 =>
  R (.returned (.pointer p)) H2
theorem calls {s : Option Addr} {H : Heap} {R : Ending → Heap → Prop} (h : go s H R) : CallsH Try.prog 84 ⟨[(.pointer s)]⟩ H R :=
  callsH_of_den (an := an) (fuel := 100000) (X := go s H R) (c := body) mixed fn (by kernel_rfl) (by kernel_rfl) (by kernel_rfl) ok (by kernel_rfl) h
end F84
/-! ### 85 "(*pub-stadtholder/pub/etcdserver/btree.items[*pub-stadtholder/pub/etcdserver/btree.node[pub-stadtholder/impl.El]]).removeAt" -/
namespace F85
def an : Ann := { kinds := [], taus := [(2, [[0, 1, 3, 5, 6, 8, 9, 2, 4, 7, 10, 11]]), (4, [[0, 1, 3, 4, 8, 2, 5, 6, 7, 9, 10]]), (5, [[0, 1, 2, 4, 5, 3, 6, 7, 8, 9, 10, 11]])], pairs := [], lab := [] }
noncomputable def body : Code := (Try.f85.body).getD .skip
theorem fn : Try.prog.funcs[85]? = some Try.f85 := by kernel_rfl
theorem ok : codeOk an 47 body = true := by kernel_rfl
def go (s : Option Addr) (index : Int) (H : Heap) (R : Ending → Heap → Prop) : Prop :=
  nilD s fun a =>
  ldSl H a fun q qn qc =>
  idxD q qn index fun a1 =>
  ldPtr H (Addr.add a1 (Int.toNat index * 1)) fun p =>
  nilD s fun a2 =>
  nilD s fun a3 =>
  ldSl H a2 fun q1 q1n q1c =>
  bndD index q1n fun k =>
  ldSl H a3 fun q2 q2n q2c =>
  bndD (IntKind.wrap .i64 (index + (1 : Int))) q2n fun k1 =>
  cpD H 1 (slP q1 k q1c 1) (q1n - k) (slP q2 k1 q2c 1) (q2n - k1) fun k2 H1 =>
  nilD s fun a4 =>
  nilD s fun a5 =>
  ldSl H1 a4 fun q3 q3n q3c =>
  ldSl H1 a5 fun q4 q4n q4c =>
  idxD q3 q3n (IntKind.wrap .i64 (((q4n : Nat) : Int) - (1 : Int))) fun a6 =>
  st1 H1 (Addr.add a6 (Int.toNat (IntKind.wrap .i64 (((q4n : Nat) : Int) - (1 : Int))) * 1)) (.pointer none) fun H2 =>
  nilD s fun a7 =>
  nilD s fun a8 =>
  ldSl H2 a7 fun q5 q5n q5c =>
  ldSl H2 a8 fun q6 q6n q6c =>
  bndD (IntKind.wrap .i64 (((q6n : Nat) : Int) - (1 : Int))) q5c fun k3 =>
  nilD s fun a9 =>
  st1 H2 a9 (.slice (slP q5 0 q5c 1) k3 q5c) fun H3 =>
  R (.returned (.pointer p)) H3
theorem calls {s : Option Addr} {index : Int} {H : Heap} {R : Ending → Heap → Prop} (h : go s index H R) : CallsH Try.prog 85 ⟨[(.pointer s), (.int .i64 index)]⟩ H R :=
  callsH_of_den (an := an) (fuel := 100000) (X := go s index H R) (c := body) mixed fn (by kernel_rfl) (by kernel_rfl) (by kernel_rfl) ok (by kernel_rfl) h
end F85
end Go.Proofs.Ytdgcdjlomindhaa
