/- What functions of this seat do, each proved by a walk; no condition. -/
import Derived.Test.YtkenjnllegbmjaaGreatDenZC
import Derived.Test.YtkenjnllegbmjaaGreatProg
import Derived.KernelRfl
set_option linter.unusedVariables false
namespace Go.Proofs.YtkenjnllegbmjaaGreat
open Go Go.Den Go.Proofs
theorem mixed : Tryz.prog.follows .mixedOrders = true := by kernel_rfl
/-! ### 8 "pub-stadtholder/impl.within" -/
namespace F8
def an : Ann := { kinds := [], taus := [], pairs := [], lab := [] }
noncomputable def body : Code := (Tryz.f8.body).getD .skip
theorem fn : Tryz.prog.funcs[8]? = some Tryz.f8 := by kernel_rfl
theorem ok : codeOk an 12 body = true := by kernel_rfl
def go (n : Int) (lo : Int) (hi : Int) (H : Heap) (R : Ending → Heap → Prop) : Prop :=
  R (.returned (.int .i64 (if (if hi < n then hi else n) > lo then (if hi < n then hi else n) else lo))) H
theorem calls {n : Int} {lo : Int} {hi : Int} {H : Heap} {R : Ending → Heap → Prop} (h : go n lo hi H R) : CallsH Tryz.prog 8 ⟨[(.int .i64 n), (.int .i64 lo), (.int .i64 hi)]⟩ H R :=
  callsH_of_den (an := an) (fuel := 100000) (X := go n lo hi H R) (c := body) mixed fn (by kernel_rfl) (by kernel_rfl) (by kernel_rfl) ok (by kernel_rfl) h
end F8
/-! ### 9 "pub-stadtholder/pub/stand/bolt.Open" -/
namespace F9
def an : Ann := { kinds := [], taus := [], pairs := [], lab := [] }
noncomputable def body : Code := (Tryz.f9.body).getD .skip
theorem fn : Tryz.prog.funcs[9]? = some Tryz.f9 := by kernel_rfl
theorem ok : codeOk an 3 body = true := by kernel_rfl
def go  (H : Heap) (R : Ending → Heap → Prop) : Prop :=
  newD H (.cells ⟨[(.slice none 0 0)]⟩ 55) fun r H1 =>
  R (.returned (.pointer (some ⟨r, 0, none⟩))) H1
theorem calls  {H : Heap} {R : Ending → Heap → Prop} (h : go  H R) : CallsH Tryz.prog 9 ⟨[]⟩ H R :=
  callsH_of_den (an := an) (fuel := 100000) (X := go  H R) (c := body) mixed fn (by kernel_rfl) (by kernel_rfl) (by kernel_rfl) ok (by kernel_rfl) h
end F9
/-! ### 10 "pub-stadtholder/pub/stand/time.At" -/
namespace F10
def an : Ann := { kinds := [], taus := [], pairs := [], lab := [] }
noncomputable def body : Code := (Tryz.f10.body).getD .skip
theorem fn : Tryz.prog.funcs[10]? = some Tryz.f10 := by kernel_rfl
theorem ok : codeOk an 6 body = true := by kernel_rfl
def go (n : Int) (H : Heap) (R : Ending → Heap → Prop) : Prop :=
  newD H (.cells ⟨[(.int .i64 (0 : Int)), (.int .i64 (0 : Int)), (.bool false)]⟩ 42) fun r H1 =>
  callD Tryz.prog 13 [(.agg ⟨[(.int .i64 (0 : Int)), (.int .i64 (0 : Int)), (.bool true)]⟩), (.int .i64 n)] H1 (panK R) fun v H2 =>
  tAgg v fun l =>
  tCons l fun c l1 =>
  tInt c .i64 fun n1 =>
  tCons l1 fun c1 l2 =>
  tInt c1 .i64 fun n2 =>
  tCons l2 fun c2 l3 =>
  tBool c2 fun b =>
  tNil l3 <|
  st1 H2 ⟨r, 0, none⟩ (.int .i64 n1) fun H3 =>
  st1 H3 ⟨r, 1, none⟩ (.int .i64 n2) fun H4 =>
  st1 H4 ⟨r, 2, none⟩ (.bool b) fun H5 =>
  ldInt H5 ⟨r, 0, none⟩ .i64 fun n3 =>
  ldInt H5 ⟨r, 1, none⟩ .i64 fun n4 =>
  ldBool H5 ⟨r, 2, none⟩ fun b1 =>
  R (.returned (.agg ⟨[(.int .i64 n3), (.int .i64 n4), (.bool b1)]⟩)) H5
theorem calls {n : Int} {H : Heap} {R : Ending → Heap → Prop} (h : go n H R) : CallsH Tryz.prog 10 ⟨[(.int .i64 n)]⟩ H R :=
  callsH_of_den (an := an) (fuel := 100000) (X := go n H R) (c := body) mixed fn (by kernel_rfl) (by kernel_rfl) (by kernel_rfl) ok (by kernel_rfl) h
end F10
/-! ### 13 "(pub-stadtholder/pub/stand/time.Time).Add" -/
namespace F13
def an : Ann := { kinds := [], taus := [], pairs := [], lab := [(10000007, [2, 4])] }
noncomputable def body : Code := (Tryz.f13.body).getD .skip
theorem fn : Tryz.prog.funcs[13]? = some Tryz.f13 := by kernel_rfl
theorem ok : codeOk an 40 body = true := by kernel_rfl
noncomputable def L0t : List Item := [.code (sub [1, 1, 1, 1] body)]
def L0 (t : Nat) (s4 : Nat) (H : Heap) (R : Ending → Heap → Prop) : Prop :=
  GoL Tryz.prog 13 40 L0t [2, 4] [(.pointer (some ⟨t, 0, none⟩)), (.pointer (some ⟨s4, 0, none⟩))] H R
def L0n (t : Nat) (s4 : Nat) (H : Heap) (R : Ending → Heap → Prop) : Prop :=
  ldInt H ⟨t, 1, none⟩ .i64 fun n =>
  iteB (decide (n < (0 : Int))) (
    ldInt H ⟨t, 0, none⟩ .i64 fun n1 =>
    st1 H ⟨t, 0, none⟩ (.int .i64 (IntKind.wrap .i64 (n1 - (1 : Int)))) fun H1 =>
    ldInt H1 ⟨t, 1, none⟩ .i64 fun n2 =>
    st1 H1 ⟨t, 1, none⟩ (.int .i64 (IntKind.wrap .i64 (n2 + (1000000000 : Int)))) fun H2 =>
    ldInt H2 ⟨t, 0, none⟩ .i64 fun n3 =>
    ldInt H2 ⟨t, 1, none⟩ .i64 fun n4 =>
    ldBool H2 ⟨t, 2, none⟩ fun b =>
    st1 H2 ⟨s4, 0, none⟩ (.int .i64 n3) fun H3 =>
    st1 H3 ⟨s4, 1, none⟩ (.int .i64 n4) fun H4 =>
    st1 H4 ⟨s4, 2, none⟩ (.bool b) fun H5 =>
    ldInt H5 ⟨s4, 0, none⟩ .i64 fun n5 =>
    ldInt H5 ⟨s4, 1, none⟩ .i64 fun n6 =>
    ldBool H5 ⟨s4, 2, none⟩ fun b1 =>
    R (.returned (.agg ⟨[(.int .i64 n5), (.int .i64 n6), (.bool b1)]⟩)) H5) <|
  ldInt H ⟨t, 0, none⟩ .i64 fun n7 =>
  ldInt H ⟨t, 1, none⟩ .i64 fun n8 =>
  ldBool H ⟨t, 2, none⟩ fun b2 =>
  st1 H ⟨s4, 0, none⟩ (.int .i64 n7) fun H6 =>
  st1 H6 ⟨s4, 1, none⟩ (.int .i64 n8) fun H7 =>
  st1 H7 ⟨s4, 2, none⟩ (.bool b2) fun H8 =>
  ldInt H8 ⟨s4, 0, none⟩ .i64 fun n9 =>
  ldInt H8 ⟨s4, 1, none⟩ .i64 fun n10 =>
  ldBool H8 ⟨s4, 2, none⟩ fun b3 =>
  R (.returned (.agg ⟨[(.int .i64 n9), (.int .i64 n10), (.bool b3)]⟩)) H8
theorem L0_step {t : Nat} {s4 : Nat} {H : Heap} {R : Ending → Heap → Prop} (h : L0n t s4 H R) : L0 t s4 H R :=
  goL_of_den (an := an) (fuel := 100000) (X := L0n t s4 H R) mixed fn (by kernel_rfl) (fun ρ0 => by kernel_rfl) h
def go (t_0 : Int) (t_1 : Int) (t_2 : Bool) (d : Int) (H : Heap) (R : Ending → Heap → Prop) : Prop :=
  newD H (.cells ⟨[(.int .i64 t_0), (.int .i64 t_1), (.bool t_2)]⟩ 42) fun r H1 =>
  newD H1 (.cells ⟨[(.int .i64 (0 : Int)), (.int .i64 (0 : Int)), (.bool false)]⟩ 42) fun r1 H2 =>
  ldInt H2 ⟨r, 0, none⟩ .i64 fun n =>
  divD (1000000000 : Int) <|
  st1 H2 ⟨r, 0, none⟩ (.int .i64 (IntKind.wrap .i64 (n + (IntKind.wrap .i64 (Int.tdiv d (1000000000 : Int)))))) fun H3 =>
  ldInt H3 ⟨r, 1, none⟩ .i64 fun n1 =>
  divD (1000000000 : Int) <|
  st1 H3 ⟨r, 1, none⟩ (.int .i64 (IntKind.wrap .i64 (n1 + (Int.tmod d (1000000000 : Int))))) fun H4 =>
  ldInt H4 ⟨r, 1, none⟩ .i64 fun n2 =>
  iteB (decide (n2 ≥ (1000000000 : Int))) (
    ldInt H4 ⟨r, 0, none⟩ .i64 fun n3 =>
    st1 H4 ⟨r, 0, none⟩ (.int .i64 (IntKind.wrap .i64 (n3 + (1 : Int)))) fun H5 =>
    ldInt H5 ⟨r, 1, none⟩ .i64 fun n4 =>
    st1 H5 ⟨r, 1, none⟩ (.int .i64 (IntKind.wrap .i64 (n4 - (1000000000 : Int)))) fun H6 =>
    L0 r r1 H6 R) <|
  L0 r r1 H4 R
theorem calls {t_0 : Int} {t_1 : Int} {t_2 : Bool} {d : Int} {H : Heap} {R : Ending → Heap → Prop} (h : go t_0 t_1 t_2 d H R) : CallsH Tryz.prog 13 ⟨[(.agg ⟨[(.int .i64 t_0), (.int .i64 t_1), (.bool t_2)]⟩), (.int .i64 d)]⟩ H R :=
  callsH_of_den (an := an) (fuel := 100000) (X := go t_0 t_1 t_2 d H R) (c := body) mixed fn (by kernel_rfl) (by kernel_rfl) (by kernel_rfl) ok (by kernel_rfl) h
end F13
/-! ### 31 "(*pub-stadtholder/pub/stand/sync.RWMutex).RLock" -/
namespace F31
def an : Ann := { kinds := [], taus := [], pairs := [], lab := [] }
noncomputable def body : Code := (Tryz.f31.body).getD .skip
theorem fn : Tryz.prog.funcs[31]? = some Tryz.f31 := by kernel_rfl
theorem ok : codeOk an 2 body = true := by kernel_rfl
def go (m : Option Addr) (H : Heap) (R : Ending → Heap → Prop) : Prop :=
  R (.returned (.tuple ⟨[]⟩)) H
theorem calls {m : Option Addr} {H : Heap} {R : Ending → Heap → Prop} (h : go m H R) : CallsH Tryz.prog 31 ⟨[(.pointer m)]⟩ H R :=
  callsH_of_den (an := an) (fuel := 100000) (X := go m H R) (c := body) mixed fn (by kernel_rfl) (by kernel_rfl) (by kernel_rfl) ok (by kernel_rfl) h
end F31
/-! ### 32 "(*pub-stadtholder/pub/stand/sync.RWMutex).RUnlock" -/
namespace F32
def an : Ann := { kinds := [], taus := [], pairs := [], lab := [] }
noncomputable def body : Code := (Tryz.f32.body).getD .skip
theorem fn : Tryz.prog.funcs[32]? = some Tryz.f32 := by kernel_rfl
theorem ok : codeOk an 2 body = true := by kernel_rfl
def go (m : Option Addr) (H : Heap) (R : Ending → Heap → Prop) : Prop :=
  R (.returned (.tuple ⟨[]⟩)) H
theorem calls {m : Option Addr} {H : Heap} {R : Ending → Heap → Prop} (h : go m H R) : CallsH Tryz.prog 32 ⟨[(.pointer m)]⟩ H R :=
  callsH_of_den (an := an) (fuel := 100000) (X := go m H R) (c := body) mixed fn (by kernel_rfl) (by kernel_rfl) (by kernel_rfl) ok (by kernel_rfl) h
end F32
/-! ### 33 "(pub-stadtholder/pub/stand/time.Time).IsZero" -/
namespace F33
def an : Ann := { kinds := [], taus := [], pairs := [], lab := [] }
noncomputable def body : Code := (Tryz.f33.body).getD .skip
theorem fn : Tryz.prog.funcs[33]? = some Tryz.f33 := by kernel_rfl
theorem ok : codeOk an 6 body = true := by kernel_rfl
def go (t_0 : Int) (t_1 : Int) (t_2 : Bool) (H : Heap) (R : Ending → Heap → Prop) : Prop :=
  newD H (.cells ⟨[(.int .i64 t_0), (.int .i64 t_1), (.bool t_2)]⟩ 42) fun r H1 =>
  ldBool H1 ⟨r, 2, none⟩ fun b =>
  R (.returned (.bool (!b))) H1
theorem calls {t_0 : Int} {t_1 : Int} {t_2 : Bool} {H : Heap} {R : Ending → Heap → Prop} (h : go t_0 t_1 t_2 H R) : CallsH Tryz.prog 33 ⟨[(.agg ⟨[(.int .i64 t_0), (.int .i64 t_1), (.bool t_2)]⟩)]⟩ H R :=
  callsH_of_den (an := an) (fuel := 100000) (X := go t_0 t_1 t_2 H R) (c := body) mixed fn (by kernel_rfl) (by kernel_rfl) (by kernel_rfl) ok (by kernel_rfl) h
end F33
/-! ### 34 "(pub-stadtholder/pub/stand/time.Time).Sub" -/
namespace F34
def an : Ann := { kinds := [], taus := [], pairs := [], lab := [(10000015, [6, 7])] }
noncomputable def body : Code := (Tryz.f34.body).getD .skip
theorem fn : Tryz.prog.funcs[34]? = some Tryz.f34 := by kernel_rfl
theorem ok : codeOk an 50 body = true := by kernel_rfl
noncomputable def L0t : List Item := [.code (sub [1, 1, 1, 1, 1, 1, 1, 1] body)]
def L0 (d : Int) (e : Int) (H : Heap) (R : Ending → Heap → Prop) : Prop :=
  GoL Tryz.prog 34 50 L0t [6, 7] [(.int .i64 d), (.int .i64 e)] H R
def L0n (d : Int) (e : Int) (H : Heap) (R : Ending → Heap → Prop) : Prop :=
  iteB (decide (e < (0 : Int))) (
    iteB (decide (d < (IntKind.wrap .i64 ((-9223372036854775808 : Int) - e)))) (
      R (.returned (.int .i64 (-9223372036854775808 : Int))) H) <|
    R (.returned (.int .i64 (IntKind.wrap .i64 (d + e)))) H) <|
  R (.returned (.int .i64 (IntKind.wrap .i64 (d + e)))) H
theorem L0_step {d : Int} {e : Int} {H : Heap} {R : Ending → Heap → Prop} (h : L0n d e H R) : L0 d e H R :=
  goL_of_den (an := an) (fuel := 100000) (X := L0n d e H R) mixed fn (by kernel_rfl) (fun ρ0 => by kernel_rfl) h
def go (t_0 : Int) (t_1 : Int) (t_2 : Bool) (u_0 : Int) (u_1 : Int) (u_2 : Bool) (H : Heap) (R : Ending → Heap → Prop) : Prop :=
  newD H (.cells ⟨[(.int .i64 t_0), (.int .i64 t_1), (.bool t_2)]⟩ 42) fun r H1 =>
  newD H1 (.cells ⟨[(.int .i64 u_0), (.int .i64 u_1), (.bool u_2)]⟩ 42) fun r1 H2 =>
  ldBool H2 ⟨r, 2, none⟩ fun b =>
  ldBool H2 ⟨r1, 2, none⟩ fun b1 =>
  iteB (!(b == b1)) (
    ldBool H2 ⟨r, 2, none⟩ fun b2 =>
    iteB b2 (
      R (.returned (.int .i64 (9223372036854775807 : Int))) H2) <|
    R (.returned (.int .i64 (-9223372036854775808 : Int))) H2) <|
  ldInt H2 ⟨r, 0, none⟩ .i64 fun n =>
  ldInt H2 ⟨r1, 0, none⟩ .i64 fun n1 =>
  iteB (decide ((IntKind.wrap .i64 (n - n1)) > (9223372036 : Int))) (
    R (.returned (.int .i64 (9223372036854775807 : Int))) H2) <|
  iteB (decide ((IntKind.wrap .i64 (n - n1)) < (-9223372036 : Int))) (
    R (.returned (.int .i64 (-9223372036854775808 : Int))) H2) <|
  ldInt H2 ⟨r, 1, none⟩ .i64 fun n2 =>
  ldInt H2 ⟨r1, 1, none⟩ .i64 fun n3 =>
  iteB (decide ((IntKind.wrap .i64 (n2 - n3)) > (0 : Int))) (
    iteB (decide ((IntKind.wrap .i64 ((IntKind.wrap .i64 (n - n1)) * (1000000000 : Int))) > (IntKind.wrap .i64 ((9223372036854775807 : Int) - (IntKind.wrap .i64 (n2 - n3)))))) (
      R (.returned (.int .i64 (9223372036854775807 : Int))) H2) <|
    L0 (IntKind.wrap .i64 ((IntKind.wrap .i64 (n - n1)) * (1000000000 : Int))) (IntKind.wrap .i64 (n2 - n3)) H2 R) <|
  L0 (IntKind.wrap .i64 ((IntKind.wrap .i64 (n - n1)) * (1000000000 : Int))) (IntKind.wrap .i64 (n2 - n3)) H2 R
theorem calls {t_0 : Int} {t_1 : Int} {t_2 : Bool} {u_0 : Int} {u_1 : Int} {u_2 : Bool} {H : Heap} {R : Ending → Heap → Prop} (h : go t_0 t_1 t_2 u_0 u_1 u_2 H R) : CallsH Tryz.prog 34 ⟨[(.agg ⟨[(.int .i64 t_0), (.int .i64 t_1), (.bool t_2)]⟩), (.agg ⟨[(.int .i64 u_0), (.int .i64 u_1), (.bool u_2)]⟩)]⟩ H R :=
  callsH_of_den (an := an) (fuel := 100000) (X := go t_0 t_1 t_2 u_0 u_1 u_2 H R) (c := body) mixed fn (by kernel_rfl) (by kernel_rfl) (by kernel_rfl) ok (by kernel_rfl) h
end F34
/-! ### 35 "(*pub-stadtholder/pub/etcdserver/lease.Clock).Now" -/
namespace F35
def an : Ann := { kinds := [], taus := [], pairs := [], lab := [] }
noncomputable def body : Code := (Tryz.f35.body).getD .skip
theorem fn : Tryz.prog.funcs[35]? = some Tryz.f35 := by kernel_rfl
theorem ok : codeOk an 7 body = true := by kernel_rfl
def go (c : Option Addr) (H : Heap) (R : Ending → Heap → Prop) : Prop :=
  newD H (.cells ⟨[(.int .i64 (0 : Int)), (.int .i64 (0 : Int)), (.bool false)]⟩ 42) fun r H1 =>
  nilD c fun a =>
  ldInt H1 a .i64 fun n =>
  ldInt H1 (Addr.add a 1) .i64 fun n1 =>
  ldBool H1 (Addr.add a 2) fun b =>
  st1 H1 ⟨r, 0, none⟩ (.int .i64 n) fun H2 =>
  st1 H2 ⟨r, 1, none⟩ (.int .i64 n1) fun H3 =>
  st1 H3 ⟨r, 2, none⟩ (.bool b) fun H4 =>
  ldInt H4 ⟨r, 0, none⟩ .i64 fun n2 =>
  ldInt H4 ⟨r, 1, none⟩ .i64 fun n3 =>
  ldBool H4 ⟨r, 2, none⟩ fun b1 =>
  R (.returned (.agg ⟨[(.int .i64 n2), (.int .i64 n3), (.bool b1)]⟩)) H4
theorem calls {c : Option Addr} {H : Heap} {R : Ending → Heap → Prop} (h : go c H R) : CallsH Tryz.prog 35 ⟨[(.pointer c)]⟩ H R :=
  callsH_of_den (an := an) (fuel := 100000) (X := go c H R) (c := body) mixed fn (by kernel_rfl) (by kernel_rfl) (by kernel_rfl) ok (by kernel_rfl) h
end F35
/-! ### 67 "(pub-stadtholder/pub/etcdserver/lease.LeaseQueue).Len" -/
namespace F67
def an : Ann := { kinds := [], taus := [], pairs := [], lab := [] }
noncomputable def body : Code := (Tryz.f67.body).getD .skip
theorem fn : Tryz.prog.funcs[67]? = some Tryz.f67 := by kernel_rfl
theorem ok : codeOk an 5 body = true := by kernel_rfl
def go (pq : Option Addr) (pqn : Nat) (pqc : Nat) (H : Heap) (R : Ending → Heap → Prop) : Prop :=
  R (.returned (.int .i64 ((pqn : Nat) : Int))) H
theorem calls {pq : Option Addr} {pqn : Nat} {pqc : Nat} {H : Heap} {R : Ending → Heap → Prop} (h : go pq pqn pqc H R) : CallsH Tryz.prog 67 ⟨[(.slice pq pqn pqc)]⟩ H R :=
  callsH_of_den (an := an) (fuel := 100000) (X := go pq pqn pqc H R) (c := body) mixed fn (by kernel_rfl) (by kernel_rfl) (by kernel_rfl) ok (by kernel_rfl) h
end F67
/-! ### 70 "(pub-stadtholder/pub/stand/time.Time).Before" -/
namespace F70
def an : Ann := { kinds := [], taus := [], pairs := [], lab := [] }
noncomputable def body : Code := (Tryz.f70.body).getD .skip
theorem fn : Tryz.prog.funcs[70]? = some Tryz.f70 := by kernel_rfl
theorem ok : codeOk an 32 body = true := by kernel_rfl
def go (t_0 : Int) (t_1 : Int) (t_2 : Bool) (u_0 : Int) (u_1 : Int) (u_2 : Bool) (H : Heap) (R : Ending → Heap → Prop) : Prop :=
  newD H (.cells ⟨[(.int .i64 t_0), (.int .i64 t_1), (.bool t_2)]⟩ 42) fun r H1 =>
  newD H1 (.cells ⟨[(.int .i64 u_0), (.int .i64 u_1), (.bool u_2)]⟩ 42) fun r1 H2 =>
  ldBool H2 ⟨r, 2, none⟩ fun b =>
  ldBool H2 ⟨r1, 2, none⟩ fun b1 =>
  iteB (!(b == b1)) (
    ldBool H2 ⟨r, 2, none⟩ fun b2 =>
    R (.returned (.bool (!b2))) H2) <|
  ldInt H2 ⟨r, 0, none⟩ .i64 fun n =>
  ldInt H2 ⟨r1, 0, none⟩ .i64 fun n1 =>
  iteB (decide (n < n1)) (
    R (.returned (.bool true)) H2) <|
  ldInt H2 ⟨r, 0, none⟩ .i64 fun n2 =>
  ldInt H2 ⟨r1, 0, none⟩ .i64 fun n3 =>
  iteB (n2 == n3) (
    ldInt H2 ⟨r, 1, none⟩ .i64 fun n4 =>
    ldInt H2 ⟨r1, 1, none⟩ .i64 fun n5 =>
    R (.returned (.bool (decide (n4 < n5)))) H2) <|
  R (.returned (.bool false)) H2
theorem calls {t_0 : Int} {t_1 : Int} {t_2 : Bool} {u_0 : Int} {u_1 : Int} {u_2 : Bool} {H : Heap} {R : Ending → Heap → Prop} (h : go t_0 t_1 t_2 u_0 u_1 u_2 H R) : CallsH Tryz.prog 70 ⟨[(.agg ⟨[(.int .i64 t_0), (.int .i64 t_1), (.bool t_2)]⟩), (.agg ⟨[(.int .i64 u_0), (.int .i64 u_1), (.bool u_2)]⟩)]⟩ H R :=
  callsH_of_den (an := an) (fuel := 100000) (X := go t_0 t_1 t_2 u_0 u_1 u_2 H R) (c := body) mixed fn (by kernel_rfl) (by kernel_rfl) (by kernel_rfl) ok (by kernel_rfl) h
end F70
/-! ### 88 "(*pub-stadtholder/pub/etcdserver/lease.LeaseExpiredNotifier).Len" -/
namespace F88
def an : Ann := { kinds := [(1004, .heavy 0)], taus := [], pairs := [], lab := [] }
noncomputable def body : Code := (Tryz.f88.body).getD .skip
theorem fn : Tryz.prog.funcs[88]? = some Tryz.f88 := by kernel_rfl
theorem ok : codeOk an 8 body = true := by kernel_rfl
def go (mq : Option Addr) (H : Heap) (R : Ending → Heap → Prop) : Prop :=
  nilD mq fun a =>
  ldMap H a fun m =>
  valD Tryz.prog (Builtin.len_ #[205] 3 ⟨[(.map m)]⟩) H (panK R) fun v H1 =>
  tInt v .i64 fun n =>
  R (.returned (.int .i64 n)) H1
theorem calls {mq : Option Addr} {H : Heap} {R : Ending → Heap → Prop} (h : go mq H R) : CallsH Tryz.prog 88 ⟨[(.pointer mq)]⟩ H R :=
  callsH_of_den (an := an) (fuel := 100000) (X := go mq H R) (c := body) mixed fn (by kernel_rfl) (by kernel_rfl) (by kernel_rfl) ok (by kernel_rfl) h
end F88
/-! ### 89 "(*pub-stadtholder/pub/etcdserver/lease.LeaseExpiredNotifier).Peek" -/
namespace F89
def an : Ann := { kinds := [], taus := [], pairs := [], lab := [] }
noncomputable def body : Code := (Tryz.f89.body).getD .skip
theorem fn : Tryz.prog.funcs[89]? = some Tryz.f89 := by kernel_rfl
theorem ok : codeOk an 12 body = true := by kernel_rfl
def go (mq : Option Addr) (H : Heap) (R : Ending → Heap → Prop) : Prop :=
  callD Tryz.prog 88 [(.pointer mq)] H (panK R) fun v H1 =>
  tInt v .i64 fun n =>
  iteB (n == (0 : Int)) (
    R (.returned (.pointer none)) H1) <|
  nilD mq fun a =>
  ldSl H1 (Addr.add a 1) fun q qn qc =>
  idxD q qn (0 : Int) fun a1 =>
  ldPtr H1 (Addr.add a1 (Int.toNat (0 : Int) * 1)) fun p =>
  R (.returned (.pointer p)) H1
theorem calls {mq : Option Addr} {H : Heap} {R : Ending → Heap → Prop} (h : go mq H R) : CallsH Tryz.prog 89 ⟨[(.pointer mq)]⟩ H R :=
  callsH_of_den (an := an) (fuel := 100000) (X := go mq H R) (c := body) mixed fn (by kernel_rfl) (by kernel_rfl) (by kernel_rfl) ok (by kernel_rfl) h
end F89
/-! ### 95 "(*pub-stadtholder/pub/etcdserver/storage/backend.batchTx).lock" -/
namespace F95
def an : Ann := { kinds := [(2, .read)], taus := [], pairs := [], lab := [] }
noncomputable def body : Code := (Tryz.f95.body).getD .skip
theorem fn : Tryz.prog.funcs[95]? = some Tryz.f95 := by kernel_rfl
theorem ok : codeOk an 6 body = true := by kernel_rfl
def go (t : Option Addr) (H : Heap) (R : Ending → Heap → Prop) : Prop :=
  nilD t fun a =>
  zfD Tryz.prog H 199 0 (.pointer (some a)) fun a1 =>
  callD Tryz.prog 106 [(.pointer (some a1))] H (panK R) fun v H1 =>
  tTup v fun l =>
  tNil l <|
  R (.returned (.tuple ⟨[]⟩)) H1
theorem calls {t : Option Addr} {H : Heap} {R : Ending → Heap → Prop} (h : go t H R) : CallsH Tryz.prog 95 ⟨[(.pointer t)]⟩ H R :=
  callsH_of_den (an := an) (fuel := 100000) (X := go t H R) (c := body) mixed fn (by kernel_rfl) (by kernel_rfl) (by kernel_rfl) ok (by kernel_rfl) h
end F95
/-! ### 98 "pub-stadtholder/pub/etcdserver/storage/schema.Lease" -/
namespace F98
def an : Ann := { kinds := [], taus := [], pairs := [], lab := [] }
noncomputable def body : Code := (Tryz.f98.body).getD .skip
theorem fn : Tryz.prog.funcs[98]? = some Tryz.f98 := by kernel_rfl
theorem ok : codeOk an 3 body = true := by kernel_rfl
def go  (H : Heap) (R : Ending → Heap → Prop) : Prop :=
  R (.returned (.iface 258 (.agg ⟨[(.int .i64 (3 : Int)), (.string (ByteArray.mk #[108, 101, 97, 115, 101])), (.bool false)]⟩))) H
theorem calls  {H : Heap} {R : Ending → Heap → Prop} (h : go  H R) : CallsH Tryz.prog 98 ⟨[]⟩ H R :=
  callsH_of_den (an := an) (fuel := 100000) (X := go  H R) (c := body) mixed fn (by kernel_rfl) (by kernel_rfl) (by kernel_rfl) ok (by kernel_rfl) h
end F98
/-! ### 106 "(*pub-stadtholder/pub/stand/sync.Mutex).Lock" -/
namespace F106
def an : Ann := { kinds := [], taus := [], pairs := [], lab := [] }
noncomputable def body : Code := (Tryz.f106.body).getD .skip
theorem fn : Tryz.prog.funcs[106]? = some Tryz.f106 := by kernel_rfl
theorem ok : codeOk an 2 body = true := by kernel_rfl
def go (m : Option Addr) (H : Heap) (R : Ending → Heap → Prop) : Prop :=
  R (.returned (.tuple ⟨[]⟩)) H
theorem calls {m : Option Addr} {H : Heap} {R : Ending → Heap → Prop} (h : go m H R) : CallsH Tryz.prog 106 ⟨[(.pointer m)]⟩ H R :=
  callsH_of_den (an := an) (fuel := 100000) (X := go m H R) (c := body) mixed fn (by kernel_rfl) (by kernel_rfl) (by kernel_rfl) ok (by kernel_rfl) h
end F106
/-! ### 107 "(*pub-stadtholder/pub/etcdserver/storage/backend.readTx).Lock" -/
namespace F107
def an : Ann := { kinds := [(3, .read)], taus := [], pairs := [], lab := [] }
noncomputable def body : Code := (Tryz.f107.body).getD .skip
theorem fn : Tryz.prog.funcs[107]? = some Tryz.f107 := by kernel_rfl
theorem ok : codeOk an 7 body = true := by kernel_rfl
def go (rt : Option Addr) (H : Heap) (R : Ending → Heap → Prop) : Prop :=
  nilD rt fun a =>
  zfD Tryz.prog H 154 0 (.pointer (some a)) fun a1 =>
  callD Tryz.prog 115 [(.pointer (some a1))] H (panK R) fun v H1 =>
  tTup v fun l =>
  tNil l <|
  R (.returned (.tuple ⟨[]⟩)) H1
theorem calls {rt : Option Addr} {H : Heap} {R : Ending → Heap → Prop} (h : go rt H R) : CallsH Tryz.prog 107 ⟨[(.pointer rt)]⟩ H R :=
  callsH_of_den (an := an) (fuel := 100000) (X := go rt H R) (c := body) mixed fn (by kernel_rfl) (by kernel_rfl) (by kernel_rfl) ok (by kernel_rfl) h
end F107
/-! ### 109 "(*pub-stadtholder/pub/etcdserver/storage/backend.readTx).Unlock" -/
namespace F109
def an : Ann := { kinds := [(3, .read)], taus := [], pairs := [], lab := [] }
noncomputable def body : Code := (Tryz.f109.body).getD .skip
theorem fn : Tryz.prog.funcs[109]? = some Tryz.f109 := by kernel_rfl
theorem ok : codeOk an 7 body = true := by kernel_rfl
def go (rt : Option Addr) (H : Heap) (R : Ending → Heap → Prop) : Prop :=
  nilD rt fun a =>
  zfD Tryz.prog H 154 0 (.pointer (some a)) fun a1 =>
  callD Tryz.prog 120 [(.pointer (some a1))] H (panK R) fun v H1 =>
  tTup v fun l =>
  tNil l <|
  R (.returned (.tuple ⟨[]⟩)) H1
theorem calls {rt : Option Addr} {H : Heap} {R : Ending → Heap → Prop} (h : go rt H R) : CallsH Tryz.prog 109 ⟨[(.pointer rt)]⟩ H R :=
  callsH_of_den (an := an) (fuel := 100000) (X := go rt H R) (c := body) mixed fn (by kernel_rfl) (by kernel_rfl) (by kernel_rfl) ok (by kernel_rfl) h
end F109
/-! ### 115 "(*pub-stadtholder/pub/stand/sync.RWMutex).Lock" -/
namespace F115
def an : Ann := { kinds := [], taus := [], pairs := [], lab := [] }
noncomputable def body : Code := (Tryz.f115.body).getD .skip
theorem fn : Tryz.prog.funcs[115]? = some Tryz.f115 := by kernel_rfl
theorem ok : codeOk an 2 body = true := by kernel_rfl
def go (m : Option Addr) (H : Heap) (R : Ending → Heap → Prop) : Prop :=
  R (.returned (.tuple ⟨[]⟩)) H
theorem calls {m : Option Addr} {H : Heap} {R : Ending → Heap → Prop} (h : go m H R) : CallsH Tryz.prog 115 ⟨[(.pointer m)]⟩ H R :=
  callsH_of_den (an := an) (fuel := 100000) (X := go m H R) (c := body) mixed fn (by kernel_rfl) (by kernel_rfl) (by kernel_rfl) ok (by kernel_rfl) h
end F115
/-! ### 116 "(*pub-stadtholder/pub/stand/bolt.Tx).Rollback" -/
namespace F116
def an : Ann := { kinds := [], taus := [], pairs := [], lab := [] }
noncomputable def body : Code := (Tryz.f116.body).getD .skip
theorem fn : Tryz.prog.funcs[116]? = some Tryz.f116 := by kernel_rfl
theorem ok : codeOk an 6 body = true := by kernel_rfl
def go (tx : Option Addr) (H : Heap) (R : Ending → Heap → Prop) : Prop :=
  nilD tx fun a =>
  st1 H (Addr.add a 2) (.bool true) fun H1 =>
  R (.returned .nilIface) H1
theorem calls {tx : Option Addr} {H : Heap} {R : Ending → Heap → Prop} (h : go tx H R) : CallsH Tryz.prog 116 ⟨[(.pointer tx)]⟩ H R :=
  callsH_of_den (an := an) (fuel := 100000) (X := go tx H R) (c := body) mixed fn (by kernel_rfl) (by kernel_rfl) (by kernel_rfl) ok (by kernel_rfl) h
end F116
/-! ### 120 "(*pub-stadtholder/pub/stand/sync.RWMutex).Unlock" -/
namespace F120
def an : Ann := { kinds := [], taus := [], pairs := [], lab := [] }
noncomputable def body : Code := (Tryz.f120.body).getD .skip
theorem fn : Tryz.prog.funcs[120]? = some Tryz.f120 := by kernel_rfl
theorem ok : codeOk an 2 body = true := by kernel_rfl
def go (m : Option Addr) (H : Heap) (R : Ending → Heap → Prop) : Prop :=
  R (.returned (.tuple ⟨[]⟩)) H
theorem calls {m : Option Addr} {H : Heap} {R : Ending → Heap → Prop} (h : go m H R) : CallsH Tryz.prog 120 ⟨[(.pointer m)]⟩ H R :=
  callsH_of_den (an := an) (fuel := 100000) (X := go m H R) (c := body) mixed fn (by kernel_rfl) (by kernel_rfl) (by kernel_rfl) ok (by kernel_rfl) h
end F120
/-! ### 125 "(*pub-stadtholder/pub/stand/sync.Mutex).Unlock" -/
namespace F125
def an : Ann := { kinds := [], taus := [], pairs := [], lab := [] }
noncomputable def body : Code := (Tryz.f125.body).getD .skip
theorem fn : Tryz.prog.funcs[125]? = some Tryz.f125 := by kernel_rfl
theorem ok : codeOk an 2 body = true := by kernel_rfl
def go (m : Option Addr) (H : Heap) (R : Ending → Heap → Prop) : Prop :=
  R (.returned (.tuple ⟨[]⟩)) H
theorem calls {m : Option Addr} {H : Heap} {R : Ending → Heap → Prop} (h : go m H R) : CallsH Tryz.prog 125 ⟨[(.pointer m)]⟩ H R :=
  callsH_of_den (an := an) (fuel := 100000) (X := go m H R) (c := body) mixed fn (by kernel_rfl) (by kernel_rfl) (by kernel_rfl) ok (by kernel_rfl) h
end F125
/-! ### 182 "(*pub-stadtholder/pub/etcdserver/storage/backend.backend).BatchTx" -/
namespace F182
def an : Ann := { kinds := [], taus := [], pairs := [], lab := [] }
noncomputable def body : Code := (Tryz.f182.body).getD .skip
theorem fn : Tryz.prog.funcs[182]? = some Tryz.f182 := by kernel_rfl
theorem ok : codeOk an 8 body = true := by kernel_rfl
def go (b : Option Addr) (H : Heap) (R : Ending → Heap → Prop) : Prop :=
  nilD b fun a =>
  ldPtr H (Addr.add a 3) fun p =>
  R (.returned (.iface 161 (.pointer p))) H
theorem calls {b : Option Addr} {H : Heap} {R : Ending → Heap → Prop} (h : go b H R) : CallsH Tryz.prog 182 ⟨[(.pointer b)]⟩ H R :=
  callsH_of_den (an := an) (fuel := 100000) (X := go b H R) (c := body) mixed fn (by kernel_rfl) (by kernel_rfl) (by kernel_rfl) ok (by kernel_rfl) h
end F182
/-! ### 184 "(*pub-stadtholder/pub/etcdserver/storage/backend.backend).ForceCommit" -/
namespace F184
def an : Ann := { kinds := [], taus := [], pairs := [], lab := [] }
noncomputable def body : Code := (Tryz.f184.body).getD .skip
theorem fn : Tryz.prog.funcs[184]? = some Tryz.f184 := by kernel_rfl
theorem ok : codeOk an 7 body = true := by kernel_rfl
def go (b : Option Addr) (H : Heap) (R : Ending → Heap → Prop) : Prop :=
  nilD b fun a =>
  ldPtr H (Addr.add a 3) fun p =>
  callD Tryz.prog 73 [(.pointer p)] H (panK R) fun v H1 =>
  tTup v fun l =>
  tNil l <|
  R (.returned (.tuple ⟨[]⟩)) H1
theorem calls {b : Option Addr} {H : Heap} {R : Ending → Heap → Prop} (h : go b H R) : CallsH Tryz.prog 184 ⟨[(.pointer b)]⟩ H R :=
  callsH_of_den (an := an) (fuel := 100000) (X := go b H R) (c := body) mixed fn (by kernel_rfl) (by kernel_rfl) (by kernel_rfl) ok (by kernel_rfl) h
end F184
/-! ### 239 "(*pub-stadtholder/pub/etcdserver/storage/backend.baseReadTx).UnsafeForEach" -/
namespace F239
def an : Ann := { kinds := [], taus := [(12, [[0, 1, 2, 3, 4, 5, 6]])], pairs := [], lab := [] }
noncomputable def body : Code := (Tryz.f239.body).getD .skip
theorem fn : Tryz.prog.funcs[239]? = some Tryz.f239 := by kernel_rfl
theorem ok : codeOk an 50 body = true := by kernel_rfl
def go (baseReadTx : Option Addr) (bucket : IV) (visitor : FV) (H : Heap) (R : Ending → Heap → Prop) : Prop :=
  guardB (isCell (FV.v visitor)) <|
  newD H (.cells ⟨[(FV.v visitor)]⟩ 245) fun r H1 =>
  newD H1 (.map #[] 0) fun r1 H2 =>
  newD H2 (.cells ⟨[(.map none)]⟩ 368) fun r2 H3 =>
  st1 H3 ⟨r2, 0, none⟩ (.map (some r1)) fun H4 =>
  nilD baseReadTx fun a =>
  callD Tryz.prog 243 [(.pointer (some a)), (IV.v bucket), (.func (.func 241) ⟨[]⟩ ⟨[(.pointer (some ⟨r2, 0, none⟩))]⟩)] H4 (panK R) fun v H5 =>
  tIf v fun i =>
  ifNilD (IV.v i) fun b =>
  iteB (!b) (
    R (.returned (IV.v i)) H5) <|
  nilD baseReadTx fun a1 =>
  ldPtr H5 (Addr.add a1 2) fun p =>
  callD Tryz.prog 115 [(.pointer p)] H5 (panK R) fun v1 H6 =>
  tTup v1 fun l =>
  tNil l <|
  nilD baseReadTx fun a2 =>
  ldPtr H6 (Addr.add a2 3) fun p1 =>
  callD Tryz.prog 244 [(.pointer p1), (IV.v bucket), (.func (.func 242) ⟨[]⟩ ⟨[(.pointer (some ⟨r2, 0, none⟩)), (.pointer (some ⟨r, 0, none⟩))]⟩)] H6 (panK R) fun v2 H7 =>
  tIf v2 fun i1 =>
  nilD baseReadTx fun a3 =>
  ldPtr H7 (Addr.add a3 2) fun p2 =>
  callD Tryz.prog 120 [(.pointer p2)] H7 (panK R) fun v3 H8 =>
  tTup v3 fun l1 =>
  tNil l1 <|
  ifNilD (IV.v i1) fun b1 =>
  iteB (!b1) (
    R (.returned (IV.v i1)) H8) <|
  nilD baseReadTx fun a4 =>
  ldFn H8 ⟨r, 0, none⟩ fun f =>
  callD Tryz.prog 243 [(.pointer (some a4)), (IV.v bucket), (FV.v f)] H8 (panK R) fun v4 H9 =>
  tIf v4 fun i2 =>
  R (.returned (IV.v i2)) H9
theorem calls {baseReadTx : Option Addr} {bucket : IV} {visitor : FV} {H : Heap} {R : Ending → Heap → Prop} (h : go baseReadTx bucket visitor H R) : CallsH Tryz.prog 239 ⟨[(.pointer baseReadTx), (IV.v bucket), (FV.v visitor)]⟩ H R :=
  callsH_of_den (an := an) (fuel := 100000) (X := go baseReadTx bucket visitor H R) (c := body) mixed fn (by kernel_rfl) (by kernel_rfl) (by kernel_rfl) ok (by kernel_rfl) h
end F239
/-! ### 244 "pub-stadtholder/pub/etcdserver/storage/backend.unsafeForEach" -/
namespace F244
def an : Ann := { kinds := [], taus := [], pairs := [], lab := [] }
noncomputable def body : Code := (Tryz.f244.body).getD .skip
theorem fn : Tryz.prog.funcs[244]? = some Tryz.f244 := by kernel_rfl
theorem ok : codeOk an 17 body = true := by kernel_rfl
def go (tx : Option Addr) (bucket : IV) (visitor : FV) (H : Heap) (R : Ending → Heap → Prop) : Prop :=
  callI Tryz.prog (IV.v bucket) "Name" [] H (panK R) fun v H1 =>
  tSl v fun q qn qc =>
  callD Tryz.prog 246 [(.pointer tx), (.slice q qn qc)] H1 (panK R) fun v1 H2 =>
  tPtr v1 fun p =>
  iteB (!(Option.isNone p)) (
    callD Tryz.prog 247 [(.pointer p), (FV.v visitor)] H2 (panK R) fun v2 H3 =>
    tIf v2 fun i =>
    R (.returned (IV.v i)) H3) <|
  R (.returned .nilIface) H2
theorem calls {tx : Option Addr} {bucket : IV} {visitor : FV} {H : Heap} {R : Ending → Heap → Prop} (h : go tx bucket visitor H R) : CallsH Tryz.prog 244 ⟨[(.pointer tx), (IV.v bucket), (FV.v visitor)]⟩ H R :=
  callsH_of_den (an := an) (fuel := 100000) (X := go tx bucket visitor H R) (c := body) mixed fn (by kernel_rfl) (by kernel_rfl) (by kernel_rfl) ok (by kernel_rfl) h
end F244
/-! ### 246 "(*pub-stadtholder/pub/stand/bolt.Tx).Bucket" -/
namespace F246
def an : Ann := { kinds := [], taus := [], pairs := [], lab := [] }
noncomputable def body : Code := (Tryz.f246.body).getD .skip
theorem fn : Tryz.prog.funcs[246]? = some Tryz.f246 := by kernel_rfl
theorem ok : codeOk an 22 body = true := by kernel_rfl
def go (tx : Option Addr) (name : Option Addr) (namen : Nat) (namec : Nat) (H : Heap) (R : Ending → Heap → Prop) : Prop :=
  callD Tryz.prog 248 [(.pointer tx), (.slice name namen namec)] H (panK R) fun v H1 =>
  tTup v fun l =>
  tCons l fun c l1 =>
  tInt c .i64 fun n =>
  tCons l1 fun c1 l2 =>
  tBool c1 fun b =>
  tNil l2 <|
  iteB (!b) (
    R (.returned (.pointer none)) H1) <|
  nilD tx fun a =>
  ldSl H1 (Addr.add a 3) fun q qn qc =>
  idxD q qn n fun a1 =>
  ldPtr H1 (Addr.add a1 (Int.toNat n * 1)) fun p =>
  R (.returned (.pointer p)) H1
theorem calls {tx : Option Addr} {name : Option Addr} {namen : Nat} {namec : Nat} {H : Heap} {R : Ending → Heap → Prop} (h : go tx name namen namec H R) : CallsH Tryz.prog 246 ⟨[(.pointer tx), (.slice name namen namec)]⟩ H R :=
  callsH_of_den (an := an) (fuel := 100000) (X := go tx name namen namec H R) (c := body) mixed fn (by kernel_rfl) (by kernel_rfl) (by kernel_rfl) ok (by kernel_rfl) h
end F246
/-! ### 248 "(*pub-stadtholder/pub/stand/bolt.Tx).place" -/
namespace F248
def an : Ann := { kinds := [], taus := [], pairs := [], lab := [(40000003, [0, 1, 6]), (10000005, [0, 1, 6]), (40000004, [0, 1, 6])] }
noncomputable def body : Code := (Tryz.f248.body).getD .skip
theorem fn : Tryz.prog.funcs[248]? = some Tryz.f248 := by kernel_rfl
theorem ok : codeOk an 55 body = true := by kernel_rfl
noncomputable def L0t : List Item := [.code (sub [1, 1, 0, 0, 0] body), .inLoop (sub [1, 1, 0, 0, 0] body), .inBlock 0, .code (sub [1, 1, 1] body)]
def L0 (tx : Option Addr) (name : Option Addr) (namen : Nat) (namec : Nat) (i : Int) (H : Heap) (R : Ending → Heap → Prop) : Prop :=
  GoL Tryz.prog 248 55 L0t [0, 1, 6] [(.pointer tx), (.slice name namen namec), (.int .i64 i)] H R
noncomputable def L1t : List Item := [.code (sub [1, 1, 1] body)]
def L1 (tx : Option Addr) (name : Option Addr) (namen : Nat) (namec : Nat) (i : Int) (H : Heap) (R : Ending → Heap → Prop) : Prop :=
  GoL Tryz.prog 248 55 L1t [0, 1, 6] [(.pointer tx), (.slice name namen namec), (.int .i64 i)] H R
noncomputable def L2t : List Item := [.code (sub [1, 1, 0, 0, 0, 1] body), .inLoop (sub [1, 1, 0, 0, 0] body), .inBlock 0, .code (sub [1, 1, 1] body)]
def L2 (tx : Option Addr) (name : Option Addr) (namen : Nat) (namec : Nat) (i : Int) (H : Heap) (R : Ending → Heap → Prop) : Prop :=
  GoL Tryz.prog 248 55 L2t [0, 1, 6] [(.pointer tx), (.slice name namen namec), (.int .i64 i)] H R
def L0n (tx : Option Addr) (name : Option Addr) (namen : Nat) (namec : Nat) (i : Int) (H : Heap) (R : Ending → Heap → Prop) : Prop :=
  nilD tx fun a =>
  ldSl H (Addr.add a 3) fun q qn qc =>
  iteB (decide (i < ((qn : Nat) : Int))) (
    nilD tx fun a1 =>
    ldSl H (Addr.add a1 3) fun q1 q1n q1c =>
    idxD q1 q1n i fun a2 =>
    ldPtr H (Addr.add a2 (Int.toNat i * 1)) fun p =>
    nilD p fun a3 =>
    ldSl H (Addr.add a3 1) fun q2 q2n q2c =>
    callD Tryz.prog 136 [(.slice q2 q2n q2c), (.slice name namen namec)] H (panK R) fun v H1 =>
    tInt v .i64 fun n =>
    iteB (decide (n < (0 : Int))) (
      L2 tx name namen namec i H1 R) <|
    L1 tx name namen namec i H1 R) <|
  L1 tx name namen namec i H R
theorem L0_step {tx : Option Addr} {name : Option Addr} {namen : Nat} {namec : Nat} {i : Int} {H : Heap} {R : Ending → Heap → Prop} (h : L0n tx name namen namec i H R) : L0 tx name namen namec i H R :=
  goL_of_den (an := an) (fuel := 100000) (X := L0n tx name namen namec i H R) mixed fn (by kernel_rfl) (fun ρ0 => by kernel_rfl) h
def L1n (tx : Option Addr) (name : Option Addr) (namen : Nat) (namec : Nat) (i : Int) (H : Heap) (R : Ending → Heap → Prop) : Prop :=
  nilD tx fun a =>
  ldSl H (Addr.add a 3) fun q qn qc =>
  iteB (decide (i < ((qn : Nat) : Int))) (
    nilD tx fun a1 =>
    ldSl H (Addr.add a1 3) fun q1 q1n q1c =>
    idxD q1 q1n i fun a2 =>
    ldPtr H (Addr.add a2 (Int.toNat i * 1)) fun p =>
    nilD p fun a3 =>
    ldSl H (Addr.add a3 1) fun q2 q2n q2c =>
    callD Tryz.prog 133 [(.slice q2 q2n q2c), (.slice name namen namec)] H (panK R) fun v H1 =>
    tBool v fun b =>
    R (.returned (.tuple ⟨[(.int .i64 i), (.bool b)]⟩)) H1) <|
  R (.returned (.tuple ⟨[(.int .i64 i), (.bool false)]⟩)) H
theorem L1_step {tx : Option Addr} {name : Option Addr} {namen : Nat} {namec : Nat} {i : Int} {H : Heap} {R : Ending → Heap → Prop} (h : L1n tx name namen namec i H R) : L1 tx name namen namec i H R :=
  goL_of_den (an := an) (fuel := 100000) (X := L1n tx name namen namec i H R) mixed fn (by kernel_rfl) (fun ρ0 => by kernel_rfl) h
def L2n (tx : Option Addr) (name : Option Addr) (namen : Nat) (namec : Nat) (i : Int) (H : Heap) (R : Ending → Heap → Prop) : Prop :=
  L0 tx name namen namec (IntKind.wrap .i64 (i + (1 : Int))) H R
theorem L2_step {tx : Option Addr} {name : Option Addr} {namen : Nat} {namec : Nat} {i : Int} {H : Heap} {R : Ending → Heap → Prop} (h : L2n tx name namen namec i H R) : L2 tx name namen namec i H R :=
  goL_of_den (an := an) (fuel := 100000) (X := L2n tx name namen namec i H R) mixed fn (by kernel_rfl) (fun ρ0 => by kernel_rfl) h
def go (tx : Option Addr) (name : Option Addr) (namen : Nat) (namec : Nat) (H : Heap) (R : Ending → Heap → Prop) : Prop :=
  L0 tx name namen namec (0 : Int) H R
theorem calls {tx : Option Addr} {name : Option Addr} {namen : Nat} {namec : Nat} {H : Heap} {R : Ending → Heap → Prop} (h : go tx name namen namec H R) : CallsH Tryz.prog 248 ⟨[(.pointer tx), (.slice name namen namec)]⟩ H R :=
  callsH_of_den (an := an) (fuel := 100000) (X := go tx name namen namec H R) (c := body) mixed fn (by kernel_rfl) (by kernel_rfl) (by kernel_rfl) ok (by kernel_rfl) h
end F248
/-! ### 252 "(*pub-stadtholder/pub/etcdserver/storage/backend.batchTx).LockInsideApply" -/
namespace F252
def an : Ann := { kinds := [], taus := [], pairs := [], lab := [] }
noncomputable def body : Code := (Tryz.f252.body).getD .skip
theorem fn : Tryz.prog.funcs[252]? = some Tryz.f252 := by kernel_rfl
theorem ok : codeOk an 20 body = true := by kernel_rfl
def go (t : Option Addr) (H : Heap) (R : Ending → Heap → Prop) : Prop :=
  callD Tryz.prog 95 [(.pointer t)] H (panK R) fun v H1 =>
  tTup v fun l =>
  tNil l <|
  nilD t fun a =>
  ldPtr H1 (Addr.add a 1) fun p =>
  nilD p fun a1 =>
  ldFn H1 (Addr.add a1 8) fun f =>
  fnNilD (FV.v f) fun b =>
  iteB (!b) (
    nilD t fun a2 =>
    ldPtr H1 (Addr.add a2 1) fun p1 =>
    nilD p1 fun a3 =>
    ldFn H1 (Addr.add a3 8) fun f1 =>
    callV Tryz.prog (FV.v f1) [] H1 (panK R) fun v1 H2 =>
    tTup v1 fun l1 =>
    tNil l1 <|
    R (.returned (.tuple ⟨[]⟩)) H2) <|
  R (.returned (.tuple ⟨[]⟩)) H1
theorem calls {t : Option Addr} {H : Heap} {R : Ending → Heap → Prop} (h : go t H R) : CallsH Tryz.prog 252 ⟨[(.pointer t)]⟩ H R :=
  callsH_of_den (an := an) (fuel := 100000) (X := go t H R) (c := body) mixed fn (by kernel_rfl) (by kernel_rfl) (by kernel_rfl) ok (by kernel_rfl) h
end F252
/-! ### 253 "(*pub-stadtholder/pub/etcdserver/storage/backend.batchTx).LockOutsideApply" -/
namespace F253
def an : Ann := { kinds := [], taus := [], pairs := [], lab := [] }
noncomputable def body : Code := (Tryz.f253.body).getD .skip
theorem fn : Tryz.prog.funcs[253]? = some Tryz.f253 := by kernel_rfl
theorem ok : codeOk an 4 body = true := by kernel_rfl
def go (t : Option Addr) (H : Heap) (R : Ending → Heap → Prop) : Prop :=
  callD Tryz.prog 95 [(.pointer t)] H (panK R) fun v H1 =>
  tTup v fun l =>
  tNil l <|
  R (.returned (.tuple ⟨[]⟩)) H1
theorem calls {t : Option Addr} {H : Heap} {R : Ending → Heap → Prop} (h : go t H R) : CallsH Tryz.prog 253 ⟨[(.pointer t)]⟩ H R :=
  callsH_of_den (an := an) (fuel := 100000) (X := go t H R) (c := body) mixed fn (by kernel_rfl) (by kernel_rfl) (by kernel_rfl) ok (by kernel_rfl) h
end F253
/-! ### 254 "(*pub-stadtholder/pub/etcdserver/storage/backend.batchTx).UnsafeCreateBucket" -/
namespace F254
def an : Ann := { kinds := [(5, .grow)], taus := [(0, [[0, 1, 2, 4, 3, 5, 6, 7, 8, 9, 10, 11]])], pairs := [], lab := [(10000004, [0])] }
noncomputable def body : Code := (Tryz.f254.body).getD .skip
theorem fn : Tryz.prog.funcs[254]? = some Tryz.f254 := by kernel_rfl
theorem ok : codeOk an 26 body = true := by kernel_rfl
noncomputable def L0t : List Item := [.code (sub [1] body)]
def L0 (t : Option Addr) (H : Heap) (R : Ending → Heap → Prop) : Prop :=
  GoL Tryz.prog 254 26 L0t [0] [(.pointer t)] H R
def L0n (t : Option Addr) (H : Heap) (R : Ending → Heap → Prop) : Prop :=
  nilD t fun a =>
  ldInt H (Addr.add a 2) .i64 fun n =>
  nilD t fun a1 =>
  st1 H (Addr.add a1 2) (.int .i64 (IntKind.wrap .i64 (n + (1 : Int)))) fun H1 =>
  R (.returned (.tuple ⟨[]⟩)) H1
theorem L0_step {t : Option Addr} {H : Heap} {R : Ending → Heap → Prop} (h : L0n t H R) : L0 t H R :=
  goL_of_den (an := an) (fuel := 100000) (X := L0n t H R) mixed fn (by kernel_rfl) (fun ρ0 => by kernel_rfl) h
def go (t : Option Addr) (bucket : IV) (H : Heap) (R : Ending → Heap → Prop) : Prop :=
  nilD t fun a =>
  ldPtr H a fun p =>
  callI Tryz.prog (IV.v bucket) "Name" [] H nope fun v H1 =>
  tSl v fun q qn qc =>
  andD (ExtH H H1) <|
  callD Tryz.prog 261 [(.pointer p), (.slice q qn qc)] H1 (panK R) fun v1 H2 =>
  tTup v1 fun l =>
  tCons l fun c l1 =>
  tPtr c fun p1 =>
  tCons l1 fun c1 l2 =>
  tIf c1 fun i =>
  tNil l2 <|
  ifNilD (IV.v i) fun b =>
  iteB (!b) (
    panD (.iface 9 (.string (ByteArray.mk #[102, 97, 105, 108, 101, 100, 32, 116, 111, 32, 99, 114, 101, 97, 116, 101, 32, 97, 32, 98, 117, 99, 107, 101, 116]))) H2 (panK R)) <|
  L0 t H2 R
theorem calls {t : Option Addr} {bucket : IV} {H : Heap} {R : Ending → Heap → Prop} (h : go t bucket H R) : CallsH Tryz.prog 254 ⟨[(.pointer t), (IV.v bucket)]⟩ H R :=
  callsH_of_den (an := an) (fuel := 100000) (X := go t bucket H R) (c := body) mixed fn (by kernel_rfl) (by kernel_rfl) (by kernel_rfl) ok (by kernel_rfl) h
end F254
/-! ### 257 "(*pub-stadtholder/pub/etcdserver/storage/backend.batchTx).UnsafeForEach" -/
namespace F257
def an : Ann := { kinds := [], taus := [], pairs := [], lab := [] }
noncomputable def body : Code := (Tryz.f257.body).getD .skip
theorem fn : Tryz.prog.funcs[257]? = some Tryz.f257 := by kernel_rfl
theorem ok : codeOk an 14 body = true := by kernel_rfl
def go (t : Option Addr) (bucket : IV) (visitor : FV) (H : Heap) (R : Ending → Heap → Prop) : Prop :=
  nilD t fun a =>
  ldPtr H a fun p =>
  callD Tryz.prog 244 [(.pointer p), (IV.v bucket), (FV.v visitor)] H (panK R) fun v H1 =>
  tIf v fun i =>
  R (.returned (IV.v i)) H1
theorem calls {t : Option Addr} {bucket : IV} {visitor : FV} {H : Heap} {R : Ending → Heap → Prop} (h : go t bucket visitor H R) : CallsH Tryz.prog 257 ⟨[(.pointer t), (IV.v bucket), (FV.v visitor)]⟩ H R :=
  callsH_of_den (an := an) (fuel := 100000) (X := go t bucket visitor H R) (c := body) mixed fn (by kernel_rfl) (by kernel_rfl) (by kernel_rfl) ok (by kernel_rfl) h
end F257
/-! ### 261 "(*pub-stadtholder/pub/stand/bolt.Tx).CreateBucketIfNotExists" -/
namespace F261
def an : Ann := { kinds := [], taus := [(5, [[0, 1, 2, 4, 5, 7, 8, 9, 11, 3, 6, 10, 12, 13]])], pairs := [], lab := [(10000008, [0, 6])] }
noncomputable def body : Code := (Tryz.f261.body).getD .skip
theorem fn : Tryz.prog.funcs[261]? = some Tryz.f261 := by kernel_rfl
theorem ok : codeOk an 61 body = true := by kernel_rfl
noncomputable def L0t : List Item := [.code (sub [1, 1, 1] body)]
def L0 (tx : Option Addr) (i : Int) (H : Heap) (R : Ending → Heap → Prop) : Prop :=
  GoL Tryz.prog 261 61 L0t [0, 6] [(.pointer tx), (.int .i64 i)] H R
def L0n (tx : Option Addr) (i : Int) (H : Heap) (R : Ending → Heap → Prop) : Prop :=
  nilD tx fun a =>
  ldSl H (Addr.add a 3) fun q qn qc =>
  idxD q qn i fun a1 =>
  ldPtr H (Addr.add a1 (Int.toNat i * 1)) fun p =>
  R (.returned (.tuple ⟨[(.pointer p), .nilIface]⟩)) H
theorem L0_step {tx : Option Addr} {i : Int} {H : Heap} {R : Ending → Heap → Prop} (h : L0n tx i H R) : L0 tx i H R :=
  goL_of_den (an := an) (fuel := 100000) (X := L0n tx i H R) mixed fn (by kernel_rfl) (fun ρ0 => by kernel_rfl) h
def go (tx : Option Addr) (name : Option Addr) (namen : Nat) (namec : Nat) (H : Heap) (R : Ending → Heap → Prop) : Prop :=
  callD Tryz.prog 248 [(.pointer tx), (.slice name namen namec)] H (panK R) fun v H1 =>
  tTup v fun l =>
  tCons l fun c l1 =>
  tInt c .i64 fun n =>
  tCons l1 fun c1 l2 =>
  tBool c1 fun b =>
  tNil l2 <|
  iteB (!b) (
    newD H1 (.cells ⟨[]⟩ 5) fun r H2 =>
    apD H2 1 1 [(.int .u8 (0 : Int))] 5 (some ⟨r, 0, none⟩) 0 0 name namen fun q qn qc H3 =>
    newD H3 (.cells ⟨[(.pointer tx), (.slice q qn qc), (.slice none 0 0), (.float .f64 (0 : Nat))]⟩ 298) fun r1 H4 =>
    nilD tx fun a =>
    ldSl H4 (Addr.add a 3) fun q1 q1n q1c =>
    newD H4 (.cells ⟨[(.pointer none)]⟩ 299) fun r2 H5 =>
    apD H5 1 8 [(.pointer none)] 299 q1 q1n q1c (some ⟨r2, 0, none⟩) 1 fun q2 q2n q2c H6 =>
    nilD tx fun a1 =>
    st1 H6 (Addr.add a1 3) (.slice q2 q2n q2c) fun H7 =>
    nilD tx fun a2 =>
    nilD tx fun a3 =>
    ldSl H7 (Addr.add a2 3) fun q3 q3n q3c =>
    bndD (IntKind.wrap .i64 (n + (1 : Int))) q3n fun k =>
    ldSl H7 (Addr.add a3 3) fun q4 q4n q4c =>
    bndD n q4n fun k1 =>
    cpD H7 1 (slP q3 k q3c 1) (q3n - k) (slP q4 k1 q4c 1) (q4n - k1) fun k2 H8 =>
    nilD tx fun a4 =>
    ldSl H8 (Addr.add a4 3) fun q5 q5n q5c =>
    idxD q5 q5n n fun a5 =>
    st1 H8 (Addr.add a5 (Int.toNat n * 1)) (.pointer (some ⟨r1, 0, none⟩)) fun H9 =>
    L0 tx n H9 R) <|
  L0 tx n H1 R
theorem calls {tx : Option Addr} {name : Option Addr} {namen : Nat} {namec : Nat} {H : Heap} {R : Ending → Heap → Prop} (h : go tx name namen namec H R) : CallsH Tryz.prog 261 ⟨[(.pointer tx), (.slice name namen namec)]⟩ H R :=
  callsH_of_den (an := an) (fuel := 100000) (X := go tx name namen namec H R) (c := body) mixed fn (by kernel_rfl) (by kernel_rfl) (by kernel_rfl) ok (by kernel_rfl) h
end F261
/-! ### 263 "(*pub-stadtholder/pub/etcdserver/storage/backend.batchTx).UnsafePut" -/
namespace F263
def an : Ann := { kinds := [], taus := [], pairs := [], lab := [] }
noncomputable def body : Code := (Tryz.f263.body).getD .skip
theorem fn : Tryz.prog.funcs[263]? = some Tryz.f263 := by kernel_rfl
theorem ok : codeOk an 13 body = true := by kernel_rfl
def go (t : Option Addr) (bucket : IV) (key : Option Addr) (keyn : Nat) (keyc : Nat) (value : Option Addr) (valuen : Nat) (valuec : Nat) (H : Heap) (R : Ending → Heap → Prop) : Prop :=
  callD Tryz.prog 266 [(.pointer t), (IV.v bucket), (.slice key keyn keyc), (.slice value valuen valuec), (.bool false)] H (panK R) fun v H1 =>
  tTup v fun l =>
  tNil l <|
  R (.returned (.tuple ⟨[]⟩)) H1
theorem calls {t : Option Addr} {bucket : IV} {key : Option Addr} {keyn : Nat} {keyc : Nat} {value : Option Addr} {valuen : Nat} {valuec : Nat} {H : Heap} {R : Ending → Heap → Prop} (h : go t bucket key keyn keyc value valuen valuec H R) : CallsH Tryz.prog 263 ⟨[(.pointer t), (IV.v bucket), (.slice key keyn keyc), (.slice value valuen valuec)]⟩ H R :=
  callsH_of_den (an := an) (fuel := 100000) (X := go t bucket key keyn keyc value valuen valuec H R) (c := body) mixed fn (by kernel_rfl) (by kernel_rfl) (by kernel_rfl) ok (by kernel_rfl) h
end F263
/-! ### 266 "(*pub-stadtholder/pub/etcdserver/storage/backend.batchTx).unsafePut" -/
namespace F266
def an : Ann := { kinds := [(5, .grow)], taus := [(0, [[0, 1, 2, 4, 3, 5, 6, 7]])], pairs := [], lab := [(10000004, [0, 2, 3, 4, 10]), (10000006, [0, 2, 3, 10]), (10000009, [0])] }
noncomputable def body : Code := (Tryz.f266.body).getD .skip
theorem fn : Tryz.prog.funcs[266]? = some Tryz.f266 := by kernel_rfl
theorem ok : codeOk an 40 body = true := by kernel_rfl
noncomputable def L0t : List Item := [.code (sub [1, 1] body)]
def L0 (t : Option Addr) (key : Option Addr) (keyn : Nat) (keyc : Nat) (value : Option Addr) (valuen : Nat) (valuec : Nat) (seq : Bool) (bucket : Option Addr) (H : Heap) (R : Ending → Heap → Prop) : Prop :=
  GoL Tryz.prog 266 40 L0t [0, 2, 3, 4, 10] [(.pointer t), (.slice key keyn keyc), (.slice value valuen valuec), (.bool seq), (.pointer bucket)] H R
noncomputable def L1t : List Item := [.code (sub [1, 1, 1] body)]
def L1 (t : Option Addr) (key : Option Addr) (keyn : Nat) (keyc : Nat) (value : Option Addr) (valuen : Nat) (valuec : Nat) (bucket : Option Addr) (H : Heap) (R : Ending → Heap → Prop) : Prop :=
  GoL Tryz.prog 266 40 L1t [0, 2, 3, 10] [(.pointer t), (.slice key keyn keyc), (.slice value valuen valuec), (.pointer bucket)] H R
noncomputable def L2t : List Item := [.code (sub [1, 1, 1, 1] body)]
def L2 (t : Option Addr) (H : Heap) (R : Ending → Heap → Prop) : Prop :=
  GoL Tryz.prog 266 40 L2t [0] [(.pointer t)] H R
def L0n (t : Option Addr) (key : Option Addr) (keyn : Nat) (keyc : Nat) (value : Option Addr) (valuen : Nat) (valuec : Nat) (seq : Bool) (bucket : Option Addr) (H : Heap) (R : Ending → Heap → Prop) : Prop :=
  iteB seq (
    nilD bucket fun a =>
    st1 H (Addr.add a 3) (.float .f64 (4606281698874543309 : Nat)) fun H1 =>
    L1 t key keyn keyc value valuen valuec bucket H1 R) <|
  L1 t key keyn keyc value valuen valuec bucket H R
theorem L0_step {t : Option Addr} {key : Option Addr} {keyn : Nat} {keyc : Nat} {value : Option Addr} {valuen : Nat} {valuec : Nat} {seq : Bool} {bucket : Option Addr} {H : Heap} {R : Ending → Heap → Prop} (h : L0n t key keyn keyc value valuen valuec seq bucket H R) : L0 t key keyn keyc value valuen valuec seq bucket H R :=
  goL_of_den (an := an) (fuel := 100000) (X := L0n t key keyn keyc value valuen valuec seq bucket H R) mixed fn (by kernel_rfl) (fun ρ0 => by kernel_rfl) h
def L1n (t : Option Addr) (key : Option Addr) (keyn : Nat) (keyc : Nat) (value : Option Addr) (valuen : Nat) (valuec : Nat) (bucket : Option Addr) (H : Heap) (R : Ending → Heap → Prop) : Prop :=
  callD Tryz.prog 269 [(.pointer bucket), (.slice key keyn keyc), (.slice value valuen valuec)] H (panK R) fun v H1 =>
  tIf v fun i =>
  ifNilD (IV.v i) fun b =>
  iteB (!b) (
    panD (.iface 9 (.string (ByteArray.mk #[102, 97, 105, 108, 101, 100, 32, 116, 111, 32, 119, 114, 105, 116, 101, 32, 116, 111, 32, 97, 32, 98, 117, 99, 107, 101, 116]))) H1 (panK R)) <|
  L2 t H1 R
theorem L1_step {t : Option Addr} {key : Option Addr} {keyn : Nat} {keyc : Nat} {value : Option Addr} {valuen : Nat} {valuec : Nat} {bucket : Option Addr} {H : Heap} {R : Ending → Heap → Prop} (h : L1n t key keyn keyc value valuen valuec bucket H R) : L1 t key keyn keyc value valuen valuec bucket H R :=
  goL_of_den (an := an) (fuel := 100000) (X := L1n t key keyn keyc value valuen valuec bucket H R) mixed fn (by kernel_rfl) (fun ρ0 => by kernel_rfl) h
def L2n (t : Option Addr) (H : Heap) (R : Ending → Heap → Prop) : Prop :=
  nilD t fun a =>
  ldInt H (Addr.add a 2) .i64 fun n =>
  nilD t fun a1 =>
  st1 H (Addr.add a1 2) (.int .i64 (IntKind.wrap .i64 (n + (1 : Int)))) fun H1 =>
  R (.returned (.tuple ⟨[]⟩)) H1
theorem L2_step {t : Option Addr} {H : Heap} {R : Ending → Heap → Prop} (h : L2n t H R) : L2 t H R :=
  goL_of_den (an := an) (fuel := 100000) (X := L2n t H R) mixed fn (by kernel_rfl) (fun ρ0 => by kernel_rfl) h
def go (t : Option Addr) (bucketType : IV) (key : Option Addr) (keyn : Nat) (keyc : Nat) (value : Option Addr) (valuen : Nat) (valuec : Nat) (seq : Bool) (H : Heap) (R : Ending → Heap → Prop) : Prop :=
  nilD t fun a =>
  ldPtr H a fun p =>
  callI Tryz.prog (IV.v bucketType) "Name" [] H nope fun v H1 =>
  tSl v fun q qn qc =>
  andD (ExtH H H1) <|
  callD Tryz.prog 246 [(.pointer p), (.slice q qn qc)] H1 (panK R) fun v1 H2 =>
  tPtr v1 fun p1 =>
  iteB (Option.isNone p1) (
    panD (.iface 9 (.string (ByteArray.mk #[102, 97, 105, 108, 101, 100, 32, 116, 111, 32, 102, 105, 110, 100, 32, 97, 32, 98, 117, 99, 107, 101, 116]))) H2 (panK R)) <|
  L0 t key keyn keyc value valuen valuec seq p1 H2 R
theorem calls {t : Option Addr} {bucketType : IV} {key : Option Addr} {keyn : Nat} {keyc : Nat} {value : Option Addr} {valuen : Nat} {valuec : Nat} {seq : Bool} {H : Heap} {R : Ending → Heap → Prop} (h : go t bucketType key keyn keyc value valuen valuec seq H R) : CallsH Tryz.prog 266 ⟨[(.pointer t), (IV.v bucketType), (.slice key keyn keyc), (.slice value valuen valuec), (.bool seq)]⟩ H R :=
  callsH_of_den (an := an) (fuel := 100000) (X := go t bucketType key keyn keyc value valuen valuec seq H R) (c := body) mixed fn (by kernel_rfl) (by kernel_rfl) (by kernel_rfl) ok (by kernel_rfl) h
end F266
/-! ### 268 "(*pub-stadtholder/pub/stand/bolt.Bucket).place" -/
namespace F268
def an : Ann := { kinds := [], taus := [(1, [[0, 1, 2, 3, 6, 4, 5, 7]])], pairs := [], lab := [(40000003, [0, 1, 6, 7])] }
noncomputable def body : Code := (Tryz.f268.body).getD .skip
theorem fn : Tryz.prog.funcs[268]? = some Tryz.f268 := by kernel_rfl
theorem ok : codeOk an 59 body = true := by kernel_rfl
noncomputable def L0t : List Item := [.code (sub [1, 1, 0, 0, 0] body), .inLoop (sub [1, 1, 0, 0, 0] body), .inBlock 0, .code (sub [1, 1, 1] body)]
def L0 (b : Option Addr) (key : Option Addr) (keyn : Nat) (keyc : Nat) (lo : Int) (hi : Int) (H : Heap) (R : Ending → Heap → Prop) : Prop :=
  GoL Tryz.prog 268 59 L0t [0, 1, 6, 7] [(.pointer b), (.slice key keyn keyc), (.int .i64 lo), (.int .i64 hi)] H R
def L0n (b : Option Addr) (key : Option Addr) (keyn : Nat) (keyc : Nat) (lo : Int) (hi : Int) (H : Heap) (R : Ending → Heap → Prop) : Prop :=
  iteB (decide (lo < hi)) (
    divD (2 : Int) <|
    nilD b fun a =>
    ldSl H (Addr.add (Addr.add a 1) 1) fun q qn qc =>
    idxD q qn (IntKind.wrap .i64 (Int.tdiv (IntKind.wrap .i64 (lo + hi)) (2 : Int))) fun a1 =>
    ldSl H (Addr.add a1 (Int.toNat (IntKind.wrap .i64 (Int.tdiv (IntKind.wrap .i64 (lo + hi)) (2 : Int))) * 2)) fun q1 q1n q1c =>
    callD Tryz.prog 136 [(.slice q1 q1n q1c), (.slice key keyn keyc)] H (panK R) fun v H1 =>
    tInt v .i64 fun n =>
    iteB (decide (n < (0 : Int))) (
      L0 b key keyn keyc (IntKind.wrap .i64 ((IntKind.wrap .i64 (Int.tdiv (IntKind.wrap .i64 (lo + hi)) (2 : Int))) + (1 : Int))) hi H1 R) <|
    L0 b key keyn keyc lo (IntKind.wrap .i64 (Int.tdiv (IntKind.wrap .i64 (lo + hi)) (2 : Int))) H1 R) <|
  nilD b fun a2 =>
  ldSl H (Addr.add (Addr.add a2 1) 1) fun q2 q2n q2c =>
  iteB (decide (lo < ((q2n : Nat) : Int))) (
    nilD b fun a3 =>
    ldSl H (Addr.add (Addr.add a3 1) 1) fun q3 q3n q3c =>
    idxD q3 q3n lo fun a4 =>
    ldSl H (Addr.add a4 (Int.toNat lo * 2)) fun q4 q4n q4c =>
    callD Tryz.prog 133 [(.slice q4 q4n q4c), (.slice key keyn keyc)] H (panK R) fun v1 H2 =>
    tBool v1 fun b1 =>
    R (.returned (.tuple ⟨[(.int .i64 lo), (.bool b1)]⟩)) H2) <|
  R (.returned (.tuple ⟨[(.int .i64 lo), (.bool false)]⟩)) H
theorem L0_step {b : Option Addr} {key : Option Addr} {keyn : Nat} {keyc : Nat} {lo : Int} {hi : Int} {H : Heap} {R : Ending → Heap → Prop} (h : L0n b key keyn keyc lo hi H R) : L0 b key keyn keyc lo hi H R :=
  goL_of_den (an := an) (fuel := 100000) (X := L0n b key keyn keyc lo hi H R) mixed fn (by kernel_rfl) (fun ρ0 => by kernel_rfl) h
def go (b : Option Addr) (key : Option Addr) (keyn : Nat) (keyc : Nat) (H : Heap) (R : Ending → Heap → Prop) : Prop :=
  nilD b fun a =>
  ldSl H (Addr.add (Addr.add a 1) 1) fun q qn qc =>
  L0 b key keyn keyc (0 : Int) ((qn : Nat) : Int) H R
theorem calls {b : Option Addr} {key : Option Addr} {keyn : Nat} {keyc : Nat} {H : Heap} {R : Ending → Heap → Prop} (h : go b key keyn keyc H R) : CallsH Tryz.prog 268 ⟨[(.pointer b), (.slice key keyn keyc)]⟩ H R :=
  callsH_of_den (an := an) (fuel := 100000) (X := go b key keyn keyc H R) (c := body) mixed fn (by kernel_rfl) (by kernel_rfl) (by kernel_rfl) ok (by kernel_rfl) h
end F268
/-! ### 269 "(*pub-stadtholder/pub/stand/bolt.Bucket).Put" -/
namespace F269
def an : Ann := { kinds := [], taus := [], pairs := [], lab := [(20000003, [0, 1, 2]), (10000004, [0, 1, 2]), (10000010, [0, 7, 10])] }
noncomputable def body : Code := (Tryz.f269.body).getD .skip
theorem fn : Tryz.prog.funcs[269]? = some Tryz.f269 := by kernel_rfl
theorem ok : codeOk an 66 body = true := by kernel_rfl
noncomputable def L0t : List Item := [.code (sub [1, 0, 1, 0] body), .code (sub [1, 1] body)]
def L0 (s0 : Option Addr) (s1 : Option Addr) (s1n : Nat) (s1c : Nat) (s2 : Option Addr) (s2n : Nat) (s2c : Nat) (H : Heap) (R : Ending → Heap → Prop) : Prop :=
  GoL Tryz.prog 269 66 L0t [0, 1, 2] [(.pointer s0), (.slice s1 s1n s1c), (.slice s2 s2n s2c)] H R
noncomputable def L1t : List Item := [.code (sub [1, 1] body)]
def L1 (s0 : Option Addr) (s1 : Option Addr) (s1n : Nat) (s1c : Nat) (s2 : Option Addr) (s2n : Nat) (s2c : Nat) (H : Heap) (R : Ending → Heap → Prop) : Prop :=
  GoL Tryz.prog 269 66 L1t [0, 1, 2] [(.pointer s0), (.slice s1 s1n s1c), (.slice s2 s2n s2c)] H R
noncomputable def L2t : List Item := [.code (sub [1, 1, 1, 1, 1, 1, 1] body)]
def L2 (s0 : Option Addr) (s7 : Int) (s10 : Option Addr) (s10n : Nat) (s10c : Nat) (H : Heap) (R : Ending → Heap → Prop) : Prop :=
  GoL Tryz.prog 269 66 L2t [0, 7, 10] [(.pointer s0), (.int .i64 s7), (.slice s10 s10n s10c)] H R
def L0n (s0 : Option Addr) (s1 : Option Addr) (s1n : Nat) (s1c : Nat) (s2 : Option Addr) (s2n : Nat) (s2c : Nat) (H : Heap) (R : Ending → Heap → Prop) : Prop :=
  panD (.iface 9 (.string (ByteArray.mk #[98, 111, 108, 116, 58, 32, 112, 117, 116]))) H (panK R)
theorem L0_step {s0 : Option Addr} {s1 : Option Addr} {s1n : Nat} {s1c : Nat} {s2 : Option Addr} {s2n : Nat} {s2c : Nat} {H : Heap} {R : Ending → Heap → Prop} (h : L0n s0 s1 s1n s1c s2 s2n s2c H R) : L0 s0 s1 s1n s1c s2 s2n s2c H R :=
  goL_of_den (an := an) (fuel := 100000) (X := L0n s0 s1 s1n s1c s2 s2n s2c H R) mixed fn (by kernel_rfl) (fun ρ0 => by kernel_rfl) h
def L1n (s0 : Option Addr) (s1 : Option Addr) (s1n : Nat) (s1c : Nat) (s2 : Option Addr) (s2n : Nat) (s2c : Nat) (H : Heap) (R : Ending → Heap → Prop) : Prop :=
  callD Tryz.prog 268 [(.pointer s0), (.slice s1 s1n s1c)] H (panK R) fun v H1 =>
  tTup v fun l =>
  tCons l fun c l1 =>
  tInt c .i64 fun n =>
  tCons l1 fun c1 l2 =>
  tBool c1 fun b =>
  tNil l2 <|
  newD H1 (.cells ⟨[]⟩ 5) fun r H2 =>
  apD H2 1 1 [(.int .u8 (0 : Int))] 5 (some ⟨r, 0, none⟩) 0 0 s1 s1n fun q qn qc H3 =>
  newD H3 (.cells ⟨[]⟩ 5) fun r1 H4 =>
  apD H4 1 1 [(.int .u8 (0 : Int))] 5 (some ⟨r1, 0, none⟩) 0 0 s2 s2n fun q1 q1n q1c H5 =>
  newD H5 (.cells ⟨[(.slice none 0 0), (.slice none 0 0)]⟩ 376) fun r2 H6 =>
  st1 H6 ⟨r2, 0, none⟩ (.slice q qn qc) fun H7 =>
  st1 H7 ⟨r2, 1, none⟩ (.slice q1 q1n q1c) fun H8 =>
  nilD s0 fun a =>
  ldSl H8 (Addr.add (Addr.add a 1) 1) fun q2 q2n q2c =>
  bndD n q2c fun k =>
  apD H8 2 48 [(.slice none 0 0), (.slice none 0 0)] 376 none 0 0 (slP q2 0 q2c 2) k fun q3 q3n q3c H9 =>
  ldSl H9 ⟨r2, 0, none⟩ fun q4 q4n q4c =>
  ldSl H9 ⟨r2, 1, none⟩ fun q5 q5n q5c =>
  newD H9 (.cells ⟨[(.slice q4 q4n q4c), (.slice q5 q5n q5c)]⟩ 376) fun r3 H10 =>
  apD H10 2 48 [(.slice none 0 0), (.slice none 0 0)] 376 q3 q3n q3c (some ⟨r3, 0, none⟩) 1 fun q6 q6n q6c H11 =>
  iteB b (
    L2 s0 (IntKind.wrap .i64 (n + (1 : Int))) q6 q6n q6c H11 R) <|
  L2 s0 n q6 q6n q6c H11 R
theorem L1_step {s0 : Option Addr} {s1 : Option Addr} {s1n : Nat} {s1c : Nat} {s2 : Option Addr} {s2n : Nat} {s2c : Nat} {H : Heap} {R : Ending → Heap → Prop} (h : L1n s0 s1 s1n s1c s2 s2n s2c H R) : L1 s0 s1 s1n s1c s2 s2n s2c H R :=
  goL_of_den (an := an) (fuel := 100000) (X := L1n s0 s1 s1n s1c s2 s2n s2c H R) mixed fn (by kernel_rfl) (fun ρ0 => by kernel_rfl) h
def L2n (s0 : Option Addr) (s7 : Int) (s10 : Option Addr) (s10n : Nat) (s10c : Nat) (H : Heap) (R : Ending → Heap → Prop) : Prop :=
  nilD s0 fun a =>
  ldSl H (Addr.add (Addr.add a 1) 1) fun q qn qc =>
  bndD s7 qn fun k =>
  apD H 2 48 [(.slice none 0 0), (.slice none 0 0)] 376 s10 s10n s10c (slP q k qc 2) (qn - k) fun q1 q1n q1c H1 =>
  nilD s0 fun a1 =>
  st1 H1 (Addr.add (Addr.add a1 1) 1) (.slice q1 q1n q1c) fun H2 =>
  R (.returned .nilIface) H2
theorem L2_step {s0 : Option Addr} {s7 : Int} {s10 : Option Addr} {s10n : Nat} {s10c : Nat} {H : Heap} {R : Ending → Heap → Prop} (h : L2n s0 s7 s10 s10n s10c H R) : L2 s0 s7 s10 s10n s10c H R :=
  goL_of_den (an := an) (fuel := 100000) (X := L2n s0 s7 s10 s10n s10c H R) mixed fn (by kernel_rfl) (fun ρ0 => by kernel_rfl) h
def go (s0 : Option Addr) (s1 : Option Addr) (s1n : Nat) (s1c : Nat) (s2 : Option Addr) (s2n : Nat) (s2c : Nat) (H : Heap) (R : Ending → Heap → Prop) : Prop :=
  nilD s0 fun a =>
  ldPtr H a fun p =>
  nilD p fun a1 =>
  ldBool H (Addr.add a1 1) fun b =>
  iteB (!b) (
    L0 s0 s1 s1n s1c s2 s2n s2c H R) <|
  iteB (((s1n : Nat) : Int) == (0 : Int)) (
    L0 s0 s1 s1n s1c s2 s2n s2c H R) <|
  L1 s0 s1 s1n s1c s2 s2n s2c H R
theorem calls {s0 : Option Addr} {s1 : Option Addr} {s1n : Nat} {s1c : Nat} {s2 : Option Addr} {s2n : Nat} {s2c : Nat} {H : Heap} {R : Ending → Heap → Prop} (h : go s0 s1 s1n s1c s2 s2n s2c H R) : CallsH Tryz.prog 269 ⟨[(.pointer s0), (.slice s1 s1n s1c), (.slice s2 s2n s2c)]⟩ H R :=
  callsH_of_den (an := an) (fuel := 100000) (X := go s0 s1 s1n s1c s2 s2n s2c H R) (c := body) mixed fn (by kernel_rfl) (by kernel_rfl) (by kernel_rfl) ok (by kernel_rfl) h
end F269
/-! ### 270 "pub-stadtholder/pub/etcdserver/storage/backend.newBucketBuffer" -/
namespace F270
def an : Ann := { kinds := [], taus := [], pairs := [], lab := [] }
noncomputable def body : Code := (Tryz.f270.body).getD .skip
theorem fn : Tryz.prog.funcs[270]? = some Tryz.f270 := by kernel_rfl
theorem ok : codeOk an 4 body = true := by kernel_rfl
def go  (H : Heap) (R : Ending → Heap → Prop) : Prop :=
  mkD H 48 [(.slice none 0 0), (.slice none 0 0)] 286 (512 : Int) (512 : Int) fun r k c H1 =>
  newD H1 (.cells ⟨[(.slice (some ⟨r, 0, none⟩) k c), (.int .i64 (0 : Int))]⟩ 274) fun r1 H2 =>
  R (.returned (.pointer (some ⟨r1, 0, none⟩))) H2
theorem calls  {H : Heap} {R : Ending → Heap → Prop} (h : go  H R) : CallsH Tryz.prog 270 ⟨[]⟩ H R :=
  callsH_of_den (an := an) (fuel := 100000) (X := go  H R) (c := body) mixed fn (by kernel_rfl) (by kernel_rfl) (by kernel_rfl) ok (by kernel_rfl) h
end F270
/-! ### 286 "(pub-stadtholder/pub/etcdserver/storage/schema.bucket).ID" -/
namespace F286
def an : Ann := { kinds := [], taus := [], pairs := [], lab := [] }
noncomputable def body : Code := (Tryz.f286.body).getD .skip
theorem fn : Tryz.prog.funcs[286]? = some Tryz.f286 := by kernel_rfl
theorem ok : codeOk an 5 body = true := by kernel_rfl
def go (b_0 : Int) (b_1 : ByteArray) (b_2 : Bool) (H : Heap) (R : Ending → Heap → Prop) : Prop :=
  newD H (.cells ⟨[(.int .i64 b_0), (.string b_1), (.bool b_2)]⟩ 258) fun r H1 =>
  ldInt H1 ⟨r, 0, none⟩ .i64 fun n =>
  R (.returned (.int .i64 n)) H1
theorem calls {b_0 : Int} {b_1 : ByteArray} {b_2 : Bool} {H : Heap} {R : Ending → Heap → Prop} (h : go b_0 b_1 b_2 H R) : CallsH Tryz.prog 286 ⟨[(.agg ⟨[(.int .i64 b_0), (.string b_1), (.bool b_2)]⟩)]⟩ H R :=
  callsH_of_den (an := an) (fuel := 100000) (X := go b_0 b_1 b_2 H R) (c := body) mixed fn (by kernel_rfl) (by kernel_rfl) (by kernel_rfl) ok (by kernel_rfl) h
end F286
/-! ### 288 "(pub-stadtholder/pub/etcdserver/storage/schema.bucket).Name" -/
namespace F288
def an : Ann := { kinds := [(1002, .loud)], taus := [], pairs := [], lab := [] }
noncomputable def body : Code := (Tryz.f288.body).getD .skip
theorem fn : Tryz.prog.funcs[288]? = some Tryz.f288 := by kernel_rfl
theorem ok : codeOk an 6 body = true := by kernel_rfl
def go (b_0 : Int) (b_1 : ByteArray) (b_2 : Bool) (H : Heap) (R : Ending → Heap → Prop) : Prop :=
  newD H (.cells ⟨[(.int .i64 b_0), (.string b_1), (.bool b_2)]⟩ 258) fun r H1 =>
  ldStr H1 ⟨r, 1, none⟩ fun s =>
  sbD H1 5 s fun r1 c H2 =>
  R (.returned (.slice (some ⟨r1, 0, none⟩) (ByteArray.size s) c)) H2
theorem calls {b_0 : Int} {b_1 : ByteArray} {b_2 : Bool} {H : Heap} {R : Ending → Heap → Prop} (h : go b_0 b_1 b_2 H R) : CallsH Tryz.prog 288 ⟨[(.agg ⟨[(.int .i64 b_0), (.string b_1), (.bool b_2)]⟩)]⟩ H R :=
  callsH_of_den (an := an) (fuel := 100000) (X := go b_0 b_1 b_2 H R) (c := body) mixed fn (by kernel_rfl) (by kernel_rfl) (by kernel_rfl) ok (by kernel_rfl) h
end F288
/-! ### 136 "bytes.Compare" -/
namespace F136
def an : Ann := { kinds := [], taus := [], pairs := [], lab := [] }
noncomputable def body : Code := (Tryz.f136.body).getD .skip
theorem fn : Tryz.prog.funcs[136]? = some Tryz.f136 := by kernel_rfl
theorem ok : codeOk an 8 body = true := by kernel_rfl
def go (a : Option Addr) (an1 : Nat) (ac : Nat) (b : Option Addr) (bn : Nat) (bc : Nat) (H : Heap) (R : Ending → Heap → Prop) : Prop :=
  callX Tryz.prog 150 [(.slice a an1 ac), (.slice b bn bc)] H (panK R) fun v H1 =>
  tInt v .i64 fun n =>
  R (.returned (.int .i64 n)) H1
theorem calls {a : Option Addr} {an1 : Nat} {ac : Nat} {b : Option Addr} {bn : Nat} {bc : Nat} {H : Heap} {R : Ending → Heap → Prop} (h : go a an1 ac b bn bc H R) : CallsH Tryz.prog 136 ⟨[(.slice a an1 ac), (.slice b bn bc)]⟩ H R :=
  callsH_of_den (an := an) (fuel := 100000) (X := go a an1 ac b bn bc H R) (c := body) mixed fn (by kernel_rfl) (by kernel_rfl) (by kernel_rfl) ok (by kernel_rfl) h
end F136
/-! ### 133 "bytes.Equal" -/
namespace F133
def an : Ann := { kinds := [(1001, .read), (1003, .read)], taus := [], pairs := [], lab := [] }
noncomputable def body : Code := (Tryz.f133.body).getD .skip
theorem fn : Tryz.prog.funcs[133]? = some Tryz.f133 := by kernel_rfl
theorem ok : codeOk an 10 body = true := by kernel_rfl
def go (a : Option Addr) (an1 : Nat) (ac : Nat) (b : Option Addr) (bn : Nat) (bc : Nat) (H : Heap) (R : Ending → Heap → Prop) : Prop :=
  bsD H a an1 fun s =>
  bsD H b bn fun s1 =>
  R (.returned (.bool (eqS s s1))) H
theorem calls {a : Option Addr} {an1 : Nat} {ac : Nat} {b : Option Addr} {bn : Nat} {bc : Nat} {H : Heap} {R : Ending → Heap → Prop} (h : go a an1 ac b bn bc H R) : CallsH Tryz.prog 133 ⟨[(.slice a an1 ac), (.slice b bn bc)]⟩ H R :=
  callsH_of_den (an := an) (fuel := 100000) (X := go a an1 ac b bn bc H R) (c := body) mixed fn (by kernel_rfl) (by kernel_rfl) (by kernel_rfl) ok (by kernel_rfl) h
end F133
/-! ### 14 "pub-stadtholder/pub/etcdserver/storage/backend.ZzOpen" -/
namespace F14
def an : Ann := { kinds := [], taus := [], pairs := [], lab := [] }
noncomputable def body : Code := (Tryz.f14.body).getD .skip
theorem fn : Tryz.prog.funcs[14]? = some Tryz.f14 := by kernel_rfl
theorem ok : codeOk an 9 body = true := by kernel_rfl
def go (db : Option Addr) (batchLimit : Int) (H : Heap) (R : Ending → Heap → Prop) : Prop :=
  callD Tryz.prog 29 [(.pointer db), (.int .i64 batchLimit)] H (panK R) fun v H1 =>
  tPtr v fun p =>
  R (.returned (.iface 116 (.pointer p))) H1
theorem calls {db : Option Addr} {batchLimit : Int} {H : Heap} {R : Ending → Heap → Prop} (h : go db batchLimit H R) : CallsH Tryz.prog 14 ⟨[(.pointer db), (.int .i64 batchLimit)]⟩ H R :=
  callsH_of_den (an := an) (fuel := 100000) (X := go db batchLimit H R) (c := body) mixed fn (by kernel_rfl) (by kernel_rfl) (by kernel_rfl) ok (by kernel_rfl) h
end F14
/-! ### 29 "pub-stadtholder/pub/etcdserver/storage/backend.newBackend" -/
namespace F29
def an : Ann := { kinds := [], taus := [], pairs := [], lab := [] }
noncomputable def body : Code := (Tryz.f29.body).getD .skip
theorem fn : Tryz.prog.funcs[29]? = some Tryz.f29 := by kernel_rfl
theorem ok : codeOk an 27 body = true := by kernel_rfl
def go (db : Option Addr) (batchLimit : Int) (H : Heap) (R : Ending → Heap → Prop) : Prop :=
  newD H (.map #[] 0) fun r H1 =>
  newD H1 (.map #[] 0) fun r1 H2 =>
  newD H2 (.cells ⟨[]⟩ 150) fun r2 H3 =>
  newD H3 (.cells ⟨[]⟩ 98) fun r3 H4 =>
  newD H4 (.cells ⟨[(.map (some r)), (.int .u64 (0 : Int)), (.pointer (some ⟨r3, 0, none⟩)), (.pointer none), (.map (some r1)), (.pointer (some ⟨r2, 0, none⟩))]⟩ 156) fun r4 H5 =>
  newD H5 (.cells ⟨[(.int .i64 (0 : Int)), (.pointer db), (.int .i64 batchLimit), (.pointer none), (.pointer (some ⟨r4, 0, none⟩)), (.pointer none), (.int .u64 (0 : Int)), .nilIface, .nilFunc, (.pointer none)]⟩ 165) fun r5 H6 =>
  callD Tryz.prog 43 [(.pointer (some ⟨r5, 0, none⟩))] H6 (panK R) fun v H7 =>
  tPtr v fun p =>
  st1 H7 ⟨r5, 3, none⟩ (.pointer p) fun H8 =>
  R (.returned (.pointer (some ⟨r5, 0, none⟩))) H8
theorem calls {db : Option Addr} {batchLimit : Int} {H : Heap} {R : Ending → Heap → Prop} (h : go db batchLimit H R) : CallsH Tryz.prog 29 ⟨[(.pointer db), (.int .i64 batchLimit)]⟩ H R :=
  callsH_of_den (an := an) (fuel := 100000) (X := go db batchLimit H R) (c := body) mixed fn (by kernel_rfl) (by kernel_rfl) (by kernel_rfl) ok (by kernel_rfl) h
end F29
/-! ### 43 "pub-stadtholder/pub/etcdserver/storage/backend.newBatchTxBuffered" -/
namespace F43
def an : Ann := { kinds := [], taus := [], pairs := [], lab := [] }
noncomputable def body : Code := (Tryz.f43.body).getD .skip
theorem fn : Tryz.prog.funcs[43]? = some Tryz.f43 := by kernel_rfl
theorem ok : codeOk an 15 body = true := by kernel_rfl
def go (backend : Option Addr) (H : Heap) (R : Ending → Heap → Prop) : Prop :=
  newD H (.map #[] 0) fun r H1 =>
  newD H1 (.map #[] 0) fun r1 H2 =>
  newD H2 (.cells ⟨[(.pointer none), (.pointer backend), (.int .i64 (0 : Int)), (.map (some r)), (.map (some r1)), (.int .i64 (0 : Int))]⟩ 204) fun r2 H3 =>
  callD Tryz.prog 73 [(.pointer (some ⟨r2, 0, none⟩))] H3 (panK R) fun v H4 =>
  tTup v fun l =>
  tNil l <|
  R (.returned (.pointer (some ⟨r2, 0, none⟩))) H4
theorem calls {backend : Option Addr} {H : Heap} {R : Ending → Heap → Prop} (h : go backend H R) : CallsH Tryz.prog 43 ⟨[(.pointer backend)]⟩ H R :=
  callsH_of_den (an := an) (fuel := 100000) (X := go backend H R) (c := body) mixed fn (by kernel_rfl) (by kernel_rfl) (by kernel_rfl) ok (by kernel_rfl) h
end F43
/-! ### 140 "(*pub-stadtholder/pub/stand/bolt.DB).Begin" -/
namespace F140
def an : Ann := { kinds := [(5014, .grow), (5015, .grow)], taus := [(5, [[0, 1, 2, 3, 5, 6, 7, 8, 10, 4, 9, 11, 12, 13, 14, 15, 16, 17, 18, 19]])], pairs := [], lab := [(40000004, [0, 6, 7])] }
noncomputable def body : Code := (Tryz.f140.body).getD .skip
theorem fn : Tryz.prog.funcs[140]? = some Tryz.f140 := by kernel_rfl
theorem ok : codeOk an 41 body = true := by kernel_rfl
noncomputable def L0t : List Item := [.code (sub [1, 1, 0, 1, 0, 0] body), .inLoop (sub [1, 1, 0, 1, 0, 0] body), .inBlock 0, .code (sub [1, 1, 1] body)]
def L0 (db : Option Addr) (tx : Nat) (i : Int) (H : Heap) (R : Ending → Heap → Prop) : Prop :=
  GoL Tryz.prog 140 41 L0t [0, 6, 7] [(.pointer db), (.pointer (some ⟨tx, 0, none⟩)), (.int .i64 i)] H R
def L0n (db : Option Addr) (tx : Nat) (i : Int) (H : Heap) (R : Ending → Heap → Prop) : Prop :=
  nilD db fun a =>
  ldSl H a fun q qn qc =>
  iteB (decide (i < ((qn : Nat) : Int))) (
    nilD db fun a1 =>
    ldSl H ⟨tx, 3, none⟩ fun q1 q1n q1c =>
    ldSl H a1 fun q2 q2n q2c =>
    idxD q2 q2n i fun a2 =>
    ldSl H (Addr.add a2 (Int.toNat i * 2)) fun q3 q3n q3c =>
    ldSl H (Addr.add (Addr.add a2 (Int.toNat i * 2)) 1) fun q4 q4n q4c =>
    newD H (.cells ⟨[(.pointer (some ⟨tx, 0, none⟩)), (.slice q3 q3n q3c), (.slice q4 q4n q4c), (.float .f64 (0 : Nat))]⟩ 298) fun r H1 =>
    newD H1 (.cells ⟨[(.pointer (some ⟨r, 0, none⟩))]⟩ 299) fun r1 H2 =>
    apD H2 1 8 [(.pointer none)] 299 q1 q1n q1c (some ⟨r1, 0, none⟩) 1 fun q5 q5n q5c H3 =>
    st1 H3 ⟨tx, 3, none⟩ (.slice q5 q5n q5c) fun H4 =>
    L0 db tx (IntKind.wrap .i64 (i + (1 : Int))) H4 R) <|
  R (.returned (.tuple ⟨[(.pointer (some ⟨tx, 0, none⟩)), .nilIface]⟩)) H
theorem L0_step {db : Option Addr} {tx : Nat} {i : Int} {H : Heap} {R : Ending → Heap → Prop} (h : L0n db tx i H R) : L0 db tx i H R :=
  goL_of_den (an := an) (fuel := 100000) (X := L0n db tx i H R) mixed fn (by kernel_rfl) (fun ρ0 => by kernel_rfl) h
def go (db : Option Addr) (write : Bool) (H : Heap) (R : Ending → Heap → Prop) : Prop :=
  newD H (.cells ⟨[(.pointer db), (.bool write), (.bool false), (.slice none 0 0)]⟩ 283) fun r H1 =>
  L0 db r (0 : Int) H1 R
theorem calls {db : Option Addr} {write : Bool} {H : Heap} {R : Ending → Heap → Prop} (h : go db write H R) : CallsH Tryz.prog 140 ⟨[(.pointer db), (.bool write)]⟩ H R :=
  callsH_of_den (an := an) (fuel := 100000) (X := go db write H R) (c := body) mixed fn (by kernel_rfl) (by kernel_rfl) (by kernel_rfl) ok (by kernel_rfl) h
end F140
/-! ### 119 "(*pub-stadtholder/pub/etcdserver/storage/backend.backend).begin" -/
namespace F119
def an : Ann := { kinds := [(1002, .read), (3002, .read)], taus := [], pairs := [], lab := [] }
noncomputable def body : Code := (Tryz.f119.body).getD .skip
theorem fn : Tryz.prog.funcs[119]? = some Tryz.f119 := by kernel_rfl
theorem ok : codeOk an 18 body = true := by kernel_rfl
def go (b : Option Addr) (write : Bool) (H : Heap) (R : Ending → Heap → Prop) : Prop :=
  nilD b fun a =>
  zfD Tryz.prog H 165 1 (.pointer (some a)) fun a1 =>
  callD Tryz.prog 31 [(.pointer (some a1))] H (panK R) fun v H1 =>
  tTup v fun l =>
  tNil l <|
  callD Tryz.prog 131 [(.pointer b), (.bool write)] H1 (panK R) fun v1 H2 =>
  tPtr v1 fun p =>
  nilD b fun a2 =>
  zfD Tryz.prog H2 165 1 (.pointer (some a2)) fun a3 =>
  callD Tryz.prog 32 [(.pointer (some a3))] H2 (panK R) fun v2 H3 =>
  tTup v2 fun l1 =>
  tNil l1 <|
  R (.returned (.pointer p)) H3
theorem calls {b : Option Addr} {write : Bool} {H : Heap} {R : Ending → Heap → Prop} (h : go b write H R) : CallsH Tryz.prog 119 ⟨[(.pointer b), (.bool write)]⟩ H R :=
  callsH_of_den (an := an) (fuel := 100000) (X := go b write H R) (c := body) mixed fn (by kernel_rfl) (by kernel_rfl) (by kernel_rfl) ok (by kernel_rfl) h
end F119
/-! ### 131 "(*pub-stadtholder/pub/etcdserver/storage/backend.backend).unsafeBegin" -/
namespace F131
def an : Ann := { kinds := [], taus := [], pairs := [], lab := [] }
noncomputable def body : Code := (Tryz.f131.body).getD .skip
theorem fn : Tryz.prog.funcs[131]? = some Tryz.f131 := by kernel_rfl
theorem ok : codeOk an 20 body = true := by kernel_rfl
def go (b : Option Addr) (write : Bool) (H : Heap) (R : Ending → Heap → Prop) : Prop :=
  nilD b fun a =>
  ldPtr H (Addr.add a 1) fun p =>
  callD Tryz.prog 140 [(.pointer p), (.bool write)] H (panK R) fun v H1 =>
  tTup v fun l =>
  tCons l fun c l1 =>
  tPtr c fun p1 =>
  tCons l1 fun c1 l2 =>
  tIf c1 fun i =>
  tNil l2 <|
  ifNilD (IV.v i) fun b1 =>
  iteB (!b1) (
    panD (.iface 9 (.string (ByteArray.mk #[102, 97, 105, 108, 101, 100, 32, 116, 111, 32, 98, 101, 103, 105, 110, 32, 116, 120]))) H1 (panK R)) <|
  R (.returned (.pointer p1)) H1
theorem calls {b : Option Addr} {write : Bool} {H : Heap} {R : Ending → Heap → Prop} (h : go b write H R) : CallsH Tryz.prog 131 ⟨[(.pointer b), (.bool write)]⟩ H R :=
  callsH_of_den (an := an) (fuel := 100000) (X := go b write H R) (c := body) mixed fn (by kernel_rfl) (by kernel_rfl) (by kernel_rfl) ok (by kernel_rfl) h
end F131
/-! ### 130 "(*pub-stadtholder/pub/stand/bolt.Tx).Commit" -/
namespace F130
def an : Ann := { kinds := [], taus := [], pairs := [], lab := [(20000003, [0]), (10000004, [0]), (40000007, [0, 3, 4])] }
noncomputable def body : Code := (Tryz.f130.body).getD .skip
theorem fn : Tryz.prog.funcs[130]? = some Tryz.f130 := by kernel_rfl
theorem ok : codeOk an 49 body = true := by kernel_rfl
noncomputable def L0t : List Item := [.code (sub [1, 0, 1, 0] body), .code (sub [1, 1] body)]
def L0 (tx : Option Addr) (H : Heap) (R : Ending → Heap → Prop) : Prop :=
  GoL Tryz.prog 130 49 L0t [0] [(.pointer tx)] H R
noncomputable def L1t : List Item := [.code (sub [1, 1] body)]
def L1 (tx : Option Addr) (H : Heap) (R : Ending → Heap → Prop) : Prop :=
  GoL Tryz.prog 130 49 L1t [0] [(.pointer tx)] H R
noncomputable def L2t : List Item := [.code (sub [1, 1, 1, 1, 0, 1, 0, 0] body), .inLoop (sub [1, 1, 1, 1, 0, 1, 0, 0] body), .inBlock 0, .code (sub [1, 1, 1, 1, 1] body)]
def L2 (tx : Option Addr) (list : Option Addr) (listn : Nat) (listc : Nat) (i : Int) (H : Heap) (R : Ending → Heap → Prop) : Prop :=
  GoL Tryz.prog 130 49 L2t [0, 3, 4] [(.pointer tx), (.slice list listn listc), (.int .i64 i)] H R
def L0n (tx : Option Addr) (H : Heap) (R : Ending → Heap → Prop) : Prop :=
  panD (.iface 9 (.string (ByteArray.mk #[98, 111, 108, 116, 58, 32, 99, 111, 109, 109, 105, 116, 32, 111, 102, 32, 119, 104, 97, 116, 32, 99, 97, 110, 39, 116, 32, 98, 101, 32, 99, 111, 109, 109, 105, 116, 116, 101, 100]))) H (panK R)
theorem L0_step {tx : Option Addr} {H : Heap} {R : Ending → Heap → Prop} (h : L0n tx H R) : L0 tx H R :=
  goL_of_den (an := an) (fuel := 100000) (X := L0n tx H R) mixed fn (by kernel_rfl) (fun ρ0 => by kernel_rfl) h
def L1n (tx : Option Addr) (H : Heap) (R : Ending → Heap → Prop) : Prop :=
  nilD tx fun a =>
  st1 H (Addr.add a 2) (.bool true) fun H1 =>
  L2 tx none 0 0 (0 : Int) H1 R
theorem L1_step {tx : Option Addr} {H : Heap} {R : Ending → Heap → Prop} (h : L1n tx H R) : L1 tx H R :=
  goL_of_den (an := an) (fuel := 100000) (X := L1n tx H R) mixed fn (by kernel_rfl) (fun ρ0 => by kernel_rfl) h
def L2n (tx : Option Addr) (list : Option Addr) (listn : Nat) (listc : Nat) (i : Int) (H : Heap) (R : Ending → Heap → Prop) : Prop :=
  nilD tx fun a =>
  ldSl H (Addr.add a 3) fun q qn qc =>
  iteB (decide (i < ((qn : Nat) : Int))) (
    nilD tx fun a1 =>
    ldSl H (Addr.add a1 3) fun q1 q1n q1c =>
    idxD q1 q1n i fun a2 =>
    ldPtr H (Addr.add a2 (Int.toNat i * 1)) fun p =>
    nilD p fun a3 =>
    ldSl H (Addr.add a3 1) fun q2 q2n q2c =>
    ldSl H (Addr.add (Addr.add a3 1) 1) fun q3 q3n q3c =>
    newD H (.cells ⟨[(.slice q2 q2n q2c), (.slice q3 q3n q3c)]⟩ 296) fun r H1 =>
    apD H1 2 48 [(.slice none 0 0), (.slice none 0 0)] 296 list listn listc (some ⟨r, 0, none⟩) 1 fun q4 q4n q4c H2 =>
    L2 tx q4 q4n q4c (IntKind.wrap .i64 (i + (1 : Int))) H2 R) <|
  nilD tx fun a4 =>
  ldPtr H a4 fun p1 =>
  nilD p1 fun a5 =>
  st1 H a5 (.slice list listn listc) fun H3 =>
  R (.returned .nilIface) H3
theorem L2_step {tx : Option Addr} {list : Option Addr} {listn : Nat} {listc : Nat} {i : Int} {H : Heap} {R : Ending → Heap → Prop} (h : L2n tx list listn listc i H R) : L2 tx list listn listc i H R :=
  goL_of_den (an := an) (fuel := 100000) (X := L2n tx list listn listc i H R) mixed fn (by kernel_rfl) (fun ρ0 => by kernel_rfl) h
def go (tx : Option Addr) (H : Heap) (R : Ending → Heap → Prop) : Prop :=
  nilD tx fun a =>
  ldBool H (Addr.add a 2) fun b =>
  iteB b (
    L0 tx H R) <|
  nilD tx fun a1 =>
  ldBool H (Addr.add a1 1) fun b1 =>
  iteB (!b1) (
    L0 tx H R) <|
  L1 tx H R
theorem calls {tx : Option Addr} {H : Heap} {R : Ending → Heap → Prop} (h : go tx H R) : CallsH Tryz.prog 130 ⟨[(.pointer tx)]⟩ H R :=
  callsH_of_den (an := an) (fuel := 100000) (X := go tx H R) (c := body) mixed fn (by kernel_rfl) (by kernel_rfl) (by kernel_rfl) ok (by kernel_rfl) h
end F130
end Go.Proofs.YtkenjnllegbmjaaGreat
