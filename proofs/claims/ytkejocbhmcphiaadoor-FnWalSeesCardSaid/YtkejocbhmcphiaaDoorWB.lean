/- What functions of this seat do, each proved by a walk; no condition. -/
import Derived.Test.YtkejocbhmcphiaaDoorDenZC
import Derived.Test.YtkejocbhmcphiaaDoorProg
import Derived.KernelRfl
set_option linter.unusedVariables false
namespace Go.Proofs.YtkejocbhmcphiaaDoor
open Go Go.Den Go.Proofs
theorem mixed : Tryd.prog.follows .mixedOrders = true := by kernel_rfl
/-! ### 18 "pub-stadtholder/pub/etcdserver/storage/wal.ZzNew" -/
namespace F18
def an : Ann := { kinds := [], taus := [], pairs := [], lab := [] }
noncomputable def body : Code := (Tryd.f18.body).getD .skip
theorem fn : Tryd.prog.funcs[18]? = some Tryd.f18 := by kernel_rfl
theorem ok : codeOk an 12 body = true := by kernel_rfl
def go (w : IV) (prevCrc : Int) (pageOffset : Int) (H : Heap) (R : Ending → Heap → Prop) : Prop :=
  newD H (.cells ⟨[(.pointer none)]⟩ 54) fun r H1 =>
  callD Tryd.prog 29 [(IV.v w), (.int .u32 prevCrc), (.int .i64 pageOffset)] H1 (panK R) fun v H2 =>
  tPtr v fun p =>
  st1 H2 ⟨r, 0, none⟩ (.pointer p) fun H3 =>
  ldPtr H3 ⟨r, 0, none⟩ fun p1 =>
  R (.returned (.agg ⟨[(.pointer p1)]⟩)) H3
theorem calls {w : IV} {prevCrc : Int} {pageOffset : Int} {H : Heap} {R : Ending → Heap → Prop} (h : go w prevCrc pageOffset H R) : CallsH Tryd.prog 18 ⟨[(IV.v w), (.int .u32 prevCrc), (.int .i64 pageOffset)]⟩ H R :=
  callsH_of_den (an := an) (fuel := 100000) (X := go w prevCrc pageOffset H R) (c := body) mixed fn (by kernel_rfl) (by kernel_rfl) (by kernel_rfl) ok (by kernel_rfl) h
end F18
/-! ### 19 "(pub-stadtholder/pub/etcdserver/storage/wal.ZzEncoder).Encode" -/
namespace F19
def an : Ann := { kinds := [], taus := [], pairs := [], lab := [] }
noncomputable def body : Code := (Tryd.f19.body).getD .skip
theorem fn : Tryd.prog.funcs[19]? = some Tryd.f19 := by kernel_rfl
theorem ok : codeOk an 9 body = true := by kernel_rfl
def go (z_0 : Option Addr) (xrec : Option Addr) (H : Heap) (R : Ending → Heap → Prop) : Prop :=
  newD H (.cells ⟨[(.pointer z_0)]⟩ 54) fun r H1 =>
  ldPtr H1 ⟨r, 0, none⟩ fun p =>
  callD Tryd.prog 30 [(.pointer p), (.pointer xrec)] H1 (panK R) fun v H2 =>
  tIf v fun i =>
  R (.returned (IV.v i)) H2
theorem calls {z_0 : Option Addr} {xrec : Option Addr} {H : Heap} {R : Ending → Heap → Prop} (h : go z_0 xrec H R) : CallsH Tryd.prog 19 ⟨[(.agg ⟨[(.pointer z_0)]⟩), (.pointer xrec)]⟩ H R :=
  callsH_of_den (an := an) (fuel := 100000) (X := go z_0 xrec H R) (c := body) mixed fn (by kernel_rfl) (by kernel_rfl) (by kernel_rfl) ok (by kernel_rfl) h
end F19
/-! ### 20 "(pub-stadtholder/pub/etcdserver/storage/wal.ZzEncoder).Flush" -/
namespace F20
def an : Ann := { kinds := [], taus := [], pairs := [], lab := [] }
noncomputable def body : Code := (Tryd.f20.body).getD .skip
theorem fn : Tryd.prog.funcs[20]? = some Tryd.f20 := by kernel_rfl
theorem ok : codeOk an 6 body = true := by kernel_rfl
def go (z_0 : Option Addr) (H : Heap) (R : Ending → Heap → Prop) : Prop :=
  newD H (.cells ⟨[(.pointer z_0)]⟩ 54) fun r H1 =>
  ldPtr H1 ⟨r, 0, none⟩ fun p =>
  callD Tryd.prog 31 [(.pointer p)] H1 (panK R) fun v H2 =>
  tIf v fun i =>
  R (.returned (IV.v i)) H2
theorem calls {z_0 : Option Addr} {H : Heap} {R : Ending → Heap → Prop} (h : go z_0 H R) : CallsH Tryd.prog 20 ⟨[(.agg ⟨[(.pointer z_0)]⟩)]⟩ H R :=
  callsH_of_den (an := an) (fuel := 100000) (X := go z_0 H R) (c := body) mixed fn (by kernel_rfl) (by kernel_rfl) (by kernel_rfl) ok (by kernel_rfl) h
end F20
/-! ### 24 "(*pub-stadtholder/pub/etcdserver/storage/wal/walpb.Record).GetType" -/
namespace F24
def an : Ann := { kinds := [], taus := [], pairs := [], lab := [] }
noncomputable def body : Code := (Tryd.f24.body).getD .skip
theorem fn : Tryd.prog.funcs[24]? = some Tryd.f24 := by kernel_rfl
theorem ok : codeOk an 14 body = true := by kernel_rfl
def go (xrec : Option Addr) (H : Heap) (R : Ending → Heap → Prop) : Prop :=
  nilD xrec fun a =>
  ldPtr H a fun p =>
  iteB (Option.isNone p) (
    R (.returned (.int .i64 (0 : Int))) H) <|
  nilD xrec fun a1 =>
  ldPtr H a1 fun p1 =>
  nilD p1 fun a2 =>
  ldInt H a2 .i64 fun n =>
  R (.returned (.int .i64 n)) H
theorem calls {xrec : Option Addr} {H : Heap} {R : Ending → Heap → Prop} (h : go xrec H R) : CallsH Tryd.prog 24 ⟨[(.pointer xrec)]⟩ H R :=
  callsH_of_den (an := an) (fuel := 100000) (X := go xrec H R) (c := body) mixed fn (by kernel_rfl) (by kernel_rfl) (by kernel_rfl) ok (by kernel_rfl) h
end F24
/-! ### 25 "(*pub-stadtholder/pub/etcdserver/storage/wal/walpb.Record).GetCrc" -/
namespace F25
def an : Ann := { kinds := [], taus := [], pairs := [], lab := [] }
noncomputable def body : Code := (Tryd.f25.body).getD .skip
theorem fn : Tryd.prog.funcs[25]? = some Tryd.f25 := by kernel_rfl
theorem ok : codeOk an 14 body = true := by kernel_rfl
def go (xrec : Option Addr) (H : Heap) (R : Ending → Heap → Prop) : Prop :=
  nilD xrec fun a =>
  ldPtr H (Addr.add a 1) fun p =>
  iteB (Option.isNone p) (
    R (.returned (.int .u32 (0 : Int))) H) <|
  nilD xrec fun a1 =>
  ldPtr H (Addr.add a1 1) fun p1 =>
  nilD p1 fun a2 =>
  ldInt H a2 .u32 fun n =>
  R (.returned (.int .u32 n)) H
theorem calls {xrec : Option Addr} {H : Heap} {R : Ending → Heap → Prop} (h : go xrec H R) : CallsH Tryd.prog 25 ⟨[(.pointer xrec)]⟩ H R :=
  callsH_of_den (an := an) (fuel := 100000) (X := go xrec H R) (c := body) mixed fn (by kernel_rfl) (by kernel_rfl) (by kernel_rfl) ok (by kernel_rfl) h
end F25
/-! ### 29 "pub-stadtholder/pub/etcdserver/storage/wal.newEncoder" -/
namespace F29
def an : Ann := { kinds := [(1005, .grow), (1007, .grow)], taus := [(1, [[0, 1, 3, 5, 2, 4, 6, 7, 8], [0, 1, 3, 2, 5, 4, 6, 7, 8], [0, 1, 3, 2, 4, 5, 6, 7, 8]])], pairs := [(1, [(5, 2), (5, 4)])], lab := [] }
noncomputable def body : Code := (Tryd.f29.body).getD .skip
theorem fn : Tryd.prog.funcs[29]? = some Tryd.f29 := by kernel_rfl
theorem ok : codeOk an 15 body = true := by kernel_rfl
def go (w : IV) (prevCrc : Int) (pageOffset : Int) (H : Heap) (R : Ending → Heap → Prop) : Prop :=
  (
    mkD H 1 [(.int .u8 (0 : Int))] 5 (8 : Int) (8 : Int) fun r k c H1 =>
    callD Tryd.prog 34 [(IV.v w), (.int .i64 (4096 : Int)), (.int .i64 pageOffset)] H1 (panK R) fun v H2 =>
    tPtr v fun p =>
    callD Tryd.prog 33 [(.int .u32 prevCrc)] H2 (panK R) fun v1 H3 =>
    tPtr v1 fun p1 =>
    newD H3 (.cells ⟨[(.pointer p), (.pointer p1), (.slice (some ⟨r, 0, none⟩) k c)]⟩ 97) fun r1 H4 =>
    R (.returned (.pointer (some ⟨r1, 0, none⟩))) H4) ∧
  (
    callD Tryd.prog 34 [(IV.v w), (.int .i64 (4096 : Int)), (.int .i64 pageOffset)] H (panK R) fun v2 H5 =>
    tPtr v2 fun p2 =>
    mkD H5 1 [(.int .u8 (0 : Int))] 5 (8 : Int) (8 : Int) fun r2 k1 c1 H6 =>
    callD Tryd.prog 33 [(.int .u32 prevCrc)] H6 (panK R) fun v3 H7 =>
    tPtr v3 fun p3 =>
    newD H7 (.cells ⟨[(.pointer p2), (.pointer p3), (.slice (some ⟨r2, 0, none⟩) k1 c1)]⟩ 97) fun r3 H8 =>
    R (.returned (.pointer (some ⟨r3, 0, none⟩))) H8) ∧
  (
    callD Tryd.prog 34 [(IV.v w), (.int .i64 (4096 : Int)), (.int .i64 pageOffset)] H (panK R) fun v4 H9 =>
    tPtr v4 fun p4 =>
    callD Tryd.prog 33 [(.int .u32 prevCrc)] H9 (panK R) fun v5 H10 =>
    tPtr v5 fun p5 =>
    mkD H10 1 [(.int .u8 (0 : Int))] 5 (8 : Int) (8 : Int) fun r4 k2 c2 H11 =>
    newD H11 (.cells ⟨[(.pointer p4), (.pointer p5), (.slice (some ⟨r4, 0, none⟩) k2 c2)]⟩ 97) fun r5 H12 =>
    R (.returned (.pointer (some ⟨r5, 0, none⟩))) H12)
theorem calls {w : IV} {prevCrc : Int} {pageOffset : Int} {H : Heap} {R : Ending → Heap → Prop} (h : go w prevCrc pageOffset H R) : CallsH Tryd.prog 29 ⟨[(IV.v w), (.int .u32 prevCrc), (.int .i64 pageOffset)]⟩ H R :=
  callsH_of_den (an := an) (fuel := 100000) (X := go w prevCrc pageOffset H R) (c := body) mixed fn (by kernel_rfl) (by kernel_rfl) (by kernel_rfl) ok (by kernel_rfl) h
end F29
/-! ### 30 "(*pub-stadtholder/pub/etcdserver/storage/wal.encoder).encode" -/
namespace F30
def an : Ann := { kinds := [(3002, .read), (4002, .read)], taus := [(5, [[0, 1, 2, 4, 5, 6, 3, 7, 8]]), (13, [[0, 1, 2, 5, 6, 7, 9, 10, 3, 4, 8, 11, 12]])], pairs := [], lab := [] }
noncomputable def body : Code := (Tryd.f30.body).getD .skip
theorem fn : Tryd.prog.funcs[30]? = some Tryd.f30 := by kernel_rfl
theorem ok : codeOk an 65 body = true := by kernel_rfl
def go (s0 : Option Addr) (s1 : Option Addr) (H : Heap) (R : Ending → Heap → Prop) : Prop :=
  nilD s1 fun a =>
  ldPtr H a fun p =>
  iteB (Option.isNone p) (
    R (.returned (.iface 98 (.string (ByteArray.mk #[114, 101, 99, 111, 114, 100, 32, 105, 115, 32, 109, 105, 115, 115, 105, 110, 103, 32, 116, 121, 112, 101])))) H) <|
  nilD s0 fun a1 =>
  zfD Tryd.prog H 97 0 (.pointer (some a1)) fun a2 =>
  callD Tryd.prog 35 [(.pointer (some a2))] H (panK R) fun v H1 =>
  tTup v fun l =>
  tNil l <|
  noPan R <|
  guardB (idleF Tryd.prog 36) <|
  nilD s0 fun a3 =>
  zfD Tryd.prog H1 97 0 (.pointer (some a3)) fun a4 =>
  nilD s0 fun a5 =>
  nilD s1 fun a6 =>
  ldPtr H1 (Addr.add a5 1) fun p1 =>
  ldSl H1 (Addr.add a6 2) fun q qn qc =>
  callD Tryd.prog 37 [(.pointer p1), (.slice q qn qc)] H1 (panK R) fun v1 H2 =>
  tTup v1 fun l1 =>
  tCons l1 fun c l2 =>
  tInt c .i64 fun n =>
  tCons l2 fun c1 l3 =>
  tIf c1 fun i =>
  tNil l3 <|
  nilD s0 fun a7 =>
  ldPtr H2 (Addr.add a7 1) fun p2 =>
  callD Tryd.prog 38 [(.pointer p2)] H2 (panK R) fun v2 H3 =>
  tInt v2 .u32 fun n1 =>
  newD H3 (.cells ⟨[(.int .u32 n1)]⟩ 22) fun r H4 =>
  nilD s1 fun a8 =>
  st1 H4 (Addr.add a8 1) (.pointer (some ⟨r, 0, none⟩)) fun H5 =>
  callD Tryd.prog 39 [(.iface 56 (.pointer s1))] H5 (panK R) fun v3 H6 =>
  tTup v3 fun l4 =>
  tCons l4 fun c2 l5 =>
  tSl c2 fun q1 q1n q1c =>
  tCons l5 fun c3 l6 =>
  tIf c3 fun i1 =>
  tNil l6 <|
  ifNilD (IV.v i1) fun b =>
  iteB (!b) (
    R (.returned (IV.v i1)) H6) <|
  callD Tryd.prog 40 [(.slice q1 q1n q1c)] H6 (panK R) fun v4 H7 =>
  tTup v4 fun l7 =>
  tCons l7 fun c4 l8 =>
  tSl c4 fun q2 q2n q2c =>
  tCons l8 fun c5 l9 =>
  tInt c5 .u64 fun n2 =>
  tNil l9 <|
  nilD s0 fun a9 =>
  nilD s0 fun a10 =>
  ldPtr H7 a9 fun p3 =>
  ldSl H7 (Addr.add a10 2) fun q3 q3n q3c =>
  callD Tryd.prog 41 [(.iface 94 (.pointer p3)), (.slice q3 q3n q3c), (.slice q2 q2n q2c), (.int .u64 n2)] H7 (panK R) fun v5 H8 =>
  tIf v5 fun i2 =>
  R (.returned (IV.v i2)) H8
theorem calls {s0 : Option Addr} {s1 : Option Addr} {H : Heap} {R : Ending → Heap → Prop} (h : go s0 s1 H R) : CallsH Tryd.prog 30 ⟨[(.pointer s0), (.pointer s1)]⟩ H R :=
  callsH_of_den (an := an) (fuel := 100000) (X := go s0 s1 H R) (c := body) mixed fn (by kernel_rfl) (by kernel_rfl) (by kernel_rfl) ok (by kernel_rfl) h
end F30
/-! ### 31 "(*pub-stadtholder/pub/etcdserver/storage/wal.encoder).flush" -/
namespace F31
def an : Ann := { kinds := [(1002, .read), (2002, .read)], taus := [], pairs := [], lab := [] }
noncomputable def body : Code := (Tryd.f31.body).getD .skip
theorem fn : Tryd.prog.funcs[31]? = some Tryd.f31 := by kernel_rfl
theorem ok : codeOk an 15 body = true := by kernel_rfl
def go (e : Option Addr) (H : Heap) (R : Ending → Heap → Prop) : Prop :=
  nilD e fun a =>
  zfD Tryd.prog H 97 0 (.pointer (some a)) fun a1 =>
  callD Tryd.prog 35 [(.pointer (some a1))] H (panK R) fun v H1 =>
  tTup v fun l =>
  tNil l <|
  noPan R <|
  guardB (idleF Tryd.prog 36) <|
  nilD e fun a2 =>
  zfD Tryd.prog H1 97 0 (.pointer (some a2)) fun a3 =>
  nilD e fun a4 =>
  ldPtr H1 a4 fun p =>
  callD Tryd.prog 42 [(.pointer p)] H1 (panK R) fun v1 H2 =>
  tIf v1 fun i =>
  R (.returned (IV.v i)) H2
theorem calls {e : Option Addr} {H : Heap} {R : Ending → Heap → Prop} (h : go e H R) : CallsH Tryd.prog 31 ⟨[(.pointer e)]⟩ H R :=
  callsH_of_den (an := an) (fuel := 100000) (X := go e H R) (c := body) mixed fn (by kernel_rfl) (by kernel_rfl) (by kernel_rfl) ok (by kernel_rfl) h
end F31
/-! ### 33 "pub-stadtholder/pub/stand/crc32.At" -/
namespace F33
def an : Ann := { kinds := [], taus := [], pairs := [], lab := [] }
noncomputable def body : Code := (Tryd.f33.body).getD .skip
theorem fn : Tryd.prog.funcs[33]? = some Tryd.f33 := by kernel_rfl
theorem ok : codeOk an 6 body = true := by kernel_rfl
def go (n : Int) (H : Heap) (R : Ending → Heap → Prop) : Prop :=
  newD H (.cells ⟨[(.int .u32 n)]⟩ 109) fun r H1 =>
  R (.returned (.pointer (some ⟨r, 0, none⟩))) H1
theorem calls {n : Int} {H : Heap} {R : Ending → Heap → Prop} (h : go n H R) : CallsH Tryd.prog 33 ⟨[(.int .u32 n)]⟩ H R :=
  callsH_of_den (an := an) (fuel := 100000) (X := go n H R) (c := body) mixed fn (by kernel_rfl) (by kernel_rfl) (by kernel_rfl) ok (by kernel_rfl) h
end F33
/-! ### 34 "pub-stadtholder/pub/etcdserver/ioutil.NewPageWriter" -/
namespace F34
def an : Ann := { kinds := [], taus := [], pairs := [], lab := [] }
noncomputable def body : Code := (Tryd.f34.body).getD .skip
theorem fn : Tryd.prog.funcs[34]? = some Tryd.f34 := by kernel_rfl
theorem ok : codeOk an 20 body = true := by kernel_rfl
def go (w : IV) (pageBytes : Int) (pageOffset : Int) (H : Heap) (R : Ending → Heap → Prop) : Prop :=
  newD H (.cells ⟨[(.int .i64 pageBytes)]⟩ 3) fun r H1 =>
  callD Tryd.prog 43 [(.bool (decide (pageBytes > (0 : Int)))), (.string (ByteArray.mk #[105, 110, 118, 97, 108, 105, 100, 32, 112, 97, 103, 101, 66, 121, 116, 101, 115, 32, 40, 37, 100, 41, 32, 118, 97, 108, 117, 101, 44, 32, 105, 116, 32, 109, 117, 115, 116, 32, 98, 101, 32, 103, 114, 101, 97, 116, 101, 114, 32, 116, 104, 97, 110, 32, 48])), (.slice (some ⟨r, 0, none⟩) 1 1)] H1 (panK R) fun v H2 =>
  tTup v fun l =>
  tNil l <|
  mkD H2 1 [(.int .u8 (0 : Int))] 5 (IntKind.wrap .i64 ((131072 : Int) + pageBytes)) (IntKind.wrap .i64 ((131072 : Int) + pageBytes)) fun r1 k c H3 =>
  guardB (isCell (IV.v w)) <|
  newD H3 (.cells ⟨[(IV.v w), (.int .i64 pageOffset), (.int .i64 pageBytes), (.int .i64 (0 : Int)), (.slice (some ⟨r1, 0, none⟩) k c), (.int .i64 (131072 : Int))]⟩ 112) fun r2 H4 =>
  R (.returned (.pointer (some ⟨r2, 0, none⟩))) H4
theorem calls {w : IV} {pageBytes : Int} {pageOffset : Int} {H : Heap} {R : Ending → Heap → Prop} (h : go w pageBytes pageOffset H R) : CallsH Tryd.prog 34 ⟨[(IV.v w), (.int .i64 pageBytes), (.int .i64 pageOffset)]⟩ H R :=
  callsH_of_den (an := an) (fuel := 100000) (X := go w pageBytes pageOffset H R) (c := body) mixed fn (by kernel_rfl) (by kernel_rfl) (by kernel_rfl) ok (by kernel_rfl) h
end F34
/-! ### 35 "(*pub-stadtholder/pub/stand/sync.Mutex).Lock" -/
namespace F35
def an : Ann := { kinds := [], taus := [], pairs := [], lab := [] }
noncomputable def body : Code := (Tryd.f35.body).getD .skip
theorem fn : Tryd.prog.funcs[35]? = some Tryd.f35 := by kernel_rfl
theorem ok : codeOk an 2 body = true := by kernel_rfl
def go (m : Option Addr) (H : Heap) (R : Ending → Heap → Prop) : Prop :=
  R (.returned (.tuple ⟨[]⟩)) H
theorem calls {m : Option Addr} {H : Heap} {R : Ending → Heap → Prop} (h : go m H R) : CallsH Tryd.prog 35 ⟨[(.pointer m)]⟩ H R :=
  callsH_of_den (an := an) (fuel := 100000) (X := go m H R) (c := body) mixed fn (by kernel_rfl) (by kernel_rfl) (by kernel_rfl) ok (by kernel_rfl) h
end F35
/-! ### 36 "(*pub-stadtholder/pub/stand/sync.Mutex).Unlock" -/
namespace F36
def an : Ann := { kinds := [], taus := [], pairs := [], lab := [] }
noncomputable def body : Code := (Tryd.f36.body).getD .skip
theorem fn : Tryd.prog.funcs[36]? = some Tryd.f36 := by kernel_rfl
theorem ok : codeOk an 2 body = true := by kernel_rfl
def go (m : Option Addr) (H : Heap) (R : Ending → Heap → Prop) : Prop :=
  R (.returned (.tuple ⟨[]⟩)) H
theorem calls {m : Option Addr} {H : Heap} {R : Ending → Heap → Prop} (h : go m H R) : CallsH Tryd.prog 36 ⟨[(.pointer m)]⟩ H R :=
  callsH_of_den (an := an) (fuel := 100000) (X := go m H R) (c := body) mixed fn (by kernel_rfl) (by kernel_rfl) (by kernel_rfl) ok (by kernel_rfl) h
end F36
/-! ### 37 "(*pub-stadtholder/pub/stand/crc32.Sum).Write" -/
namespace F37
def an : Ann := { kinds := [], taus := [], pairs := [], lab := [(40000004, [0, 1, 6, 7]), (80000008, [0, 1, 6, 7, 8]), (80000009, [0, 1, 6, 7, 8])] }
noncomputable def body : Code := (Tryd.f37.body).getD .skip
theorem fn : Tryd.prog.funcs[37]? = some Tryd.f37 := by kernel_rfl
theorem ok : codeOk an 46 body = true := by kernel_rfl
noncomputable def L0t : List Item := [.code (sub [1, 1, 0, 1, 0, 0] body), .inLoop (sub [1, 1, 0, 1, 0, 0] body), .inBlock 0, .code (sub [1, 1, 1] body)]
def L0 (s : Option Addr) (b : Option Addr) (bn : Nat) (bc : Nat) (n : Int) (i : Int) (H : Heap) (R : Ending → Heap → Prop) : Prop :=
  GoL Tryd.prog 37 46 L0t [0, 1, 6, 7] [(.pointer s), (.slice b bn bc), (.int .u32 n), (.int .i64 i)] H R
noncomputable def L1t : List Item := [.code (sub [1, 1, 0, 1, 0, 0, 1, 0, 0, 1, 1, 0, 0] body), .inLoop (sub [1, 1, 0, 1, 0, 0, 1, 0, 0, 1, 1, 0, 0] body), .inBlock 2, .inBlock 1, .code (sub [1, 1, 0, 1, 0, 0, 1, 1] body), .inLoop (sub [1, 1, 0, 1, 0, 0] body), .inBlock 0, .code (sub [1, 1, 1] body)]
def L1 (s : Option Addr) (b : Option Addr) (bn : Nat) (bc : Nat) (n : Int) (i : Int) (k : Int) (H : Heap) (R : Ending → Heap → Prop) : Prop :=
  GoL Tryd.prog 37 46 L1t [0, 1, 6, 7, 8] [(.pointer s), (.slice b bn bc), (.int .u32 n), (.int .i64 i), (.int .i64 k)] H R
noncomputable def L2t : List Item := [.code (sub [1, 1, 0, 1, 0, 0, 1, 0, 0, 1, 1, 0, 0, 1, 1] body), .inLoop (sub [1, 1, 0, 1, 0, 0, 1, 0, 0, 1, 1, 0, 0] body), .inBlock 2, .inBlock 1, .code (sub [1, 1, 0, 1, 0, 0, 1, 1] body), .inLoop (sub [1, 1, 0, 1, 0, 0] body), .inBlock 0, .code (sub [1, 1, 1] body)]
def L2 (s : Option Addr) (b : Option Addr) (bn : Nat) (bc : Nat) (n : Int) (i : Int) (k : Int) (H : Heap) (R : Ending → Heap → Prop) : Prop :=
  GoL Tryd.prog 37 46 L2t [0, 1, 6, 7, 8] [(.pointer s), (.slice b bn bc), (.int .u32 n), (.int .i64 i), (.int .i64 k)] H R
def L0n (s : Option Addr) (b : Option Addr) (bn : Nat) (bc : Nat) (n : Int) (i : Int) (H : Heap) (R : Ending → Heap → Prop) : Prop :=
  iteB (decide (i < ((bn : Nat) : Int))) (
    idxD b bn i fun a =>
    ldInt H (Addr.add a (Int.toNat i * 1)) .u8 fun n1 =>
    L1 s b bn bc (xorZ .u32 n (IntKind.wrap .u32 n1)) i (0 : Int) H R) <|
  nilD s fun a1 =>
  st1 H a1 (.int .u32 (xorZ .u32 (IntKind.max .u32) n)) fun H1 =>
  R (.returned (.tuple ⟨[(.int .i64 ((bn : Nat) : Int)), .nilIface]⟩)) H1
theorem L0_step {s : Option Addr} {b : Option Addr} {bn : Nat} {bc : Nat} {n : Int} {i : Int} {H : Heap} {R : Ending → Heap → Prop} (h : L0n s b bn bc n i H R) : L0 s b bn bc n i H R :=
  goL_of_den (an := an) (fuel := 100000) (X := L0n s b bn bc n i H R) mixed fn (by kernel_rfl) (fun ρ0 => by kernel_rfl) h
def L1n (s : Option Addr) (b : Option Addr) (bn : Nat) (bc : Nat) (n : Int) (i : Int) (k : Int) (H : Heap) (R : Ending → Heap → Prop) : Prop :=
  iteB (decide (k < (8 : Int))) (
    iteB ((andZ .u32 n (1 : Int)) == (1 : Int)) (
      shD (1 : Int) <|
      L2 s b bn bc (xorZ .u32 (shrZ .u32 n (1 : Int)) (2197175160 : Int)) i k H R) <|
    shD (1 : Int) <|
    L2 s b bn bc (shrZ .u32 n (1 : Int)) i k H R) <|
  L0 s b bn bc n (IntKind.wrap .i64 (i + (1 : Int))) H R
theorem L1_step {s : Option Addr} {b : Option Addr} {bn : Nat} {bc : Nat} {n : Int} {i : Int} {k : Int} {H : Heap} {R : Ending → Heap → Prop} (h : L1n s b bn bc n i k H R) : L1 s b bn bc n i k H R :=
  goL_of_den (an := an) (fuel := 100000) (X := L1n s b bn bc n i k H R) mixed fn (by kernel_rfl) (fun ρ0 => by kernel_rfl) h
def L2n (s : Option Addr) (b : Option Addr) (bn : Nat) (bc : Nat) (n : Int) (i : Int) (k : Int) (H : Heap) (R : Ending → Heap → Prop) : Prop :=
  L1 s b bn bc n i (IntKind.wrap .i64 (k + (1 : Int))) H R
theorem L2_step {s : Option Addr} {b : Option Addr} {bn : Nat} {bc : Nat} {n : Int} {i : Int} {k : Int} {H : Heap} {R : Ending → Heap → Prop} (h : L2n s b bn bc n i k H R) : L2 s b bn bc n i k H R :=
  goL_of_den (an := an) (fuel := 100000) (X := L2n s b bn bc n i k H R) mixed fn (by kernel_rfl) (fun ρ0 => by kernel_rfl) h
def go (s : Option Addr) (b : Option Addr) (bn : Nat) (bc : Nat) (H : Heap) (R : Ending → Heap → Prop) : Prop :=
  nilD s fun a =>
  ldInt H a .u32 fun n =>
  L0 s b bn bc (xorZ .u32 (IntKind.max .u32) n) (0 : Int) H R
theorem calls {s : Option Addr} {b : Option Addr} {bn : Nat} {bc : Nat} {H : Heap} {R : Ending → Heap → Prop} (h : go s b bn bc H R) : CallsH Tryd.prog 37 ⟨[(.pointer s), (.slice b bn bc)]⟩ H R :=
  callsH_of_den (an := an) (fuel := 100000) (X := go s b bn bc H R) (c := body) mixed fn (by kernel_rfl) (by kernel_rfl) (by kernel_rfl) ok (by kernel_rfl) h
end F37
/-! ### 38 "(*pub-stadtholder/pub/stand/crc32.Sum).Sum32" -/
namespace F38
def an : Ann := { kinds := [], taus := [], pairs := [], lab := [] }
noncomputable def body : Code := (Tryd.f38.body).getD .skip
theorem fn : Tryd.prog.funcs[38]? = some Tryd.f38 := by kernel_rfl
theorem ok : codeOk an 7 body = true := by kernel_rfl
def go (s : Option Addr) (H : Heap) (R : Ending → Heap → Prop) : Prop :=
  nilD s fun a =>
  ldInt H a .u32 fun n =>
  R (.returned (.int .u32 n)) H
theorem calls {s : Option Addr} {H : Heap} {R : Ending → Heap → Prop} (h : go s H R) : CallsH Tryd.prog 38 ⟨[(.pointer s)]⟩ H R :=
  callsH_of_den (an := an) (fuel := 100000) (X := go s H R) (c := body) mixed fn (by kernel_rfl) (by kernel_rfl) (by kernel_rfl) ok (by kernel_rfl) h
end F38
/-! ### 39 "pub-stadtholder/pub/stand/proto.Marshal" -/
namespace F39
def an : Ann := { kinds := [], taus := [], pairs := [], lab := [] }
noncomputable def body : Code := (Tryd.f39.body).getD .skip
theorem fn : Tryd.prog.funcs[39]? = some Tryd.f39 := by kernel_rfl
theorem ok : codeOk an 6 body = true := by kernel_rfl
def go (m : IV) (H : Heap) (R : Ending → Heap → Prop) : Prop :=
  callI Tryd.prog (IV.v m) "PutFields" [] H (panK R) fun v H1 =>
  tSl v fun q qn qc =>
  R (.returned (.tuple ⟨[(.slice q qn qc), .nilIface]⟩)) H1
theorem calls {m : IV} {H : Heap} {R : Ending → Heap → Prop} (h : go m H R) : CallsH Tryd.prog 39 ⟨[(IV.v m)]⟩ H R :=
  callsH_of_den (an := an) (fuel := 100000) (X := go m H R) (c := body) mixed fn (by kernel_rfl) (by kernel_rfl) (by kernel_rfl) ok (by kernel_rfl) h
end F39
/-! ### 40 "pub-stadtholder/pub/etcdserver/storage/wal.prepareDataWithPadding" -/
namespace F40
def an : Ann := { kinds := [(3002, .heavy 0)], taus := [], pairs := [], lab := [] }
noncomputable def body : Code := (Tryd.f40.body).getD .skip
theorem fn : Tryd.prog.funcs[40]? = some Tryd.f40 := by kernel_rfl
theorem ok : codeOk an 19 body = true := by kernel_rfl
def go (data : Option Addr) (datan : Nat) (datac : Nat) (H : Heap) (R : Ending → Heap → Prop) : Prop :=
  callD Tryd.prog 44 [(.int .i64 ((datan : Nat) : Int))] H (panK R) fun v H1 =>
  tTup v fun l =>
  tCons l fun c l1 =>
  tInt c .u64 fun n =>
  tCons l1 fun c1 l2 =>
  tInt c1 .i64 fun n1 =>
  tNil l2 <|
  iteB (n1 != (0 : Int)) (
    valD Tryd.prog (Builtin.append_ #[27, 3] 27 ⟨[(.slice data datan datac), (.int .i64 n1)]⟩) H1 (panK R) fun v1 H2 =>
    tSl v1 fun q qn qc =>
    R (.returned (.tuple ⟨[(.slice q qn qc), (.int .u64 n)]⟩)) H2) <|
  R (.returned (.tuple ⟨[(.slice data datan datac), (.int .u64 n)]⟩)) H1
theorem calls {data : Option Addr} {datan : Nat} {datac : Nat} {H : Heap} {R : Ending → Heap → Prop} (h : go data datan datac H R) : CallsH Tryd.prog 40 ⟨[(.slice data datan datac)]⟩ H R :=
  callsH_of_den (an := an) (fuel := 100000) (X := go data datan datac H R) (c := body) mixed fn (by kernel_rfl) (by kernel_rfl) (by kernel_rfl) ok (by kernel_rfl) h
end F40
/-! ### 41 "pub-stadtholder/pub/etcdserver/storage/wal.write" -/
namespace F41
def an : Ann := { kinds := [], taus := [], pairs := [], lab := [] }
noncomputable def body : Code := (Tryd.f41.body).getD .skip
theorem fn : Tryd.prog.funcs[41]? = some Tryd.f41 := by kernel_rfl
theorem ok : codeOk an 30 body = true := by kernel_rfl
def go (w : IV) (uint64buf : Option Addr) (uint64bufn : Nat) (uint64bufc : Nat) (data : Option Addr) (datan : Nat) (datac : Nat) (lenField : Int) (H : Heap) (R : Ending → Heap → Prop) : Prop :=
  callD Tryd.prog 45 [(.slice uint64buf uint64bufn uint64bufc), (.int .u64 lenField)] H (panK R) fun v H1 =>
  tTup v fun l =>
  tNil l <|
  callI Tryd.prog (IV.v w) "Write" [(.slice uint64buf uint64bufn uint64bufc)] H1 (panK R) fun v1 H2 =>
  tTup v1 fun l1 =>
  tCons l1 fun c l2 =>
  tInt c .i64 fun n =>
  tCons l2 fun c1 l3 =>
  tIf c1 fun i =>
  tNil l3 <|
  ifNilD (IV.v i) fun b =>
  iteB (!b) (
    R (.returned (IV.v i)) H2) <|
  callI Tryd.prog (IV.v w) "Write" [(.slice data datan datac)] H2 (panK R) fun v2 H3 =>
  tTup v2 fun l4 =>
  tCons l4 fun c2 l5 =>
  tInt c2 .i64 fun n1 =>
  tCons l5 fun c3 l6 =>
  tIf c3 fun i1 =>
  tNil l6 <|
  R (.returned (IV.v i1)) H3
theorem calls {w : IV} {uint64buf : Option Addr} {uint64bufn : Nat} {uint64bufc : Nat} {data : Option Addr} {datan : Nat} {datac : Nat} {lenField : Int} {H : Heap} {R : Ending → Heap → Prop} (h : go w uint64buf uint64bufn uint64bufc data datan datac lenField H R) : CallsH Tryd.prog 41 ⟨[(IV.v w), (.slice uint64buf uint64bufn uint64bufc), (.slice data datan datac), (.int .u64 lenField)]⟩ H R :=
  callsH_of_den (an := an) (fuel := 100000) (X := go w uint64buf uint64bufn uint64bufc data datan datac lenField H R) (c := body) mixed fn (by kernel_rfl) (by kernel_rfl) (by kernel_rfl) ok (by kernel_rfl) h
end F41
/-! ### 42 "(*pub-stadtholder/pub/etcdserver/ioutil.PageWriter).Flush" -/
namespace F42
def an : Ann := { kinds := [], taus := [], pairs := [], lab := [] }
noncomputable def body : Code := (Tryd.f42.body).getD .skip
theorem fn : Tryd.prog.funcs[42]? = some Tryd.f42 := by kernel_rfl
theorem ok : codeOk an 11 body = true := by kernel_rfl
def go (pw : Option Addr) (H : Heap) (R : Ending → Heap → Prop) : Prop :=
  callD Tryd.prog 46 [(.pointer pw)] H (panK R) fun v H1 =>
  tTup v fun l =>
  tCons l fun c l1 =>
  tInt c .i64 fun n =>
  tCons l1 fun c1 l2 =>
  tIf c1 fun i =>
  tNil l2 <|
  R (.returned (IV.v i)) H1
theorem calls {pw : Option Addr} {H : Heap} {R : Ending → Heap → Prop} (h : go pw H R) : CallsH Tryd.prog 42 ⟨[(.pointer pw)]⟩ H R :=
  callsH_of_den (an := an) (fuel := 100000) (X := go pw H R) (c := body) mixed fn (by kernel_rfl) (by kernel_rfl) (by kernel_rfl) ok (by kernel_rfl) h
end F42
/-! ### 43 "pub-stadtholder/pub/stand/verify.Assert" -/
namespace F43
def an : Ann := { kinds := [], taus := [], pairs := [], lab := [] }
noncomputable def body : Code := (Tryd.f43.body).getD .skip
theorem fn : Tryd.prog.funcs[43]? = some Tryd.f43 := by kernel_rfl
theorem ok : codeOk an 10 body = true := by kernel_rfl
def go (condition : Bool) (msg : ByteArray) (v : Option Addr) (vn : Nat) (vc : Nat) (H : Heap) (R : Ending → Heap → Prop) : Prop :=
  iteB (!condition) (
    panD (.iface 9 (.string msg)) H (panK R)) <|
  R (.returned (.tuple ⟨[]⟩)) H
theorem calls {condition : Bool} {msg : ByteArray} {v : Option Addr} {vn : Nat} {vc : Nat} {H : Heap} {R : Ending → Heap → Prop} (h : go condition msg v vn vc H R) : CallsH Tryd.prog 43 ⟨[(.bool condition), (.string msg), (.slice v vn vc)]⟩ H R :=
  callsH_of_den (an := an) (fuel := 100000) (X := go condition msg v vn vc H R) (c := body) mixed fn (by kernel_rfl) (by kernel_rfl) (by kernel_rfl) ok (by kernel_rfl) h
end F43
/-! ### 44 "pub-stadtholder/pub/etcdserver/storage/wal.encodeFrameSize" -/
namespace F44
def an : Ann := { kinds := [], taus := [], pairs := [], lab := [] }
noncomputable def body : Code := (Tryd.f44.body).getD .skip
theorem fn : Tryd.prog.funcs[44]? = some Tryd.f44 := by kernel_rfl
theorem ok : codeOk an 20 body = true := by kernel_rfl
def go (dataBytes : Int) (H : Heap) (R : Ending → Heap → Prop) : Prop :=
  divD (8 : Int) <|
  divD (8 : Int) <|
  iteB ((Int.tmod (IntKind.wrap .i64 ((8 : Int) - (Int.tmod dataBytes (8 : Int)))) (8 : Int)) != (0 : Int)) (
    shD (56 : Int) <|
    R (.returned (.tuple ⟨[(.int .u64 (orZ .u64 (IntKind.wrap .u64 dataBytes) (shlZ .u64 (IntKind.wrap .u64 (orZ .i64 (128 : Int) (Int.tmod (IntKind.wrap .i64 ((8 : Int) - (Int.tmod dataBytes (8 : Int)))) (8 : Int)))) (56 : Int)))), (.int .i64 (Int.tmod (IntKind.wrap .i64 ((8 : Int) - (Int.tmod dataBytes (8 : Int)))) (8 : Int)))]⟩)) H) <|
  R (.returned (.tuple ⟨[(.int .u64 (IntKind.wrap .u64 dataBytes)), (.int .i64 (Int.tmod (IntKind.wrap .i64 ((8 : Int) - (Int.tmod dataBytes (8 : Int)))) (8 : Int)))]⟩)) H
theorem calls {dataBytes : Int} {H : Heap} {R : Ending → Heap → Prop} (h : go dataBytes H R) : CallsH Tryd.prog 44 ⟨[(.int .i64 dataBytes)]⟩ H R :=
  callsH_of_den (an := an) (fuel := 100000) (X := go dataBytes H R) (c := body) mixed fn (by kernel_rfl) (by kernel_rfl) (by kernel_rfl) ok (by kernel_rfl) h
end F44
/-! ### 45 "pub-stadtholder/pub/stand/binary.PutLittle64" -/
namespace F45
def an : Ann := { kinds := [], taus := [], pairs := [], lab := [(30000002, [0, 1, 4])] }
noncomputable def body : Code := (Tryd.f45.body).getD .skip
theorem fn : Tryd.prog.funcs[45]? = some Tryd.f45 := by kernel_rfl
theorem ok : codeOk an 18 body = true := by kernel_rfl
noncomputable def L0t : List Item := [.code (sub [1, 0, 0] body), .inLoop (sub [1, 0, 0] body), .inBlock 0]
def L0 (b : Option Addr) (bn : Nat) (bc : Nat) (n : Int) (i : Int) (H : Heap) (R : Ending → Heap → Prop) : Prop :=
  GoL Tryd.prog 45 18 L0t [0, 1, 4] [(.slice b bn bc), (.int .u64 n), (.int .i64 i)] H R
def L0n (b : Option Addr) (bn : Nat) (bc : Nat) (n : Int) (i : Int) (H : Heap) (R : Ending → Heap → Prop) : Prop :=
  iteB (decide (i < (8 : Int))) (
    shD (IntKind.wrap .u64 ((8 : Int) * (IntKind.wrap .u64 i))) <|
    idxD b bn i fun a =>
    st1 H (Addr.add a (Int.toNat i * 1)) (.int .u8 (IntKind.wrap .u8 (shrZ .u64 n (IntKind.wrap .u64 ((8 : Int) * (IntKind.wrap .u64 i)))))) fun H1 =>
    L0 b bn bc n (IntKind.wrap .i64 (i + (1 : Int))) H1 R) <|
  R (.returned (.tuple ⟨[]⟩)) H
theorem L0_step {b : Option Addr} {bn : Nat} {bc : Nat} {n : Int} {i : Int} {H : Heap} {R : Ending → Heap → Prop} (h : L0n b bn bc n i H R) : L0 b bn bc n i H R :=
  goL_of_den (an := an) (fuel := 100000) (X := L0n b bn bc n i H R) mixed fn (by kernel_rfl) (fun ρ0 => by kernel_rfl) h
def go (b : Option Addr) (bn : Nat) (bc : Nat) (n : Int) (H : Heap) (R : Ending → Heap → Prop) : Prop :=
  L0 b bn bc n (0 : Int) H R
theorem calls {b : Option Addr} {bn : Nat} {bc : Nat} {n : Int} {H : Heap} {R : Ending → Heap → Prop} (h : go b bn bc n H R) : CallsH Tryd.prog 45 ⟨[(.slice b bn bc), (.int .u64 n)]⟩ H R :=
  callsH_of_den (an := an) (fuel := 100000) (X := go b bn bc n H R) (c := body) mixed fn (by kernel_rfl) (by kernel_rfl) (by kernel_rfl) ok (by kernel_rfl) h
end F45
/-! ### 46 "(*pub-stadtholder/pub/etcdserver/ioutil.PageWriter).flush" -/
namespace F46
def an : Ann := { kinds := [], taus := [(3, [[0, 1, 2, 4, 5, 6, 8, 9, 10, 3, 13, 14, 7, 11, 12, 15, 16, 17, 18, 19, 20]]), (4, [[0, 1, 2, 3, 5, 6, 7, 10, 11, 12, 4, 8, 9, 13, 14, 15, 16, 17]])], pairs := [], lab := [] }
noncomputable def body : Code := (Tryd.f46.body).getD .skip
theorem fn : Tryd.prog.funcs[46]? = some Tryd.f46 := by kernel_rfl
theorem ok : codeOk an 52 body = true := by kernel_rfl
def go (pw : Option Addr) (H : Heap) (R : Ending → Heap → Prop) : Prop :=
  nilD pw fun a =>
  ldInt H (Addr.add a 3) .i64 fun n =>
  iteB (n == (0 : Int)) (
    R (.returned (.tuple ⟨[(.int .i64 (0 : Int)), .nilIface]⟩)) H) <|
  nilD pw fun a1 =>
  nilD pw fun a2 =>
  nilD pw fun a3 =>
  ldIf H a1 fun i =>
  nilV Tryd.prog (IV.v i) fun v =>
  ldSl H (Addr.add a2 4) fun q qn qc =>
  ldInt H (Addr.add a3 3) .i64 fun n1 =>
  bndD n1 qc fun k =>
  callI Tryd.prog (IV.v i) "Write" [(.slice (slP q 0 qc 1) k qc)] H (panK R) fun v1 H1 =>
  tTup v1 fun l =>
  tCons l fun c l1 =>
  tInt c .i64 fun n2 =>
  tCons l1 fun c1 l2 =>
  tIf c1 fun i1 =>
  tNil l2 <|
  nilD pw fun a4 =>
  nilD pw fun a5 =>
  nilD pw fun a6 =>
  ldInt H1 (Addr.add a4 1) .i64 fun n3 =>
  ldInt H1 (Addr.add a5 3) .i64 fun n4 =>
  ldInt H1 (Addr.add a6 2) .i64 fun n5 =>
  divD n5 <|
  nilD pw fun a7 =>
  st1 H1 (Addr.add a7 1) (.int .i64 (Int.tmod (IntKind.wrap .i64 (n3 + n4)) n5)) fun H2 =>
  nilD pw fun a8 =>
  st1 H2 (Addr.add a8 3) (.int .i64 (0 : Int)) fun H3 =>
  R (.returned (.tuple ⟨[(.int .i64 n2), (IV.v i1)]⟩)) H3
theorem calls {pw : Option Addr} {H : Heap} {R : Ending → Heap → Prop} (h : go pw H R) : CallsH Tryd.prog 46 ⟨[(.pointer pw)]⟩ H R :=
  callsH_of_den (an := an) (fuel := 100000) (X := go pw H R) (c := body) mixed fn (by kernel_rfl) (by kernel_rfl) (by kernel_rfl) ok (by kernel_rfl) h
end F46
/-! ### 62 "(*pub-stadtholder/impl.page).Write" -/
namespace F62
def an : Ann := { kinds := [], taus := [], pairs := [], lab := [] }
noncomputable def body : Code := (Tryd.f62.body).getD .skip
theorem fn : Tryd.prog.funcs[62]? = some Tryd.f62 := by kernel_rfl
theorem ok : codeOk an 17 body = true := by kernel_rfl
def go (p : Option Addr) (b : Option Addr) (bn : Nat) (bc : Nat) (H : Heap) (R : Ending → Heap → Prop) : Prop :=
  nilD p fun a =>
  ldSl H a fun q qn qc =>
  apD H 1 1 [(.int .u8 (0 : Int))] 5 q qn qc b bn fun q1 q1n q1c H1 =>
  nilD p fun a1 =>
  st1 H1 a1 (.slice q1 q1n q1c) fun H2 =>
  R (.returned (.tuple ⟨[(.int .i64 ((bn : Nat) : Int)), .nilIface]⟩)) H2
theorem calls {p : Option Addr} {b : Option Addr} {bn : Nat} {bc : Nat} {H : Heap} {R : Ending → Heap → Prop} (h : go p b bn bc H R) : CallsH Tryd.prog 62 ⟨[(.pointer p), (.slice b bn bc)]⟩ H R :=
  callsH_of_den (an := an) (fuel := 100000) (X := go p b bn bc H R) (c := body) mixed fn (by kernel_rfl) (by kernel_rfl) (by kernel_rfl) ok (by kernel_rfl) h
end F62
/-! ### 63 "(*pub-stadtholder/pub/etcdserver/storage/wal/walpb.Record).PutFields" -/
namespace F63
def an : Ann := { kinds := [(3001, .grow), (5001, .grow)], taus := [(3, [[0, 3, 4, 5, 6, 7, 8, 9, 1, 2, 10, 11], [0, 3, 4, 5, 6, 7, 1, 2, 8, 9, 10, 11], [0, 3, 4, 5, 1, 2, 6, 7, 8, 9, 10, 11]]), (5, [[0, 3, 4, 5, 6, 7, 8, 9, 1, 2, 10, 11], [0, 3, 4, 5, 6, 7, 1, 2, 8, 9, 10, 11], [0, 3, 4, 5, 1, 2, 6, 7, 8, 9, 10, 11]])], pairs := [(3, [(6, 2), (8, 2)]), (5, [(6, 2), (8, 2)])], lab := [(10000005, [0, 3]), (10000007, [0, 3])] }
noncomputable def body : Code := (Tryd.f63.body).getD .skip
theorem fn : Tryd.prog.funcs[63]? = some Tryd.f63 := by kernel_rfl
theorem ok : codeOk an 48 body = true := by kernel_rfl
noncomputable def L0t : List Item := [.code (sub [1, 1, 1] body)]
def L0 (xrec : Option Addr) (b : Option Addr) (bn : Nat) (bc : Nat) (H : Heap) (R : Ending → Heap → Prop) : Prop :=
  GoL Tryd.prog 63 48 L0t [0, 3] [(.pointer xrec), (.slice b bn bc)] H R
noncomputable def L1t : List Item := [.code (sub [1, 1, 1, 1] body)]
def L1 (xrec : Option Addr) (b : Option Addr) (bn : Nat) (bc : Nat) (H : Heap) (R : Ending → Heap → Prop) : Prop :=
  GoL Tryd.prog 63 48 L1t [0, 3] [(.pointer xrec), (.slice b bn bc)] H R
def L0n (xrec : Option Addr) (b : Option Addr) (bn : Nat) (bc : Nat) (H : Heap) (R : Ending → Heap → Prop) : Prop :=
  nilD xrec fun a =>
  ldPtr H (Addr.add a 1) fun p =>
  iteB (!(Option.isNone p)) (
    (
      nilD xrec fun a1 =>
      ldPtr H (Addr.add a1 1) fun p1 =>
      nilD p1 fun a2 =>
      ldInt H a2 .u32 fun n =>
      newD H (.cells ⟨[(.int .u8 (16 : Int))]⟩ 5) fun r H1 =>
      apD H1 1 1 [(.int .u8 (0 : Int))] 5 b bn bc (some ⟨r, 0, none⟩) 1 fun q qn qc H2 =>
      callD Tryd.prog 65 [(.slice q qn qc), (.int .u64 (IntKind.wrap .u64 n))] H2 (panK R) fun v H3 =>
      tSl v fun q1 q1n q1c =>
      L1 xrec q1 q1n q1c H3 R) ∧
    (
      nilD xrec fun a3 =>
      ldPtr H (Addr.add a3 1) fun p2 =>
      nilD p2 fun a4 =>
      newD H (.cells ⟨[(.int .u8 (16 : Int))]⟩ 5) fun r1 H4 =>
      apD H4 1 1 [(.int .u8 (0 : Int))] 5 b bn bc (some ⟨r1, 0, none⟩) 1 fun q2 q2n q2c H5 =>
      ldInt H5 a4 .u32 fun n1 =>
      callD Tryd.prog 65 [(.slice q2 q2n q2c), (.int .u64 (IntKind.wrap .u64 n1))] H5 (panK R) fun v1 H6 =>
      tSl v1 fun q3 q3n q3c =>
      L1 xrec q3 q3n q3c H6 R) ∧
    (
      nilD xrec fun a5 =>
      newD H (.cells ⟨[(.int .u8 (16 : Int))]⟩ 5) fun r2 H7 =>
      apD H7 1 1 [(.int .u8 (0 : Int))] 5 b bn bc (some ⟨r2, 0, none⟩) 1 fun q4 q4n q4c H8 =>
      ldPtr H8 (Addr.add a5 1) fun p3 =>
      nilD p3 fun a6 =>
      ldInt H8 a6 .u32 fun n2 =>
      callD Tryd.prog 65 [(.slice q4 q4n q4c), (.int .u64 (IntKind.wrap .u64 n2))] H8 (panK R) fun v2 H9 =>
      tSl v2 fun q5 q5n q5c =>
      L1 xrec q5 q5n q5c H9 R)) <|
  L1 xrec b bn bc H R
theorem L0_step {xrec : Option Addr} {b : Option Addr} {bn : Nat} {bc : Nat} {H : Heap} {R : Ending → Heap → Prop} (h : L0n xrec b bn bc H R) : L0 xrec b bn bc H R :=
  goL_of_den (an := an) (fuel := 100000) (X := L0n xrec b bn bc H R) mixed fn (by kernel_rfl) (fun ρ0 => by kernel_rfl) h
def L1n (xrec : Option Addr) (b : Option Addr) (bn : Nat) (bc : Nat) (H : Heap) (R : Ending → Heap → Prop) : Prop :=
  nilD xrec fun a =>
  ldSl H (Addr.add a 2) fun q qn qc =>
  iteB (!(Option.isNone q)) (
    nilD xrec fun a1 =>
    ldSl H (Addr.add a1 2) fun q1 q1n q1c =>
    callD Tryd.prog 66 [(.slice b bn bc), (.int .i64 (3 : Int)), (.slice q1 q1n q1c)] H (panK R) fun v H1 =>
    tSl v fun q2 q2n q2c =>
    R (.returned (.slice q2 q2n q2c)) H1) <|
  R (.returned (.slice b bn bc)) H
theorem L1_step {xrec : Option Addr} {b : Option Addr} {bn : Nat} {bc : Nat} {H : Heap} {R : Ending → Heap → Prop} (h : L1n xrec b bn bc H R) : L1 xrec b bn bc H R :=
  goL_of_den (an := an) (fuel := 100000) (X := L1n xrec b bn bc H R) mixed fn (by kernel_rfl) (fun ρ0 => by kernel_rfl) h
def go (xrec : Option Addr) (H : Heap) (R : Ending → Heap → Prop) : Prop :=
  nilD xrec fun a =>
  ldPtr H a fun p =>
  iteB (!(Option.isNone p)) (
    (
      nilD xrec fun a1 =>
      ldPtr H a1 fun p1 =>
      nilD p1 fun a2 =>
      ldInt H a2 .i64 fun n =>
      newD H (.cells ⟨[(.int .u8 (8 : Int))]⟩ 5) fun r H1 =>
      apD H1 1 1 [(.int .u8 (0 : Int))] 5 none 0 0 (some ⟨r, 0, none⟩) 1 fun q qn qc H2 =>
      callD Tryd.prog 65 [(.slice q qn qc), (.int .u64 (IntKind.wrap .u64 n))] H2 (panK R) fun v H3 =>
      tSl v fun q1 q1n q1c =>
      L0 xrec q1 q1n q1c H3 R) ∧
    (
      nilD xrec fun a3 =>
      ldPtr H a3 fun p2 =>
      nilD p2 fun a4 =>
      newD H (.cells ⟨[(.int .u8 (8 : Int))]⟩ 5) fun r1 H4 =>
      apD H4 1 1 [(.int .u8 (0 : Int))] 5 none 0 0 (some ⟨r1, 0, none⟩) 1 fun q2 q2n q2c H5 =>
      ldInt H5 a4 .i64 fun n1 =>
      callD Tryd.prog 65 [(.slice q2 q2n q2c), (.int .u64 (IntKind.wrap .u64 n1))] H5 (panK R) fun v1 H6 =>
      tSl v1 fun q3 q3n q3c =>
      L0 xrec q3 q3n q3c H6 R) ∧
    (
      nilD xrec fun a5 =>
      newD H (.cells ⟨[(.int .u8 (8 : Int))]⟩ 5) fun r2 H7 =>
      apD H7 1 1 [(.int .u8 (0 : Int))] 5 none 0 0 (some ⟨r2, 0, none⟩) 1 fun q4 q4n q4c H8 =>
      ldPtr H8 a5 fun p3 =>
      nilD p3 fun a6 =>
      ldInt H8 a6 .i64 fun n2 =>
      callD Tryd.prog 65 [(.slice q4 q4n q4c), (.int .u64 (IntKind.wrap .u64 n2))] H8 (panK R) fun v2 H9 =>
      tSl v2 fun q5 q5n q5c =>
      L0 xrec q5 q5n q5c H9 R)) <|
  L0 xrec none 0 0 H R
theorem calls {xrec : Option Addr} {H : Heap} {R : Ending → Heap → Prop} (h : go xrec H R) : CallsH Tryd.prog 63 ⟨[(.pointer xrec)]⟩ H R :=
  callsH_of_den (an := an) (fuel := 100000) (X := go xrec H R) (c := body) mixed fn (by kernel_rfl) (by kernel_rfl) (by kernel_rfl) ok (by kernel_rfl) h
end F63
/-! ### 64 "(*pub-stadtholder/pub/etcdserver/storage/wal/walpb.Record).Reset" -/
namespace F64
def an : Ann := { kinds := [], taus := [], pairs := [], lab := [] }
noncomputable def body : Code := (Tryd.f64.body).getD .skip
theorem fn : Tryd.prog.funcs[64]? = some Tryd.f64 := by kernel_rfl
theorem ok : codeOk an 5 body = true := by kernel_rfl
def go (xrec : Option Addr) (H : Heap) (R : Ending → Heap → Prop) : Prop :=
  nilD xrec fun a =>
  st1 H a (.pointer none) fun H1 =>
  st1 H1 (Addr.add a 1) (.pointer none) fun H2 =>
  st1 H2 (Addr.add a 2) (.slice none 0 0) fun H3 =>
  R (.returned (.tuple ⟨[]⟩)) H3
theorem calls {xrec : Option Addr} {H : Heap} {R : Ending → Heap → Prop} (h : go xrec H R) : CallsH Tryd.prog 64 ⟨[(.pointer xrec)]⟩ H R :=
  callsH_of_den (an := an) (fuel := 100000) (X := go xrec H R) (c := body) mixed fn (by kernel_rfl) (by kernel_rfl) (by kernel_rfl) ok (by kernel_rfl) h
end F64
/-! ### 65 "pub-stadtholder/pub/stand/proto.PutVarint" -/
namespace F65
def an : Ann := { kinds := [], taus := [], pairs := [], lab := [(40000002, [0, 1])] }
noncomputable def body : Code := (Tryd.f65.body).getD .skip
theorem fn : Tryd.prog.funcs[65]? = some Tryd.f65 := by kernel_rfl
theorem ok : codeOk an 20 body = true := by kernel_rfl
noncomputable def L0t : List Item := [.code (sub [1, 0, 0, 0] body), .inLoop (sub [1, 0, 0, 0] body), .inBlock 0, .code (sub [1, 1] body)]
def L0 (b : Option Addr) (bn : Nat) (bc : Nat) (n : Int) (H : Heap) (R : Ending → Heap → Prop) : Prop :=
  GoL Tryd.prog 65 20 L0t [0, 1] [(.slice b bn bc), (.int .u64 n)] H R
def L0n (b : Option Addr) (bn : Nat) (bc : Nat) (n : Int) (H : Heap) (R : Ending → Heap → Prop) : Prop :=
  iteB (decide (n ≥ (128 : Int))) (
    newD H (.cells ⟨[(.int .u8 (orZ .u8 (IntKind.wrap .u8 n) (128 : Int)))]⟩ 5) fun r H1 =>
    apD H1 1 1 [(.int .u8 (0 : Int))] 5 b bn bc (some ⟨r, 0, none⟩) 1 fun q qn qc H2 =>
    shD (7 : Int) <|
    L0 q qn qc (shrZ .u64 n (7 : Int)) H2 R) <|
  newD H (.cells ⟨[(.int .u8 (IntKind.wrap .u8 n))]⟩ 5) fun r1 H3 =>
  apD H3 1 1 [(.int .u8 (0 : Int))] 5 b bn bc (some ⟨r1, 0, none⟩) 1 fun q1 q1n q1c H4 =>
  R (.returned (.slice q1 q1n q1c)) H4
theorem L0_step {b : Option Addr} {bn : Nat} {bc : Nat} {n : Int} {H : Heap} {R : Ending → Heap → Prop} (h : L0n b bn bc n H R) : L0 b bn bc n H R :=
  goL_of_den (an := an) (fuel := 100000) (X := L0n b bn bc n H R) mixed fn (by kernel_rfl) (fun ρ0 => by kernel_rfl) h
def go (b : Option Addr) (bn : Nat) (bc : Nat) (n : Int) (H : Heap) (R : Ending → Heap → Prop) : Prop :=
  L0 b bn bc n H R
theorem calls {b : Option Addr} {bn : Nat} {bc : Nat} {n : Int} {H : Heap} {R : Ending → Heap → Prop} (h : go b bn bc n H R) : CallsH Tryd.prog 65 ⟨[(.slice b bn bc), (.int .u64 n)]⟩ H R :=
  callsH_of_den (an := an) (fuel := 100000) (X := go b bn bc n H R) (c := body) mixed fn (by kernel_rfl) (by kernel_rfl) (by kernel_rfl) ok (by kernel_rfl) h
end F65
/-! ### 66 "pub-stadtholder/pub/stand/proto.PutBytes" -/
namespace F66
def an : Ann := { kinds := [], taus := [], pairs := [], lab := [] }
noncomputable def body : Code := (Tryd.f66.body).getD .skip
theorem fn : Tryd.prog.funcs[66]? = some Tryd.f66 := by kernel_rfl
theorem ok : codeOk an 21 body = true := by kernel_rfl
def go (b : Option Addr) (bn : Nat) (bc : Nat) (field : Int) (v : Option Addr) (vn : Nat) (vc : Nat) (H : Heap) (R : Ending → Heap → Prop) : Prop :=
  shD (3 : Int) <|
  callD Tryd.prog 65 [(.slice b bn bc), (.int .u64 (orZ .u64 (shlZ .u64 (IntKind.wrap .u64 field) (3 : Int)) (2 : Int)))] H (panK R) fun v1 H1 =>
  tSl v1 fun q qn qc =>
  callD Tryd.prog 65 [(.slice q qn qc), (.int .u64 (IntKind.wrap .u64 ((vn : Nat) : Int)))] H1 (panK R) fun v2 H2 =>
  tSl v2 fun q1 q1n q1c =>
  apD H2 1 1 [(.int .u8 (0 : Int))] 5 q1 q1n q1c v vn fun q2 q2n q2c H3 =>
  R (.returned (.slice q2 q2n q2c)) H3
theorem calls {b : Option Addr} {bn : Nat} {bc : Nat} {field : Int} {v : Option Addr} {vn : Nat} {vc : Nat} {H : Heap} {R : Ending → Heap → Prop} (h : go b bn bc field v vn vc H R) : CallsH Tryd.prog 66 ⟨[(.slice b bn bc), (.int .i64 field), (.slice v vn vc)]⟩ H R :=
  callsH_of_den (an := an) (fuel := 100000) (X := go b bn bc field v vn vc H R) (c := body) mixed fn (by kernel_rfl) (by kernel_rfl) (by kernel_rfl) ok (by kernel_rfl) h
end F66
/-! ### 84 "(*pub-stadtholder/pub/etcdserver/ioutil.PageWriter).Write" -/
namespace F84
def an : Ann := { kinds := [], taus := [(1, [[0, 1, 2, 3, 4, 7, 8, 9, 5, 6, 10, 11]]), (2, [[0, 1, 2, 4, 5, 6, 9, 3, 7, 8, 10]]), (5, [[0, 1, 2, 4, 5, 6, 8, 9, 10, 13, 14, 15, 3, 7, 11, 12, 16, 17, 18, 19]]), (10, [[0, 1, 2, 4, 5, 6, 9, 10, 11, 3, 7, 8, 12]]), (21, [[0, 1, 2, 4, 5, 6, 7, 8, 3, 12, 13, 9, 10, 11, 14, 15, 16, 17, 18, 19]])], pairs := [], lab := [(20000011, [0, 1, 6, 7]), (10000017, [0, 1, 4]), (10000027, [0, 1, 4])] }
noncomputable def body : Code := (Tryd.f84.body).getD .skip
theorem fn : Tryd.prog.funcs[84]? = some Tryd.f84 := by kernel_rfl
theorem ok : codeOk an 170 body = true := by kernel_rfl
noncomputable def L0t : List Item := [.code (sub [1, 1, 1, 0, 1, 0, 1, 1] body), .code (sub [1, 1, 1, 1] body)]
def L0 (s0 : Option Addr) (s1 : Option Addr) (s1n : Nat) (s1c : Nat) (s6 : Int) (s7 : Bool) (H : Heap) (R : Ending → Heap → Prop) : Prop :=
  GoL Tryd.prog 84 170 L0t [0, 1, 6, 7] [(.pointer s0), (.slice s1 s1n s1c), (.int .i64 s6), (.bool s7)] H R
noncomputable def L1t : List Item := [.code (sub [1, 1, 1, 1] body)]
def L1 (s0 : Option Addr) (s1 : Option Addr) (s1n : Nat) (s1c : Nat) (s4 : Int) (H : Heap) (R : Ending → Heap → Prop) : Prop :=
  GoL Tryd.prog 84 170 L1t [0, 1, 4] [(.pointer s0), (.slice s1 s1n s1c), (.int .i64 s4)] H R
noncomputable def L2t : List Item := [.code (sub [1, 1, 1, 1, 1, 1] body)]
def L2 (s0 : Option Addr) (s1 : Option Addr) (s1n : Nat) (s1c : Nat) (s4 : Int) (H : Heap) (R : Ending → Heap → Prop) : Prop :=
  GoL Tryd.prog 84 170 L2t [0, 1, 4] [(.pointer s0), (.slice s1 s1n s1c), (.int .i64 s4)] H R
def L0n (s0 : Option Addr) (s1 : Option Addr) (s1n : Nat) (s1c : Nat) (s6 : Int) (s7 : Bool) (H : Heap) (R : Ending → Heap → Prop) : Prop :=
  nilD s0 fun a =>
  nilD s0 fun a1 =>
  bndD s6 s1c fun k =>
  ldSl H (Addr.add a 4) fun q qn qc =>
  ldInt H (Addr.add a1 3) .i64 fun n =>
  bndD n qn fun k1 =>
  cpD H 1 (slP q k1 qc 1) (qn - k1) (slP s1 0 s1c 1) k fun k2 H1 =>
  nilD s0 fun a2 =>
  ldInt H1 (Addr.add a2 3) .i64 fun n1 =>
  nilD s0 fun a3 =>
  st1 H1 (Addr.add a3 3) (.int .i64 (IntKind.wrap .i64 (n1 + s6))) fun H2 =>
  bndD s6 s1n fun k3 =>
  iteB s7 (
    R (.returned (.tuple ⟨[(.int .i64 s6), .nilIface]⟩)) H2) <|
  L1 s0 (slP s1 k3 s1c 1) (s1n - k3) (s1c - k3) s6 H2 R
theorem L0_step {s0 : Option Addr} {s1 : Option Addr} {s1n : Nat} {s1c : Nat} {s6 : Int} {s7 : Bool} {H : Heap} {R : Ending → Heap → Prop} (h : L0n s0 s1 s1n s1c s6 s7 H R) : L0 s0 s1 s1n s1c s6 s7 H R :=
  goL_of_den (an := an) (fuel := 100000) (X := L0n s0 s1 s1n s1c s6 s7 H R) mixed fn (by kernel_rfl) (fun ρ0 => by kernel_rfl) h
def L1n (s0 : Option Addr) (s1 : Option Addr) (s1n : Nat) (s1c : Nat) (s4 : Int) (H : Heap) (R : Ending → Heap → Prop) : Prop :=
  callD Tryd.prog 42 [(.pointer s0)] H (panK R) fun v H1 =>
  tIf v fun i =>
  ifNilD (IV.v i) fun b =>
  iteB (!b) (
    R (.returned (.tuple ⟨[(.int .i64 s4), (IV.v i)]⟩)) H1) <|
  nilD s0 fun a =>
  ldInt H1 (Addr.add a 2) .i64 fun n =>
  iteB (decide (((s1n : Nat) : Int) > n)) (
    nilD s0 fun a1 =>
    ldInt H1 (Addr.add a1 2) .i64 fun n1 =>
    divD n1 <|
    nilD s0 fun a2 =>
    nilD s0 fun a3 =>
    ldIf H1 a2 fun i1 =>
    nilV Tryd.prog (IV.v i1) fun v1 =>
    ldInt H1 (Addr.add a3 2) .i64 fun n2 =>
    bndD (IntKind.wrap .i64 ((IntKind.wrap .i64 (Int.tdiv ((s1n : Nat) : Int) n1)) * n2)) s1c fun k =>
    callI Tryd.prog (IV.v i1) "Write" [(.slice (slP s1 0 s1c 1) k s1c)] H1 (panK R) fun v2 H2 =>
    tTup v2 fun l =>
    tCons l fun c l1 =>
    tInt c .i64 fun n3 =>
    tCons l1 fun c1 l2 =>
    tIf c1 fun i2 =>
    tNil l2 <|
    ifNilD (IV.v i2) fun b1 =>
    iteB (!b1) (
      R (.returned (.tuple ⟨[(.int .i64 (IntKind.wrap .i64 (s4 + n3))), (IV.v i2)]⟩)) H2) <|
    nilD s0 fun a4 =>
    ldInt H2 (Addr.add a4 2) .i64 fun n4 =>
    bndD (IntKind.wrap .i64 ((IntKind.wrap .i64 (Int.tdiv ((s1n : Nat) : Int) n1)) * n4)) s1n fun k1 =>
    L2 s0 (slP s1 k1 s1c 1) (s1n - k1) (s1c - k1) (IntKind.wrap .i64 (s4 + n3)) H2 R) <|
  L2 s0 s1 s1n s1c s4 H1 R
theorem L1_step {s0 : Option Addr} {s1 : Option Addr} {s1n : Nat} {s1c : Nat} {s4 : Int} {H : Heap} {R : Ending → Heap → Prop} (h : L1n s0 s1 s1n s1c s4 H R) : L1 s0 s1 s1n s1c s4 H R :=
  goL_of_den (an := an) (fuel := 100000) (X := L1n s0 s1 s1n s1c s4 H R) mixed fn (by kernel_rfl) (fun ρ0 => by kernel_rfl) h
def L2n (s0 : Option Addr) (s1 : Option Addr) (s1n : Nat) (s1c : Nat) (s4 : Int) (H : Heap) (R : Ending → Heap → Prop) : Prop :=
  callD Tryd.prog 84 [(.pointer s0), (.slice s1 s1n s1c)] H (panK R) fun v H1 =>
  tTup v fun l =>
  tCons l fun c l1 =>
  tInt c .i64 fun n =>
  tCons l1 fun c1 l2 =>
  tIf c1 fun i =>
  tNil l2 <|
  R (.returned (.tuple ⟨[(.int .i64 (IntKind.wrap .i64 (s4 + n))), (IV.v i)]⟩)) H1
theorem L2_step {s0 : Option Addr} {s1 : Option Addr} {s1n : Nat} {s1c : Nat} {s4 : Int} {H : Heap} {R : Ending → Heap → Prop} (h : L2n s0 s1 s1n s1c s4 H R) : L2 s0 s1 s1n s1c s4 H R :=
  goL_of_den (an := an) (fuel := 100000) (X := L2n s0 s1 s1n s1c s4 H R) mixed fn (by kernel_rfl) (fun ρ0 => by kernel_rfl) h
def go (s0 : Option Addr) (s1 : Option Addr) (s1n : Nat) (s1c : Nat) (H : Heap) (R : Ending → Heap → Prop) : Prop :=
  nilD s0 fun a =>
  nilD s0 fun a1 =>
  ldInt H (Addr.add a 3) .i64 fun n =>
  ldInt H (Addr.add a1 5) .i64 fun n1 =>
  iteB (decide ((IntKind.wrap .i64 (((s1n : Nat) : Int) + n)) ≤ n1)) (
    nilD s0 fun a2 =>
    nilD s0 fun a3 =>
    ldSl H (Addr.add a2 4) fun q qn qc =>
    ldInt H (Addr.add a3 3) .i64 fun n2 =>
    bndD n2 qn fun k =>
    cpD H 1 (slP q k qc 1) (qn - k) s1 s1n fun k1 H1 =>
    nilD s0 fun a4 =>
    ldInt H1 (Addr.add a4 3) .i64 fun n3 =>
    nilD s0 fun a5 =>
    st1 H1 (Addr.add a5 3) (.int .i64 (IntKind.wrap .i64 (n3 + ((s1n : Nat) : Int)))) fun H2 =>
    R (.returned (.tuple ⟨[(.int .i64 ((s1n : Nat) : Int)), .nilIface]⟩)) H2) <|
  nilD s0 fun a6 =>
  nilD s0 fun a7 =>
  nilD s0 fun a8 =>
  nilD s0 fun a9 =>
  ldInt H (Addr.add a6 2) .i64 fun n4 =>
  ldInt H (Addr.add a7 1) .i64 fun n5 =>
  ldInt H (Addr.add a8 3) .i64 fun n6 =>
  ldInt H (Addr.add a9 2) .i64 fun n7 =>
  divD n7 <|
  nilD s0 fun a10 =>
  ldInt H (Addr.add a10 2) .i64 fun n8 =>
  iteB ((IntKind.wrap .i64 (n4 - (Int.tmod (IntKind.wrap .i64 (n5 + n6)) n7))) != n8) (
    iteB (decide ((IntKind.wrap .i64 (n4 - (Int.tmod (IntKind.wrap .i64 (n5 + n6)) n7))) > ((s1n : Nat) : Int))) (
      L0 s0 s1 s1n s1c ((s1n : Nat) : Int) (decide ((IntKind.wrap .i64 (n4 - (Int.tmod (IntKind.wrap .i64 (n5 + n6)) n7))) > ((s1n : Nat) : Int))) H R) <|
    L0 s0 s1 s1n s1c (IntKind.wrap .i64 (n4 - (Int.tmod (IntKind.wrap .i64 (n5 + n6)) n7))) (decide ((IntKind.wrap .i64 (n4 - (Int.tmod (IntKind.wrap .i64 (n5 + n6)) n7))) > ((s1n : Nat) : Int))) H R) <|
  L1 s0 s1 s1n s1c (0 : Int) H R
theorem calls {s0 : Option Addr} {s1 : Option Addr} {s1n : Nat} {s1c : Nat} {H : Heap} {R : Ending → Heap → Prop} (h : go s0 s1 s1n s1c H R) : CallsH Tryd.prog 84 ⟨[(.pointer s0), (.slice s1 s1n s1c)]⟩ H R :=
  callsH_of_den (an := an) (fuel := 100000) (X := go s0 s1 s1n s1c H R) (c := body) mixed fn (by kernel_rfl) (by kernel_rfl) (by kernel_rfl) ok (by kernel_rfl) h
end F84
end Go.Proofs.YtkejocbhmcphiaaDoor
