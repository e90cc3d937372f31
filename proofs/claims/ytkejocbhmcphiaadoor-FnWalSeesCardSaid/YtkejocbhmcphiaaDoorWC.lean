/- What functions of this seat do, each proved by a walk; no condition. -/
import Derived.Test.YtkejocbhmcphiaaDoorWB
import Derived.KernelRfl
set_option linter.unusedVariables false
namespace Go.Proofs.YtkejocbhmcphiaaDoor
open Go Go.Den Go.Proofs
/-! ### 21 "pub-stadtholder/pub/etcdserver/storage/wal.NewDecoderAdvanced" -/
namespace F21
def an : Ann := { kinds := [], taus := [], pairs := [], lab := [(40000004, [0, 1, 5, 11, 12])] }
noncomputable def body : Code := (Tryd.f21.body).getD .skip
theorem fn : Tryd.prog.funcs[21]? = some Tryd.f21 := by kernel_rfl
theorem ok : codeOk an 30 body = true := by kernel_rfl
noncomputable def L0t : List Item := [.code (sub [1, 1, 0, 1, 0, 0] body), .inLoop (sub [1, 1, 0, 1, 0, 0] body), .inBlock 0, .code (sub [1, 1, 1] body)]
def L0 (continueOnCrcError : Bool) (r : Option Addr) (rn : Nat) (rc : Nat) (readers : Option Addr) (readersn : Nat) (readersc : Nat) (s11 : Int) (s12 : Int) (H : Heap) (R : Ending → Heap → Prop) : Prop :=
  GoL Tryd.prog 21 30 L0t [0, 1, 5, 11, 12] [(.bool continueOnCrcError), (.slice r rn rc), (.slice readers readersn readersc), (.int .i64 s11), (.int .i64 s12)] H R
def L0n (continueOnCrcError : Bool) (r : Option Addr) (rn : Nat) (rc : Nat) (readers : Option Addr) (readersn : Nat) (readersc : Nat) (s11 : Int) (s12 : Int) (H : Heap) (R : Ending → Heap → Prop) : Prop :=
  iteB (decide (s12 < s11)) (
    idxD r rn s12 fun a =>
    ldSl H (Addr.add a (Int.toNat s12 * 1)) fun q qn qc =>
    callD Tryd.prog 32 [(.slice q qn qc)] H (panK R) fun v H1 =>
    tPtr v fun p =>
    idxD readers readersn s12 fun a1 =>
    st1 H1 (Addr.add a1 (Int.toNat s12 * 1)) (.pointer p) fun H2 =>
    L0 continueOnCrcError r rn rc readers readersn readersc s11 (IntKind.wrap .i64 (s12 + (1 : Int))) H2 R) <|
  callD Tryd.prog 33 [(.int .u32 (0 : Int))] H (panK R) fun v1 H3 =>
  tPtr v1 fun p1 =>
  newD H3 (.cells ⟨[(.slice readers readersn readersc), (.int .i64 (0 : Int)), (.pointer p1), (.bool continueOnCrcError)]⟩ 92) fun r1 H4 =>
  R (.returned (.iface 86 (.pointer (some ⟨r1, 0, none⟩)))) H4
theorem L0_step {continueOnCrcError : Bool} {r : Option Addr} {rn : Nat} {rc : Nat} {readers : Option Addr} {readersn : Nat} {readersc : Nat} {s11 : Int} {s12 : Int} {H : Heap} {R : Ending → Heap → Prop} (h : L0n continueOnCrcError r rn rc readers readersn readersc s11 s12 H R) : L0 continueOnCrcError r rn rc readers readersn readersc s11 s12 H R :=
  goL_of_den (an := an) (fuel := 100000) (X := L0n continueOnCrcError r rn rc readers readersn readersc s11 s12 H R) mixed fn (by kernel_rfl) (fun ρ0 => by kernel_rfl) h
def go (continueOnCrcError : Bool) (r : Option Addr) (rn : Nat) (rc : Nat) (H : Heap) (R : Ending → Heap → Prop) : Prop :=
  mkD H 8 [(.pointer none)] 84 ((rn : Nat) : Int) ((rn : Nat) : Int) fun r1 k c H1 =>
  L0 continueOnCrcError r rn rc (some ⟨r1, 0, none⟩) k c ((rn : Nat) : Int) (0 : Int) H1 R
theorem calls {continueOnCrcError : Bool} {r : Option Addr} {rn : Nat} {rc : Nat} {H : Heap} {R : Ending → Heap → Prop} (h : go continueOnCrcError r rn rc H R) : CallsH Tryd.prog 21 ⟨[(.bool continueOnCrcError), (.slice r rn rc)]⟩ H R :=
  callsH_of_den (an := an) (fuel := 100000) (X := go continueOnCrcError r rn rc H R) (c := body) mixed fn (by kernel_rfl) (by kernel_rfl) (by kernel_rfl) ok (by kernel_rfl) h
end F21
/-! ### 22 "pub-stadtholder/impl.walEnd" -/
namespace F22
def an : Ann := { kinds := [(2001, .read), (4001, .read), (6001, .read)], taus := [], pairs := [], lab := [] }
noncomputable def body : Code := (Tryd.f22.body).getD .skip
theorem fn : Tryd.prog.funcs[22]? = some Tryd.f22 := by kernel_rfl
theorem ok : codeOk an 13 body = true := by kernel_rfl
def go (err : IV) (H : Heap) (R : Ending → Heap → Prop) : Prop :=
  ldIf H ⟨0, 0, none⟩ fun i =>
  rawR Tryd.prog H .eql 62 (IV.v err) (IV.v i) fun b =>
  iteB b (
    R (.returned (.int .i64 (1 : Int))) H) <|
  ldIf H ⟨1, 0, none⟩ fun i1 =>
  rawR Tryd.prog H .eql 62 (IV.v err) (IV.v i1) fun b1 =>
  iteB b1 (
    R (.returned (.int .i64 (2 : Int))) H) <|
  rawR Tryd.prog H .eql 62 (IV.v err) (.iface 70 (.string (ByteArray.mk #[119, 97, 108, 112, 98, 58, 32, 99, 114, 99, 32, 109, 105, 115, 109, 97, 116, 99, 104]))) fun b2 =>
  iteB b2 (
    R (.returned (.int .i64 (3 : Int))) H) <|
  R (.returned (.int .i64 (4 : Int))) H
theorem calls {err : IV} {H : Heap} {R : Ending → Heap → Prop} (h : go err H R) : CallsH Tryd.prog 22 ⟨[(IV.v err)]⟩ H R :=
  callsH_of_den (an := an) (fuel := 100000) (X := go err H R) (c := body) mixed fn (by kernel_rfl) (by kernel_rfl) (by kernel_rfl) ok (by kernel_rfl) h
end F22
/-! ### 23 "pub-stadtholder/impl.recOut" -/
namespace F23
def an : Ann := { kinds := [(1001, .grow), (1008, .grow), (1018, .read)], taus := [(1, [[0, 2, 3, 4, 7, 9, 10, 11, 14, 15, 16, 19, 20, 21, 5, 6, 12, 13, 17, 18, 22, 23, 1, 8, 24, 25]])], pairs := [], lab := [] }
noncomputable def body : Code := (Tryd.f23.body).getD .skip
theorem fn : Tryd.prog.funcs[23]? = some Tryd.f23 := by kernel_rfl
theorem ok : codeOk an 28 body = true := by kernel_rfl
def go (r : Option Addr) (H : Heap) (R : Ending → Heap → Prop) : Prop :=
  newD H (.cells ⟨[(.int .i64 (0 : Int)), (.bool false), (.int .u32 (0 : Int)), (.bool false), (.string (ByteArray.mk #[])), (.bool false)]⟩ 38) fun r1 H1 =>
  nilD r fun a =>
  nilD r fun a1 =>
  nilD r fun a2 =>
  nilD r fun a3 =>
  ldPtr H1 a fun p =>
  ldPtr H1 (Addr.add a1 1) fun p1 =>
  ldSl H1 (Addr.add a2 2) fun q qn qc =>
  bsD H1 q qn fun s =>
  ldSl H1 (Addr.add a3 2) fun q1 q1n q1c =>
  callD Tryd.prog 24 [(.pointer r)] H1 nope fun v H2 =>
  tInt v .i64 fun n =>
  andD (ExtH H1 H2) <|
  callD Tryd.prog 25 [(.pointer r)] H2 nope fun v1 H3 =>
  tInt v1 .u32 fun n1 =>
  andD (ExtH H2 H3) <|
  st1 H3 ⟨r1, 0, none⟩ (.int .i64 n) fun H4 =>
  st1 H4 ⟨r1, 1, none⟩ (.bool (!(Option.isNone p))) fun H5 =>
  st1 H5 ⟨r1, 2, none⟩ (.int .u32 n1) fun H6 =>
  st1 H6 ⟨r1, 3, none⟩ (.bool (!(Option.isNone p1))) fun H7 =>
  st1 H7 ⟨r1, 4, none⟩ (.string s) fun H8 =>
  st1 H8 ⟨r1, 5, none⟩ (.bool (!(Option.isNone q1))) fun H9 =>
  ldInt H9 ⟨r1, 0, none⟩ .i64 fun n2 =>
  ldBool H9 ⟨r1, 1, none⟩ fun b =>
  ldInt H9 ⟨r1, 2, none⟩ .u32 fun n3 =>
  ldBool H9 ⟨r1, 3, none⟩ fun b1 =>
  ldStr H9 ⟨r1, 4, none⟩ fun s1 =>
  ldBool H9 ⟨r1, 5, none⟩ fun b2 =>
  R (.returned (.agg ⟨[(.int .i64 n2), (.bool b), (.int .u32 n3), (.bool b1), (.string s1), (.bool b2)]⟩)) H9
theorem calls {r : Option Addr} {H : Heap} {R : Ending → Heap → Prop} (h : go r H R) : CallsH Tryd.prog 23 ⟨[(.pointer r)]⟩ H R :=
  callsH_of_den (an := an) (fuel := 100000) (X := go r H R) (c := body) mixed fn (by kernel_rfl) (by kernel_rfl) (by kernel_rfl) ok (by kernel_rfl) h
end F23
/-! ### 32 "pub-stadtholder/pub/stand/fileutil.NewFileBufReader" -/
namespace F32
def an : Ann := { kinds := [], taus := [], pairs := [], lab := [] }
noncomputable def body : Code := (Tryd.f32.body).getD .skip
theorem fn : Tryd.prog.funcs[32]? = some Tryd.f32 := by kernel_rfl
theorem ok : codeOk an 6 body = true := by kernel_rfl
def go (r : Option Addr) (rn : Nat) (rc : Nat) (H : Heap) (R : Ending → Heap → Prop) : Prop :=
  newD H (.cells ⟨[(.slice r rn rc), (.int .i64 (0 : Int))]⟩ 107) fun r1 H1 =>
  R (.returned (.pointer (some ⟨r1, 0, none⟩))) H1
theorem calls {r : Option Addr} {rn : Nat} {rc : Nat} {H : Heap} {R : Ending → Heap → Prop} (h : go r rn rc H R) : CallsH Tryd.prog 32 ⟨[(.slice r rn rc)]⟩ H R :=
  callsH_of_den (an := an) (fuel := 100000) (X := go r rn rc H R) (c := body) mixed fn (by kernel_rfl) (by kernel_rfl) (by kernel_rfl) ok (by kernel_rfl) h
end F32
/-! ### 68 "(*pub-stadtholder/pub/stand/fileutil.FileBufReader).FileInfo" -/
namespace F68
def an : Ann := { kinds := [], taus := [], pairs := [], lab := [] }
noncomputable def body : Code := (Tryd.f68.body).getD .skip
theorem fn : Tryd.prog.funcs[68]? = some Tryd.f68 := by kernel_rfl
theorem ok : codeOk an 9 body = true := by kernel_rfl
def go (r : Option Addr) (H : Heap) (R : Ending → Heap → Prop) : Prop :=
  newD H (.cells ⟨[(.int .i64 (0 : Int))]⟩ 146) fun r1 H1 =>
  nilD r fun a =>
  ldSl H1 a fun q qn qc =>
  st1 H1 ⟨r1, 0, none⟩ (.int .i64 ((qn : Nat) : Int)) fun H2 =>
  ldInt H2 ⟨r1, 0, none⟩ .i64 fun n =>
  R (.returned (.agg ⟨[(.int .i64 n)]⟩)) H2
theorem calls {r : Option Addr} {H : Heap} {R : Ending → Heap → Prop} (h : go r H R) : CallsH Tryd.prog 68 ⟨[(.pointer r)]⟩ H R :=
  callsH_of_den (an := an) (fuel := 100000) (X := go r H R) (c := body) mixed fn (by kernel_rfl) (by kernel_rfl) (by kernel_rfl) ok (by kernel_rfl) h
end F68
/-! ### 69 "(*pub-stadtholder/pub/etcdserver/storage/wal.decoder).Decode" -/
namespace F69
def an : Ann := { kinds := [(2002, .read), (3002, .read)], taus := [], pairs := [], lab := [] }
noncomputable def body : Code := (Tryd.f69.body).getD .skip
theorem fn : Tryd.prog.funcs[69]? = some Tryd.f69 := by kernel_rfl
theorem ok : codeOk an 17 body = true := by kernel_rfl
def go (d : Option Addr) (xrec : Option Addr) (H : Heap) (R : Ending → Heap → Prop) : Prop :=
  callD Tryd.prog 64 [(.pointer xrec)] H (panK R) fun v H1 =>
  tTup v fun l =>
  tNil l <|
  nilD d fun a =>
  zfD Tryd.prog H1 92 0 (.pointer (some a)) fun a1 =>
  callD Tryd.prog 35 [(.pointer (some a1))] H1 (panK R) fun v1 H2 =>
  tTup v1 fun l1 =>
  tNil l1 <|
  noPan R <|
  guardB (idleF Tryd.prog 36) <|
  nilD d fun a2 =>
  zfD Tryd.prog H2 92 0 (.pointer (some a2)) fun a3 =>
  callD Tryd.prog 73 [(.pointer d), (.pointer xrec)] H2 (panK R) fun v2 H3 =>
  tIf v2 fun i =>
  R (.returned (IV.v i)) H3
theorem calls {d : Option Addr} {xrec : Option Addr} {H : Heap} {R : Ending → Heap → Prop} (h : go d xrec H R) : CallsH Tryd.prog 69 ⟨[(.pointer d), (.pointer xrec)]⟩ H R :=
  callsH_of_den (an := an) (fuel := 100000) (X := go d xrec H R) (c := body) mixed fn (by kernel_rfl) (by kernel_rfl) (by kernel_rfl) ok (by kernel_rfl) h
end F69
/-! ### 70 "(*pub-stadtholder/pub/etcdserver/storage/wal.decoder).LastCRC" -/
namespace F70
def an : Ann := { kinds := [], taus := [], pairs := [], lab := [] }
noncomputable def body : Code := (Tryd.f70.body).getD .skip
theorem fn : Tryd.prog.funcs[70]? = some Tryd.f70 := by kernel_rfl
theorem ok : codeOk an 8 body = true := by kernel_rfl
def go (d : Option Addr) (H : Heap) (R : Ending → Heap → Prop) : Prop :=
  nilD d fun a =>
  ldPtr H (Addr.add a 2) fun p =>
  callD Tryd.prog 38 [(.pointer p)] H (panK R) fun v H1 =>
  tInt v .u32 fun n =>
  R (.returned (.int .u32 n)) H1
theorem calls {d : Option Addr} {H : Heap} {R : Ending → Heap → Prop} (h : go d H R) : CallsH Tryd.prog 70 ⟨[(.pointer d)]⟩ H R :=
  callsH_of_den (an := an) (fuel := 100000) (X := go d H R) (c := body) mixed fn (by kernel_rfl) (by kernel_rfl) (by kernel_rfl) ok (by kernel_rfl) h
end F70
/-! ### 71 "(*pub-stadtholder/pub/etcdserver/storage/wal.decoder).LastOffset" -/
namespace F71
def an : Ann := { kinds := [], taus := [], pairs := [], lab := [] }
noncomputable def body : Code := (Tryd.f71.body).getD .skip
theorem fn : Tryd.prog.funcs[71]? = some Tryd.f71 := by kernel_rfl
theorem ok : codeOk an 7 body = true := by kernel_rfl
def go (d : Option Addr) (H : Heap) (R : Ending → Heap → Prop) : Prop :=
  nilD d fun a =>
  ldInt H (Addr.add a 1) .i64 fun n =>
  R (.returned (.int .i64 n)) H
theorem calls {d : Option Addr} {H : Heap} {R : Ending → Heap → Prop} (h : go d H R) : CallsH Tryd.prog 71 ⟨[(.pointer d)]⟩ H R :=
  callsH_of_den (an := an) (fuel := 100000) (X := go d H R) (c := body) mixed fn (by kernel_rfl) (by kernel_rfl) (by kernel_rfl) ok (by kernel_rfl) h
end F71
/-! ### 72 "(*pub-stadtholder/pub/etcdserver/storage/wal.decoder).UpdateCRC" -/
namespace F72
def an : Ann := { kinds := [], taus := [], pairs := [], lab := [] }
noncomputable def body : Code := (Tryd.f72.body).getD .skip
theorem fn : Tryd.prog.funcs[72]? = some Tryd.f72 := by kernel_rfl
theorem ok : codeOk an 9 body = true := by kernel_rfl
def go (d : Option Addr) (prevCrc : Int) (H : Heap) (R : Ending → Heap → Prop) : Prop :=
  callD Tryd.prog 33 [(.int .u32 prevCrc)] H (panK R) fun v H1 =>
  tPtr v fun p =>
  nilD d fun a =>
  st1 H1 (Addr.add a 2) (.pointer p) fun H2 =>
  R (.returned (.tuple ⟨[]⟩)) H2
theorem calls {d : Option Addr} {prevCrc : Int} {H : Heap} {R : Ending → Heap → Prop} (h : go d prevCrc H R) : CallsH Tryd.prog 72 ⟨[(.pointer d), (.int .u32 prevCrc)]⟩ H R :=
  callsH_of_den (an := an) (fuel := 100000) (X := go d prevCrc H R) (c := body) mixed fn (by kernel_rfl) (by kernel_rfl) (by kernel_rfl) ok (by kernel_rfl) h
end F72
/-! ### 73 "(*pub-stadtholder/pub/etcdserver/storage/wal.decoder).decodeRecord" -/
namespace F73
def an : Ann := { kinds := [(5002, .read), (14001, .grow), (14002, .grow), (20002, .read)], taus := [(6, [[0, 1, 2, 3, 4, 5, 6, 7, 8]]), (14, [[0, 3, 4, 5, 6, 8, 1, 2, 7, 9, 10]]), (29, [[4, 5, 6, 0, 1, 2, 3, 7, 8, 9, 10, 11, 12, 13]]), (40, [[0, 1, 2, 3, 4, 5, 6, 7, 8, 9, 10, 11]])], pairs := [], lab := [(10000012, [1, 2, 5, 6, 7]), (10000041, [2, 8, 9]), (20000038, [2, 11, 15]), (20000007, [1, 2])] }
noncomputable def body : Code := (Tryd.f73.body).getD .skip
theorem fn : Tryd.prog.funcs[73]? = some Tryd.f73 := by kernel_rfl
theorem ok : codeOk an 171 body = true := by kernel_rfl
noncomputable def L0t : List Item := [.code (sub [1, 1, 1, 1, 1] body)]
def L0 (s1 : Option Addr) (s2 : Nat) (s5 : Option Addr) (s6 : Int) (s7 : IV) (H : Heap) (R : Ending → Heap → Prop) : Prop :=
  GoL Tryd.prog 73 171 L0t [1, 2, 5, 6, 7] [(.pointer s1), (.pointer (some ⟨s2, 0, none⟩)), (.pointer s5), (.int .i64 s6), (IV.v s7)] H R
noncomputable def L1t : List Item := [.code (sub [1, 1, 1, 1, 1, 1, 1, 1, 1, 1, 1, 1, 1] body)]
def L1 (s2 : Nat) (s8 : Nat) (s9 : Nat) (H : Heap) (R : Ending → Heap → Prop) : Prop :=
  GoL Tryd.prog 73 171 L1t [2, 8, 9] [(.pointer (some ⟨s2, 0, none⟩)), (.pointer (some ⟨s8, 0, none⟩)), (.pointer (some ⟨s9, 0, none⟩))] H R
noncomputable def L2t : List Item := [.code (sub [1, 1, 1, 1, 1, 1, 1, 1, 1, 1, 1, 1, 0, 1, 0, 1, 1, 1, 1, 0, 1] body), .code (sub [1, 1, 1, 1, 1, 1, 1, 1, 1, 1, 1, 1, 1] body)]
def L2 (s2 : Nat) (s11 : Option Addr) (s11n : Nat) (s11c : Nat) (s15 : IV) (H : Heap) (R : Ending → Heap → Prop) : Prop :=
  GoL Tryd.prog 73 171 L2t [2, 11, 15] [(.pointer (some ⟨s2, 0, none⟩)), (.slice s11 s11n s11c), (IV.v s15)] H R
noncomputable def L3t : List Item := [.code (sub [1, 1, 1, 1, 0, 1, 0] body), .code (sub [1, 1, 1, 1, 1] body)]
def L3 (s1 : Option Addr) (s2 : Nat) (H : Heap) (R : Ending → Heap → Prop) : Prop :=
  GoL Tryd.prog 73 171 L3t [1, 2] [(.pointer s1), (.pointer (some ⟨s2, 0, none⟩))] H R
def L0n (s1 : Option Addr) (s2 : Nat) (s5 : Option Addr) (s6 : Int) (s7 : IV) (H : Heap) (R : Ending → Heap → Prop) : Prop :=
  ifNilD (IV.v s7) fun b =>
  iteB (!b) (
    R (.returned (IV.v s7)) H) <|
  callD Tryd.prog 75 [(.int .i64 s6)] H (panK R) fun v H1 =>
  tTup v fun l =>
  tCons l fun c l1 =>
  tInt c .i64 fun n =>
  tCons l1 fun c1 l2 =>
  tInt c1 .i64 fun n1 =>
  tNil l2 <|
  newD H1 (.cells ⟨[(.int .i64 (0 : Int))]⟩ 2) fun r H2 =>
  newD H2 (.cells ⟨[(.int .i64 (0 : Int))]⟩ 2) fun r1 H3 =>
  st1 H3 ⟨r, 0, none⟩ (.int .i64 n) fun H4 =>
  st1 H4 ⟨r1, 0, none⟩ (.int .i64 n1) fun H5 =>
  ldPtr H5 ⟨s2, 0, none⟩ fun p =>
  nilD p fun a =>
  ldInt H5 (Addr.add a 1) .i64 fun n2 =>
  ldInt H5 ⟨r1, 0, none⟩ .i64 fun n3 =>
  callD Tryd.prog 68 [(.pointer s5)] H5 nope fun v1 H6 =>
  tAgg v1 fun l3 =>
  tCons l3 fun c2 l4 =>
  tInt c2 .i64 fun n4 =>
  tNil l4 <|
  andD (ExtH H5 H6) <|
  callD Tryd.prog 76 [(.agg ⟨[(.int .i64 n4)]⟩)] H6 nope fun v2 H7 =>
  tInt v2 .i64 fun n5 =>
  andD (ExtH H6 H7) <|
  ldInt H7 ⟨r, 0, none⟩ .i64 fun n6 =>
  iteB (decide (n6 > (IntKind.wrap .i64 ((IntKind.wrap .i64 (n5 - n2)) - n3)))) (
    ldIf H7 ⟨1, 0, none⟩ fun i =>
    R (.returned (IV.v i)) H7) <|
  ldInt H7 ⟨r, 0, none⟩ .i64 fun n7 =>
  ldInt H7 ⟨r1, 0, none⟩ .i64 fun n8 =>
  mkD H7 1 [(.int .u8 (0 : Int))] 5 (IntKind.wrap .i64 (n7 + n8)) (IntKind.wrap .i64 (n7 + n8)) fun r2 k c3 H8 =>
  callD Tryd.prog 77 [(.iface 84 (.pointer s5)), (.slice (some ⟨r2, 0, none⟩) k c3)] H8 (panK R) fun v3 H9 =>
  tTup v3 fun l5 =>
  tCons l5 fun c4 l6 =>
  tInt c4 .i64 fun n9 =>
  tCons l6 fun c5 l7 =>
  tIf c5 fun i1 =>
  tNil l7 <|
  ifNilD (IV.v i1) fun b1 =>
  iteB (!b1) (
    ldIf H9 ⟨0, 0, none⟩ fun i2 =>
    rawR Tryd.prog H9 .eql 62 (IV.v i1) (IV.v i2) fun b2 =>
    iteB b2 (
      ldIf H9 ⟨1, 0, none⟩ fun i3 =>
      R (.returned (IV.v i3)) H9) <|
    R (.returned (IV.v i1)) H9) <|
  ldInt H9 ⟨r, 0, none⟩ .i64 fun n10 =>
  bndD n10 c3 fun k1 =>
  callD Tryd.prog 78 [(.slice (slP (some ⟨r2, 0, none⟩) 0 c3 1) k1 c3), (.iface 56 (.pointer s1))] H9 (panK R) fun v4 H10 =>
  tIf v4 fun i4 =>
  ifNilD (IV.v i4) fun b3 =>
  iteB (!b3) (
    ldPtr H10 ⟨s2, 0, none⟩ fun p1 =>
    callD Tryd.prog 79 [(.pointer p1), (.slice (some ⟨r2, 0, none⟩) k c3)] H10 (panK R) fun v5 H11 =>
    tBool v5 fun b4 =>
    iteB b4 (
      ldIf H11 ⟨1, 0, none⟩ fun i5 =>
      R (.returned (IV.v i5)) H11) <|
    R (.returned (IV.v i4)) H11) <|
  callD Tryd.prog 24 [(.pointer s1)] H10 (panK R) fun v6 H12 =>
  tInt v6 .i64 fun n11 =>
  iteB (n11 != (4 : Int)) (
    nilD s1 fun a1 =>
    ldPtr H12 ⟨s2, 0, none⟩ fun p2 =>
    nilD p2 fun a2 =>
    ldPtr H12 (Addr.add a2 2) fun p3 =>
    ldSl H12 (Addr.add a1 2) fun q qn qc =>
    callD Tryd.prog 37 [(.pointer p3), (.slice q qn qc)] H12 (panK R) fun v7 H13 =>
    tTup v7 fun l8 =>
    tCons l8 fun c6 l9 =>
    tInt c6 .i64 fun n12 =>
    tCons l9 fun c7 l10 =>
    tIf c7 fun i6 =>
    tNil l10 <|
    ifNilD (IV.v i6) fun b5 =>
    iteB (!b5) (
      R (.returned (IV.v i6)) H13) <|
    ldPtr H13 ⟨s2, 0, none⟩ fun p4 =>
    nilD p4 fun a3 =>
    ldPtr H13 (Addr.add a3 2) fun p5 =>
    callD Tryd.prog 38 [(.pointer p5)] H13 (panK R) fun v8 H14 =>
    tInt v8 .u32 fun n13 =>
    callD Tryd.prog 80 [(.pointer s1), (.int .u32 n13)] H14 (panK R) fun v9 H15 =>
    tIf v9 fun i7 =>
    ifNilD (IV.v i7) fun b6 =>
    iteB (!b6) (
      ldPtr H15 ⟨s2, 0, none⟩ fun p6 =>
      nilD p6 fun a4 =>
      ldBool H15 (Addr.add a4 3) fun b7 =>
      iteB (!b7) (
        callD Tryd.prog 64 [(.pointer s1)] H15 (panK R) fun v10 H16 =>
        tTup v10 fun l11 =>
        tNil l11 <|
        L2 s2 (some ⟨r2, 0, none⟩) k c3 i7 H16 R) <|
      False) <|
    L1 s2 r r1 H15 R) <|
  L1 s2 r r1 H12 R
theorem L0_step {s1 : Option Addr} {s2 : Nat} {s5 : Option Addr} {s6 : Int} {s7 : IV} {H : Heap} {R : Ending → Heap → Prop} (h : L0n s1 s2 s5 s6 s7 H R) : L0 s1 s2 s5 s6 s7 H R :=
  goL_of_den (an := an) (fuel := 100000) (X := L0n s1 s2 s5 s6 s7 H R) mixed fn (by kernel_rfl) (fun ρ0 => by kernel_rfl) h
def L1n (s2 : Nat) (s8 : Nat) (s9 : Nat) (H : Heap) (R : Ending → Heap → Prop) : Prop :=
  ldPtr H ⟨s2, 0, none⟩ fun p =>
  nilD p fun a =>
  ldInt H (Addr.add a 1) .i64 fun n =>
  ldInt H ⟨s8, 0, none⟩ .i64 fun n1 =>
  ldInt H ⟨s9, 0, none⟩ .i64 fun n2 =>
  nilD p fun a1 =>
  st1 H (Addr.add a1 1) (.int .i64 (IntKind.wrap .i64 (n + (IntKind.wrap .i64 ((IntKind.wrap .i64 ((8 : Int) + n1)) + n2))))) fun H1 =>
  R (.returned .nilIface) H1
theorem L1_step {s2 : Nat} {s8 : Nat} {s9 : Nat} {H : Heap} {R : Ending → Heap → Prop} (h : L1n s2 s8 s9 H R) : L1 s2 s8 s9 H R :=
  goL_of_den (an := an) (fuel := 100000) (X := L1n s2 s8 s9 H R) mixed fn (by kernel_rfl) (fun ρ0 => by kernel_rfl) h
def L2n (s2 : Nat) (s11 : Option Addr) (s11n : Nat) (s11c : Nat) (s15 : IV) (H : Heap) (R : Ending → Heap → Prop) : Prop :=
  ldPtr H ⟨s2, 0, none⟩ fun p =>
  callD Tryd.prog 79 [(.pointer p), (.slice s11 s11n s11c)] H (panK R) fun v H1 =>
  tBool v fun b =>
  iteB b (
    ldIf H1 ⟨1, 0, none⟩ fun i =>
    R (.returned (IV.v i)) H1) <|
  R (.returned (IV.v s15)) H1
theorem L2_step {s2 : Nat} {s11 : Option Addr} {s11n : Nat} {s11c : Nat} {s15 : IV} {H : Heap} {R : Ending → Heap → Prop} (h : L2n s2 s11 s11n s11c s15 H R) : L2 s2 s11 s11n s11c s15 H R :=
  goL_of_den (an := an) (fuel := 100000) (X := L2n s2 s11 s11n s11c s15 H R) mixed fn (by kernel_rfl) (fun ρ0 => by kernel_rfl) h
def L3n (s1 : Option Addr) (s2 : Nat) (H : Heap) (R : Ending → Heap → Prop) : Prop :=
  ldPtr H ⟨s2, 0, none⟩ fun p =>
  ldPtr H ⟨s2, 0, none⟩ fun p1 =>
  nilD p1 fun a =>
  ldSl H a fun q qn qc =>
  bndD (1 : Int) qn fun k =>
  nilD p fun a1 =>
  st1 H a1 (.slice (slP q k qc 1) (qn - k) (qc - k)) fun H1 =>
  ldPtr H1 ⟨s2, 0, none⟩ fun p2 =>
  nilD p2 fun a2 =>
  ldSl H1 a2 fun q1 q1n q1c =>
  iteB (((q1n : Nat) : Int) == (0 : Int)) (
    ldIf H1 ⟨0, 0, none⟩ fun i =>
    R (.returned (IV.v i)) H1) <|
  ldPtr H1 ⟨s2, 0, none⟩ fun p3 =>
  nilD p3 fun a3 =>
  st1 H1 (Addr.add a3 1) (.int .i64 (0 : Int)) fun H2 =>
  ldPtr H2 ⟨s2, 0, none⟩ fun p4 =>
  callD Tryd.prog 73 [(.pointer p4), (.pointer s1)] H2 (panK R) fun v H3 =>
  tIf v fun i1 =>
  R (.returned (IV.v i1)) H3
theorem L3_step {s1 : Option Addr} {s2 : Nat} {H : Heap} {R : Ending → Heap → Prop} (h : L3n s1 s2 H R) : L3 s1 s2 H R :=
  goL_of_den (an := an) (fuel := 100000) (X := L3n s1 s2 H R) mixed fn (by kernel_rfl) (fun ρ0 => by kernel_rfl) h
def go (s0 : Option Addr) (s1 : Option Addr) (H : Heap) (R : Ending → Heap → Prop) : Prop :=
  newD H (.cells ⟨[(.pointer s0)]⟩ 86) fun r H1 =>
  ldPtr H1 ⟨r, 0, none⟩ fun p =>
  nilD p fun a =>
  ldSl H1 a fun q qn qc =>
  iteB (((qn : Nat) : Int) == (0 : Int)) (
    ldIf H1 ⟨0, 0, none⟩ fun i =>
    R (.returned (IV.v i)) H1) <|
  ldPtr H1 ⟨r, 0, none⟩ fun p1 =>
  nilD p1 fun a1 =>
  ldSl H1 a1 fun q1 q1n q1c =>
  idxD q1 q1n (0 : Int) fun a2 =>
  ldPtr H1 (Addr.add a2 (Int.toNat (0 : Int) * 1)) fun p2 =>
  callD Tryd.prog 74 [(.iface 84 (.pointer p2))] H1 (panK R) fun v H2 =>
  tTup v fun l =>
  tCons l fun c l1 =>
  tInt c .i64 fun n =>
  tCons l1 fun c1 l2 =>
  tIf c1 fun i1 =>
  tNil l2 <|
  ldIf H2 ⟨0, 0, none⟩ fun i2 =>
  rawR Tryd.prog H2 .eql 62 (IV.v i1) (IV.v i2) fun b =>
  iteB b (
    L3 s1 r H2 R) <|
  ifNilD (IV.v i1) fun b1 =>
  iteB b1 (
    iteB (n == (0 : Int)) (
      L3 s1 r H2 R) <|
    L0 s1 r p2 n i1 H2 R) <|
  L0 s1 r p2 n i1 H2 R
theorem calls {s0 : Option Addr} {s1 : Option Addr} {H : Heap} {R : Ending → Heap → Prop} (h : go s0 s1 H R) : CallsH Tryd.prog 73 ⟨[(.pointer s0), (.pointer s1)]⟩ H R :=
  callsH_of_den (an := an) (fuel := 100000) (X := go s0 s1 H R) (c := body) mixed fn (by kernel_rfl) (by kernel_rfl) (by kernel_rfl) ok (by kernel_rfl) h
end F73
/-! ### 74 "pub-stadtholder/pub/etcdserver/storage/wal.readInt64" -/
namespace F74
def an : Ann := { kinds := [], taus := [], pairs := [], lab := [] }
noncomputable def body : Code := (Tryd.f74.body).getD .skip
theorem fn : Tryd.prog.funcs[74]? = some Tryd.f74 := by kernel_rfl
theorem ok : codeOk an 8 body = true := by kernel_rfl
def go (r : IV) (H : Heap) (R : Ending → Heap → Prop) : Prop :=
  callD Tryd.prog 82 [(IV.v r)] H (panK R) fun v H1 =>
  tTup v fun l =>
  tCons l fun c l1 =>
  tInt c .i64 fun n =>
  tCons l1 fun c1 l2 =>
  tIf c1 fun i =>
  tNil l2 <|
  R (.returned (.tuple ⟨[(.int .i64 n), (IV.v i)]⟩)) H1
theorem calls {r : IV} {H : Heap} {R : Ending → Heap → Prop} (h : go r H R) : CallsH Tryd.prog 74 ⟨[(IV.v r)]⟩ H R :=
  callsH_of_den (an := an) (fuel := 100000) (X := go r H R) (c := body) mixed fn (by kernel_rfl) (by kernel_rfl) (by kernel_rfl) ok (by kernel_rfl) h
end F74
/-! ### 75 "pub-stadtholder/pub/etcdserver/storage/wal.decodeFrameSize" -/
namespace F75
def an : Ann := { kinds := [], taus := [], pairs := [], lab := [] }
noncomputable def body : Code := (Tryd.f75.body).getD .skip
theorem fn : Tryd.prog.funcs[75]? = some Tryd.f75 := by kernel_rfl
theorem ok : codeOk an 17 body = true := by kernel_rfl
def go (lenField : Int) (H : Heap) (R : Ending → Heap → Prop) : Prop :=
  iteB (decide (lenField < (0 : Int))) (
    shD (56 : Int) <|
    R (.returned (.tuple ⟨[(.int .i64 (IntKind.wrap .i64 (andZ .u64 (IntKind.wrap .u64 lenField) (72057594037927935 : Int)))), (.int .i64 (IntKind.wrap .i64 (andZ .u64 (shrZ .u64 (IntKind.wrap .u64 lenField) (56 : Int)) (7 : Int))))]⟩)) H) <|
  R (.returned (.tuple ⟨[(.int .i64 (IntKind.wrap .i64 (andZ .u64 (IntKind.wrap .u64 lenField) (72057594037927935 : Int)))), (.int .i64 (0 : Int))]⟩)) H
theorem calls {lenField : Int} {H : Heap} {R : Ending → Heap → Prop} (h : go lenField H R) : CallsH Tryd.prog 75 ⟨[(.int .i64 lenField)]⟩ H R :=
  callsH_of_den (an := an) (fuel := 100000) (X := go lenField H R) (c := body) mixed fn (by kernel_rfl) (by kernel_rfl) (by kernel_rfl) ok (by kernel_rfl) h
end F75
/-! ### 76 "(pub-stadtholder/pub/stand/fileutil.FileInfo).Size" -/
namespace F76
def an : Ann := { kinds := [], taus := [], pairs := [], lab := [] }
noncomputable def body : Code := (Tryd.f76.body).getD .skip
theorem fn : Tryd.prog.funcs[76]? = some Tryd.f76 := by kernel_rfl
theorem ok : codeOk an 5 body = true := by kernel_rfl
def go (i_0 : Int) (H : Heap) (R : Ending → Heap → Prop) : Prop :=
  newD H (.cells ⟨[(.int .i64 i_0)]⟩ 146) fun r H1 =>
  ldInt H1 ⟨r, 0, none⟩ .i64 fun n =>
  R (.returned (.int .i64 n)) H1
theorem calls {i_0 : Int} {H : Heap} {R : Ending → Heap → Prop} (h : go i_0 H R) : CallsH Tryd.prog 76 ⟨[(.agg ⟨[(.int .i64 i_0)]⟩)]⟩ H R :=
  callsH_of_den (an := an) (fuel := 100000) (X := go i_0 H R) (c := body) mixed fn (by kernel_rfl) (by kernel_rfl) (by kernel_rfl) ok (by kernel_rfl) h
end F76
/-! ### 77 "io.ReadFull" -/
namespace F77
def an : Ann := { kinds := [], taus := [], pairs := [], lab := [] }
noncomputable def body : Code := (Tryd.f77.body).getD .skip
theorem fn : Tryd.prog.funcs[77]? = some Tryd.f77 := by kernel_rfl
theorem ok : codeOk an 13 body = true := by kernel_rfl
def go (r : IV) (buf : Option Addr) (bufn : Nat) (bufc : Nat) (H : Heap) (R : Ending → Heap → Prop) : Prop :=
  callD Tryd.prog 83 [(IV.v r), (.slice buf bufn bufc), (.int .i64 ((bufn : Nat) : Int))] H (panK R) fun v H1 =>
  tTup v fun l =>
  tCons l fun c l1 =>
  tInt c .i64 fun n =>
  tCons l1 fun c1 l2 =>
  tIf c1 fun i =>
  tNil l2 <|
  R (.returned (.tuple ⟨[(.int .i64 n), (IV.v i)]⟩)) H1
theorem calls {r : IV} {buf : Option Addr} {bufn : Nat} {bufc : Nat} {H : Heap} {R : Ending → Heap → Prop} (h : go r buf bufn bufc H R) : CallsH Tryd.prog 77 ⟨[(IV.v r), (.slice buf bufn bufc)]⟩ H R :=
  callsH_of_den (an := an) (fuel := 100000) (X := go r buf bufn bufc H R) (c := body) mixed fn (by kernel_rfl) (by kernel_rfl) (by kernel_rfl) ok (by kernel_rfl) h
end F77
/-! ### 78 "pub-stadtholder/pub/stand/proto.Unmarshal" -/
namespace F78
def an : Ann := { kinds := [], taus := [], pairs := [], lab := [] }
noncomputable def body : Code := (Tryd.f78.body).getD .skip
theorem fn : Tryd.prog.funcs[78]? = some Tryd.f78 := by kernel_rfl
theorem ok : codeOk an 10 body = true := by kernel_rfl
def go (b : Option Addr) (bn : Nat) (bc : Nat) (m : IV) (H : Heap) (R : Ending → Heap → Prop) : Prop :=
  callI Tryd.prog (IV.v m) "TakeFields" [(.slice b bn bc)] H (panK R) fun v H1 =>
  tBool v fun b1 =>
  iteB (!b1) (
    R (.returned (.iface 154 (.string (ByteArray.mk #[112, 114, 111, 116, 111, 58, 32, 99, 97, 110, 110, 111, 116, 32, 112, 97, 114, 115, 101])))) H1) <|
  R (.returned .nilIface) H1
theorem calls {b : Option Addr} {bn : Nat} {bc : Nat} {m : IV} {H : Heap} {R : Ending → Heap → Prop} (h : go b bn bc m H R) : CallsH Tryd.prog 78 ⟨[(.slice b bn bc), (IV.v m)]⟩ H R :=
  callsH_of_den (an := an) (fuel := 100000) (X := go b bn bc m H R) (c := body) mixed fn (by kernel_rfl) (by kernel_rfl) (by kernel_rfl) ok (by kernel_rfl) h
end F78
/-! ### 79 "(*pub-stadtholder/pub/etcdserver/storage/wal.decoder).isTornEntry" -/
namespace F79
def an : Ann := { kinds := [], taus := [], pairs := [], lab := [(40000007, [1, 5, 6, 7]), (40000015, [57, 58, 59]), (90000019, [11, 57, 58, 59, 63, 64, 65]), (60000024, [11, 57, 58, 59]), (50000011, [1, 5, 6, 7, 8])] }
noncomputable def body : Code := (Tryd.f79.body).getD .skip
theorem fn : Tryd.prog.funcs[79]? = some Tryd.f79 := by kernel_rfl
theorem ok : codeOk an 74 body = true := by kernel_rfl
noncomputable def L0t : List Item := [.code (sub [1, 1, 1, 1, 1, 0, 0, 0] body), .inLoop (sub [1, 1, 1, 1, 1, 0, 0, 0] body), .inBlock 0, .code (sub [1, 1, 1, 1, 1, 1] body)]
def L0 (s1 : Option Addr) (s1n : Nat) (s1c : Nat) (s5 : Int) (s6 : Int) (s7 : Option Addr) (s7n : Nat) (s7c : Nat) (H : Heap) (R : Ending → Heap → Prop) : Prop :=
  GoL Tryd.prog 79 74 L0t [1, 5, 6, 7] [(.slice s1 s1n s1c), (.int .i64 s5), (.int .i64 s6), (.slice s7 s7n s7c)] H R
noncomputable def L1t : List Item := [.code (sub [1, 1, 1, 1, 1, 1, 0, 1, 0, 0] body), .inLoop (sub [1, 1, 1, 1, 1, 1, 0, 1, 0, 0] body), .inBlock 2, .code (sub [1, 1, 1, 1, 1, 1, 1] body)]
def L1 (s57 : Option Addr) (s57n : Nat) (s57c : Nat) (s58 : Int) (s59 : Int) (H : Heap) (R : Ending → Heap → Prop) : Prop :=
  GoL Tryd.prog 79 74 L1t [57, 58, 59] [(.slice s57 s57n s57c), (.int .i64 s58), (.int .i64 s59)] H R
noncomputable def L2t : List Item := [.code (sub [1, 1, 1, 1, 1, 1, 0, 1, 0, 0, 1, 1, 0, 0, 1, 1, 0, 1, 0, 0] body), .inLoop (sub [1, 1, 1, 1, 1, 1, 0, 1, 0, 0, 1, 1, 0, 0, 1, 1, 0, 1, 0, 0] body), .inBlock 4, .code (sub [1, 1, 1, 1, 1, 1, 0, 1, 0, 0, 1, 1, 0, 0, 1, 1, 1] body), .inBlock 3, .code (sub [1, 1, 1, 1, 1, 1, 0, 1, 0, 0, 1, 1, 1] body), .inLoop (sub [1, 1, 1, 1, 1, 1, 0, 1, 0, 0] body), .inBlock 2, .code (sub [1, 1, 1, 1, 1, 1, 1] body)]
def L2 (s11 : Bool) (s57 : Option Addr) (s57n : Nat) (s57c : Nat) (s58 : Int) (s59 : Int) (s63 : Option Addr) (s63n : Nat) (s63c : Nat) (s64 : Int) (s65 : Int) (H : Heap) (R : Ending → Heap → Prop) : Prop :=
  GoL Tryd.prog 79 74 L2t [11, 57, 58, 59, 63, 64, 65] [(.bool s11), (.slice s57 s57n s57c), (.int .i64 s58), (.int .i64 s59), (.slice s63 s63n s63c), (.int .i64 s64), (.int .i64 s65)] H R
noncomputable def L3t : List Item := [.code (sub [1, 1, 1, 1, 1, 1, 0, 1, 0, 0, 1, 1, 0, 0, 1, 1, 1] body), .inBlock 3, .code (sub [1, 1, 1, 1, 1, 1, 0, 1, 0, 0, 1, 1, 1] body), .inLoop (sub [1, 1, 1, 1, 1, 1, 0, 1, 0, 0] body), .inBlock 2, .code (sub [1, 1, 1, 1, 1, 1, 1] body)]
def L3 (s11 : Bool) (s57 : Option Addr) (s57n : Nat) (s57c : Nat) (s58 : Int) (s59 : Int) (H : Heap) (R : Ending → Heap → Prop) : Prop :=
  GoL Tryd.prog 79 74 L3t [11, 57, 58, 59] [(.bool s11), (.slice s57 s57n s57c), (.int .i64 s58), (.int .i64 s59)] H R
noncomputable def L4t : List Item := [.code (sub [1, 1, 1, 1, 1, 0, 0, 0, 1, 0, 1, 1] body), .inBlock 1, .inLoop (sub [1, 1, 1, 1, 1, 0, 0, 0] body), .inBlock 0, .code (sub [1, 1, 1, 1, 1, 1] body)]
def L4 (s1 : Option Addr) (s1n : Nat) (s1c : Nat) (s5 : Int) (s6 : Int) (s7 : Option Addr) (s7n : Nat) (s7c : Nat) (s8 : Int) (H : Heap) (R : Ending → Heap → Prop) : Prop :=
  GoL Tryd.prog 79 74 L4t [1, 5, 6, 7, 8] [(.slice s1 s1n s1c), (.int .i64 s5), (.int .i64 s6), (.slice s7 s7n s7c), (.int .i64 s8)] H R
def L0n (s1 : Option Addr) (s1n : Nat) (s1c : Nat) (s5 : Int) (s6 : Int) (s7 : Option Addr) (s7n : Nat) (s7c : Nat) (H : Heap) (R : Ending → Heap → Prop) : Prop :=
  iteB (decide (s6 < ((s1n : Nat) : Int))) (
    divD (512 : Int) <|
    iteB (decide ((IntKind.wrap .i64 ((512 : Int) - (Int.tmod s5 (512 : Int)))) > (IntKind.wrap .i64 (((s1n : Nat) : Int) - s6)))) (
      L4 s1 s1n s1c s5 s6 s7 s7n s7c (IntKind.wrap .i64 (((s1n : Nat) : Int) - s6)) H R) <|
    L4 s1 s1n s1c s5 s6 s7 s7n s7c (IntKind.wrap .i64 ((512 : Int) - (Int.tmod s5 (512 : Int)))) H R) <|
  L1 s7 s7n s7c ((s7n : Nat) : Int) (0 : Int) H R
theorem L0_step {s1 : Option Addr} {s1n : Nat} {s1c : Nat} {s5 : Int} {s6 : Int} {s7 : Option Addr} {s7n : Nat} {s7c : Nat} {H : Heap} {R : Ending → Heap → Prop} (h : L0n s1 s1n s1c s5 s6 s7 s7n s7c H R) : L0 s1 s1n s1c s5 s6 s7 s7n s7c H R :=
  goL_of_den (an := an) (fuel := 100000) (X := L0n s1 s1n s1c s5 s6 s7 s7n s7c H R) mixed fn (by kernel_rfl) (fun ρ0 => by kernel_rfl) h
def L1n (s57 : Option Addr) (s57n : Nat) (s57c : Nat) (s58 : Int) (s59 : Int) (H : Heap) (R : Ending → Heap → Prop) : Prop :=
  iteB (decide (s59 < s58)) (
    idxD s57 s57n s59 fun a =>
    ldSl H (Addr.add a (Int.toNat s59 * 1)) fun q qn qc =>
    L2 true s57 s57n s57c s58 s59 q qn qc ((qn : Nat) : Int) (0 : Int) H R) <|
  R (.returned (.bool false)) H
theorem L1_step {s57 : Option Addr} {s57n : Nat} {s57c : Nat} {s58 : Int} {s59 : Int} {H : Heap} {R : Ending → Heap → Prop} (h : L1n s57 s57n s57c s58 s59 H R) : L1 s57 s57n s57c s58 s59 H R :=
  goL_of_den (an := an) (fuel := 100000) (X := L1n s57 s57n s57c s58 s59 H R) mixed fn (by kernel_rfl) (fun ρ0 => by kernel_rfl) h
def L2n (s11 : Bool) (s57 : Option Addr) (s57n : Nat) (s57c : Nat) (s58 : Int) (s59 : Int) (s63 : Option Addr) (s63n : Nat) (s63c : Nat) (s64 : Int) (s65 : Int) (H : Heap) (R : Ending → Heap → Prop) : Prop :=
  iteB (decide (s65 < s64)) (
    idxD s63 s63n s65 fun a =>
    ldInt H (Addr.add a (Int.toNat s65 * 1)) .u8 fun n =>
    iteB (n != (0 : Int)) (
      L3 false s57 s57n s57c s58 s59 H R) <|
    L2 s11 s57 s57n s57c s58 s59 s63 s63n s63c s64 (IntKind.wrap .i64 (s65 + (1 : Int))) H R) <|
  L3 s11 s57 s57n s57c s58 s59 H R
theorem L2_step {s11 : Bool} {s57 : Option Addr} {s57n : Nat} {s57c : Nat} {s58 : Int} {s59 : Int} {s63 : Option Addr} {s63n : Nat} {s63c : Nat} {s64 : Int} {s65 : Int} {H : Heap} {R : Ending → Heap → Prop} (h : L2n s11 s57 s57n s57c s58 s59 s63 s63n s63c s64 s65 H R) : L2 s11 s57 s57n s57c s58 s59 s63 s63n s63c s64 s65 H R :=
  goL_of_den (an := an) (fuel := 100000) (X := L2n s11 s57 s57n s57c s58 s59 s63 s63n s63c s64 s65 H R) mixed fn (by kernel_rfl) (fun ρ0 => by kernel_rfl) h
def L3n (s11 : Bool) (s57 : Option Addr) (s57n : Nat) (s57c : Nat) (s58 : Int) (s59 : Int) (H : Heap) (R : Ending → Heap → Prop) : Prop :=
  iteB s11 (
    R (.returned (.bool true)) H) <|
  L1 s57 s57n s57c s58 (IntKind.wrap .i64 (s59 + (1 : Int))) H R
theorem L3_step {s11 : Bool} {s57 : Option Addr} {s57n : Nat} {s57c : Nat} {s58 : Int} {s59 : Int} {H : Heap} {R : Ending → Heap → Prop} (h : L3n s11 s57 s57n s57c s58 s59 H R) : L3 s11 s57 s57n s57c s58 s59 H R :=
  goL_of_den (an := an) (fuel := 100000) (X := L3n s11 s57 s57n s57c s58 s59 H R) mixed fn (by kernel_rfl) (fun ρ0 => by kernel_rfl) h
def L4n (s1 : Option Addr) (s1n : Nat) (s1c : Nat) (s5 : Int) (s6 : Int) (s7 : Option Addr) (s7n : Nat) (s7c : Nat) (s8 : Int) (H : Heap) (R : Ending → Heap → Prop) : Prop :=
  bndD (IntKind.wrap .i64 (s6 + s8)) s1c fun k =>
  bndD s6 k fun k1 =>
  newD H (.cells ⟨[(.slice (slP s1 k1 s1c 1) (k - k1) (s1c - k1))]⟩ 27) fun r H1 =>
  apD H1 1 24 [(.slice none 0 0)] 27 s7 s7n s7c (some ⟨r, 0, none⟩) 1 fun q qn qc H2 =>
  L0 s1 s1n s1c (IntKind.wrap .i64 (s5 + s8)) (IntKind.wrap .i64 (s6 + s8)) q qn qc H2 R
theorem L4_step {s1 : Option Addr} {s1n : Nat} {s1c : Nat} {s5 : Int} {s6 : Int} {s7 : Option Addr} {s7n : Nat} {s7c : Nat} {s8 : Int} {H : Heap} {R : Ending → Heap → Prop} (h : L4n s1 s1n s1c s5 s6 s7 s7n s7c s8 H R) : L4 s1 s1n s1c s5 s6 s7 s7n s7c s8 H R :=
  goL_of_den (an := an) (fuel := 100000) (X := L4n s1 s1n s1c s5 s6 s7 s7n s7c s8 H R) mixed fn (by kernel_rfl) (fun ρ0 => by kernel_rfl) h
def go (s0 : Option Addr) (s1 : Option Addr) (s1n : Nat) (s1c : Nat) (H : Heap) (R : Ending → Heap → Prop) : Prop :=
  nilD s0 fun a =>
  ldSl H a fun q qn qc =>
  iteB (((qn : Nat) : Int) != (1 : Int)) (
    R (.returned (.bool false)) H) <|
  nilD s0 fun a1 =>
  ldInt H (Addr.add a1 1) .i64 fun n =>
  L0 s1 s1n s1c (IntKind.wrap .i64 (n + (8 : Int))) (0 : Int) none 0 0 H R
theorem calls {s0 : Option Addr} {s1 : Option Addr} {s1n : Nat} {s1c : Nat} {H : Heap} {R : Ending → Heap → Prop} (h : go s0 s1 s1n s1c H R) : CallsH Tryd.prog 79 ⟨[(.pointer s0), (.slice s1 s1n s1c)]⟩ H R :=
  callsH_of_den (an := an) (fuel := 100000) (X := go s0 s1 s1n s1c H R) (c := body) mixed fn (by kernel_rfl) (by kernel_rfl) (by kernel_rfl) ok (by kernel_rfl) h
end F79
/-! ### 80 "(*pub-stadtholder/pub/etcdserver/storage/wal/walpb.Record).Validate" -/
namespace F80
def an : Ann := { kinds := [], taus := [], pairs := [], lab := [] }
noncomputable def body : Code := (Tryd.f80.body).getD .skip
theorem fn : Tryd.prog.funcs[80]? = some Tryd.f80 := by kernel_rfl
theorem ok : codeOk an 10 body = true := by kernel_rfl
def go (xrec : Option Addr) (crc : Int) (H : Heap) (R : Ending → Heap → Prop) : Prop :=
  callD Tryd.prog 25 [(.pointer xrec)] H (panK R) fun v H1 =>
  tInt v .u32 fun n =>
  iteB (n == crc) (
    R (.returned .nilIface) H1) <|
  R (.returned (.iface 70 (.string (ByteArray.mk #[119, 97, 108, 112, 98, 58, 32, 99, 114, 99, 32, 109, 105, 115, 109, 97, 116, 99, 104])))) H1
theorem calls {xrec : Option Addr} {crc : Int} {H : Heap} {R : Ending → Heap → Prop} (h : go xrec crc H R) : CallsH Tryd.prog 80 ⟨[(.pointer xrec), (.int .u32 crc)]⟩ H R :=
  callsH_of_den (an := an) (fuel := 100000) (X := go xrec crc H R) (c := body) mixed fn (by kernel_rfl) (by kernel_rfl) (by kernel_rfl) ok (by kernel_rfl) h
end F80
/-! ### 82 "pub-stadtholder/pub/stand/binary.ReadLittle64" -/
namespace F82
def an : Ann := { kinds := [], taus := [], pairs := [], lab := [(40000008, [4, 7, 8])] }
noncomputable def body : Code := (Tryd.f82.body).getD .skip
theorem fn : Tryd.prog.funcs[82]? = some Tryd.f82 := by kernel_rfl
theorem ok : codeOk an 31 body = true := by kernel_rfl
noncomputable def L0t : List Item := [.code (sub [1, 1, 1, 1, 0, 1, 0, 0] body), .inLoop (sub [1, 1, 1, 1, 0, 1, 0, 0] body), .inBlock 0, .code (sub [1, 1, 1, 1, 1] body)]
def L0 (b : Nat) (n : Int) (i : Int) (H : Heap) (R : Ending → Heap → Prop) : Prop :=
  GoL Tryd.prog 82 31 L0t [4, 7, 8] [(.pointer (some ⟨b, 0, none⟩)), (.int .u64 n), (.int .i64 i)] H R
def L0n (b : Nat) (n : Int) (i : Int) (H : Heap) (R : Ending → Heap → Prop) : Prop :=
  iteB (decide (i ≥ (0 : Int))) (
    shD (8 : Int) <|
    idxA 8 i <|
    ldInt H (Addr.add ⟨b, 0, none⟩ (Int.toNat i * 1)) .u8 fun n1 =>
    L0 b (orZ .u64 (shlZ .u64 n (8 : Int)) (IntKind.wrap .u64 n1)) (IntKind.wrap .i64 (i - (1 : Int))) H R) <|
  R (.returned (.tuple ⟨[(.int .i64 (IntKind.wrap .i64 n)), .nilIface]⟩)) H
theorem L0_step {b : Nat} {n : Int} {i : Int} {H : Heap} {R : Ending → Heap → Prop} (h : L0n b n i H R) : L0 b n i H R :=
  goL_of_den (an := an) (fuel := 100000) (X := L0n b n i H R) mixed fn (by kernel_rfl) (fun ρ0 => by kernel_rfl) h
def go (r : IV) (H : Heap) (R : Ending → Heap → Prop) : Prop :=
  newD H (.cells ⟨[(.int .u8 (0 : Int)), (.int .u8 (0 : Int)), (.int .u8 (0 : Int)), (.int .u8 (0 : Int)), (.int .u8 (0 : Int)), (.int .u8 (0 : Int)), (.int .u8 (0 : Int)), (.int .u8 (0 : Int))]⟩ 156) fun r1 H1 =>
  callD Tryd.prog 77 [(IV.v r), (.slice (some ⟨r1, 0, none⟩) 8 8)] H1 (panK R) fun v H2 =>
  tTup v fun l =>
  tCons l fun c l1 =>
  tInt c .i64 fun n =>
  tCons l1 fun c1 l2 =>
  tIf c1 fun i =>
  tNil l2 <|
  ifNilD (IV.v i) fun b =>
  iteB (!b) (
    R (.returned (.tuple ⟨[(.int .i64 (0 : Int)), (IV.v i)]⟩)) H2) <|
  L0 r1 (0 : Int) (7 : Int) H2 R
theorem calls {r : IV} {H : Heap} {R : Ending → Heap → Prop} (h : go r H R) : CallsH Tryd.prog 82 ⟨[(IV.v r)]⟩ H R :=
  callsH_of_den (an := an) (fuel := 100000) (X := go r H R) (c := body) mixed fn (by kernel_rfl) (by kernel_rfl) (by kernel_rfl) ok (by kernel_rfl) h
end F82
/-! ### 83 "io.ReadAtLeast" -/
namespace F83
def an : Ann := { kinds := [(9005, .read)], taus := [(2, [[1, 0, 2]]), (5, [[0, 1, 2, 3, 4, 5, 6, 7, 8, 9, 10, 11, 12]])], pairs := [], lab := [(40000004, [0, 1, 2, 6, 7]), (10000008, [2, 6, 7]), (40000005, [0, 1, 2, 6])] }
noncomputable def body : Code := (Tryd.f83.body).getD .skip
theorem fn : Tryd.prog.funcs[83]? = some Tryd.f83 := by kernel_rfl
theorem ok : codeOk an 46 body = true := by kernel_rfl
noncomputable def L0t : List Item := [.code (sub [1, 1, 0, 0, 0] body), .inLoop (sub [1, 1, 0, 0, 0] body), .inBlock 0, .code (sub [1, 1, 1] body)]
def L0 (r : IV) (buf : Option Addr) (bufn : Nat) (bufc : Nat) (min : Int) (n : Int) (err : IV) (H : Heap) (R : Ending → Heap → Prop) : Prop :=
  GoL Tryd.prog 83 46 L0t [0, 1, 2, 6, 7] [(IV.v r), (.slice buf bufn bufc), (.int .i64 min), (.int .i64 n), (IV.v err)] H R
noncomputable def L1t : List Item := [.code (sub [1, 1, 1] body)]
def L1 (min : Int) (n : Int) (err : IV) (H : Heap) (R : Ending → Heap → Prop) : Prop :=
  GoL Tryd.prog 83 46 L1t [2, 6, 7] [(.int .i64 min), (.int .i64 n), (IV.v err)] H R
noncomputable def L2t : List Item := [.code (sub [1, 1, 0, 0, 0, 1] body), .inLoop (sub [1, 1, 0, 0, 0] body), .inBlock 0, .code (sub [1, 1, 1] body)]
def L2 (r : IV) (buf : Option Addr) (bufn : Nat) (bufc : Nat) (min : Int) (n : Int) (H : Heap) (R : Ending → Heap → Prop) : Prop :=
  GoL Tryd.prog 83 46 L2t [0, 1, 2, 6] [(IV.v r), (.slice buf bufn bufc), (.int .i64 min), (.int .i64 n)] H R
def L0n (r : IV) (buf : Option Addr) (bufn : Nat) (bufc : Nat) (min : Int) (n : Int) (err : IV) (H : Heap) (R : Ending → Heap → Prop) : Prop :=
  iteB (decide (n < min)) (
    ifNilD (IV.v err) fun b =>
    iteB b (
      L2 r buf bufn bufc min n H R) <|
    L1 min n err H R) <|
  L1 min n err H R
theorem L0_step {r : IV} {buf : Option Addr} {bufn : Nat} {bufc : Nat} {min : Int} {n : Int} {err : IV} {H : Heap} {R : Ending → Heap → Prop} (h : L0n r buf bufn bufc min n err H R) : L0 r buf bufn bufc min n err H R :=
  goL_of_den (an := an) (fuel := 100000) (X := L0n r buf bufn bufc min n err H R) mixed fn (by kernel_rfl) (fun ρ0 => by kernel_rfl) h
def L1n (min : Int) (n : Int) (err : IV) (H : Heap) (R : Ending → Heap → Prop) : Prop :=
  iteB (decide (n ≥ min)) (
    R (.returned (.tuple ⟨[(.int .i64 n), .nilIface]⟩)) H) <|
  iteB (decide (n > (0 : Int))) (
    ldIf H ⟨0, 0, none⟩ fun i =>
    rawR Tryd.prog H .eql 62 (IV.v err) (IV.v i) fun b =>
    iteB b (
      ldIf H ⟨1, 0, none⟩ fun i1 =>
      R (.returned (.tuple ⟨[(.int .i64 n), (IV.v i1)]⟩)) H) <|
    R (.returned (.tuple ⟨[(.int .i64 n), (IV.v err)]⟩)) H) <|
  R (.returned (.tuple ⟨[(.int .i64 n), (IV.v err)]⟩)) H
theorem L1_step {min : Int} {n : Int} {err : IV} {H : Heap} {R : Ending → Heap → Prop} (h : L1n min n err H R) : L1 min n err H R :=
  goL_of_den (an := an) (fuel := 100000) (X := L1n min n err H R) mixed fn (by kernel_rfl) (fun ρ0 => by kernel_rfl) h
def L2n (r : IV) (buf : Option Addr) (bufn : Nat) (bufc : Nat) (min : Int) (n : Int) (H : Heap) (R : Ending → Heap → Prop) : Prop :=
  bndD n bufn fun k =>
  nilM Tryd.prog "Read" ⟨[(IV.v r)]⟩ <|
  callI Tryd.prog (IV.v r) "Read" [(.slice (slP buf k bufc 1) (bufn - k) (bufc - k))] H (panK R) fun v H1 =>
  tTup v fun l =>
  tCons l fun c l1 =>
  tInt c .i64 fun n1 =>
  tCons l1 fun c1 l2 =>
  tIf c1 fun i =>
  tNil l2 <|
  L0 r buf bufn bufc min (IntKind.wrap .i64 (n + n1)) i H1 R
theorem L2_step {r : IV} {buf : Option Addr} {bufn : Nat} {bufc : Nat} {min : Int} {n : Int} {H : Heap} {R : Ending → Heap → Prop} (h : L2n r buf bufn bufc min n H R) : L2 r buf bufn bufc min n H R :=
  goL_of_den (an := an) (fuel := 100000) (X := L2n r buf bufn bufc min n H R) mixed fn (by kernel_rfl) (fun ρ0 => by kernel_rfl) h
def go (r : IV) (buf : Option Addr) (bufn : Nat) (bufc : Nat) (min : Int) (H : Heap) (R : Ending → Heap → Prop) : Prop :=
  iteB (decide (((bufn : Nat) : Int) < min)) (
    ldIf H ⟨2, 0, none⟩ fun i =>
    R (.returned (.tuple ⟨[(.int .i64 (0 : Int)), (IV.v i)]⟩)) H) <|
  L0 r buf bufn bufc min (0 : Int) IV.nil H R
theorem calls {r : IV} {buf : Option Addr} {bufn : Nat} {bufc : Nat} {min : Int} {H : Heap} {R : Ending → Heap → Prop} (h : go r buf bufn bufc min H R) : CallsH Tryd.prog 83 ⟨[(IV.v r), (.slice buf bufn bufc), (.int .i64 min)]⟩ H R :=
  callsH_of_den (an := an) (fuel := 100000) (X := go r buf bufn bufc min H R) (c := body) mixed fn (by kernel_rfl) (by kernel_rfl) (by kernel_rfl) ok (by kernel_rfl) h
end F83
/-! ### 89 "(*pub-stadtholder/pub/etcdserver/storage/wal/walpb.Record).TakeFields" -/
namespace F89
def an : Ann := { kinds := [], taus := [], pairs := [], lab := [(40000002, [0, 1]), (60000011, [0, 1, 5, 8]), (60000014, [0, 1, 5, 8]), (60000015, [0, 1, 5]), (60000012, [0, 1, 5]), (60000009, [0, 1, 5])] }
noncomputable def body : Code := (Tryd.f89.body).getD .skip
theorem fn : Tryd.prog.funcs[89]? = some Tryd.f89 := by kernel_rfl
theorem ok : codeOk an 64 body = true := by kernel_rfl
noncomputable def L0t : List Item := [.code (sub [1, 0, 0, 0] body), .inLoop (sub [1, 0, 0, 0] body), .inBlock 0, .code (sub [1, 1] body)]
def L0 (xrec : Option Addr) (b : Option Addr) (bn : Nat) (bc : Nat) (H : Heap) (R : Ending → Heap → Prop) : Prop :=
  GoL Tryd.prog 89 64 L0t [0, 1] [(.pointer xrec), (.slice b bn bc)] H R
noncomputable def L1t : List Item := [.code (sub [1, 0, 0, 0, 1, 0, 1, 1, 1, 1, 0, 1, 1] body), .inBlock 2, .inBlock 1, .inLoop (sub [1, 0, 0, 0] body), .inBlock 0, .code (sub [1, 1] body)]
def L1 (xrec : Option Addr) (b : Option Addr) (bn : Nat) (bc : Nat) (f : Nat) (n : Int) (H : Heap) (R : Ending → Heap → Prop) : Prop :=
  GoL Tryd.prog 89 64 L1t [0, 1, 5, 8] [(.pointer xrec), (.slice b bn bc), (.pointer (some ⟨f, 0, none⟩)), (.int .i64 n)] H R
noncomputable def L2t : List Item := [.code (sub [1, 0, 0, 0, 1, 0, 1, 1, 1, 1, 0, 1, 1, 1, 1] body), .inBlock 2, .inBlock 1, .inLoop (sub [1, 0, 0, 0] body), .inBlock 0, .code (sub [1, 1] body)]
def L2 (xrec : Option Addr) (b : Option Addr) (bn : Nat) (bc : Nat) (f : Nat) (n : Int) (H : Heap) (R : Ending → Heap → Prop) : Prop :=
  GoL Tryd.prog 89 64 L2t [0, 1, 5, 8] [(.pointer xrec), (.slice b bn bc), (.pointer (some ⟨f, 0, none⟩)), (.int .i64 n)] H R
noncomputable def L3t : List Item := [.code (sub [1, 0, 0, 0, 1, 0, 1, 1, 1, 1, 0, 1, 1, 1, 1, 1, 0] body), .inBlock 2, .inBlock 1, .inLoop (sub [1, 0, 0, 0] body), .inBlock 0, .code (sub [1, 1] body)]
def L3 (xrec : Option Addr) (b : Option Addr) (bn : Nat) (bc : Nat) (f : Nat) (H : Heap) (R : Ending → Heap → Prop) : Prop :=
  GoL Tryd.prog 89 64 L3t [0, 1, 5] [(.pointer xrec), (.slice b bn bc), (.pointer (some ⟨f, 0, none⟩))] H R
noncomputable def L4t : List Item := [.code (sub [1, 0, 0, 0, 1, 0, 1, 1, 1, 1, 0, 1, 1, 1, 0] body), .inBlock 2, .inBlock 1, .inLoop (sub [1, 0, 0, 0] body), .inBlock 0, .code (sub [1, 1] body)]
def L4 (xrec : Option Addr) (b : Option Addr) (bn : Nat) (bc : Nat) (f : Nat) (H : Heap) (R : Ending → Heap → Prop) : Prop :=
  GoL Tryd.prog 89 64 L4t [0, 1, 5] [(.pointer xrec), (.slice b bn bc), (.pointer (some ⟨f, 0, none⟩))] H R
noncomputable def L5t : List Item := [.code (sub [1, 0, 0, 0, 1, 0, 1, 1, 1, 1, 0, 1, 0] body), .inBlock 2, .inBlock 1, .inLoop (sub [1, 0, 0, 0] body), .inBlock 0, .code (sub [1, 1] body)]
def L5 (xrec : Option Addr) (b : Option Addr) (bn : Nat) (bc : Nat) (f : Nat) (H : Heap) (R : Ending → Heap → Prop) : Prop :=
  GoL Tryd.prog 89 64 L5t [0, 1, 5] [(.pointer xrec), (.slice b bn bc), (.pointer (some ⟨f, 0, none⟩))] H R
def L0n (xrec : Option Addr) (b : Option Addr) (bn : Nat) (bc : Nat) (H : Heap) (R : Ending → Heap → Prop) : Prop :=
  iteB (decide (((bn : Nat) : Int) > (0 : Int))) (
    callD Tryd.prog 90 [(.slice b bn bc)] H (panK R) fun v H1 =>
    tTup v fun l =>
    tCons l fun c l1 =>
    tAgg c fun l2 =>
    tCons l2 fun c1 l3 =>
    tInt c1 .i64 fun n =>
    tCons l3 fun c2 l4 =>
    tBool c2 fun b1 =>
    tCons l4 fun c3 l5 =>
    tInt c3 .i64 fun n1 =>
    tCons l5 fun c4 l6 =>
    tSl c4 fun q qn qc =>
    tNil l6 <|
    tCons l1 fun c5 l7 =>
    tSl c5 fun q1 q1n q1c =>
    tCons l7 fun c6 l8 =>
    tBool c6 fun b2 =>
    tNil l8 <|
    newD H1 (.cells ⟨[(.int .i64 (0 : Int)), (.bool false), (.int .i64 (0 : Int)), (.slice none 0 0)]⟩ 161) fun r H2 =>
    st1 H2 ⟨r, 0, none⟩ (.int .i64 n) fun H3 =>
    st1 H3 ⟨r, 1, none⟩ (.bool b1) fun H4 =>
    st1 H4 ⟨r, 2, none⟩ (.int .i64 n1) fun H5 =>
    st1 H5 ⟨r, 3, none⟩ (.slice q qn qc) fun H6 =>
    iteB (!b2) (
      R (.returned (.bool false)) H6) <|
    ldInt H6 ⟨r, 0, none⟩ .i64 fun n2 =>
    iteB (n2 == (1 : Int)) (
      ldBool H6 ⟨r, 1, none⟩ fun b3 =>
      iteB (!b3) (
        L5 xrec q1 q1n q1c r H6 R) <|
      L1 xrec q1 q1n q1c r n2 H6 R) <|
    L1 xrec q1 q1n q1c r n2 H6 R) <|
  R (.returned (.bool true)) H
theorem L0_step {xrec : Option Addr} {b : Option Addr} {bn : Nat} {bc : Nat} {H : Heap} {R : Ending → Heap → Prop} (h : L0n xrec b bn bc H R) : L0 xrec b bn bc H R :=
  goL_of_den (an := an) (fuel := 100000) (X := L0n xrec b bn bc H R) mixed fn (by kernel_rfl) (fun ρ0 => by kernel_rfl) h
def L1n (xrec : Option Addr) (b : Option Addr) (bn : Nat) (bc : Nat) (f : Nat) (n : Int) (H : Heap) (R : Ending → Heap → Prop) : Prop :=
  iteB (n == (2 : Int)) (
    ldBool H ⟨f, 1, none⟩ fun b1 =>
    iteB (!b1) (
      L4 xrec b bn bc f H R) <|
    L2 xrec b bn bc f n H R) <|
  L2 xrec b bn bc f n H R
theorem L1_step {xrec : Option Addr} {b : Option Addr} {bn : Nat} {bc : Nat} {f : Nat} {n : Int} {H : Heap} {R : Ending → Heap → Prop} (h : L1n xrec b bn bc f n H R) : L1 xrec b bn bc f n H R :=
  goL_of_den (an := an) (fuel := 100000) (X := L1n xrec b bn bc f n H R) mixed fn (by kernel_rfl) (fun ρ0 => by kernel_rfl) h
def L2n (xrec : Option Addr) (b : Option Addr) (bn : Nat) (bc : Nat) (f : Nat) (n : Int) (H : Heap) (R : Ending → Heap → Prop) : Prop :=
  iteB (n == (3 : Int)) (
    ldBool H ⟨f, 1, none⟩ fun b1 =>
    iteB b1 (
      L3 xrec b bn bc f H R) <|
    L0 xrec b bn bc H R) <|
  L0 xrec b bn bc H R
theorem L2_step {xrec : Option Addr} {b : Option Addr} {bn : Nat} {bc : Nat} {f : Nat} {n : Int} {H : Heap} {R : Ending → Heap → Prop} (h : L2n xrec b bn bc f n H R) : L2 xrec b bn bc f n H R :=
  goL_of_den (an := an) (fuel := 100000) (X := L2n xrec b bn bc f n H R) mixed fn (by kernel_rfl) (fun ρ0 => by kernel_rfl) h
def L3n (xrec : Option Addr) (b : Option Addr) (bn : Nat) (bc : Nat) (f : Nat) (H : Heap) (R : Ending → Heap → Prop) : Prop :=
  ldSl H ⟨f, 3, none⟩ fun q qn qc =>
  nilD xrec fun a =>
  st1 H (Addr.add a 2) (.slice q qn qc) fun H1 =>
  L0 xrec b bn bc H1 R
theorem L3_step {xrec : Option Addr} {b : Option Addr} {bn : Nat} {bc : Nat} {f : Nat} {H : Heap} {R : Ending → Heap → Prop} (h : L3n xrec b bn bc f H R) : L3 xrec b bn bc f H R :=
  goL_of_den (an := an) (fuel := 100000) (X := L3n xrec b bn bc f H R) mixed fn (by kernel_rfl) (fun ρ0 => by kernel_rfl) h
def L4n (xrec : Option Addr) (b : Option Addr) (bn : Nat) (bc : Nat) (f : Nat) (H : Heap) (R : Ending → Heap → Prop) : Prop :=
  ldInt H ⟨f, 2, none⟩ .i64 fun n =>
  newD H (.cells ⟨[(.int .u32 (0 : Int))]⟩ 22) fun r H1 =>
  st1 H1 ⟨r, 0, none⟩ (.int .u32 (IntKind.wrap .u32 n)) fun H2 =>
  nilD xrec fun a =>
  st1 H2 (Addr.add a 1) (.pointer (some ⟨r, 0, none⟩)) fun H3 =>
  L0 xrec b bn bc H3 R
theorem L4_step {xrec : Option Addr} {b : Option Addr} {bn : Nat} {bc : Nat} {f : Nat} {H : Heap} {R : Ending → Heap → Prop} (h : L4n xrec b bn bc f H R) : L4 xrec b bn bc f H R :=
  goL_of_den (an := an) (fuel := 100000) (X := L4n xrec b bn bc f H R) mixed fn (by kernel_rfl) (fun ρ0 => by kernel_rfl) h
def L5n (xrec : Option Addr) (b : Option Addr) (bn : Nat) (bc : Nat) (f : Nat) (H : Heap) (R : Ending → Heap → Prop) : Prop :=
  ldInt H ⟨f, 2, none⟩ .i64 fun n =>
  newD H (.cells ⟨[(.int .i64 (0 : Int))]⟩ 2) fun r H1 =>
  st1 H1 ⟨r, 0, none⟩ (.int .i64 n) fun H2 =>
  nilD xrec fun a =>
  st1 H2 a (.pointer (some ⟨r, 0, none⟩)) fun H3 =>
  L0 xrec b bn bc H3 R
theorem L5_step {xrec : Option Addr} {b : Option Addr} {bn : Nat} {bc : Nat} {f : Nat} {H : Heap} {R : Ending → Heap → Prop} (h : L5n xrec b bn bc f H R) : L5 xrec b bn bc f H R :=
  goL_of_den (an := an) (fuel := 100000) (X := L5n xrec b bn bc f H R) mixed fn (by kernel_rfl) (fun ρ0 => by kernel_rfl) h
def go (xrec : Option Addr) (b : Option Addr) (bn : Nat) (bc : Nat) (H : Heap) (R : Ending → Heap → Prop) : Prop :=
  L0 xrec b bn bc H R
theorem calls {xrec : Option Addr} {b : Option Addr} {bn : Nat} {bc : Nat} {H : Heap} {R : Ending → Heap → Prop} (h : go xrec b bn bc H R) : CallsH Tryd.prog 89 ⟨[(.pointer xrec), (.slice b bn bc)]⟩ H R :=
  callsH_of_den (an := an) (fuel := 100000) (X := go xrec b bn bc H R) (c := body) mixed fn (by kernel_rfl) (by kernel_rfl) (by kernel_rfl) ok (by kernel_rfl) h
end F89
/-! ### 90 "pub-stadtholder/pub/stand/proto.Take" -/
namespace F90
def an : Ann := { kinds := [], taus := [], pairs := [], lab := [] }
noncomputable def body : Code := (Tryd.f90.body).getD .skip
theorem fn : Tryd.prog.funcs[90]? = some Tryd.f90 := by kernel_rfl
theorem ok : codeOk an 10 body = true := by kernel_rfl
def go (b : Option Addr) (bn : Nat) (bc : Nat) (H : Heap) (R : Ending → Heap → Prop) : Prop :=
  newD H (.cells ⟨[(.int .i64 (0 : Int)), (.bool false), (.int .i64 (0 : Int)), (.slice none 0 0)]⟩ 161) fun r H1 =>
  callD Tryd.prog 91 [(.slice b bn bc), (.int .i64 (0 : Int))] H1 (panK R) fun v H2 =>
  tTup v fun l =>
  tCons l fun c l1 =>
  tAgg c fun l2 =>
  tCons l2 fun c1 l3 =>
  tInt c1 .i64 fun n =>
  tCons l3 fun c2 l4 =>
  tBool c2 fun b1 =>
  tCons l4 fun c3 l5 =>
  tInt c3 .i64 fun n1 =>
  tCons l5 fun c4 l6 =>
  tSl c4 fun q qn qc =>
  tNil l6 <|
  tCons l1 fun c5 l7 =>
  tSl c5 fun q1 q1n q1c =>
  tCons l7 fun c6 l8 =>
  tBool c6 fun b2 =>
  tNil l8 <|
  st1 H2 ⟨r, 0, none⟩ (.int .i64 n) fun H3 =>
  st1 H3 ⟨r, 1, none⟩ (.bool b1) fun H4 =>
  st1 H4 ⟨r, 2, none⟩ (.int .i64 n1) fun H5 =>
  st1 H5 ⟨r, 3, none⟩ (.slice q qn qc) fun H6 =>
  ldInt H6 ⟨r, 0, none⟩ .i64 fun n2 =>
  ldBool H6 ⟨r, 1, none⟩ fun b3 =>
  ldInt H6 ⟨r, 2, none⟩ .i64 fun n3 =>
  ldSl H6 ⟨r, 3, none⟩ fun q2 q2n q2c =>
  R (.returned (.tuple ⟨[(.agg ⟨[(.int .i64 n2), (.bool b3), (.int .i64 n3), (.slice q2 q2n q2c)]⟩), (.slice q1 q1n q1c), (.bool b2)]⟩)) H6
theorem calls {b : Option Addr} {bn : Nat} {bc : Nat} {H : Heap} {R : Ending → Heap → Prop} (h : go b bn bc H R) : CallsH Tryd.prog 90 ⟨[(.slice b bn bc)]⟩ H R :=
  callsH_of_den (an := an) (fuel := 100000) (X := go b bn bc H R) (c := body) mixed fn (by kernel_rfl) (by kernel_rfl) (by kernel_rfl) ok (by kernel_rfl) h
end F90
/-! ### 91 "pub-stadtholder/pub/stand/proto.take" -/
namespace F91
def an : Ann := { kinds := [(14003, .grow)], taus := [(14, [[0, 1, 2, 4, 5, 6, 9, 10, 11, 3, 7, 8, 12, 13, 14]])], pairs := [], lab := [(10000005, [0, 1, 4, 7]), (50000019, [0, 1, 4, 7]), (30000015, [4, 7, 12, 13])] }
noncomputable def body : Code := (Tryd.f91.body).getD .skip
theorem fn : Tryd.prog.funcs[91]? = some Tryd.f91 := by kernel_rfl
theorem ok : codeOk an 136 body = true := by kernel_rfl
noncomputable def L0t : List Item := [.code (sub [1, 1, 1] body)]
def L0 (s0 : Option Addr) (s0n : Nat) (s0c : Nat) (s1 : Int) (s4 : Nat) (s7 : Int) (H : Heap) (R : Ending → Heap → Prop) : Prop :=
  GoL Tryd.prog 91 136 L0t [0, 1, 4, 7] [(.slice s0 s0n s0c), (.int .i64 s1), (.pointer (some ⟨s4, 0, none⟩)), (.int .u64 s7)] H R
noncomputable def L1t : List Item := [.code (sub [1, 1, 1, 0, 1, 0, 1, 1, 1, 1, 1, 1, 1, 1, 1, 0, 0, 0] body), .inLoop (sub [1, 1, 1, 0, 1, 0, 1, 1, 1, 1, 1, 1, 1, 1, 1, 0, 0, 0] body), .inBlock 1, .inBlock 0, .code (sub [1, 1, 1, 1] body)]
def L1 (s0 : Option Addr) (s0n : Nat) (s0c : Nat) (s1 : Int) (s4 : Nat) (s7 : Int) (H : Heap) (R : Ending → Heap → Prop) : Prop :=
  GoL Tryd.prog 91 136 L1t [0, 1, 4, 7] [(.slice s0 s0n s0c), (.int .i64 s1), (.pointer (some ⟨s4, 0, none⟩)), (.int .u64 s7)] H R
noncomputable def L2t : List Item := [.code (sub [1, 1, 1, 0, 1, 0, 1, 1, 1, 1, 1, 0, 1, 1] body), .inBlock 0, .code (sub [1, 1, 1, 1] body)]
def L2 (s4 : Nat) (s7 : Int) (s12 : Int) (s13 : Option Addr) (s13n : Nat) (s13c : Nat) (H : Heap) (R : Ending → Heap → Prop) : Prop :=
  GoL Tryd.prog 91 136 L2t [4, 7, 12, 13] [(.pointer (some ⟨s4, 0, none⟩)), (.int .u64 s7), (.int .u64 s12), (.slice s13 s13n s13c)] H R
def L0n (s0 : Option Addr) (s0n : Nat) (s0c : Nat) (s1 : Int) (s4 : Nat) (s7 : Int) (H : Heap) (R : Ending → Heap → Prop) : Prop :=
  iteB ((andZ .u64 s7 (7 : Int)) == (0 : Int)) (
    callD Tryd.prog 92 [(.slice s0 s0n s0c)] H (panK R) fun v H1 =>
    tTup v fun l =>
    tCons l fun c l1 =>
    tInt c .u64 fun n =>
    tCons l1 fun c1 l2 =>
    tSl c1 fun q qn qc =>
    tCons l2 fun c2 l3 =>
    tBool c2 fun b =>
    tNil l3 <|
    shD (3 : Int) <|
    st1 H1 ⟨s4, 0, none⟩ (.int .i64 (IntKind.wrap .i64 (shrZ .u64 s7 (3 : Int)))) fun H2 =>
    st1 H2 ⟨s4, 1, none⟩ (.bool false) fun H3 =>
    st1 H3 ⟨s4, 2, none⟩ (.int .i64 (IntKind.wrap .i64 n)) fun H4 =>
    st1 H4 ⟨s4, 3, none⟩ (.slice none 0 0) fun H5 =>
    ldInt H5 ⟨s4, 0, none⟩ .i64 fun n1 =>
    ldBool H5 ⟨s4, 1, none⟩ fun b1 =>
    ldInt H5 ⟨s4, 2, none⟩ .i64 fun n2 =>
    ldSl H5 ⟨s4, 3, none⟩ fun q1 q1n q1c =>
    R (.returned (.tuple ⟨[(.agg ⟨[(.int .i64 n1), (.bool b1), (.int .i64 n2), (.slice q1 q1n q1c)]⟩), (.slice q qn qc), (.bool b)]⟩)) H5) <|
  iteB ((andZ .u64 s7 (7 : Int)) == (1 : Int)) (
    callD Tryd.prog 93 [(.slice s0 s0n s0c), (.int .i64 (8 : Int))] H (panK R) fun v1 H6 =>
    tTup v1 fun l4 =>
    tCons l4 fun c3 l5 =>
    tAgg c3 fun l6 =>
    tCons l6 fun c4 l7 =>
    tInt c4 .i64 fun n3 =>
    tCons l7 fun c5 l8 =>
    tBool c5 fun b2 =>
    tCons l8 fun c6 l9 =>
    tInt c6 .i64 fun n4 =>
    tCons l9 fun c7 l10 =>
    tSl c7 fun q2 q2n q2c =>
    tNil l10 <|
    tCons l5 fun c8 l11 =>
    tSl c8 fun q3 q3n q3c =>
    tCons l11 fun c9 l12 =>
    tBool c9 fun b3 =>
    tNil l12 <|
    st1 H6 ⟨s4, 0, none⟩ (.int .i64 n3) fun H7 =>
    st1 H7 ⟨s4, 1, none⟩ (.bool b2) fun H8 =>
    st1 H8 ⟨s4, 2, none⟩ (.int .i64 n4) fun H9 =>
    st1 H9 ⟨s4, 3, none⟩ (.slice q2 q2n q2c) fun H10 =>
    ldInt H10 ⟨s4, 0, none⟩ .i64 fun n5 =>
    ldBool H10 ⟨s4, 1, none⟩ fun b4 =>
    ldInt H10 ⟨s4, 2, none⟩ .i64 fun n6 =>
    ldSl H10 ⟨s4, 3, none⟩ fun q4 q4n q4c =>
    R (.returned (.tuple ⟨[(.agg ⟨[(.int .i64 n5), (.bool b4), (.int .i64 n6), (.slice q4 q4n q4c)]⟩), (.slice q3 q3n q3c), (.bool b3)]⟩)) H10) <|
  iteB ((andZ .u64 s7 (7 : Int)) == (2 : Int)) (
    callD Tryd.prog 92 [(.slice s0 s0n s0c)] H (panK R) fun v2 H11 =>
    tTup v2 fun l13 =>
    tCons l13 fun c10 l14 =>
    tInt c10 .u64 fun n7 =>
    tCons l14 fun c11 l15 =>
    tSl c11 fun q5 q5n q5c =>
    tCons l15 fun c12 l16 =>
    tBool c12 fun b5 =>
    tNil l16 <|
    iteB (!b5) (
      st1 H11 ⟨s4, 0, none⟩ (.int .i64 (0 : Int)) fun H12 =>
      st1 H12 ⟨s4, 1, none⟩ (.bool false) fun H13 =>
      st1 H13 ⟨s4, 2, none⟩ (.int .i64 (0 : Int)) fun H14 =>
      st1 H14 ⟨s4, 3, none⟩ (.slice none 0 0) fun H15 =>
      ldInt H15 ⟨s4, 0, none⟩ .i64 fun n8 =>
      ldBool H15 ⟨s4, 1, none⟩ fun b6 =>
      ldInt H15 ⟨s4, 2, none⟩ .i64 fun n9 =>
      ldSl H15 ⟨s4, 3, none⟩ fun q6 q6n q6c =>
      R (.returned (.tuple ⟨[(.agg ⟨[(.int .i64 n8), (.bool b6), (.int .i64 n9), (.slice q6 q6n q6c)]⟩), (.slice none 0 0), (.bool false)]⟩)) H15) <|
    iteB (decide (n7 > (IntKind.wrap .u64 ((q5n : Nat) : Int)))) (
      st1 H11 ⟨s4, 0, none⟩ (.int .i64 (0 : Int)) fun H16 =>
      st1 H16 ⟨s4, 1, none⟩ (.bool false) fun H17 =>
      st1 H17 ⟨s4, 2, none⟩ (.int .i64 (0 : Int)) fun H18 =>
      st1 H18 ⟨s4, 3, none⟩ (.slice none 0 0) fun H19 =>
      ldInt H19 ⟨s4, 0, none⟩ .i64 fun n10 =>
      ldBool H19 ⟨s4, 1, none⟩ fun b7 =>
      ldInt H19 ⟨s4, 2, none⟩ .i64 fun n11 =>
      ldSl H19 ⟨s4, 3, none⟩ fun q7 q7n q7c =>
      R (.returned (.tuple ⟨[(.agg ⟨[(.int .i64 n10), (.bool b7), (.int .i64 n11), (.slice q7 q7n q7c)]⟩), (.slice none 0 0), (.bool false)]⟩)) H19) <|
    L2 s4 s7 n7 q5 q5n q5c H11 R) <|
  iteB ((andZ .u64 s7 (7 : Int)) == (5 : Int)) (
    callD Tryd.prog 93 [(.slice s0 s0n s0c), (.int .i64 (4 : Int))] H (panK R) fun v3 H20 =>
    tTup v3 fun l17 =>
    tCons l17 fun c13 l18 =>
    tAgg c13 fun l19 =>
    tCons l19 fun c14 l20 =>
    tInt c14 .i64 fun n12 =>
    tCons l20 fun c15 l21 =>
    tBool c15 fun b8 =>
    tCons l21 fun c16 l22 =>
    tInt c16 .i64 fun n13 =>
    tCons l22 fun c17 l23 =>
    tSl c17 fun q8 q8n q8c =>
    tNil l23 <|
    tCons l18 fun c18 l24 =>
    tSl c18 fun q9 q9n q9c =>
    tCons l24 fun c19 l25 =>
    tBool c19 fun b9 =>
    tNil l25 <|
    st1 H20 ⟨s4, 0, none⟩ (.int .i64 n12) fun H21 =>
    st1 H21 ⟨s4, 1, none⟩ (.bool b8) fun H22 =>
    st1 H22 ⟨s4, 2, none⟩ (.int .i64 n13) fun H23 =>
    st1 H23 ⟨s4, 3, none⟩ (.slice q8 q8n q8c) fun H24 =>
    ldInt H24 ⟨s4, 0, none⟩ .i64 fun n14 =>
    ldBool H24 ⟨s4, 1, none⟩ fun b10 =>
    ldInt H24 ⟨s4, 2, none⟩ .i64 fun n15 =>
    ldSl H24 ⟨s4, 3, none⟩ fun q10 q10n q10c =>
    R (.returned (.tuple ⟨[(.agg ⟨[(.int .i64 n14), (.bool b10), (.int .i64 n15), (.slice q10 q10n q10c)]⟩), (.slice q9 q9n q9c), (.bool b9)]⟩)) H24) <|
  iteB ((andZ .u64 s7 (7 : Int)) == (3 : Int)) (
    L1 s0 s0n s0c s1 s4 s7 H R) <|
  st1 H ⟨s4, 0, none⟩ (.int .i64 (0 : Int)) fun H25 =>
  st1 H25 ⟨s4, 1, none⟩ (.bool false) fun H26 =>
  st1 H26 ⟨s4, 2, none⟩ (.int .i64 (0 : Int)) fun H27 =>
  st1 H27 ⟨s4, 3, none⟩ (.slice none 0 0) fun H28 =>
  ldInt H28 ⟨s4, 0, none⟩ .i64 fun n16 =>
  ldBool H28 ⟨s4, 1, none⟩ fun b11 =>
  ldInt H28 ⟨s4, 2, none⟩ .i64 fun n17 =>
  ldSl H28 ⟨s4, 3, none⟩ fun q11 q11n q11c =>
  R (.returned (.tuple ⟨[(.agg ⟨[(.int .i64 n16), (.bool b11), (.int .i64 n17), (.slice q11 q11n q11c)]⟩), (.slice none 0 0), (.bool false)]⟩)) H28
theorem L0_step {s0 : Option Addr} {s0n : Nat} {s0c : Nat} {s1 : Int} {s4 : Nat} {s7 : Int} {H : Heap} {R : Ending → Heap → Prop} (h : L0n s0 s0n s0c s1 s4 s7 H R) : L0 s0 s0n s0c s1 s4 s7 H R :=
  goL_of_den (an := an) (fuel := 100000) (X := L0n s0 s0n s0c s1 s4 s7 H R) mixed fn (by kernel_rfl) (fun ρ0 => by kernel_rfl) h
def L1n (s0 : Option Addr) (s0n : Nat) (s0c : Nat) (s1 : Int) (s4 : Nat) (s7 : Int) (H : Heap) (R : Ending → Heap → Prop) : Prop :=
  callD Tryd.prog 92 [(.slice s0 s0n s0c)] H (panK R) fun v H1 =>
  tTup v fun l =>
  tCons l fun c l1 =>
  tInt c .u64 fun n =>
  tCons l1 fun c1 l2 =>
  tSl c1 fun q qn qc =>
  tCons l2 fun c2 l3 =>
  tBool c2 fun b =>
  tNil l3 <|
  iteB (!b) (
    st1 H1 ⟨s4, 0, none⟩ (.int .i64 (0 : Int)) fun H2 =>
    st1 H2 ⟨s4, 1, none⟩ (.bool false) fun H3 =>
    st1 H3 ⟨s4, 2, none⟩ (.int .i64 (0 : Int)) fun H4 =>
    st1 H4 ⟨s4, 3, none⟩ (.slice none 0 0) fun H5 =>
    ldInt H5 ⟨s4, 0, none⟩ .i64 fun n1 =>
    ldBool H5 ⟨s4, 1, none⟩ fun b1 =>
    ldInt H5 ⟨s4, 2, none⟩ .i64 fun n2 =>
    ldSl H5 ⟨s4, 3, none⟩ fun q1 q1n q1c =>
    R (.returned (.tuple ⟨[(.agg ⟨[(.int .i64 n1), (.bool b1), (.int .i64 n2), (.slice q1 q1n q1c)]⟩), (.slice none 0 0), (.bool false)]⟩)) H5) <|
  iteB ((andZ .u64 n (7 : Int)) == (4 : Int)) (
    shD (3 : Int) <|
    shD (3 : Int) <|
    st1 H1 ⟨s4, 0, none⟩ (.int .i64 (0 : Int)) fun H6 =>
    st1 H6 ⟨s4, 1, none⟩ (.bool false) fun H7 =>
    st1 H7 ⟨s4, 2, none⟩ (.int .i64 (0 : Int)) fun H8 =>
    st1 H8 ⟨s4, 3, none⟩ (.slice none 0 0) fun H9 =>
    ldInt H9 ⟨s4, 0, none⟩ .i64 fun n3 =>
    ldBool H9 ⟨s4, 1, none⟩ fun b2 =>
    ldInt H9 ⟨s4, 2, none⟩ .i64 fun n4 =>
    ldSl H9 ⟨s4, 3, none⟩ fun q2 q2n q2c =>
    R (.returned (.tuple ⟨[(.agg ⟨[(.int .i64 n3), (.bool b2), (.int .i64 n4), (.slice q2 q2n q2c)]⟩), (.slice q qn qc), (.bool ((shrZ .u64 n (3 : Int)) == (shrZ .u64 s7 (3 : Int))))]⟩)) H9) <|
  callD Tryd.prog 91 [(.slice s0 s0n s0c), (.int .i64 (IntKind.wrap .i64 (s1 + (1 : Int))))] H1 (panK R) fun v1 H10 =>
  tTup v1 fun l4 =>
  tCons l4 fun c3 l5 =>
  tAgg c3 fun l6 =>
  tCons l6 fun c4 l7 =>
  tInt c4 .i64 fun n5 =>
  tCons l7 fun c5 l8 =>
  tBool c5 fun b3 =>
  tCons l8 fun c6 l9 =>
  tInt c6 .i64 fun n6 =>
  tCons l9 fun c7 l10 =>
  tSl c7 fun q3 q3n q3c =>
  tNil l10 <|
  tCons l5 fun c8 l11 =>
  tSl c8 fun q4 q4n q4c =>
  tCons l11 fun c9 l12 =>
  tBool c9 fun b4 =>
  tNil l12 <|
  iteB (!b4) (
    st1 H10 ⟨s4, 0, none⟩ (.int .i64 (0 : Int)) fun H11 =>
    st1 H11 ⟨s4, 1, none⟩ (.bool false) fun H12 =>
    st1 H12 ⟨s4, 2, none⟩ (.int .i64 (0 : Int)) fun H13 =>
    st1 H13 ⟨s4, 3, none⟩ (.slice none 0 0) fun H14 =>
    ldInt H14 ⟨s4, 0, none⟩ .i64 fun n7 =>
    ldBool H14 ⟨s4, 1, none⟩ fun b5 =>
    ldInt H14 ⟨s4, 2, none⟩ .i64 fun n8 =>
    ldSl H14 ⟨s4, 3, none⟩ fun q5 q5n q5c =>
    R (.returned (.tuple ⟨[(.agg ⟨[(.int .i64 n7), (.bool b5), (.int .i64 n8), (.slice q5 q5n q5c)]⟩), (.slice none 0 0), (.bool false)]⟩)) H14) <|
  L1 q4 q4n q4c s1 s4 s7 H10 R
theorem L1_step {s0 : Option Addr} {s0n : Nat} {s0c : Nat} {s1 : Int} {s4 : Nat} {s7 : Int} {H : Heap} {R : Ending → Heap → Prop} (h : L1n s0 s0n s0c s1 s4 s7 H R) : L1 s0 s0n s0c s1 s4 s7 H R :=
  goL_of_den (an := an) (fuel := 100000) (X := L1n s0 s0n s0c s1 s4 s7 H R) mixed fn (by kernel_rfl) (fun ρ0 => by kernel_rfl) h
def L2n (s4 : Nat) (s7 : Int) (s12 : Int) (s13 : Option Addr) (s13n : Nat) (s13c : Nat) (H : Heap) (R : Ending → Heap → Prop) : Prop :=
  shD (3 : Int) <|
  bndD s12 s13c fun k =>
  bndD s12 s13n fun k1 =>
  newD H (.cells ⟨[]⟩ 5) fun r H1 =>
  apD H1 1 1 [(.int .u8 (0 : Int))] 5 (some ⟨r, 0, none⟩) 0 0 (slP s13 0 s13c 1) k fun q qn qc H2 =>
  st1 H2 ⟨s4, 0, none⟩ (.int .i64 (IntKind.wrap .i64 (shrZ .u64 s7 (3 : Int)))) fun H3 =>
  st1 H3 ⟨s4, 1, none⟩ (.bool true) fun H4 =>
  st1 H4 ⟨s4, 2, none⟩ (.int .i64 (0 : Int)) fun H5 =>
  st1 H5 ⟨s4, 3, none⟩ (.slice q qn qc) fun H6 =>
  ldInt H6 ⟨s4, 0, none⟩ .i64 fun n =>
  ldBool H6 ⟨s4, 1, none⟩ fun b =>
  ldInt H6 ⟨s4, 2, none⟩ .i64 fun n1 =>
  ldSl H6 ⟨s4, 3, none⟩ fun q1 q1n q1c =>
  R (.returned (.tuple ⟨[(.agg ⟨[(.int .i64 n), (.bool b), (.int .i64 n1), (.slice q1 q1n q1c)]⟩), (.slice (slP s13 k1 s13c 1) (s13n - k1) (s13c - k1)), (.bool true)]⟩)) H6
theorem L2_step {s4 : Nat} {s7 : Int} {s12 : Int} {s13 : Option Addr} {s13n : Nat} {s13c : Nat} {H : Heap} {R : Ending → Heap → Prop} (h : L2n s4 s7 s12 s13 s13n s13c H R) : L2 s4 s7 s12 s13 s13n s13c H R :=
  goL_of_den (an := an) (fuel := 100000) (X := L2n s4 s7 s12 s13 s13n s13c H R) mixed fn (by kernel_rfl) (fun ρ0 => by kernel_rfl) h
def go (s0 : Option Addr) (s0n : Nat) (s0c : Nat) (s1 : Int) (H : Heap) (R : Ending → Heap → Prop) : Prop :=
  newD H (.cells ⟨[(.int .i64 (0 : Int)), (.bool false), (.int .i64 (0 : Int)), (.slice none 0 0)]⟩ 161) fun r H1 =>
  callD Tryd.prog 92 [(.slice s0 s0n s0c)] H1 (panK R) fun v H2 =>
  tTup v fun l =>
  tCons l fun c l1 =>
  tInt c .u64 fun n =>
  tCons l1 fun c1 l2 =>
  tSl c1 fun q qn qc =>
  tCons l2 fun c2 l3 =>
  tBool c2 fun b =>
  tNil l3 <|
  iteB (!b) (
    st1 H2 ⟨r, 0, none⟩ (.int .i64 (0 : Int)) fun H3 =>
    st1 H3 ⟨r, 1, none⟩ (.bool false) fun H4 =>
    st1 H4 ⟨r, 2, none⟩ (.int .i64 (0 : Int)) fun H5 =>
    st1 H5 ⟨r, 3, none⟩ (.slice none 0 0) fun H6 =>
    ldInt H6 ⟨r, 0, none⟩ .i64 fun n1 =>
    ldBool H6 ⟨r, 1, none⟩ fun b1 =>
    ldInt H6 ⟨r, 2, none⟩ .i64 fun n2 =>
    ldSl H6 ⟨r, 3, none⟩ fun q1 q1n q1c =>
    R (.returned (.tuple ⟨[(.agg ⟨[(.int .i64 n1), (.bool b1), (.int .i64 n2), (.slice q1 q1n q1c)]⟩), (.slice none 0 0), (.bool false)]⟩)) H6) <|
  shD (3 : Int) <|
  iteB ((shrZ .u64 n (3 : Int)) == (0 : Int)) (
    st1 H2 ⟨r, 0, none⟩ (.int .i64 (0 : Int)) fun H7 =>
    st1 H7 ⟨r, 1, none⟩ (.bool false) fun H8 =>
    st1 H8 ⟨r, 2, none⟩ (.int .i64 (0 : Int)) fun H9 =>
    st1 H9 ⟨r, 3, none⟩ (.slice none 0 0) fun H10 =>
    ldInt H10 ⟨r, 0, none⟩ .i64 fun n3 =>
    ldBool H10 ⟨r, 1, none⟩ fun b2 =>
    ldInt H10 ⟨r, 2, none⟩ .i64 fun n4 =>
    ldSl H10 ⟨r, 3, none⟩ fun q2 q2n q2c =>
    R (.returned (.tuple ⟨[(.agg ⟨[(.int .i64 n3), (.bool b2), (.int .i64 n4), (.slice q2 q2n q2c)]⟩), (.slice none 0 0), (.bool false)]⟩)) H10) <|
  shD (3 : Int) <|
  iteB (decide ((shrZ .u64 n (3 : Int)) > (536870911 : Int))) (
    st1 H2 ⟨r, 0, none⟩ (.int .i64 (0 : Int)) fun H11 =>
    st1 H11 ⟨r, 1, none⟩ (.bool false) fun H12 =>
    st1 H12 ⟨r, 2, none⟩ (.int .i64 (0 : Int)) fun H13 =>
    st1 H13 ⟨r, 3, none⟩ (.slice none 0 0) fun H14 =>
    ldInt H14 ⟨r, 0, none⟩ .i64 fun n5 =>
    ldBool H14 ⟨r, 1, none⟩ fun b3 =>
    ldInt H14 ⟨r, 2, none⟩ .i64 fun n6 =>
    ldSl H14 ⟨r, 3, none⟩ fun q3 q3n q3c =>
    R (.returned (.tuple ⟨[(.agg ⟨[(.int .i64 n5), (.bool b3), (.int .i64 n6), (.slice q3 q3n q3c)]⟩), (.slice none 0 0), (.bool false)]⟩)) H14) <|
  iteB (decide (s1 > (100 : Int))) (
    st1 H2 ⟨r, 0, none⟩ (.int .i64 (0 : Int)) fun H15 =>
    st1 H15 ⟨r, 1, none⟩ (.bool false) fun H16 =>
    st1 H16 ⟨r, 2, none⟩ (.int .i64 (0 : Int)) fun H17 =>
    st1 H17 ⟨r, 3, none⟩ (.slice none 0 0) fun H18 =>
    ldInt H18 ⟨r, 0, none⟩ .i64 fun n7 =>
    ldBool H18 ⟨r, 1, none⟩ fun b4 =>
    ldInt H18 ⟨r, 2, none⟩ .i64 fun n8 =>
    ldSl H18 ⟨r, 3, none⟩ fun q4 q4n q4c =>
    R (.returned (.tuple ⟨[(.agg ⟨[(.int .i64 n7), (.bool b4), (.int .i64 n8), (.slice q4 q4n q4c)]⟩), (.slice none 0 0), (.bool false)]⟩)) H18) <|
  L0 q qn qc s1 r n H2 R
theorem calls {s0 : Option Addr} {s0n : Nat} {s0c : Nat} {s1 : Int} {H : Heap} {R : Ending → Heap → Prop} (h : go s0 s0n s0c s1 H R) : CallsH Tryd.prog 91 ⟨[(.slice s0 s0n s0c), (.int .i64 s1)]⟩ H R :=
  callsH_of_den (an := an) (fuel := 100000) (X := go s0 s0n s0c s1 H R) (c := body) mixed fn (by kernel_rfl) (by kernel_rfl) (by kernel_rfl) ok (by kernel_rfl) h
end F91
/-! ### 92 "pub-stadtholder/pub/stand/proto.TakeVarint" -/
namespace F92
def an : Ann := { kinds := [], taus := [(9, [[0, 1, 2, 3, 4, 5, 6, 7]])], pairs := [], lab := [(40000004, [0, 5, 6]), (40000006, [0, 5, 6]), (60000008, [0, 5, 6])] }
noncomputable def body : Code := (Tryd.f92.body).getD .skip
theorem fn : Tryd.prog.funcs[92]? = some Tryd.f92 := by kernel_rfl
theorem ok : codeOk an 48 body = true := by kernel_rfl
noncomputable def L0t : List Item := [.code (sub [1, 1, 0, 1, 0, 0] body), .inLoop (sub [1, 1, 0, 1, 0, 0] body), .inBlock 0, .code (sub [1, 1, 1] body)]
def L0 (b : Option Addr) (bn : Nat) (bc : Nat) (n : Int) (i : Int) (H : Heap) (R : Ending → Heap → Prop) : Prop :=
  GoL Tryd.prog 92 48 L0t [0, 5, 6] [(.slice b bn bc), (.int .u64 n), (.int .i64 i)] H R
noncomputable def L1t : List Item := [.code (sub [1, 1, 0, 1, 0, 0, 1] body), .inLoop (sub [1, 1, 0, 1, 0, 0] body), .inBlock 0, .code (sub [1, 1, 1] body)]
def L1 (b : Option Addr) (bn : Nat) (bc : Nat) (n : Int) (i : Int) (H : Heap) (R : Ending → Heap → Prop) : Prop :=
  GoL Tryd.prog 92 48 L1t [0, 5, 6] [(.slice b bn bc), (.int .u64 n), (.int .i64 i)] H R
noncomputable def L2t : List Item := [.code (sub [1, 1, 0, 1, 0, 0, 1, 0, 0, 1] body), .inBlock 1, .code (sub [1, 1, 0, 1, 0, 0, 1, 1] body), .inLoop (sub [1, 1, 0, 1, 0, 0] body), .inBlock 0, .code (sub [1, 1, 1] body)]
def L2 (b : Option Addr) (bn : Nat) (bc : Nat) (n : Int) (i : Int) (H : Heap) (R : Ending → Heap → Prop) : Prop :=
  GoL Tryd.prog 92 48 L2t [0, 5, 6] [(.slice b bn bc), (.int .u64 n), (.int .i64 i)] H R
def L0n (b : Option Addr) (bn : Nat) (bc : Nat) (n : Int) (i : Int) (H : Heap) (R : Ending → Heap → Prop) : Prop :=
  iteB (decide (i < ((bn : Nat) : Int))) (
    iteB (decide (i < (10 : Int))) (
      L1 b bn bc n i H R) <|
    R (.returned (.tuple ⟨[(.int .u64 (0 : Int)), (.slice none 0 0), (.bool false)]⟩)) H) <|
  R (.returned (.tuple ⟨[(.int .u64 (0 : Int)), (.slice none 0 0), (.bool false)]⟩)) H
theorem L0_step {b : Option Addr} {bn : Nat} {bc : Nat} {n : Int} {i : Int} {H : Heap} {R : Ending → Heap → Prop} (h : L0n b bn bc n i H R) : L0 b bn bc n i H R :=
  goL_of_den (an := an) (fuel := 100000) (X := L0n b bn bc n i H R) mixed fn (by kernel_rfl) (fun ρ0 => by kernel_rfl) h
def L1n (b : Option Addr) (bn : Nat) (bc : Nat) (n : Int) (i : Int) (H : Heap) (R : Ending → Heap → Prop) : Prop :=
  iteB (i == (9 : Int)) (
    idxD b bn i fun a =>
    ldInt H (Addr.add a (Int.toNat i * 1)) .u8 fun n1 =>
    iteB (decide (n1 > (1 : Int))) (
      R (.returned (.tuple ⟨[(.int .u64 (0 : Int)), (.slice none 0 0), (.bool false)]⟩)) H) <|
    L2 b bn bc n i H R) <|
  L2 b bn bc n i H R
theorem L1_step {b : Option Addr} {bn : Nat} {bc : Nat} {n : Int} {i : Int} {H : Heap} {R : Ending → Heap → Prop} (h : L1n b bn bc n i H R) : L1 b bn bc n i H R :=
  goL_of_den (an := an) (fuel := 100000) (X := L1n b bn bc n i H R) mixed fn (by kernel_rfl) (fun ρ0 => by kernel_rfl) h
def L2n (b : Option Addr) (bn : Nat) (bc : Nat) (n : Int) (i : Int) (H : Heap) (R : Ending → Heap → Prop) : Prop :=
  idxD b bn i fun a =>
  ldInt H (Addr.add a (Int.toNat i * 1)) .u8 fun n1 =>
  shD (IntKind.wrap .u64 ((7 : Int) * (IntKind.wrap .u64 i))) <|
  idxD b bn i fun a1 =>
  ldInt H (Addr.add a1 (Int.toNat i * 1)) .u8 fun n2 =>
  iteB (decide (n2 < (128 : Int))) (
    bndD (IntKind.wrap .i64 (i + (1 : Int))) bn fun k =>
    R (.returned (.tuple ⟨[(.int .u64 (orZ .u64 n (shlZ .u64 (IntKind.wrap .u64 (andZ .u8 n1 (127 : Int))) (IntKind.wrap .u64 ((7 : Int) * (IntKind.wrap .u64 i)))))), (.slice (slP b k bc 1) (bn - k) (bc - k)), (.bool true)]⟩)) H) <|
  L0 b bn bc (orZ .u64 n (shlZ .u64 (IntKind.wrap .u64 (andZ .u8 n1 (127 : Int))) (IntKind.wrap .u64 ((7 : Int) * (IntKind.wrap .u64 i))))) (IntKind.wrap .i64 (i + (1 : Int))) H R
theorem L2_step {b : Option Addr} {bn : Nat} {bc : Nat} {n : Int} {i : Int} {H : Heap} {R : Ending → Heap → Prop} (h : L2n b bn bc n i H R) : L2 b bn bc n i H R :=
  goL_of_den (an := an) (fuel := 100000) (X := L2n b bn bc n i H R) mixed fn (by kernel_rfl) (fun ρ0 => by kernel_rfl) h
def go (b : Option Addr) (bn : Nat) (bc : Nat) (H : Heap) (R : Ending → Heap → Prop) : Prop :=
  L0 b bn bc (0 : Int) (0 : Int) H R
theorem calls {b : Option Addr} {bn : Nat} {bc : Nat} {H : Heap} {R : Ending → Heap → Prop} (h : go b bn bc H R) : CallsH Tryd.prog 92 ⟨[(.slice b bn bc)]⟩ H R :=
  callsH_of_den (an := an) (fuel := 100000) (X := go b bn bc H R) (c := body) mixed fn (by kernel_rfl) (by kernel_rfl) (by kernel_rfl) ok (by kernel_rfl) h
end F92
/-! ### 93 "pub-stadtholder/pub/stand/proto.skip" -/
namespace F93
def an : Ann := { kinds := [], taus := [(3, [[0, 1, 2, 3, 4, 5, 6]])], pairs := [], lab := [] }
noncomputable def body : Code := (Tryd.f93.body).getD .skip
theorem fn : Tryd.prog.funcs[93]? = some Tryd.f93 := by kernel_rfl
theorem ok : codeOk an 16 body = true := by kernel_rfl
def go (b : Option Addr) (bn : Nat) (bc : Nat) (n : Int) (H : Heap) (R : Ending → Heap → Prop) : Prop :=
  newD H (.cells ⟨[(.int .i64 (0 : Int)), (.bool false), (.int .i64 (0 : Int)), (.slice none 0 0)]⟩ 161) fun r H1 =>
  iteB (decide (((bn : Nat) : Int) < n)) (
    st1 H1 ⟨r, 0, none⟩ (.int .i64 (0 : Int)) fun H2 =>
    st1 H2 ⟨r, 1, none⟩ (.bool false) fun H3 =>
    st1 H3 ⟨r, 2, none⟩ (.int .i64 (0 : Int)) fun H4 =>
    st1 H4 ⟨r, 3, none⟩ (.slice none 0 0) fun H5 =>
    ldInt H5 ⟨r, 0, none⟩ .i64 fun n1 =>
    ldBool H5 ⟨r, 1, none⟩ fun b1 =>
    ldInt H5 ⟨r, 2, none⟩ .i64 fun n2 =>
    ldSl H5 ⟨r, 3, none⟩ fun q qn qc =>
    R (.returned (.tuple ⟨[(.agg ⟨[(.int .i64 n1), (.bool b1), (.int .i64 n2), (.slice q qn qc)]⟩), (.slice none 0 0), (.bool false)]⟩)) H5) <|
  bndD n bn fun k =>
  st1 H1 ⟨r, 0, none⟩ (.int .i64 (0 : Int)) fun H6 =>
  st1 H6 ⟨r, 1, none⟩ (.bool false) fun H7 =>
  st1 H7 ⟨r, 2, none⟩ (.int .i64 (0 : Int)) fun H8 =>
  st1 H8 ⟨r, 3, none⟩ (.slice none 0 0) fun H9 =>
  ldInt H9 ⟨r, 0, none⟩ .i64 fun n3 =>
  ldBool H9 ⟨r, 1, none⟩ fun b2 =>
  ldInt H9 ⟨r, 2, none⟩ .i64 fun n4 =>
  ldSl H9 ⟨r, 3, none⟩ fun q1 q1n q1c =>
  R (.returned (.tuple ⟨[(.agg ⟨[(.int .i64 n3), (.bool b2), (.int .i64 n4), (.slice q1 q1n q1c)]⟩), (.slice (slP b k bc 1) (bn - k) (bc - k)), (.bool true)]⟩)) H9
theorem calls {b : Option Addr} {bn : Nat} {bc : Nat} {n : Int} {H : Heap} {R : Ending → Heap → Prop} (h : go b bn bc n H R) : CallsH Tryd.prog 93 ⟨[(.slice b bn bc), (.int .i64 n)]⟩ H R :=
  callsH_of_den (an := an) (fuel := 100000) (X := go b bn bc n H R) (c := body) mixed fn (by kernel_rfl) (by kernel_rfl) (by kernel_rfl) ok (by kernel_rfl) h
end F93
/-! ### 94 "(*pub-stadtholder/pub/stand/fileutil.FileBufReader).Read" -/
namespace F94
def an : Ann := { kinds := [], taus := [(1, [[0, 1, 2, 4, 5, 6, 3, 7, 8, 9]]), (2, [[1, 0, 2]]), (3, [[0, 1, 2, 3, 5, 6, 7, 4, 8, 9, 10, 11]])], pairs := [], lab := [] }
noncomputable def body : Code := (Tryd.f94.body).getD .skip
theorem fn : Tryd.prog.funcs[94]? = some Tryd.f94 := by kernel_rfl
theorem ok : codeOk an 39 body = true := by kernel_rfl
def go (r : Option Addr) (p : Option Addr) (pn : Nat) (pc : Nat) (H : Heap) (R : Ending → Heap → Prop) : Prop :=
  nilD r fun a =>
  nilD r fun a1 =>
  ldInt H (Addr.add a 1) .i64 fun n =>
  ldSl H a1 fun q qn qc =>
  iteB (decide (n ≥ ((qn : Nat) : Int))) (
    ldIf H ⟨0, 0, none⟩ fun i =>
    R (.returned (.tuple ⟨[(.int .i64 (0 : Int)), (IV.v i)]⟩)) H) <|
  nilD r fun a2 =>
  nilD r fun a3 =>
  ldSl H a2 fun q1 q1n q1c =>
  ldInt H (Addr.add a3 1) .i64 fun n1 =>
  bndD n1 q1n fun k =>
  cpD H 1 p pn (slP q1 k q1c 1) (q1n - k) fun k1 H1 =>
  nilD r fun a4 =>
  ldInt H1 (Addr.add a4 1) .i64 fun n2 =>
  nilD r fun a5 =>
  st1 H1 (Addr.add a5 1) (.int .i64 (IntKind.wrap .i64 (n2 + ((k1 : Nat) : Int)))) fun H2 =>
  R (.returned (.tuple ⟨[(.int .i64 ((k1 : Nat) : Int)), .nilIface]⟩)) H2
theorem calls {r : Option Addr} {p : Option Addr} {pn : Nat} {pc : Nat} {H : Heap} {R : Ending → Heap → Prop} (h : go r p pn pc H R) : CallsH Tryd.prog 94 ⟨[(.pointer r), (.slice p pn pc)]⟩ H R :=
  callsH_of_den (an := an) (fuel := 100000) (X := go r p pn pc H R) (c := body) mixed fn (by kernel_rfl) (by kernel_rfl) (by kernel_rfl) ok (by kernel_rfl) h
end F94
end Go.Proofs.YtkejocbhmcphiaaDoor
