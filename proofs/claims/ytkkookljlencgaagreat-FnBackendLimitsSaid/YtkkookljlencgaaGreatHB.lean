/- What functions of this seat do, each proved by a walk; no condition. -/
import Derived.Test.YtkkookljlencgaaGreatDenZC
import Derived.Test.YtkkookljlencgaaGreatProg
import Derived.KernelRfl
set_option linter.unusedVariables false
namespace Go.Proofs.YtkkookljlencgaaGreat
open Go Go.Den Go.Proofs
theorem mixed : Tryz.prog.follows .mixedOrders = true := by kernel_rfl
/-! ### 11 "pub-stadtholder/pub/stand/bolt.Open" -/
namespace F11
def an : Ann := { kinds := [], taus := [], pairs := [], lab := [] }
noncomputable def body : Code := (Tryz.f11.body).getD .skip
theorem fn : Tryz.prog.funcs[11]? = some Tryz.f11 := by kernel_rfl
theorem ok : codeOk an 3 body = true := by kernel_rfl
def go  (H : Heap) (R : Ending → Heap → Prop) : Prop :=
  newD H (.cells ⟨[(.slice none 0 0)]⟩ 68) fun r H1 =>
  R (.returned (.pointer (some ⟨r, 0, none⟩))) H1
theorem calls  {H : Heap} {R : Ending → Heap → Prop} (h : go  H R) : CallsH Tryz.prog 11 ⟨[]⟩ H R :=
  callsH_of_den (an := an) (fuel := 100000) (X := go  H R) (c := body) mixed fn (by kernel_rfl) (by kernel_rfl) (by kernel_rfl) ok (by kernel_rfl) h
end F11
/-! ### 12 "(*pub-stadtholder/impl.vault).open" -/
namespace F12
def an : Ann := { kinds := [], taus := [(0, [[0, 1, 2, 3, 5, 6, 7, 4, 8, 9, 10, 11, 12]]), (7, [[0, 1, 3, 4, 5, 2, 6]])], pairs := [], lab := [(40000006, [0, 2, 3])] }
noncomputable def body : Code := (Tryz.f12.body).getD .skip
theorem fn : Tryz.prog.funcs[12]? = some Tryz.f12 := by kernel_rfl
theorem ok : codeOk an 51 body = true := by kernel_rfl
noncomputable def L0t : List Item := [.code (sub [1, 1, 1, 1, 0, 1, 0, 0] body), .inLoop (sub [1, 1, 1, 1, 0, 1, 0, 0] body), .inBlock 0, .code (sub [1, 1, 1, 1, 1] body)]
def L0 (x : Option Addr) (tx : IV) (i : Int) (H : Heap) (R : Ending → Heap → Prop) : Prop :=
  GoL Tryz.prog 12 51 L0t [0, 2, 3] [(.pointer x), (IV.v tx), (.int .i64 i)] H R
def L0n (x : Option Addr) (tx : IV) (i : Int) (H : Heap) (R : Ending → Heap → Prop) : Prop :=
  iteB (decide (i < (4 : Int))) (
    nilM Tryz.prog "UnsafeCreateBucket" ⟨[(IV.v tx)]⟩ <|
    callD Tryz.prog 24 [(.int .i64 i)] H (panK R) fun v H1 =>
    tIf v fun i1 =>
    callI Tryz.prog (IV.v tx) "UnsafeCreateBucket" [(IV.v i1)] H1 (panK R) fun v1 H2 =>
    tTup v1 fun l =>
    tNil l <|
    L0 x tx (IntKind.wrap .i64 (i + (1 : Int))) H2 R) <|
  callI Tryz.prog (IV.v tx) "Unlock" [] H (panK R) fun v2 H3 =>
  tTup v2 fun l1 =>
  tNil l1 <|
  nilD x fun a =>
  ldIf H3 (Addr.add a 2) fun i2 =>
  callI Tryz.prog (IV.v i2) "ForceCommit" [] H3 (panK R) fun v3 H4 =>
  tTup v3 fun l2 =>
  tNil l2 <|
  callI Tryz.prog (IV.v tx) "LockOutsideApply" [] H4 (panK R) fun v4 H5 =>
  tTup v4 fun l3 =>
  tNil l3 <|
  R (.returned (.tuple ⟨[]⟩)) H5
theorem L0_step {x : Option Addr} {tx : IV} {i : Int} {H : Heap} {R : Ending → Heap → Prop} (h : L0n x tx i H R) : L0 x tx i H R :=
  goL_of_den (an := an) (fuel := 100000) (X := L0n x tx i H R) mixed fn (by kernel_rfl) (fun ρ0 => by kernel_rfl) h
def go (x : Option Addr) (H : Heap) (R : Ending → Heap → Prop) : Prop :=
  nilD x fun a =>
  nilD x fun a1 =>
  ldPtr H (Addr.add a 1) fun p =>
  ldInt H a1 .i64 fun n =>
  callD Tryz.prog 23 [(.pointer p), (.int .i64 n)] H (panK R) fun v H1 =>
  tIf v fun i =>
  nilD x fun a2 =>
  guardB (isCell (IV.v i)) <|
  st1 H1 (Addr.add a2 2) (IV.v i) fun H2 =>
  nilD x fun a3 =>
  ldSl H2 (Addr.add a3 3) fun q qn qc =>
  nilD x fun a4 =>
  st1 H2 (Addr.add a4 4) (.int .i64 ((qn : Nat) : Int)) fun H3 =>
  nilD x fun a5 =>
  ldIf H3 (Addr.add a5 2) fun i1 =>
  callI Tryz.prog (IV.v i1) "BatchTx" [] H3 (panK R) fun v1 H4 =>
  tIf v1 fun i2 =>
  callI Tryz.prog (IV.v i2) "LockOutsideApply" [] H4 (panK R) fun v2 H5 =>
  tTup v2 fun l =>
  tNil l <|
  L0 x i2 (0 : Int) H5 R
theorem calls {x : Option Addr} {H : Heap} {R : Ending → Heap → Prop} (h : go x H R) : CallsH Tryz.prog 12 ⟨[(.pointer x)]⟩ H R :=
  callsH_of_den (an := an) (fuel := 100000) (X := go x H R) (c := body) mixed fn (by kernel_rfl) (by kernel_rfl) (by kernel_rfl) ok (by kernel_rfl) h
end F12
/-! ### 23 "pub-stadtholder/pub/etcdserver/storage/backend.ZzOpen" -/
namespace F23
def an : Ann := { kinds := [], taus := [], pairs := [], lab := [] }
noncomputable def body : Code := (Tryz.f23.body).getD .skip
theorem fn : Tryz.prog.funcs[23]? = some Tryz.f23 := by kernel_rfl
theorem ok : codeOk an 9 body = true := by kernel_rfl
def go (db : Option Addr) (batchLimit : Int) (H : Heap) (R : Ending → Heap → Prop) : Prop :=
  callD Tryz.prog 31 [(.pointer db), (.int .i64 batchLimit)] H (panK R) fun v H1 =>
  tPtr v fun p =>
  R (.returned (.iface 97 (.pointer p))) H1
theorem calls {db : Option Addr} {batchLimit : Int} {H : Heap} {R : Ending → Heap → Prop} (h : go db batchLimit H R) : CallsH Tryz.prog 23 ⟨[(.pointer db), (.int .i64 batchLimit)]⟩ H R :=
  callsH_of_den (an := an) (fuel := 100000) (X := go db batchLimit H R) (c := body) mixed fn (by kernel_rfl) (by kernel_rfl) (by kernel_rfl) ok (by kernel_rfl) h
end F23
/-! ### 24 "pub-stadtholder/impl.bucket" -/
namespace F24
def an : Ann := { kinds := [], taus := [], pairs := [], lab := [] }
noncomputable def body : Code := (Tryz.f24.body).getD .skip
theorem fn : Tryz.prog.funcs[24]? = some Tryz.f24 := by kernel_rfl
theorem ok : codeOk an 14 body = true := by kernel_rfl
def go (n : Int) (H : Heap) (R : Ending → Heap → Prop) : Prop :=
  iteB (n == (1 : Int)) (
    callD Tryz.prog 32 [] H (panK R) fun v H1 =>
    tIf v fun i =>
    R (.returned (IV.v i)) H1) <|
  iteB (n == (2 : Int)) (
    callD Tryz.prog 33 [] H (panK R) fun v1 H2 =>
    tIf v1 fun i1 =>
    R (.returned (IV.v i1)) H2) <|
  iteB (n == (3 : Int)) (
    callD Tryz.prog 34 [] H (panK R) fun v2 H3 =>
    tIf v2 fun i2 =>
    R (.returned (IV.v i2)) H3) <|
  callD Tryz.prog 35 [] H (panK R) fun v3 H4 =>
  tIf v3 fun i3 =>
  R (.returned (IV.v i3)) H4
theorem calls {n : Int} {H : Heap} {R : Ending → Heap → Prop} (h : go n H R) : CallsH Tryz.prog 24 ⟨[(.int .i64 n)]⟩ H R :=
  callsH_of_den (an := an) (fuel := 100000) (X := go n H R) (c := body) mixed fn (by kernel_rfl) (by kernel_rfl) (by kernel_rfl) ok (by kernel_rfl) h
end F24
/-! ### 25 "pub-stadtholder/impl.bytesOf" -/
namespace F25
def an : Ann := { kinds := [(3001, .loud)], taus := [], pairs := [], lab := [] }
noncomputable def body : Code := (Tryz.f25.body).getD .skip
theorem fn : Tryz.prog.funcs[25]? = some Tryz.f25 := by kernel_rfl
theorem ok : codeOk an 7 body = true := by kernel_rfl
def go (s : ByteArray) (H : Heap) (R : Ending → Heap → Prop) : Prop :=
  iteB (eqS s (ByteArray.mk #[])) (
    R (.returned (.slice none 0 0)) H) <|
  sbD H 5 s fun r c H1 =>
  R (.returned (.slice (some ⟨r, 0, none⟩) (ByteArray.size s) c)) H1
theorem calls {s : ByteArray} {H : Heap} {R : Ending → Heap → Prop} (h : go s H R) : CallsH Tryz.prog 25 ⟨[(.string s)]⟩ H R :=
  callsH_of_den (an := an) (fuel := 100000) (X := go s H R) (c := body) mixed fn (by kernel_rfl) (by kernel_rfl) (by kernel_rfl) ok (by kernel_rfl) h
end F25
/-! ### 26 "pub-stadtholder/impl.texts" -/
namespace F26
def an : Ann := { kinds := [(5005, .read)], taus := [], pairs := [], lab := [(40000004, [0, 3, 4])] }
noncomputable def body : Code := (Tryz.f26.body).getD .skip
theorem fn : Tryz.prog.funcs[26]? = some Tryz.f26 := by kernel_rfl
theorem ok : codeOk an 20 body = true := by kernel_rfl
noncomputable def L0t : List Item := [.code (sub [1, 1, 0, 1, 0, 0] body), .inLoop (sub [1, 1, 0, 1, 0, 0] body), .inBlock 0, .code (sub [1, 1, 1] body)]
def L0 (l : Option Addr) (ln : Nat) (lc : Nat) (out : Option Addr) (outn : Nat) (outc : Nat) (i : Int) (H : Heap) (R : Ending → Heap → Prop) : Prop :=
  GoL Tryz.prog 26 20 L0t [0, 3, 4] [(.slice l ln lc), (.slice out outn outc), (.int .i64 i)] H R
def L0n (l : Option Addr) (ln : Nat) (lc : Nat) (out : Option Addr) (outn : Nat) (outc : Nat) (i : Int) (H : Heap) (R : Ending → Heap → Prop) : Prop :=
  iteB (decide (i < ((ln : Nat) : Int))) (
    idxD l ln i fun a =>
    ldSl H (Addr.add a (Int.toNat i * 1)) fun q qn qc =>
    bsD H q qn fun s =>
    newD H (.cells ⟨[(.string s)]⟩ 9) fun r H1 =>
    apD H1 1 16 [(.string (ByteArray.mk #[]))] 9 out outn outc (some ⟨r, 0, none⟩) 1 fun q1 q1n q1c H2 =>
    L0 l ln lc q1 q1n q1c (IntKind.wrap .i64 (i + (1 : Int))) H2 R) <|
  R (.returned (.slice out outn outc)) H
theorem L0_step {l : Option Addr} {ln : Nat} {lc : Nat} {out : Option Addr} {outn : Nat} {outc : Nat} {i : Int} {H : Heap} {R : Ending → Heap → Prop} (h : L0n l ln lc out outn outc i H R) : L0 l ln lc out outn outc i H R :=
  goL_of_den (an := an) (fuel := 100000) (X := L0n l ln lc out outn outc i H R) mixed fn (by kernel_rfl) (fun ρ0 => by kernel_rfl) h
def go (l : Option Addr) (ln : Nat) (lc : Nat) (H : Heap) (R : Ending → Heap → Prop) : Prop :=
  L0 l ln lc none 0 0 (0 : Int) H R
theorem calls {l : Option Addr} {ln : Nat} {lc : Nat} {H : Heap} {R : Ending → Heap → Prop} (h : go l ln lc H R) : CallsH Tryz.prog 26 ⟨[(.slice l ln lc)]⟩ H R :=
  callsH_of_den (an := an) (fuel := 100000) (X := go l ln lc H R) (c := body) mixed fn (by kernel_rfl) (by kernel_rfl) (by kernel_rfl) ok (by kernel_rfl) h
end F26
/-! ### 31 "pub-stadtholder/pub/etcdserver/storage/backend.newBackend" -/
namespace F31
def an : Ann := { kinds := [], taus := [], pairs := [], lab := [] }
noncomputable def body : Code := (Tryz.f31.body).getD .skip
theorem fn : Tryz.prog.funcs[31]? = some Tryz.f31 := by kernel_rfl
theorem ok : codeOk an 27 body = true := by kernel_rfl
def go (db : Option Addr) (batchLimit : Int) (H : Heap) (R : Ending → Heap → Prop) : Prop :=
  newD H (.map #[] 0) fun r H1 =>
  newD H1 (.map #[] 0) fun r1 H2 =>
  newD H2 (.cells ⟨[]⟩ 110) fun r2 H3 =>
  newD H3 (.cells ⟨[]⟩ 112) fun r3 H4 =>
  newD H4 (.cells ⟨[(.map (some r)), (.int .u64 (0 : Int)), (.pointer (some ⟨r3, 0, none⟩)), (.pointer none), (.map (some r1)), (.pointer (some ⟨r2, 0, none⟩))]⟩ 117) fun r4 H5 =>
  newD H5 (.cells ⟨[(.int .i64 (0 : Int)), (.pointer db), (.int .i64 batchLimit), (.pointer none), (.pointer (some ⟨r4, 0, none⟩)), (.pointer none), (.int .u64 (0 : Int)), .nilIface, .nilFunc, (.pointer none)]⟩ 127) fun r5 H6 =>
  callD Tryz.prog 36 [(.pointer (some ⟨r5, 0, none⟩))] H6 (panK R) fun v H7 =>
  tPtr v fun p =>
  st1 H7 ⟨r5, 3, none⟩ (.pointer p) fun H8 =>
  R (.returned (.pointer (some ⟨r5, 0, none⟩))) H8
theorem calls {db : Option Addr} {batchLimit : Int} {H : Heap} {R : Ending → Heap → Prop} (h : go db batchLimit H R) : CallsH Tryz.prog 31 ⟨[(.pointer db), (.int .i64 batchLimit)]⟩ H R :=
  callsH_of_den (an := an) (fuel := 100000) (X := go db batchLimit H R) (c := body) mixed fn (by kernel_rfl) (by kernel_rfl) (by kernel_rfl) ok (by kernel_rfl) h
end F31
/-! ### 32 "pub-stadtholder/pub/etcdserver/storage/schema.Lease" -/
namespace F32
def an : Ann := { kinds := [], taus := [], pairs := [], lab := [] }
noncomputable def body : Code := (Tryz.f32.body).getD .skip
theorem fn : Tryz.prog.funcs[32]? = some Tryz.f32 := by kernel_rfl
theorem ok : codeOk an 3 body = true := by kernel_rfl
def go  (H : Heap) (R : Ending → Heap → Prop) : Prop :=
  R (.returned (.iface 131 (.agg ⟨[(.int .i64 (3 : Int)), (.string (ByteArray.mk #[108, 101, 97, 115, 101])), (.bool false)]⟩))) H
theorem calls  {H : Heap} {R : Ending → Heap → Prop} (h : go  H R) : CallsH Tryz.prog 32 ⟨[]⟩ H R :=
  callsH_of_den (an := an) (fuel := 100000) (X := go  H R) (c := body) mixed fn (by kernel_rfl) (by kernel_rfl) (by kernel_rfl) ok (by kernel_rfl) h
end F32
/-! ### 33 "pub-stadtholder/pub/etcdserver/storage/schema.AuthUsers" -/
namespace F33
def an : Ann := { kinds := [], taus := [], pairs := [], lab := [] }
noncomputable def body : Code := (Tryz.f33.body).getD .skip
theorem fn : Tryz.prog.funcs[33]? = some Tryz.f33 := by kernel_rfl
theorem ok : codeOk an 3 body = true := by kernel_rfl
def go  (H : Heap) (R : Ending → Heap → Prop) : Prop :=
  R (.returned (.iface 131 (.agg ⟨[(.int .i64 (21 : Int)), (.string (ByteArray.mk #[97, 117, 116, 104, 85, 115, 101, 114, 115])), (.bool false)]⟩))) H
theorem calls  {H : Heap} {R : Ending → Heap → Prop} (h : go  H R) : CallsH Tryz.prog 33 ⟨[]⟩ H R :=
  callsH_of_den (an := an) (fuel := 100000) (X := go  H R) (c := body) mixed fn (by kernel_rfl) (by kernel_rfl) (by kernel_rfl) ok (by kernel_rfl) h
end F33
/-! ### 34 "pub-stadtholder/pub/etcdserver/storage/schema.AuthRoles" -/
namespace F34
def an : Ann := { kinds := [], taus := [], pairs := [], lab := [] }
noncomputable def body : Code := (Tryz.f34.body).getD .skip
theorem fn : Tryz.prog.funcs[34]? = some Tryz.f34 := by kernel_rfl
theorem ok : codeOk an 3 body = true := by kernel_rfl
def go  (H : Heap) (R : Ending → Heap → Prop) : Prop :=
  R (.returned (.iface 131 (.agg ⟨[(.int .i64 (22 : Int)), (.string (ByteArray.mk #[97, 117, 116, 104, 82, 111, 108, 101, 115])), (.bool false)]⟩))) H
theorem calls  {H : Heap} {R : Ending → Heap → Prop} (h : go  H R) : CallsH Tryz.prog 34 ⟨[]⟩ H R :=
  callsH_of_den (an := an) (fuel := 100000) (X := go  H R) (c := body) mixed fn (by kernel_rfl) (by kernel_rfl) (by kernel_rfl) ok (by kernel_rfl) h
end F34
/-! ### 35 "pub-stadtholder/pub/etcdserver/storage/schema.Key" -/
namespace F35
def an : Ann := { kinds := [], taus := [], pairs := [], lab := [] }
noncomputable def body : Code := (Tryz.f35.body).getD .skip
theorem fn : Tryz.prog.funcs[35]? = some Tryz.f35 := by kernel_rfl
theorem ok : codeOk an 3 body = true := by kernel_rfl
def go  (H : Heap) (R : Ending → Heap → Prop) : Prop :=
  R (.returned (.iface 131 (.agg ⟨[(.int .i64 (1 : Int)), (.string (ByteArray.mk #[107, 101, 121])), (.bool true)]⟩))) H
theorem calls  {H : Heap} {R : Ending → Heap → Prop} (h : go  H R) : CallsH Tryz.prog 35 ⟨[]⟩ H R :=
  callsH_of_den (an := an) (fuel := 100000) (X := go  H R) (c := body) mixed fn (by kernel_rfl) (by kernel_rfl) (by kernel_rfl) ok (by kernel_rfl) h
end F35
/-! ### 36 "pub-stadtholder/pub/etcdserver/storage/backend.newBatchTxBuffered" -/
namespace F36
def an : Ann := { kinds := [], taus := [], pairs := [], lab := [] }
noncomputable def body : Code := (Tryz.f36.body).getD .skip
theorem fn : Tryz.prog.funcs[36]? = some Tryz.f36 := by kernel_rfl
theorem ok : codeOk an 15 body = true := by kernel_rfl
def go (backend : Option Addr) (H : Heap) (R : Ending → Heap → Prop) : Prop :=
  newD H (.map #[] 0) fun r H1 =>
  newD H1 (.map #[] 0) fun r1 H2 =>
  newD H2 (.cells ⟨[(.pointer none), (.pointer backend), (.int .i64 (0 : Int)), (.map (some r)), (.map (some r1)), (.int .i64 (0 : Int))]⟩ 138) fun r2 H3 =>
  callD Tryz.prog 37 [(.pointer (some ⟨r2, 0, none⟩))] H3 (panK R) fun v H4 =>
  tTup v fun l =>
  tNil l <|
  R (.returned (.pointer (some ⟨r2, 0, none⟩))) H4
theorem calls {backend : Option Addr} {H : Heap} {R : Ending → Heap → Prop} (h : go backend H R) : CallsH Tryz.prog 36 ⟨[(.pointer backend)]⟩ H R :=
  callsH_of_den (an := an) (fuel := 100000) (X := go backend H R) (c := body) mixed fn (by kernel_rfl) (by kernel_rfl) (by kernel_rfl) ok (by kernel_rfl) h
end F36
/-! ### 37 "(*pub-stadtholder/pub/etcdserver/storage/backend.batchTxBuffered).Commit" -/
namespace F37
def an : Ann := { kinds := [], taus := [], pairs := [], lab := [] }
noncomputable def body : Code := (Tryz.f37.body).getD .skip
theorem fn : Tryz.prog.funcs[37]? = some Tryz.f37 := by kernel_rfl
theorem ok : codeOk an 10 body = true := by kernel_rfl
def go (t : Option Addr) (H : Heap) (R : Ending → Heap → Prop) : Prop :=
  nilD t fun a =>
  callD Tryz.prog 38 [(.pointer (some a))] H (panK R) fun v H1 =>
  tTup v fun l =>
  tNil l <|
  callD Tryz.prog 39 [(.pointer t), (.bool false)] H1 (panK R) fun v1 H2 =>
  tTup v1 fun l1 =>
  tNil l1 <|
  callD Tryz.prog 40 [(.pointer t)] H2 (panK R) fun v2 H3 =>
  tTup v2 fun l2 =>
  tNil l2 <|
  R (.returned (.tuple ⟨[]⟩)) H3
theorem calls {t : Option Addr} {H : Heap} {R : Ending → Heap → Prop} (h : go t H R) : CallsH Tryz.prog 37 ⟨[(.pointer t)]⟩ H R :=
  callsH_of_den (an := an) (fuel := 100000) (X := go t H R) (c := body) mixed fn (by kernel_rfl) (by kernel_rfl) (by kernel_rfl) ok (by kernel_rfl) h
end F37
/-! ### 38 "(*pub-stadtholder/pub/etcdserver/storage/backend.batchTx).lock" -/
namespace F38
def an : Ann := { kinds := [(2, .read)], taus := [], pairs := [], lab := [] }
noncomputable def body : Code := (Tryz.f38.body).getD .skip
theorem fn : Tryz.prog.funcs[38]? = some Tryz.f38 := by kernel_rfl
theorem ok : codeOk an 6 body = true := by kernel_rfl
def go (t : Option Addr) (H : Heap) (R : Ending → Heap → Prop) : Prop :=
  nilD t fun a =>
  zfD Tryz.prog H 133 0 (.pointer (some a)) fun a1 =>
  callD Tryz.prog 41 [(.pointer (some a1))] H (panK R) fun v H1 =>
  tTup v fun l =>
  tNil l <|
  R (.returned (.tuple ⟨[]⟩)) H1
theorem calls {t : Option Addr} {H : Heap} {R : Ending → Heap → Prop} (h : go t H R) : CallsH Tryz.prog 38 ⟨[(.pointer t)]⟩ H R :=
  callsH_of_den (an := an) (fuel := 100000) (X := go t H R) (c := body) mixed fn (by kernel_rfl) (by kernel_rfl) (by kernel_rfl) ok (by kernel_rfl) h
end F38
/-! ### 39 "(*pub-stadtholder/pub/etcdserver/storage/backend.batchTxBuffered).commit" -/
namespace F39
def an : Ann := { kinds := [], taus := [], pairs := [], lab := [] }
noncomputable def body : Code := (Tryz.f39.body).getD .skip
theorem fn : Tryz.prog.funcs[39]? = some Tryz.f39 := by kernel_rfl
theorem ok : codeOk an 25 body = true := by kernel_rfl
def go (t : Option Addr) (stop : Bool) (H : Heap) (R : Ending → Heap → Prop) : Prop :=
  nilD t fun a =>
  ldPtr H (Addr.add a 1) fun p =>
  nilD p fun a1 =>
  ldPtr H (Addr.add a1 4) fun p1 =>
  callD Tryz.prog 42 [(.pointer p1)] H (panK R) fun v H1 =>
  tTup v fun l =>
  tNil l <|
  callD Tryz.prog 43 [(.pointer t), (.bool stop)] H1 (panK R) fun v1 H2 =>
  tTup v1 fun l1 =>
  tNil l1 <|
  nilD t fun a2 =>
  ldPtr H2 (Addr.add a2 1) fun p2 =>
  nilD p2 fun a3 =>
  ldPtr H2 (Addr.add a3 4) fun p3 =>
  callD Tryz.prog 44 [(.pointer p3)] H2 (panK R) fun v2 H3 =>
  tTup v2 fun l2 =>
  tNil l2 <|
  R (.returned (.tuple ⟨[]⟩)) H3
theorem calls {t : Option Addr} {stop : Bool} {H : Heap} {R : Ending → Heap → Prop} (h : go t stop H R) : CallsH Tryz.prog 39 ⟨[(.pointer t), (.bool stop)]⟩ H R :=
  callsH_of_den (an := an) (fuel := 100000) (X := go t stop H R) (c := body) mixed fn (by kernel_rfl) (by kernel_rfl) (by kernel_rfl) ok (by kernel_rfl) h
end F39
/-! ### 40 "(*pub-stadtholder/pub/etcdserver/storage/backend.batchTxBuffered).Unlock" -/
namespace F40
def an : Ann := { kinds := [], taus := [(2, [[0, 1, 2, 3, 4, 5, 6, 7, 8, 9, 10, 11, 12, 13, 14]]), (4, [[0, 1, 2, 3, 5, 6, 7, 8, 4, 9, 10, 11, 12, 13, 14, 15, 16, 17, 18, 19, 20]])], pairs := [], lab := [(20000006, [0])] }
noncomputable def body : Code := (Tryz.f40.body).getD .skip
theorem fn : Tryz.prog.funcs[40]? = some Tryz.f40 := by kernel_rfl
theorem ok : codeOk an 68 body = true := by kernel_rfl
noncomputable def L0t : List Item := [.code (sub [0, 1, 0, 1, 1, 1, 1, 0] body), .code (sub [1] body)]
def L0 (s0 : Option Addr) (H : Heap) (R : Ending → Heap → Prop) : Prop :=
  GoL Tryz.prog 40 68 L0t [0] [(.pointer s0)] H R
def L0n (s0 : Option Addr) (H : Heap) (R : Ending → Heap → Prop) : Prop :=
  callD Tryz.prog 39 [(.pointer s0), (.bool false)] H (panK R) fun v H1 =>
  tTup v fun l =>
  tNil l <|
  nilD s0 fun a =>
  callD Tryz.prog 46 [(.pointer (some a))] H1 (panK R) fun v1 H2 =>
  tTup v1 fun l1 =>
  tNil l1 <|
  R (.returned (.tuple ⟨[]⟩)) H2
theorem L0_step {s0 : Option Addr} {H : Heap} {R : Ending → Heap → Prop} (h : L0n s0 H R) : L0 s0 H R :=
  goL_of_den (an := an) (fuel := 100000) (X := L0n s0 H R) mixed fn (by kernel_rfl) (fun ρ0 => by kernel_rfl) h
def go (s0 : Option Addr) (H : Heap) (R : Ending → Heap → Prop) : Prop :=
  nilD s0 fun a =>
  ldInt H (Addr.add a 2) .i64 fun n =>
  iteB (n != (0 : Int)) (
    nilD s0 fun a1 =>
    ldPtr H (Addr.add a1 1) fun p =>
    nilD p fun a2 =>
    ldPtr H (Addr.add a2 4) fun p1 =>
    callD Tryz.prog 42 [(.pointer p1)] H (panK R) fun v H1 =>
    tTup v fun l =>
    tNil l <|
    nilD s0 fun a3 =>
    nilD s0 fun a4 =>
    ldPtr H1 (Addr.add a4 1) fun p2 =>
    nilD p2 fun a5 =>
    ldPtr H1 (Addr.add a5 4) fun p3 =>
    nilD p3 fun a6 =>
    callD Tryz.prog 45 [(.pointer (some (Addr.add a3 3))), (.pointer (some a6))] H1 (panK R) fun v1 H2 =>
    tTup v1 fun l1 =>
    tNil l1 <|
    nilD s0 fun a7 =>
    ldPtr H2 (Addr.add a7 1) fun p4 =>
    nilD p4 fun a8 =>
    ldPtr H2 (Addr.add a8 4) fun p5 =>
    callD Tryz.prog 44 [(.pointer p5)] H2 (panK R) fun v2 H3 =>
    tTup v2 fun l2 =>
    tNil l2 <|
    nilD s0 fun a9 =>
    nilD s0 fun a10 =>
    ldInt H3 (Addr.add a9 2) .i64 fun n1 =>
    ldPtr H3 (Addr.add a10 1) fun p6 =>
    nilD p6 fun a11 =>
    ldInt H3 (Addr.add a11 2) .i64 fun n2 =>
    iteB (decide (n1 ≥ n2)) (
      L0 s0 H3 R) <|
    nilD s0 fun a12 =>
    ldInt H3 (Addr.add a12 5) .i64 fun n3 =>
    iteB (decide (n3 > (0 : Int))) (
      L0 s0 H3 R) <|
    nilD s0 fun a13 =>
    callD Tryz.prog 46 [(.pointer (some a13))] H3 (panK R) fun v3 H4 =>
    tTup v3 fun l3 =>
    tNil l3 <|
    R (.returned (.tuple ⟨[]⟩)) H4) <|
  nilD s0 fun a14 =>
  callD Tryz.prog 46 [(.pointer (some a14))] H (panK R) fun v4 H5 =>
  tTup v4 fun l4 =>
  tNil l4 <|
  R (.returned (.tuple ⟨[]⟩)) H5
theorem calls {s0 : Option Addr} {H : Heap} {R : Ending → Heap → Prop} (h : go s0 H R) : CallsH Tryz.prog 40 ⟨[(.pointer s0)]⟩ H R :=
  callsH_of_den (an := an) (fuel := 100000) (X := go s0 H R) (c := body) mixed fn (by kernel_rfl) (by kernel_rfl) (by kernel_rfl) ok (by kernel_rfl) h
end F40
/-! ### 41 "(*pub-stadtholder/pub/stand/sync.Mutex).Lock" -/
namespace F41
def an : Ann := { kinds := [], taus := [], pairs := [], lab := [] }
noncomputable def body : Code := (Tryz.f41.body).getD .skip
theorem fn : Tryz.prog.funcs[41]? = some Tryz.f41 := by kernel_rfl
theorem ok : codeOk an 2 body = true := by kernel_rfl
def go (m : Option Addr) (H : Heap) (R : Ending → Heap → Prop) : Prop :=
  R (.returned (.tuple ⟨[]⟩)) H
theorem calls {m : Option Addr} {H : Heap} {R : Ending → Heap → Prop} (h : go m H R) : CallsH Tryz.prog 41 ⟨[(.pointer m)]⟩ H R :=
  callsH_of_den (an := an) (fuel := 100000) (X := go m H R) (c := body) mixed fn (by kernel_rfl) (by kernel_rfl) (by kernel_rfl) ok (by kernel_rfl) h
end F41
/-! ### 42 "(*pub-stadtholder/pub/etcdserver/storage/backend.readTx).Lock" -/
namespace F42
def an : Ann := { kinds := [(3, .read)], taus := [], pairs := [], lab := [] }
noncomputable def body : Code := (Tryz.f42.body).getD .skip
theorem fn : Tryz.prog.funcs[42]? = some Tryz.f42 := by kernel_rfl
theorem ok : codeOk an 7 body = true := by kernel_rfl
def go (rt : Option Addr) (H : Heap) (R : Ending → Heap → Prop) : Prop :=
  nilD rt fun a =>
  zfD Tryz.prog H 115 0 (.pointer (some a)) fun a1 =>
  callD Tryz.prog 47 [(.pointer (some a1))] H (panK R) fun v H1 =>
  tTup v fun l =>
  tNil l <|
  R (.returned (.tuple ⟨[]⟩)) H1
theorem calls {rt : Option Addr} {H : Heap} {R : Ending → Heap → Prop} (h : go rt H R) : CallsH Tryz.prog 42 ⟨[(.pointer rt)]⟩ H R :=
  callsH_of_den (an := an) (fuel := 100000) (X := go rt H R) (c := body) mixed fn (by kernel_rfl) (by kernel_rfl) (by kernel_rfl) ok (by kernel_rfl) h
end F42
/-! ### 43 "(*pub-stadtholder/pub/etcdserver/storage/backend.batchTxBuffered).unsafeCommit" -/
namespace F43
def an : Ann := { kinds := [(8013, .grow)], taus := [(8, [[0, 1, 2, 3, 8, 9, 10, 11, 4, 5, 6, 7, 12, 13, 14, 15, 16, 17]])], pairs := [], lab := [(10000003, [0, 1]), (10000006, [0, 1])] }
noncomputable def body : Code := (Tryz.f43.body).getD .skip
theorem fn : Tryz.prog.funcs[43]? = some Tryz.f43 := by kernel_rfl
theorem ok : codeOk an 86 body = true := by kernel_rfl
noncomputable def L0t : List Item := [.code (sub [1] body)]
def L0 (s0 : Option Addr) (s1 : Bool) (H : Heap) (R : Ending → Heap → Prop) : Prop :=
  GoL Tryz.prog 43 86 L0t [0, 1] [(.pointer s0), (.bool s1)] H R
noncomputable def L1t : List Item := [.code (sub [1, 1] body)]
def L1 (s0 : Option Addr) (s1 : Bool) (H : Heap) (R : Ending → Heap → Prop) : Prop :=
  GoL Tryz.prog 43 86 L1t [0, 1] [(.pointer s0), (.bool s1)] H R
def L0n (s0 : Option Addr) (s1 : Bool) (H : Heap) (R : Ending → Heap → Prop) : Prop :=
  nilD s0 fun a =>
  ldPtr H (Addr.add a 1) fun p =>
  nilD p fun a1 =>
  ldPtr H (Addr.add a1 4) fun p1 =>
  nilD p1 fun a2 =>
  ldPtr H (Addr.add a2 3) fun p2 =>
  iteB (!(Option.isNone p2)) (
    nilD s0 fun a3 =>
    ldPtr H (Addr.add a3 1) fun p3 =>
    nilD p3 fun a4 =>
    ldPtr H (Addr.add a4 4) fun p4 =>
    nilD p4 fun a5 =>
    ldPtr H (Addr.add a5 3) fun p5 =>
    callD Tryz.prog 48 [(.pointer p5)] H (panK R) fun v H1 =>
    tIf v fun i =>
    nilD s0 fun a6 =>
    ldPtr H1 (Addr.add a6 1) fun p6 =>
    nilD p6 fun a7 =>
    ldPtr H1 (Addr.add a7 4) fun p7 =>
    callD Tryz.prog 49 [(.pointer p7)] H1 (panK R) fun v1 H2 =>
    tTup v1 fun l =>
    tNil l <|
    L1 s0 s1 H2 R) <|
  L1 s0 s1 H R
theorem L0_step {s0 : Option Addr} {s1 : Bool} {H : Heap} {R : Ending → Heap → Prop} (h : L0n s0 s1 H R) : L0 s0 s1 H R :=
  goL_of_den (an := an) (fuel := 100000) (X := L0n s0 s1 H R) mixed fn (by kernel_rfl) (fun ρ0 => by kernel_rfl) h
def L1n (s0 : Option Addr) (s1 : Bool) (H : Heap) (R : Ending → Heap → Prop) : Prop :=
  nilD s0 fun a =>
  callD Tryz.prog 50 [(.pointer (some a)), (.bool s1)] H (panK R) fun v H1 =>
  tTup v fun l =>
  tNil l <|
  nilD s0 fun a1 =>
  st1 H1 (Addr.add a1 5) (.int .i64 (0 : Int)) fun H2 =>
  iteB (!s1) (
    nilD s0 fun a2 =>
    nilD s0 fun a3 =>
    ldPtr H2 (Addr.add a2 1) fun p =>
    nilD p fun a4 =>
    ldPtr H2 (Addr.add a4 4) fun p1 =>
    ldPtr H2 (Addr.add a3 1) fun p2 =>
    callD Tryz.prog 51 [(.pointer p2), (.bool false)] H2 nope fun v1 H3 =>
    tPtr v1 fun p3 =>
    andD (ExtH H2 H3) <|
    nilD p1 fun a5 =>
    st1 H3 (Addr.add a5 3) (.pointer p3) fun H4 =>
    R (.returned (.tuple ⟨[]⟩)) H4) <|
  R (.returned (.tuple ⟨[]⟩)) H2
theorem L1_step {s0 : Option Addr} {s1 : Bool} {H : Heap} {R : Ending → Heap → Prop} (h : L1n s0 s1 H R) : L1 s0 s1 H R :=
  goL_of_den (an := an) (fuel := 100000) (X := L1n s0 s1 H R) mixed fn (by kernel_rfl) (fun ρ0 => by kernel_rfl) h
def go (s0 : Option Addr) (s1 : Bool) (H : Heap) (R : Ending → Heap → Prop) : Prop :=
  nilD s0 fun a =>
  ldPtr H (Addr.add a 1) fun p =>
  nilD p fun a1 =>
  ldIf H (Addr.add a1 7) fun i =>
  ifNilD (IV.v i) fun b =>
  iteB (!b) (
    nilD s0 fun a2 =>
    ldPtr H (Addr.add a2 1) fun p1 =>
    nilD p1 fun a3 =>
    ldIf H (Addr.add a3 7) fun i1 =>
    callI Tryz.prog (IV.v i1) "OnPreCommitUnsafe" [(.iface 122 (.pointer s0))] H (panK R) fun v H1 =>
    tTup v fun l =>
    tNil l <|
    L0 s0 s1 H1 R) <|
  L0 s0 s1 H R
theorem calls {s0 : Option Addr} {s1 : Bool} {H : Heap} {R : Ending → Heap → Prop} (h : go s0 s1 H R) : CallsH Tryz.prog 43 ⟨[(.pointer s0), (.bool s1)]⟩ H R :=
  callsH_of_den (an := an) (fuel := 100000) (X := go s0 s1 H R) (c := body) mixed fn (by kernel_rfl) (by kernel_rfl) (by kernel_rfl) ok (by kernel_rfl) h
end F43
/-! ### 44 "(*pub-stadtholder/pub/etcdserver/storage/backend.readTx).Unlock" -/
namespace F44
def an : Ann := { kinds := [(3, .read)], taus := [], pairs := [], lab := [] }
noncomputable def body : Code := (Tryz.f44.body).getD .skip
theorem fn : Tryz.prog.funcs[44]? = some Tryz.f44 := by kernel_rfl
theorem ok : codeOk an 7 body = true := by kernel_rfl
def go (rt : Option Addr) (H : Heap) (R : Ending → Heap → Prop) : Prop :=
  nilD rt fun a =>
  zfD Tryz.prog H 115 0 (.pointer (some a)) fun a1 =>
  callD Tryz.prog 52 [(.pointer (some a1))] H (panK R) fun v H1 =>
  tTup v fun l =>
  tNil l <|
  R (.returned (.tuple ⟨[]⟩)) H1
theorem calls {rt : Option Addr} {H : Heap} {R : Ending → Heap → Prop} (h : go rt H R) : CallsH Tryz.prog 44 ⟨[(.pointer rt)]⟩ H R :=
  callsH_of_den (an := an) (fuel := 100000) (X := go rt H R) (c := body) mixed fn (by kernel_rfl) (by kernel_rfl) (by kernel_rfl) ok (by kernel_rfl) h
end F44
/-! ### 46 "(*pub-stadtholder/pub/etcdserver/storage/backend.batchTx).Unlock" -/
namespace F46
def an : Ann := { kinds := [(2002, .read)], taus := [(0, [[0, 1, 2, 4, 5, 6, 3, 7, 8, 9, 10, 11]])], pairs := [], lab := [] }
noncomputable def body : Code := (Tryz.f46.body).getD .skip
theorem fn : Tryz.prog.funcs[46]? = some Tryz.f46 := by kernel_rfl
theorem ok : codeOk an 20 body = true := by kernel_rfl
def go (t : Option Addr) (H : Heap) (R : Ending → Heap → Prop) : Prop :=
  nilD t fun a =>
  nilD t fun a1 =>
  ldInt H (Addr.add a 2) .i64 fun n =>
  ldPtr H (Addr.add a1 1) fun p =>
  nilD p fun a2 =>
  ldInt H (Addr.add a2 2) .i64 fun n1 =>
  iteB (decide (n ≥ n1)) (
    callD Tryz.prog 50 [(.pointer t), (.bool false)] H (panK R) fun v H1 =>
    tTup v fun l =>
    tNil l <|
    nilD t fun a3 =>
    zfD Tryz.prog H1 133 0 (.pointer (some a3)) fun a4 =>
    callD Tryz.prog 57 [(.pointer (some a4))] H1 (panK R) fun v1 H2 =>
    tTup v1 fun l1 =>
    tNil l1 <|
    R (.returned (.tuple ⟨[]⟩)) H2) <|
  nilD t fun a5 =>
  zfD Tryz.prog H 133 0 (.pointer (some a5)) fun a6 =>
  callD Tryz.prog 57 [(.pointer (some a6))] H (panK R) fun v2 H3 =>
  tTup v2 fun l2 =>
  tNil l2 <|
  R (.returned (.tuple ⟨[]⟩)) H3
theorem calls {t : Option Addr} {H : Heap} {R : Ending → Heap → Prop} (h : go t H R) : CallsH Tryz.prog 46 ⟨[(.pointer t)]⟩ H R :=
  callsH_of_den (an := an) (fuel := 100000) (X := go t H R) (c := body) mixed fn (by kernel_rfl) (by kernel_rfl) (by kernel_rfl) ok (by kernel_rfl) h
end F46
/-! ### 47 "(*pub-stadtholder/pub/stand/sync.RWMutex).Lock" -/
namespace F47
def an : Ann := { kinds := [], taus := [], pairs := [], lab := [] }
noncomputable def body : Code := (Tryz.f47.body).getD .skip
theorem fn : Tryz.prog.funcs[47]? = some Tryz.f47 := by kernel_rfl
theorem ok : codeOk an 2 body = true := by kernel_rfl
def go (m : Option Addr) (H : Heap) (R : Ending → Heap → Prop) : Prop :=
  R (.returned (.tuple ⟨[]⟩)) H
theorem calls {m : Option Addr} {H : Heap} {R : Ending → Heap → Prop} (h : go m H R) : CallsH Tryz.prog 47 ⟨[(.pointer m)]⟩ H R :=
  callsH_of_den (an := an) (fuel := 100000) (X := go m H R) (c := body) mixed fn (by kernel_rfl) (by kernel_rfl) (by kernel_rfl) ok (by kernel_rfl) h
end F47
/-! ### 48 "(*pub-stadtholder/pub/stand/bolt.Tx).Rollback" -/
namespace F48
def an : Ann := { kinds := [], taus := [], pairs := [], lab := [] }
noncomputable def body : Code := (Tryz.f48.body).getD .skip
theorem fn : Tryz.prog.funcs[48]? = some Tryz.f48 := by kernel_rfl
theorem ok : codeOk an 6 body = true := by kernel_rfl
def go (tx : Option Addr) (H : Heap) (R : Ending → Heap → Prop) : Prop :=
  nilD tx fun a =>
  st1 H (Addr.add a 2) (.bool true) fun H1 =>
  R (.returned .nilIface) H1
theorem calls {tx : Option Addr} {H : Heap} {R : Ending → Heap → Prop} (h : go tx H R) : CallsH Tryz.prog 48 ⟨[(.pointer tx)]⟩ H R :=
  callsH_of_den (an := an) (fuel := 100000) (X := go tx H R) (c := body) mixed fn (by kernel_rfl) (by kernel_rfl) (by kernel_rfl) ok (by kernel_rfl) h
end F48
/-! ### 49 "(*pub-stadtholder/pub/etcdserver/storage/backend.readTx).reset" -/
namespace F49
def an : Ann := { kinds := [], taus := [], pairs := [], lab := [] }
noncomputable def body : Code := (Tryz.f49.body).getD .skip
theorem fn : Tryz.prog.funcs[49]? = some Tryz.f49 := by kernel_rfl
theorem ok : codeOk an 22 body = true := by kernel_rfl
def go (rt : Option Addr) (H : Heap) (R : Ending → Heap → Prop) : Prop :=
  nilD rt fun a =>
  callD Tryz.prog 58 [(.pointer (some a))] H (panK R) fun v H1 =>
  tTup v fun l =>
  tNil l <|
  newD H1 (.map #[] 0) fun r H2 =>
  nilD rt fun a1 =>
  st1 H2 (Addr.add a1 4) (.map (some r)) fun H3 =>
  nilD rt fun a2 =>
  st1 H3 (Addr.add a2 3) (.pointer none) fun H4 =>
  newD H4 (.cells ⟨[]⟩ 110) fun r1 H5 =>
  nilD rt fun a3 =>
  st1 H5 (Addr.add a3 5) (.pointer (some ⟨r1, 0, none⟩)) fun H6 =>
  R (.returned (.tuple ⟨[]⟩)) H6
theorem calls {rt : Option Addr} {H : Heap} {R : Ending → Heap → Prop} (h : go rt H R) : CallsH Tryz.prog 49 ⟨[(.pointer rt)]⟩ H R :=
  callsH_of_den (an := an) (fuel := 100000) (X := go rt H R) (c := body) mixed fn (by kernel_rfl) (by kernel_rfl) (by kernel_rfl) ok (by kernel_rfl) h
end F49
/-! ### 50 "(*pub-stadtholder/pub/etcdserver/storage/backend.batchTx).commit" -/
namespace F50
def an : Ann := { kinds := [], taus := [], pairs := [], lab := [(20000003, [0, 1]), (10000008, [0, 1])] }
noncomputable def body : Code := (Tryz.f50.body).getD .skip
theorem fn : Tryz.prog.funcs[50]? = some Tryz.f50 := by kernel_rfl
theorem ok : codeOk an 50 body = true := by kernel_rfl
noncomputable def L0t : List Item := [.code (sub [0, 1, 0, 1] body), .code (sub [1] body)]
def L0 (t : Option Addr) (stop : Bool) (H : Heap) (R : Ending → Heap → Prop) : Prop :=
  GoL Tryz.prog 50 50 L0t [0, 1] [(.pointer t), (.bool stop)] H R
noncomputable def L1t : List Item := [.code (sub [1] body)]
def L1 (t : Option Addr) (stop : Bool) (H : Heap) (R : Ending → Heap → Prop) : Prop :=
  GoL Tryz.prog 50 50 L1t [0, 1] [(.pointer t), (.bool stop)] H R
def L0n (t : Option Addr) (stop : Bool) (H : Heap) (R : Ending → Heap → Prop) : Prop :=
  nilD t fun a =>
  ldPtr H a fun p =>
  callD Tryz.prog 59 [(.pointer p)] H (panK R) fun v H1 =>
  tIf v fun i =>
  nilD t fun a1 =>
  ldPtr H1 (Addr.add a1 1) fun p1 =>
  nilD p1 fun a2 =>
  ldInt H1 a2 .i64 fun n =>
  nilD p1 fun a3 =>
  st1 H1 a3 (.int .i64 (IntKind.wrap .i64 (n + (1 : Int)))) fun H2 =>
  nilD t fun a4 =>
  st1 H2 (Addr.add a4 2) (.int .i64 (0 : Int)) fun H3 =>
  ifNilD (IV.v i) fun b =>
  iteB (!b) (
    panD (.iface 9 (.string (ByteArray.mk #[102, 97, 105, 108, 101, 100, 32, 116, 111, 32, 99, 111, 109, 109, 105, 116, 32, 116, 120]))) H3 (panK R)) <|
  L1 t stop H3 R
theorem L0_step {t : Option Addr} {stop : Bool} {H : Heap} {R : Ending → Heap → Prop} (h : L0n t stop H R) : L0 t stop H R :=
  goL_of_den (an := an) (fuel := 100000) (X := L0n t stop H R) mixed fn (by kernel_rfl) (fun ρ0 => by kernel_rfl) h
def L1n (t : Option Addr) (stop : Bool) (H : Heap) (R : Ending → Heap → Prop) : Prop :=
  iteB (!stop) (
    nilD t fun a =>
    ldPtr H (Addr.add a 1) fun p =>
    callD Tryz.prog 51 [(.pointer p), (.bool true)] H (panK R) fun v H1 =>
    tPtr v fun p1 =>
    nilD t fun a1 =>
    st1 H1 a1 (.pointer p1) fun H2 =>
    R (.returned (.tuple ⟨[]⟩)) H2) <|
  R (.returned (.tuple ⟨[]⟩)) H
theorem L1_step {t : Option Addr} {stop : Bool} {H : Heap} {R : Ending → Heap → Prop} (h : L1n t stop H R) : L1 t stop H R :=
  goL_of_den (an := an) (fuel := 100000) (X := L1n t stop H R) mixed fn (by kernel_rfl) (fun ρ0 => by kernel_rfl) h
def go (t : Option Addr) (stop : Bool) (H : Heap) (R : Ending → Heap → Prop) : Prop :=
  nilD t fun a =>
  ldPtr H a fun p =>
  iteB (!(Option.isNone p)) (
    nilD t fun a1 =>
    ldInt H (Addr.add a1 2) .i64 fun n =>
    iteB (n == (0 : Int)) (
      iteB (!stop) (
        R (.returned (.tuple ⟨[]⟩)) H) <|
      L0 t stop H R) <|
    L0 t stop H R) <|
  L1 t stop H R
theorem calls {t : Option Addr} {stop : Bool} {H : Heap} {R : Ending → Heap → Prop} (h : go t stop H R) : CallsH Tryz.prog 50 ⟨[(.pointer t), (.bool stop)]⟩ H R :=
  callsH_of_den (an := an) (fuel := 100000) (X := go t stop H R) (c := body) mixed fn (by kernel_rfl) (by kernel_rfl) (by kernel_rfl) ok (by kernel_rfl) h
end F50
/-! ### 51 "(*pub-stadtholder/pub/etcdserver/storage/backend.backend).begin" -/
namespace F51
def an : Ann := { kinds := [(1002, .read), (3002, .read)], taus := [], pairs := [], lab := [] }
noncomputable def body : Code := (Tryz.f51.body).getD .skip
theorem fn : Tryz.prog.funcs[51]? = some Tryz.f51 := by kernel_rfl
theorem ok : codeOk an 18 body = true := by kernel_rfl
def go (b : Option Addr) (write : Bool) (H : Heap) (R : Ending → Heap → Prop) : Prop :=
  nilD b fun a =>
  zfD Tryz.prog H 127 1 (.pointer (some a)) fun a1 =>
  callD Tryz.prog 60 [(.pointer (some a1))] H (panK R) fun v H1 =>
  tTup v fun l =>
  tNil l <|
  callD Tryz.prog 61 [(.pointer b), (.bool write)] H1 (panK R) fun v1 H2 =>
  tPtr v1 fun p =>
  nilD b fun a2 =>
  zfD Tryz.prog H2 127 1 (.pointer (some a2)) fun a3 =>
  callD Tryz.prog 62 [(.pointer (some a3))] H2 (panK R) fun v2 H3 =>
  tTup v2 fun l1 =>
  tNil l1 <|
  R (.returned (.pointer p)) H3
theorem calls {b : Option Addr} {write : Bool} {H : Heap} {R : Ending → Heap → Prop} (h : go b write H R) : CallsH Tryz.prog 51 ⟨[(.pointer b), (.bool write)]⟩ H R :=
  callsH_of_den (an := an) (fuel := 100000) (X := go b write H R) (c := body) mixed fn (by kernel_rfl) (by kernel_rfl) (by kernel_rfl) ok (by kernel_rfl) h
end F51
/-! ### 52 "(*pub-stadtholder/pub/stand/sync.RWMutex).Unlock" -/
namespace F52
def an : Ann := { kinds := [], taus := [], pairs := [], lab := [] }
noncomputable def body : Code := (Tryz.f52.body).getD .skip
theorem fn : Tryz.prog.funcs[52]? = some Tryz.f52 := by kernel_rfl
theorem ok : codeOk an 2 body = true := by kernel_rfl
def go (m : Option Addr) (H : Heap) (R : Ending → Heap → Prop) : Prop :=
  R (.returned (.tuple ⟨[]⟩)) H
theorem calls {m : Option Addr} {H : Heap} {R : Ending → Heap → Prop} (h : go m H R) : CallsH Tryz.prog 52 ⟨[(.pointer m)]⟩ H R :=
  callsH_of_den (an := an) (fuel := 100000) (X := go m H R) (c := body) mixed fn (by kernel_rfl) (by kernel_rfl) (by kernel_rfl) ok (by kernel_rfl) h
end F52
/-! ### 57 "(*pub-stadtholder/pub/stand/sync.Mutex).Unlock" -/
namespace F57
def an : Ann := { kinds := [], taus := [], pairs := [], lab := [] }
noncomputable def body : Code := (Tryz.f57.body).getD .skip
theorem fn : Tryz.prog.funcs[57]? = some Tryz.f57 := by kernel_rfl
theorem ok : codeOk an 2 body = true := by kernel_rfl
def go (m : Option Addr) (H : Heap) (R : Ending → Heap → Prop) : Prop :=
  R (.returned (.tuple ⟨[]⟩)) H
theorem calls {m : Option Addr} {H : Heap} {R : Ending → Heap → Prop} (h : go m H R) : CallsH Tryz.prog 57 ⟨[(.pointer m)]⟩ H R :=
  callsH_of_den (an := an) (fuel := 100000) (X := go m H R) (c := body) mixed fn (by kernel_rfl) (by kernel_rfl) (by kernel_rfl) ok (by kernel_rfl) h
end F57
/-! ### 59 "(*pub-stadtholder/pub/stand/bolt.Tx).Commit" -/
namespace F59
def an : Ann := { kinds := [], taus := [], pairs := [], lab := [(20000003, [0]), (10000004, [0]), (40000007, [0, 3, 4])] }
noncomputable def body : Code := (Tryz.f59.body).getD .skip
theorem fn : Tryz.prog.funcs[59]? = some Tryz.f59 := by kernel_rfl
theorem ok : codeOk an 49 body = true := by kernel_rfl
noncomputable def L0t : List Item := [.code (sub [1, 0, 1, 0] body), .code (sub [1, 1] body)]
def L0 (tx : Option Addr) (H : Heap) (R : Ending → Heap → Prop) : Prop :=
  GoL Tryz.prog 59 49 L0t [0] [(.pointer tx)] H R
noncomputable def L1t : List Item := [.code (sub [1, 1] body)]
def L1 (tx : Option Addr) (H : Heap) (R : Ending → Heap → Prop) : Prop :=
  GoL Tryz.prog 59 49 L1t [0] [(.pointer tx)] H R
noncomputable def L2t : List Item := [.code (sub [1, 1, 1, 1, 0, 1, 0, 0] body), .inLoop (sub [1, 1, 1, 1, 0, 1, 0, 0] body), .inBlock 0, .code (sub [1, 1, 1, 1, 1] body)]
def L2 (tx : Option Addr) (list : Option Addr) (listn : Nat) (listc : Nat) (i : Int) (H : Heap) (R : Ending → Heap → Prop) : Prop :=
  GoL Tryz.prog 59 49 L2t [0, 3, 4] [(.pointer tx), (.slice list listn listc), (.int .i64 i)] H R
def L0n (tx : Option Addr) (H : Heap) (R : Ending → Heap → Prop) : Prop :=
  panD (.iface 9 (.string (ByteArray.mk #[98, 111, 108, 116, 58, 32, 99, 111, 109, 109, 105, 116, 32, 111, 102, 32, 119, 104, 97, 116, 32, 99, 97, 110, 39, 116, 32, 98, 101, 32, 99, 111, 109, 109, 105, 116, 116, 101, 100]))) H (panK R)
theorem L0_step {tx : Option Addr} {H : Heap} {R : Ending → Heap → Prop} (h : L0n tx H R) : L0 tx H R :=
  goL_of_den (an := an) (fuel := 100000) (X := L0n tx H R) mixed fn (by kernel_rfl) (fun ρ0 => by kernel_rfl) h
def L1n (tx : Option Addr) (H : Heap) (R : Ending → Heap → Prop) : Prop :=
  nilD tx fun a =>
  st1 H (Addr.add a 2) (.bool true) fun H1 =>
  L2 tx none 0 0 (0 : Int) H1 R
theorem L1_step {tx : Option Addr} {H : Heap} {R : Ending → Heap → Prop} (h : L1n tx H R) : L1 tx H R :=
  goL_of_den (an := an) (fuel := 100000) (X := L1n tx H R) mixed fn (by kernel_rfl) (fun ρ0 => by kernel_rfl) h
def L2n (tx : Option Addr) (list : Option Addr) (listn : Nat) (listc : Nat) (i : Int) (H : Heap) (R : Ending → Heap → Prop) : Prop :=
  nilD tx fun a =>
  ldSl H (Addr.add a 3) fun q qn qc =>
  iteB (decide (i < ((qn : Nat) : Int))) (
    nilD tx fun a1 =>
    ldSl H (Addr.add a1 3) fun q1 q1n q1c =>
    idxD q1 q1n i fun a2 =>
    ldPtr H (Addr.add a2 (Int.toNat i * 1)) fun p =>
    nilD p fun a3 =>
    ldSl H (Addr.add a3 1) fun q2 q2n q2c =>
    ldSl H (Addr.add (Addr.add a3 1) 1) fun q3 q3n q3c =>
    newD H (.cells ⟨[(.slice q2 q2n q2c), (.slice q3 q3n q3c)]⟩ 172) fun r H1 =>
    apD H1 2 48 [(.slice none 0 0), (.slice none 0 0)] 172 list listn listc (some ⟨r, 0, none⟩) 1 fun q4 q4n q4c H2 =>
    L2 tx q4 q4n q4c (IntKind.wrap .i64 (i + (1 : Int))) H2 R) <|
  nilD tx fun a4 =>
  ldPtr H a4 fun p1 =>
  nilD p1 fun a5 =>
  st1 H a5 (.slice list listn listc) fun H3 =>
  R (.returned .nilIface) H3
theorem L2_step {tx : Option Addr} {list : Option Addr} {listn : Nat} {listc : Nat} {i : Int} {H : Heap} {R : Ending → Heap → Prop} (h : L2n tx list listn listc i H R) : L2 tx list listn listc i H R :=
  goL_of_den (an := an) (fuel := 100000) (X := L2n tx list listn listc i H R) mixed fn (by kernel_rfl) (fun ρ0 => by kernel_rfl) h
def go (tx : Option Addr) (H : Heap) (R : Ending → Heap → Prop) : Prop :=
  nilD tx fun a =>
  ldBool H (Addr.add a 2) fun b =>
  iteB b (
    L0 tx H R) <|
  nilD tx fun a1 =>
  ldBool H (Addr.add a1 1) fun b1 =>
  iteB (!b1) (
    L0 tx H R) <|
  L1 tx H R
theorem calls {tx : Option Addr} {H : Heap} {R : Ending → Heap → Prop} (h : go tx H R) : CallsH Tryz.prog 59 ⟨[(.pointer tx)]⟩ H R :=
  callsH_of_den (an := an) (fuel := 100000) (X := go tx H R) (c := body) mixed fn (by kernel_rfl) (by kernel_rfl) (by kernel_rfl) ok (by kernel_rfl) h
end F59
/-! ### 60 "(*pub-stadtholder/pub/stand/sync.RWMutex).RLock" -/
namespace F60
def an : Ann := { kinds := [], taus := [], pairs := [], lab := [] }
noncomputable def body : Code := (Tryz.f60.body).getD .skip
theorem fn : Tryz.prog.funcs[60]? = some Tryz.f60 := by kernel_rfl
theorem ok : codeOk an 2 body = true := by kernel_rfl
def go (m : Option Addr) (H : Heap) (R : Ending → Heap → Prop) : Prop :=
  R (.returned (.tuple ⟨[]⟩)) H
theorem calls {m : Option Addr} {H : Heap} {R : Ending → Heap → Prop} (h : go m H R) : CallsH Tryz.prog 60 ⟨[(.pointer m)]⟩ H R :=
  callsH_of_den (an := an) (fuel := 100000) (X := go m H R) (c := body) mixed fn (by kernel_rfl) (by kernel_rfl) (by kernel_rfl) ok (by kernel_rfl) h
end F60
/-! ### 61 "(*pub-stadtholder/pub/etcdserver/storage/backend.backend).unsafeBegin" -/
namespace F61
def an : Ann := { kinds := [], taus := [], pairs := [], lab := [] }
noncomputable def body : Code := (Tryz.f61.body).getD .skip
theorem fn : Tryz.prog.funcs[61]? = some Tryz.f61 := by kernel_rfl
theorem ok : codeOk an 20 body = true := by kernel_rfl
def go (b : Option Addr) (write : Bool) (H : Heap) (R : Ending → Heap → Prop) : Prop :=
  nilD b fun a =>
  ldPtr H (Addr.add a 1) fun p =>
  callD Tryz.prog 69 [(.pointer p), (.bool write)] H (panK R) fun v H1 =>
  tTup v fun l =>
  tCons l fun c l1 =>
  tPtr c fun p1 =>
  tCons l1 fun c1 l2 =>
  tIf c1 fun i =>
  tNil l2 <|
  ifNilD (IV.v i) fun b1 =>
  iteB (!b1) (
    panD (.iface 9 (.string (ByteArray.mk #[102, 97, 105, 108, 101, 100, 32, 116, 111, 32, 98, 101, 103, 105, 110, 32, 116, 120]))) H1 (panK R)) <|
  R (.returned (.pointer p1)) H1
theorem calls {b : Option Addr} {write : Bool} {H : Heap} {R : Ending → Heap → Prop} (h : go b write H R) : CallsH Tryz.prog 61 ⟨[(.pointer b), (.bool write)]⟩ H R :=
  callsH_of_den (an := an) (fuel := 100000) (X := go b write H R) (c := body) mixed fn (by kernel_rfl) (by kernel_rfl) (by kernel_rfl) ok (by kernel_rfl) h
end F61
/-! ### 62 "(*pub-stadtholder/pub/stand/sync.RWMutex).RUnlock" -/
namespace F62
def an : Ann := { kinds := [], taus := [], pairs := [], lab := [] }
noncomputable def body : Code := (Tryz.f62.body).getD .skip
theorem fn : Tryz.prog.funcs[62]? = some Tryz.f62 := by kernel_rfl
theorem ok : codeOk an 2 body = true := by kernel_rfl
def go (m : Option Addr) (H : Heap) (R : Ending → Heap → Prop) : Prop :=
  R (.returned (.tuple ⟨[]⟩)) H
theorem calls {m : Option Addr} {H : Heap} {R : Ending → Heap → Prop} (h : go m H R) : CallsH Tryz.prog 62 ⟨[(.pointer m)]⟩ H R :=
  callsH_of_den (an := an) (fuel := 100000) (X := go m H R) (c := body) mixed fn (by kernel_rfl) (by kernel_rfl) (by kernel_rfl) ok (by kernel_rfl) h
end F62
/-! ### 64 "bytes.Equal" -/
namespace F64
def an : Ann := { kinds := [(1001, .read), (1003, .read)], taus := [], pairs := [], lab := [] }
noncomputable def body : Code := (Tryz.f64.body).getD .skip
theorem fn : Tryz.prog.funcs[64]? = some Tryz.f64 := by kernel_rfl
theorem ok : codeOk an 10 body = true := by kernel_rfl
def go (a : Option Addr) (an1 : Nat) (ac : Nat) (b : Option Addr) (bn : Nat) (bc : Nat) (H : Heap) (R : Ending → Heap → Prop) : Prop :=
  bsD H a an1 fun s =>
  bsD H b bn fun s1 =>
  R (.returned (.bool (eqS s s1))) H
theorem calls {a : Option Addr} {an1 : Nat} {ac : Nat} {b : Option Addr} {bn : Nat} {bc : Nat} {H : Heap} {R : Ending → Heap → Prop} (h : go a an1 ac b bn bc H R) : CallsH Tryz.prog 64 ⟨[(.slice a an1 ac), (.slice b bn bc)]⟩ H R :=
  callsH_of_den (an := an) (fuel := 100000) (X := go a an1 ac b bn bc H R) (c := body) mixed fn (by kernel_rfl) (by kernel_rfl) (by kernel_rfl) ok (by kernel_rfl) h
end F64
/-! ### 68 "bytes.Compare" -/
namespace F68
def an : Ann := { kinds := [], taus := [], pairs := [], lab := [] }
noncomputable def body : Code := (Tryz.f68.body).getD .skip
theorem fn : Tryz.prog.funcs[68]? = some Tryz.f68 := by kernel_rfl
theorem ok : codeOk an 8 body = true := by kernel_rfl
def go (a : Option Addr) (an1 : Nat) (ac : Nat) (b : Option Addr) (bn : Nat) (bc : Nat) (H : Heap) (R : Ending → Heap → Prop) : Prop :=
  callX Tryz.prog 81 [(.slice a an1 ac), (.slice b bn bc)] H (panK R) fun v H1 =>
  tInt v .i64 fun n =>
  R (.returned (.int .i64 n)) H1
theorem calls {a : Option Addr} {an1 : Nat} {ac : Nat} {b : Option Addr} {bn : Nat} {bc : Nat} {H : Heap} {R : Ending → Heap → Prop} (h : go a an1 ac b bn bc H R) : CallsH Tryz.prog 68 ⟨[(.slice a an1 ac), (.slice b bn bc)]⟩ H R :=
  callsH_of_den (an := an) (fuel := 100000) (X := go a an1 ac b bn bc H R) (c := body) mixed fn (by kernel_rfl) (by kernel_rfl) (by kernel_rfl) ok (by kernel_rfl) h
end F68
/-! ### 69 "(*pub-stadtholder/pub/stand/bolt.DB).Begin" -/
namespace F69
def an : Ann := { kinds := [(5014, .grow), (5015, .grow)], taus := [(5, [[0, 1, 2, 3, 5, 6, 7, 8, 10, 4, 9, 11, 12, 13, 14, 15, 16, 17, 18, 19]])], pairs := [], lab := [(40000004, [0, 6, 7])] }
noncomputable def body : Code := (Tryz.f69.body).getD .skip
theorem fn : Tryz.prog.funcs[69]? = some Tryz.f69 := by kernel_rfl
theorem ok : codeOk an 41 body = true := by kernel_rfl
noncomputable def L0t : List Item := [.code (sub [1, 1, 0, 1, 0, 0] body), .inLoop (sub [1, 1, 0, 1, 0, 0] body), .inBlock 0, .code (sub [1, 1, 1] body)]
def L0 (db : Option Addr) (tx : Nat) (i : Int) (H : Heap) (R : Ending → Heap → Prop) : Prop :=
  GoL Tryz.prog 69 41 L0t [0, 6, 7] [(.pointer db), (.pointer (some ⟨tx, 0, none⟩)), (.int .i64 i)] H R
def L0n (db : Option Addr) (tx : Nat) (i : Int) (H : Heap) (R : Ending → Heap → Prop) : Prop :=
  nilD db fun a =>
  ldSl H a fun q qn qc =>
  iteB (decide (i < ((qn : Nat) : Int))) (
    nilD db fun a1 =>
    ldSl H ⟨tx, 3, none⟩ fun q1 q1n q1c =>
    ldSl H a1 fun q2 q2n q2c =>
    idxD q2 q2n i fun a2 =>
    ldSl H (Addr.add a2 (Int.toNat i * 2)) fun q3 q3n q3c =>
    ldSl H (Addr.add (Addr.add a2 (Int.toNat i * 2)) 1) fun q4 q4n q4c =>
    newD H (.cells ⟨[(.pointer (some ⟨tx, 0, none⟩)), (.slice q3 q3n q3c), (.slice q4 q4n q4c), (.float .f64 (0 : Nat))]⟩ 175) fun r H1 =>
    newD H1 (.cells ⟨[(.pointer (some ⟨r, 0, none⟩))]⟩ 176) fun r1 H2 =>
    apD H2 1 8 [(.pointer none)] 176 q1 q1n q1c (some ⟨r1, 0, none⟩) 1 fun q5 q5n q5c H3 =>
    st1 H3 ⟨tx, 3, none⟩ (.slice q5 q5n q5c) fun H4 =>
    L0 db tx (IntKind.wrap .i64 (i + (1 : Int))) H4 R) <|
  R (.returned (.tuple ⟨[(.pointer (some ⟨tx, 0, none⟩)), .nilIface]⟩)) H
theorem L0_step {db : Option Addr} {tx : Nat} {i : Int} {H : Heap} {R : Ending → Heap → Prop} (h : L0n db tx i H R) : L0 db tx i H R :=
  goL_of_den (an := an) (fuel := 100000) (X := L0n db tx i H R) mixed fn (by kernel_rfl) (fun ρ0 => by kernel_rfl) h
def go (db : Option Addr) (write : Bool) (H : Heap) (R : Ending → Heap → Prop) : Prop :=
  newD H (.cells ⟨[(.pointer db), (.bool write), (.bool false), (.slice none 0 0)]⟩ 157) fun r H1 =>
  L0 db r (0 : Int) H1 R
theorem calls {db : Option Addr} {write : Bool} {H : Heap} {R : Ending → Heap → Prop} (h : go db write H R) : CallsH Tryz.prog 69 ⟨[(.pointer db), (.bool write)]⟩ H R :=
  callsH_of_den (an := an) (fuel := 100000) (X := go db write H R) (c := body) mixed fn (by kernel_rfl) (by kernel_rfl) (by kernel_rfl) ok (by kernel_rfl) h
end F69
/-! ### 107 "(*pub-stadtholder/pub/etcdserver/storage/backend.backend).BatchTx" -/
namespace F107
def an : Ann := { kinds := [], taus := [], pairs := [], lab := [] }
noncomputable def body : Code := (Tryz.f107.body).getD .skip
theorem fn : Tryz.prog.funcs[107]? = some Tryz.f107 := by kernel_rfl
theorem ok : codeOk an 8 body = true := by kernel_rfl
def go (b : Option Addr) (H : Heap) (R : Ending → Heap → Prop) : Prop :=
  nilD b fun a =>
  ldPtr H (Addr.add a 3) fun p =>
  R (.returned (.iface 122 (.pointer p))) H
theorem calls {b : Option Addr} {H : Heap} {R : Ending → Heap → Prop} (h : go b H R) : CallsH Tryz.prog 107 ⟨[(.pointer b)]⟩ H R :=
  callsH_of_den (an := an) (fuel := 100000) (X := go b H R) (c := body) mixed fn (by kernel_rfl) (by kernel_rfl) (by kernel_rfl) ok (by kernel_rfl) h
end F107
/-! ### 109 "(*pub-stadtholder/pub/etcdserver/storage/backend.backend).ForceCommit" -/
namespace F109
def an : Ann := { kinds := [], taus := [], pairs := [], lab := [] }
noncomputable def body : Code := (Tryz.f109.body).getD .skip
theorem fn : Tryz.prog.funcs[109]? = some Tryz.f109 := by kernel_rfl
theorem ok : codeOk an 7 body = true := by kernel_rfl
def go (b : Option Addr) (H : Heap) (R : Ending → Heap → Prop) : Prop :=
  nilD b fun a =>
  ldPtr H (Addr.add a 3) fun p =>
  callD Tryz.prog 37 [(.pointer p)] H (panK R) fun v H1 =>
  tTup v fun l =>
  tNil l <|
  R (.returned (.tuple ⟨[]⟩)) H1
theorem calls {b : Option Addr} {H : Heap} {R : Ending → Heap → Prop} (h : go b H R) : CallsH Tryz.prog 109 ⟨[(.pointer b)]⟩ H R :=
  callsH_of_den (an := an) (fuel := 100000) (X := go b H R) (c := body) mixed fn (by kernel_rfl) (by kernel_rfl) (by kernel_rfl) ok (by kernel_rfl) h
end F109
/-! ### 110 "(*pub-stadtholder/pub/etcdserver/storage/backend.backend).ReadTx" -/
namespace F110
def an : Ann := { kinds := [], taus := [], pairs := [], lab := [] }
noncomputable def body : Code := (Tryz.f110.body).getD .skip
theorem fn : Tryz.prog.funcs[110]? = some Tryz.f110 := by kernel_rfl
theorem ok : codeOk an 8 body = true := by kernel_rfl
def go (b : Option Addr) (H : Heap) (R : Ending → Heap → Prop) : Prop :=
  nilD b fun a =>
  ldPtr H (Addr.add a 4) fun p =>
  R (.returned (.iface 100 (.pointer p))) H
theorem calls {b : Option Addr} {H : Heap} {R : Ending → Heap → Prop} (h : go b H R) : CallsH Tryz.prog 110 ⟨[(.pointer b)]⟩ H R :=
  callsH_of_den (an := an) (fuel := 100000) (X := go b H R) (c := body) mixed fn (by kernel_rfl) (by kernel_rfl) (by kernel_rfl) ok (by kernel_rfl) h
end F110
/-! ### 125 "(*pub-stadtholder/pub/stand/bolt.Tx).Bucket" -/
namespace F125
def an : Ann := { kinds := [], taus := [], pairs := [], lab := [] }
noncomputable def body : Code := (Tryz.f125.body).getD .skip
theorem fn : Tryz.prog.funcs[125]? = some Tryz.f125 := by kernel_rfl
theorem ok : codeOk an 22 body = true := by kernel_rfl
def go (tx : Option Addr) (name : Option Addr) (namen : Nat) (namec : Nat) (H : Heap) (R : Ending → Heap → Prop) : Prop :=
  callD Tryz.prog 131 [(.pointer tx), (.slice name namen namec)] H (panK R) fun v H1 =>
  tTup v fun l =>
  tCons l fun c l1 =>
  tInt c .i64 fun n =>
  tCons l1 fun c1 l2 =>
  tBool c1 fun b =>
  tNil l2 <|
  iteB (!b) (
    R (.returned (.pointer none)) H1) <|
  nilD tx fun a =>
  ldSl H1 (Addr.add a 3) fun q qn qc =>
  idxD q qn n fun a1 =>
  ldPtr H1 (Addr.add a1 (Int.toNat n * 1)) fun p =>
  R (.returned (.pointer p)) H1
theorem calls {tx : Option Addr} {name : Option Addr} {namen : Nat} {namec : Nat} {H : Heap} {R : Ending → Heap → Prop} (h : go tx name namen namec H R) : CallsH Tryz.prog 125 ⟨[(.pointer tx), (.slice name namen namec)]⟩ H R :=
  callsH_of_den (an := an) (fuel := 100000) (X := go tx name namen namec H R) (c := body) mixed fn (by kernel_rfl) (by kernel_rfl) (by kernel_rfl) ok (by kernel_rfl) h
end F125
/-! ### 126 "(*pub-stadtholder/pub/stand/bolt.Bucket).Cursor" -/
namespace F126
def an : Ann := { kinds := [], taus := [], pairs := [], lab := [] }
noncomputable def body : Code := (Tryz.f126.body).getD .skip
theorem fn : Tryz.prog.funcs[126]? = some Tryz.f126 := by kernel_rfl
theorem ok : codeOk an 11 body = true := by kernel_rfl
def go (b : Option Addr) (H : Heap) (R : Ending → Heap → Prop) : Prop :=
  nilD b fun a =>
  ldSl H (Addr.add (Addr.add a 1) 1) fun q qn qc =>
  newD H (.cells ⟨[(.slice q qn qc), (.int .i64 (0 : Int)), (.pointer b)]⟩ 239) fun r H1 =>
  R (.returned (.pointer (some ⟨r, 0, none⟩))) H1
theorem calls {b : Option Addr} {H : Heap} {R : Ending → Heap → Prop} (h : go b H R) : CallsH Tryz.prog 126 ⟨[(.pointer b)]⟩ H R :=
  callsH_of_den (an := an) (fuel := 100000) (X := go b H R) (c := body) mixed fn (by kernel_rfl) (by kernel_rfl) (by kernel_rfl) ok (by kernel_rfl) h
end F126
/-! ### 131 "(*pub-stadtholder/pub/stand/bolt.Tx).place" -/
namespace F131
def an : Ann := { kinds := [], taus := [], pairs := [], lab := [(40000003, [0, 1, 6]), (10000005, [0, 1, 6]), (40000004, [0, 1, 6])] }
noncomputable def body : Code := (Tryz.f131.body).getD .skip
theorem fn : Tryz.prog.funcs[131]? = some Tryz.f131 := by kernel_rfl
theorem ok : codeOk an 55 body = true := by kernel_rfl
noncomputable def L0t : List Item := [.code (sub [1, 1, 0, 0, 0] body), .inLoop (sub [1, 1, 0, 0, 0] body), .inBlock 0, .code (sub [1, 1, 1] body)]
def L0 (tx : Option Addr) (name : Option Addr) (namen : Nat) (namec : Nat) (i : Int) (H : Heap) (R : Ending → Heap → Prop) : Prop :=
  GoL Tryz.prog 131 55 L0t [0, 1, 6] [(.pointer tx), (.slice name namen namec), (.int .i64 i)] H R
noncomputable def L1t : List Item := [.code (sub [1, 1, 1] body)]
def L1 (tx : Option Addr) (name : Option Addr) (namen : Nat) (namec : Nat) (i : Int) (H : Heap) (R : Ending → Heap → Prop) : Prop :=
  GoL Tryz.prog 131 55 L1t [0, 1, 6] [(.pointer tx), (.slice name namen namec), (.int .i64 i)] H R
noncomputable def L2t : List Item := [.code (sub [1, 1, 0, 0, 0, 1] body), .inLoop (sub [1, 1, 0, 0, 0] body), .inBlock 0, .code (sub [1, 1, 1] body)]
def L2 (tx : Option Addr) (name : Option Addr) (namen : Nat) (namec : Nat) (i : Int) (H : Heap) (R : Ending → Heap → Prop) : Prop :=
  GoL Tryz.prog 131 55 L2t [0, 1, 6] [(.pointer tx), (.slice name namen namec), (.int .i64 i)] H R
def L0n (tx : Option Addr) (name : Option Addr) (namen : Nat) (namec : Nat) (i : Int) (H : Heap) (R : Ending → Heap → Prop) : Prop :=
  nilD tx fun a =>
  ldSl H (Addr.add a 3) fun q qn qc =>
  iteB (decide (i < ((qn : Nat) : Int))) (
    nilD tx fun a1 =>
    ldSl H (Addr.add a1 3) fun q1 q1n q1c =>
    idxD q1 q1n i fun a2 =>
    ldPtr H (Addr.add a2 (Int.toNat i * 1)) fun p =>
    nilD p fun a3 =>
    ldSl H (Addr.add a3 1) fun q2 q2n q2c =>
    callD Tryz.prog 68 [(.slice q2 q2n q2c), (.slice name namen namec)] H (panK R) fun v H1 =>
    tInt v .i64 fun n =>
    iteB (decide (n < (0 : Int))) (
      L2 tx name namen namec i H1 R) <|
    L1 tx name namen namec i H1 R) <|
  L1 tx name namen namec i H R
theorem L0_step {tx : Option Addr} {name : Option Addr} {namen : Nat} {namec : Nat} {i : Int} {H : Heap} {R : Ending → Heap → Prop} (h : L0n tx name namen namec i H R) : L0 tx name namen namec i H R :=
  goL_of_den (an := an) (fuel := 100000) (X := L0n tx name namen namec i H R) mixed fn (by kernel_rfl) (fun ρ0 => by kernel_rfl) h
def L1n (tx : Option Addr) (name : Option Addr) (namen : Nat) (namec : Nat) (i : Int) (H : Heap) (R : Ending → Heap → Prop) : Prop :=
  nilD tx fun a =>
  ldSl H (Addr.add a 3) fun q qn qc =>
  iteB (decide (i < ((qn : Nat) : Int))) (
    nilD tx fun a1 =>
    ldSl H (Addr.add a1 3) fun q1 q1n q1c =>
    idxD q1 q1n i fun a2 =>
    ldPtr H (Addr.add a2 (Int.toNat i * 1)) fun p =>
    nilD p fun a3 =>
    ldSl H (Addr.add a3 1) fun q2 q2n q2c =>
    callD Tryz.prog 64 [(.slice q2 q2n q2c), (.slice name namen namec)] H (panK R) fun v H1 =>
    tBool v fun b =>
    R (.returned (.tuple ⟨[(.int .i64 i), (.bool b)]⟩)) H1) <|
  R (.returned (.tuple ⟨[(.int .i64 i), (.bool false)]⟩)) H
theorem L1_step {tx : Option Addr} {name : Option Addr} {namen : Nat} {namec : Nat} {i : Int} {H : Heap} {R : Ending → Heap → Prop} (h : L1n tx name namen namec i H R) : L1 tx name namen namec i H R :=
  goL_of_den (an := an) (fuel := 100000) (X := L1n tx name namen namec i H R) mixed fn (by kernel_rfl) (fun ρ0 => by kernel_rfl) h
def L2n (tx : Option Addr) (name : Option Addr) (namen : Nat) (namec : Nat) (i : Int) (H : Heap) (R : Ending → Heap → Prop) : Prop :=
  L0 tx name namen namec (IntKind.wrap .i64 (i + (1 : Int))) H R
theorem L2_step {tx : Option Addr} {name : Option Addr} {namen : Nat} {namec : Nat} {i : Int} {H : Heap} {R : Ending → Heap → Prop} (h : L2n tx name namen namec i H R) : L2 tx name namen namec i H R :=
  goL_of_den (an := an) (fuel := 100000) (X := L2n tx name namen namec i H R) mixed fn (by kernel_rfl) (fun ρ0 => by kernel_rfl) h
def go (tx : Option Addr) (name : Option Addr) (namen : Nat) (namec : Nat) (H : Heap) (R : Ending → Heap → Prop) : Prop :=
  L0 tx name namen namec (0 : Int) H R
theorem calls {tx : Option Addr} {name : Option Addr} {namen : Nat} {namec : Nat} {H : Heap} {R : Ending → Heap → Prop} (h : go tx name namen namec H R) : CallsH Tryz.prog 131 ⟨[(.pointer tx), (.slice name namen namec)]⟩ H R :=
  callsH_of_den (an := an) (fuel := 100000) (X := go tx name namen namec H R) (c := body) mixed fn (by kernel_rfl) (by kernel_rfl) (by kernel_rfl) ok (by kernel_rfl) h
end F131
/-! ### 138 "(*pub-stadtholder/pub/stand/bolt.Bucket).place" -/
namespace F138
def an : Ann := { kinds := [], taus := [(1, [[0, 1, 2, 3, 6, 4, 5, 7]])], pairs := [], lab := [(40000003, [0, 1, 6, 7])] }
noncomputable def body : Code := (Tryz.f138.body).getD .skip
theorem fn : Tryz.prog.funcs[138]? = some Tryz.f138 := by kernel_rfl
theorem ok : codeOk an 59 body = true := by kernel_rfl
noncomputable def L0t : List Item := [.code (sub [1, 1, 0, 0, 0] body), .inLoop (sub [1, 1, 0, 0, 0] body), .inBlock 0, .code (sub [1, 1, 1] body)]
def L0 (b : Option Addr) (key : Option Addr) (keyn : Nat) (keyc : Nat) (lo : Int) (hi : Int) (H : Heap) (R : Ending → Heap → Prop) : Prop :=
  GoL Tryz.prog 138 59 L0t [0, 1, 6, 7] [(.pointer b), (.slice key keyn keyc), (.int .i64 lo), (.int .i64 hi)] H R
def L0n (b : Option Addr) (key : Option Addr) (keyn : Nat) (keyc : Nat) (lo : Int) (hi : Int) (H : Heap) (R : Ending → Heap → Prop) : Prop :=
  iteB (decide (lo < hi)) (
    divD (2 : Int) <|
    nilD b fun a =>
    ldSl H (Addr.add (Addr.add a 1) 1) fun q qn qc =>
    idxD q qn (IntKind.wrap .i64 (Int.tdiv (IntKind.wrap .i64 (lo + hi)) (2 : Int))) fun a1 =>
    ldSl H (Addr.add a1 (Int.toNat (IntKind.wrap .i64 (Int.tdiv (IntKind.wrap .i64 (lo + hi)) (2 : Int))) * 2)) fun q1 q1n q1c =>
    callD Tryz.prog 68 [(.slice q1 q1n q1c), (.slice key keyn keyc)] H (panK R) fun v H1 =>
    tInt v .i64 fun n =>
    iteB (decide (n < (0 : Int))) (
      L0 b key keyn keyc (IntKind.wrap .i64 ((IntKind.wrap .i64 (Int.tdiv (IntKind.wrap .i64 (lo + hi)) (2 : Int))) + (1 : Int))) hi H1 R) <|
    L0 b key keyn keyc lo (IntKind.wrap .i64 (Int.tdiv (IntKind.wrap .i64 (lo + hi)) (2 : Int))) H1 R) <|
  nilD b fun a2 =>
  ldSl H (Addr.add (Addr.add a2 1) 1) fun q2 q2n q2c =>
  iteB (decide (lo < ((q2n : Nat) : Int))) (
    nilD b fun a3 =>
    ldSl H (Addr.add (Addr.add a3 1) 1) fun q3 q3n q3c =>
    idxD q3 q3n lo fun a4 =>
    ldSl H (Addr.add a4 (Int.toNat lo * 2)) fun q4 q4n q4c =>
    callD Tryz.prog 64 [(.slice q4 q4n q4c), (.slice key keyn keyc)] H (panK R) fun v1 H2 =>
    tBool v1 fun b1 =>
    R (.returned (.tuple ⟨[(.int .i64 lo), (.bool b1)]⟩)) H2) <|
  R (.returned (.tuple ⟨[(.int .i64 lo), (.bool false)]⟩)) H
theorem L0_step {b : Option Addr} {key : Option Addr} {keyn : Nat} {keyc : Nat} {lo : Int} {hi : Int} {H : Heap} {R : Ending → Heap → Prop} (h : L0n b key keyn keyc lo hi H R) : L0 b key keyn keyc lo hi H R :=
  goL_of_den (an := an) (fuel := 100000) (X := L0n b key keyn keyc lo hi H R) mixed fn (by kernel_rfl) (fun ρ0 => by kernel_rfl) h
def go (b : Option Addr) (key : Option Addr) (keyn : Nat) (keyc : Nat) (H : Heap) (R : Ending → Heap → Prop) : Prop :=
  nilD b fun a =>
  ldSl H (Addr.add (Addr.add a 1) 1) fun q qn qc =>
  L0 b key keyn keyc (0 : Int) ((qn : Nat) : Int) H R
theorem calls {b : Option Addr} {key : Option Addr} {keyn : Nat} {keyc : Nat} {H : Heap} {R : Ending → Heap → Prop} (h : go b key keyn keyc H R) : CallsH Tryz.prog 138 ⟨[(.pointer b), (.slice key keyn keyc)]⟩ H R :=
  callsH_of_den (an := an) (fuel := 100000) (X := go b key keyn keyc H R) (c := body) mixed fn (by kernel_rfl) (by kernel_rfl) (by kernel_rfl) ok (by kernel_rfl) h
end F138
/-! ### 139 "(*pub-stadtholder/pub/stand/bolt.Cursor).here" -/
namespace F139
def an : Ann := { kinds := [], taus := [(1, [[0, 1, 2, 4, 5, 6, 3, 7, 8, 9]]), (3, [[0, 1, 2, 4, 5, 6, 11, 12, 13, 15, 16, 17, 3, 7, 8, 9, 10, 22, 14, 18, 19, 20, 21, 23]])], pairs := [], lab := [] }
noncomputable def body : Code := (Tryz.f139.body).getD .skip
theorem fn : Tryz.prog.funcs[139]? = some Tryz.f139 := by kernel_rfl
theorem ok : codeOk an 36 body = true := by kernel_rfl
def go (c : Option Addr) (H : Heap) (R : Ending → Heap → Prop) : Prop :=
  nilD c fun a =>
  nilD c fun a1 =>
  ldInt H (Addr.add a 1) .i64 fun n =>
  ldSl H a1 fun q qn qc =>
  iteB (decide (n ≥ ((qn : Nat) : Int))) (
    R (.returned (.tuple ⟨[(.slice none 0 0), (.slice none 0 0)]⟩)) H) <|
  nilD c fun a2 =>
  nilD c fun a3 =>
  nilD c fun a4 =>
  nilD c fun a5 =>
  ldSl H a2 fun q1 q1n q1c =>
  ldInt H (Addr.add a3 1) .i64 fun n1 =>
  idxD q1 q1n n1 fun a6 =>
  ldSl H (Addr.add a6 (Int.toNat n1 * 2)) fun q2 q2n q2c =>
  ldSl H a4 fun q3 q3n q3c =>
  ldInt H (Addr.add a5 1) .i64 fun n2 =>
  idxD q3 q3n n2 fun a7 =>
  ldSl H (Addr.add (Addr.add a7 (Int.toNat n2 * 2)) 1) fun q4 q4n q4c =>
  R (.returned (.tuple ⟨[(.slice q2 q2n q2c), (.slice q4 q4n q4c)]⟩)) H
theorem calls {c : Option Addr} {H : Heap} {R : Ending → Heap → Prop} (h : go c H R) : CallsH Tryz.prog 139 ⟨[(.pointer c)]⟩ H R :=
  callsH_of_den (an := an) (fuel := 100000) (X := go c H R) (c := body) mixed fn (by kernel_rfl) (by kernel_rfl) (by kernel_rfl) ok (by kernel_rfl) h
end F139
/-! ### 134 "(*pub-stadtholder/pub/stand/bolt.Cursor).Seek" -/
namespace F134
def an : Ann := { kinds := [], taus := [], pairs := [], lab := [] }
noncomputable def body : Code := (Tryz.f134.body).getD .skip
theorem fn : Tryz.prog.funcs[134]? = some Tryz.f134 := by kernel_rfl
theorem ok : codeOk an 22 body = true := by kernel_rfl
def go (c : Option Addr) (key : Option Addr) (keyn : Nat) (keyc : Nat) (H : Heap) (R : Ending → Heap → Prop) : Prop :=
  nilD c fun a =>
  ldPtr H (Addr.add a 2) fun p =>
  callD Tryz.prog 138 [(.pointer p), (.slice key keyn keyc)] H (panK R) fun v H1 =>
  tTup v fun l =>
  tCons l fun c1 l1 =>
  tInt c1 .i64 fun n =>
  tCons l1 fun c2 l2 =>
  tBool c2 fun b =>
  tNil l2 <|
  nilD c fun a1 =>
  st1 H1 (Addr.add a1 1) (.int .i64 n) fun H2 =>
  callD Tryz.prog 139 [(.pointer c)] H2 (panK R) fun v1 H3 =>
  tTup v1 fun l3 =>
  tCons l3 fun c3 l4 =>
  tSl c3 fun q qn qc =>
  tCons l4 fun c4 l5 =>
  tSl c4 fun q1 q1n q1c =>
  tNil l5 <|
  R (.returned (.tuple ⟨[(.slice q qn qc), (.slice q1 q1n q1c)]⟩)) H3
theorem calls {c : Option Addr} {key : Option Addr} {keyn : Nat} {keyc : Nat} {H : Heap} {R : Ending → Heap → Prop} (h : go c key keyn keyc H R) : CallsH Tryz.prog 134 ⟨[(.pointer c), (.slice key keyn keyc)]⟩ H R :=
  callsH_of_den (an := an) (fuel := 100000) (X := go c key keyn keyc H R) (c := body) mixed fn (by kernel_rfl) (by kernel_rfl) (by kernel_rfl) ok (by kernel_rfl) h
end F134
/-! ### 135 "(*pub-stadtholder/pub/stand/bolt.Cursor).Next" -/
namespace F135
def an : Ann := { kinds := [], taus := [], pairs := [], lab := [] }
noncomputable def body : Code := (Tryz.f135.body).getD .skip
theorem fn : Tryz.prog.funcs[135]? = some Tryz.f135 := by kernel_rfl
theorem ok : codeOk an 15 body = true := by kernel_rfl
def go (c : Option Addr) (H : Heap) (R : Ending → Heap → Prop) : Prop :=
  nilD c fun a =>
  ldInt H (Addr.add a 1) .i64 fun n =>
  nilD c fun a1 =>
  st1 H (Addr.add a1 1) (.int .i64 (IntKind.wrap .i64 (n + (1 : Int)))) fun H1 =>
  callD Tryz.prog 139 [(.pointer c)] H1 (panK R) fun v H2 =>
  tTup v fun l =>
  tCons l fun c1 l1 =>
  tSl c1 fun q qn qc =>
  tCons l1 fun c2 l2 =>
  tSl c2 fun q1 q1n q1c =>
  tNil l2 <|
  R (.returned (.tuple ⟨[(.slice q qn qc), (.slice q1 q1n q1c)]⟩)) H2
theorem calls {c : Option Addr} {H : Heap} {R : Ending → Heap → Prop} (h : go c H R) : CallsH Tryz.prog 135 ⟨[(.pointer c)]⟩ H R :=
  callsH_of_den (an := an) (fuel := 100000) (X := go c H R) (c := body) mixed fn (by kernel_rfl) (by kernel_rfl) (by kernel_rfl) ok (by kernel_rfl) h
end F135
/-! ### 144 "(*pub-stadtholder/pub/etcdserver/storage/backend.batchTx).LockOutsideApply" -/
namespace F144
def an : Ann := { kinds := [], taus := [], pairs := [], lab := [] }
noncomputable def body : Code := (Tryz.f144.body).getD .skip
theorem fn : Tryz.prog.funcs[144]? = some Tryz.f144 := by kernel_rfl
theorem ok : codeOk an 4 body = true := by kernel_rfl
def go (t : Option Addr) (H : Heap) (R : Ending → Heap → Prop) : Prop :=
  callD Tryz.prog 38 [(.pointer t)] H (panK R) fun v H1 =>
  tTup v fun l =>
  tNil l <|
  R (.returned (.tuple ⟨[]⟩)) H1
theorem calls {t : Option Addr} {H : Heap} {R : Ending → Heap → Prop} (h : go t H R) : CallsH Tryz.prog 144 ⟨[(.pointer t)]⟩ H R :=
  callsH_of_den (an := an) (fuel := 100000) (X := go t H R) (c := body) mixed fn (by kernel_rfl) (by kernel_rfl) (by kernel_rfl) ok (by kernel_rfl) h
end F144
/-! ### 167 "(pub-stadtholder/pub/etcdserver/storage/schema.bucket).ID" -/
namespace F167
def an : Ann := { kinds := [], taus := [], pairs := [], lab := [] }
noncomputable def body : Code := (Tryz.f167.body).getD .skip
theorem fn : Tryz.prog.funcs[167]? = some Tryz.f167 := by kernel_rfl
theorem ok : codeOk an 5 body = true := by kernel_rfl
def go (b_0 : Int) (b_1 : ByteArray) (b_2 : Bool) (H : Heap) (R : Ending → Heap → Prop) : Prop :=
  newD H (.cells ⟨[(.int .i64 b_0), (.string b_1), (.bool b_2)]⟩ 131) fun r H1 =>
  ldInt H1 ⟨r, 0, none⟩ .i64 fun n =>
  R (.returned (.int .i64 n)) H1
theorem calls {b_0 : Int} {b_1 : ByteArray} {b_2 : Bool} {H : Heap} {R : Ending → Heap → Prop} (h : go b_0 b_1 b_2 H R) : CallsH Tryz.prog 167 ⟨[(.agg ⟨[(.int .i64 b_0), (.string b_1), (.bool b_2)]⟩)]⟩ H R :=
  callsH_of_den (an := an) (fuel := 100000) (X := go b_0 b_1 b_2 H R) (c := body) mixed fn (by kernel_rfl) (by kernel_rfl) (by kernel_rfl) ok (by kernel_rfl) h
end F167
/-! ### 168 "(pub-stadtholder/pub/etcdserver/storage/schema.bucket).IsSafeRangeBucket" -/
namespace F168
def an : Ann := { kinds := [], taus := [], pairs := [], lab := [] }
noncomputable def body : Code := (Tryz.f168.body).getD .skip
theorem fn : Tryz.prog.funcs[168]? = some Tryz.f168 := by kernel_rfl
theorem ok : codeOk an 5 body = true := by kernel_rfl
def go (b_0 : Int) (b_1 : ByteArray) (b_2 : Bool) (H : Heap) (R : Ending → Heap → Prop) : Prop :=
  newD H (.cells ⟨[(.int .i64 b_0), (.string b_1), (.bool b_2)]⟩ 131) fun r H1 =>
  ldBool H1 ⟨r, 2, none⟩ fun b =>
  R (.returned (.bool b)) H1
theorem calls {b_0 : Int} {b_1 : ByteArray} {b_2 : Bool} {H : Heap} {R : Ending → Heap → Prop} (h : go b_0 b_1 b_2 H R) : CallsH Tryz.prog 168 ⟨[(.agg ⟨[(.int .i64 b_0), (.string b_1), (.bool b_2)]⟩)]⟩ H R :=
  callsH_of_den (an := an) (fuel := 100000) (X := go b_0 b_1 b_2 H R) (c := body) mixed fn (by kernel_rfl) (by kernel_rfl) (by kernel_rfl) ok (by kernel_rfl) h
end F168
/-! ### 169 "(pub-stadtholder/pub/etcdserver/storage/schema.bucket).Name" -/
namespace F169
def an : Ann := { kinds := [(1002, .loud)], taus := [], pairs := [], lab := [] }
noncomputable def body : Code := (Tryz.f169.body).getD .skip
theorem fn : Tryz.prog.funcs[169]? = some Tryz.f169 := by kernel_rfl
theorem ok : codeOk an 6 body = true := by kernel_rfl
def go (b_0 : Int) (b_1 : ByteArray) (b_2 : Bool) (H : Heap) (R : Ending → Heap → Prop) : Prop :=
  newD H (.cells ⟨[(.int .i64 b_0), (.string b_1), (.bool b_2)]⟩ 131) fun r H1 =>
  ldStr H1 ⟨r, 1, none⟩ fun s =>
  sbD H1 5 s fun r1 c H2 =>
  R (.returned (.slice (some ⟨r1, 0, none⟩) (ByteArray.size s) c)) H2
theorem calls {b_0 : Int} {b_1 : ByteArray} {b_2 : Bool} {H : Heap} {R : Ending → Heap → Prop} (h : go b_0 b_1 b_2 H R) : CallsH Tryz.prog 169 ⟨[(.agg ⟨[(.int .i64 b_0), (.string b_1), (.bool b_2)]⟩)]⟩ H R :=
  callsH_of_den (an := an) (fuel := 100000) (X := go b_0 b_1 b_2 H R) (c := body) mixed fn (by kernel_rfl) (by kernel_rfl) (by kernel_rfl) ok (by kernel_rfl) h
end F169
end Go.Proofs.YtkkookljlencgaaGreat
