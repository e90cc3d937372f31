/- What functions of this seat do, each proved by a walk; no condition. -/
import Derived.Test.YtobolifgehagfaaGreatDenZC
import Derived.Test.YtobolifgehagfaaGreatProg
import Derived.KernelRfl
set_option linter.unusedVariables false
namespace Go.Proofs.YtobolifgehagfaaGreat
open Go Go.Den Go.Proofs
theorem mixed : Tryz.prog.follows .mixedOrders = true := by kernel_rfl
/-! ### 7 "pub-stadtholder/laws.zzFits18" -/
namespace F7
def an : Ann := { kinds := [], taus := [], pairs := [], lab := [(40000005, [8, 9, 10])] }
noncomputable def body : Code := (Tryz.f7.body).getD .skip
theorem fn : Tryz.prog.funcs[7]? = some Tryz.f7 := by kernel_rfl
theorem ok : codeOk an 18 body = true := by kernel_rfl
noncomputable def L0t : List Item := [.code (sub [1, 1, 0, 1, 0, 0] body), .inLoop (sub [1, 1, 0, 1, 0, 0] body), .inBlock 0, .code (sub [1, 1, 1] body)]
def L0 (s8 : OA) (s8n s8c : Nat) (s9 s10 : Int) (H : Heap) (R : EH) : Prop :=
 GoL Tryz.prog 7 18 L0t [8, 9, 10] [(.slice s8 s8n s8c), (.int .i64 s9), (.int .i64 s10)] H R
def L0n (s8 : OA) (s8n s8c : Nat) (s9 s10 : Int) (H : Heap) (R : EH) : Prop :=
 iteB (decide (s10 < s9)) (
 idxD s8 s8n s10 fun a =>
 ldBool H (Addr.add a (Int.toNat s10 * 7)) fun b =>
 ldStr H (Addr.add (Addr.add a (Int.toNat s10 * 7)) 1) fun s =>
 ldStr H (Addr.add (Addr.add a (Int.toNat s10 * 7)) 2) fun s1 =>
 ldInt H (Addr.add (Addr.add a (Int.toNat s10 * 7)) 3) .i64 fun n =>
 ldInt H (Addr.add (Addr.add a (Int.toNat s10 * 7)) 4) .i64 fun n1 =>
 ldInt H (Addr.add (Addr.add a (Int.toNat s10 * 7)) 5) .i64 fun n2 =>
 ldInt H (Addr.add (Addr.add a (Int.toNat s10 * 7)) 6) .i64 fun n3 =>
 newD H (.cells ⟨[(.bool false), (.string (ByteArray.mk #[])), (.string (ByteArray.mk #[])), (.int .i64 (0 : Int)), (.int .i64 (0 : Int)), (.int .i64 (0 : Int)), (.int .i64 (0 : Int))]⟩ 36) fun r H1 =>
 st1 H1 ⟨r, 0, none⟩ (.bool b) fun H2 =>
 st1 H2 ⟨r, 1, none⟩ (.string s) fun H3 =>
 st1 H3 ⟨r, 2, none⟩ (.string s1) fun H4 =>
 st1 H4 ⟨r, 3, none⟩ (.int .i64 n) fun H5 =>
 st1 H5 ⟨r, 4, none⟩ (.int .i64 n1) fun H6 =>
 st1 H6 ⟨r, 5, none⟩ (.int .i64 n2) fun H7 =>
 st1 H7 ⟨r, 6, none⟩ (.int .i64 n3) fun H8 =>
 ldBool H8 ⟨r, 0, none⟩ fun b1 =>
 ldStr H8 ⟨r, 1, none⟩ fun s2 =>
 ldStr H8 ⟨r, 2, none⟩ fun s3 =>
 ldInt H8 ⟨r, 3, none⟩ .i64 fun n4 =>
 ldInt H8 ⟨r, 4, none⟩ .i64 fun n5 =>
 ldInt H8 ⟨r, 5, none⟩ .i64 fun n6 =>
 ldInt H8 ⟨r, 6, none⟩ .i64 fun n7 =>
 callD Tryz.prog 13 [(.agg ⟨[(.bool b1), (.string s2), (.string s3), (.int .i64 n4), (.int .i64 n5), (.int .i64 n6), (.int .i64 n7)]⟩)] H8 (panK R) fun v H9 =>
 tBool v fun b2 =>
 iteB (!b2) (
 R (.returned (.bool false)) H9) <|
 L0 s8 s8n s8c s9 (IntKind.wrap .i64 (s10 + (1 : Int))) H9 R) <|
 R (.returned (.bool true)) H
theorem L0_step {s8 : OA} {s8n s8c : Nat} {s9 s10 : Int} {H : Heap} {R : EH} (h : L0n s8 s8n s8c s9 s10 H R) : L0 s8 s8n s8c s9 s10 H R :=
 goL_of_den (an := an) (fuel := 100000) (X := L0n s8 s8n s8c s9 s10 H R) mixed fn (by kernel_rfl) (fun ρ0 => by kernel_rfl) h
def go (x : OA) (xn xc : Nat) (H : Heap) (R : EH) : Prop :=
 iteB (decide (((xn : Nat) : Int) > (2147483647 : Int))) (
 R (.returned (.bool false)) H) <|
 L0 x xn xc ((xn : Nat) : Int) (0 : Int) H R
theorem calls {x : OA} {xn xc : Nat} {H : Heap} {R : EH} (h : go x xn xc H R) : CallsH Tryz.prog 7 ⟨[(.slice x xn xc)]⟩ H R :=
 callsH_of_den (an := an) (fuel := 100000) (X := go x xn xc H R) (c := body) mixed fn (by kernel_rfl) (by kernel_rfl) (by kernel_rfl) ok (by kernel_rfl) h
end F7
/-! ### 9 "pub-stadtholder/laws.grLive" -/
namespace F9
def an : Ann := { kinds := [], taus := [], pairs := [], lab := [] }
noncomputable def body : Code := (Tryz.f9.body).getD .skip
theorem fn : Tryz.prog.funcs[9]? = some Tryz.f9 := by kernel_rfl
theorem ok : codeOk an 27 body = true := by kernel_rfl
def go  (H : Heap) (R : EH) : Prop :=
 newD H (.cells ⟨[(.int .i64 (1 : Int)), (.int .i64 (3 : Int)), (.string (ByteArray.mk #[107])), (.string (ByteArray.mk #[])), (.bool false), (.int .i64 (0 : Int)), (.string (ByteArray.mk #[])), (.int .i64 (0 : Int)), (.int .i64 (0 : Int)), (.slice none 0 0), (.int .i64 (4 : Int)), (.int .i64 (0 : Int)), (.string (ByteArray.mk #[])), (.string (ByteArray.mk #[])), (.bool false), (.int .i64 (0 : Int)), (.string (ByteArray.mk #[107])), (.int .i64 (0 : Int)), (.int .i64 (0 : Int)), (.slice none 0 0)]⟩ 30) fun r H1 =>
 callD Tryz.prog 15 [(.slice (some ⟨r, 0, none⟩) 2 2)] H1 (panK R) fun v H2 =>
 tSl v fun q qn qc =>
 iteB (((qn : Nat) : Int) == (2 : Int)) (
 idxD q qn (1 : Int) fun a =>
 ldSl H2 (Addr.add (Addr.add a (Int.toNat (1 : Int) * 4)) 2) fun q1 q1n q1c =>
 iteB (((q1n : Nat) : Int) == (1 : Int)) (
 idxD q qn (1 : Int) fun a1 =>
 ldSl H2 (Addr.add (Addr.add a1 (Int.toNat (1 : Int) * 4)) 2) fun q2 q2n q2c =>
 idxD q2 q2n (0 : Int) fun a2 =>
 ldInt H2 (Addr.add a2 (Int.toNat (0 : Int) * 1)) .i64 fun n =>
 R (.returned (.bool (n == (3 : Int)))) H2) <|
 R (.returned (.bool false)) H2) <|
 R (.returned (.bool false)) H2
theorem calls  {H : Heap} {R : EH} (h : go  H R) : CallsH Tryz.prog 9 ⟨[]⟩ H R :=
 callsH_of_den (an := an) (fuel := 100000) (X := go  H R) (c := body) mixed fn (by kernel_rfl) (by kernel_rfl) (by kernel_rfl) ok (by kernel_rfl) h
end F9
/-! ### 11 "pub-stadtholder/laws.grSameEvents" -/
namespace F11
def an : Ann := { kinds := [], taus := [(6, [[0, 1, 2, 4, 5, 6, 3, 7, 8]])], pairs := [], lab := [(40000005, [0, 1, 12, 13])] }
noncomputable def body : Code := (Tryz.f11.body).getD .skip
theorem fn : Tryz.prog.funcs[11]? = some Tryz.f11 := by kernel_rfl
theorem ok : codeOk an 26 body = true := by kernel_rfl
noncomputable def L0t : List Item := [.code (sub [1, 1, 0, 1, 0, 0] body), .inLoop (sub [1, 1, 0, 1, 0, 0] body), .inBlock 0, .code (sub [1, 1, 1] body)]
def L0 (a : OA) (an1 ac : Nat) (b : OA) (bn bc : Nat) (s12 s13 : Int) (H : Heap) (R : EH) : Prop :=
 GoL Tryz.prog 11 26 L0t [0, 1, 12, 13] [(.slice a an1 ac), (.slice b bn bc), (.int .i64 s12), (.int .i64 s13)] H R
def L0n (a : OA) (an1 ac : Nat) (b : OA) (bn bc : Nat) (s12 s13 : Int) (H : Heap) (R : EH) : Prop :=
 iteB (decide (s13 < s12)) (
 idxD a an1 s13 fun a1 =>
 idxD b bn s13 fun a2 =>
 ldBool H (Addr.add a1 (Int.toNat s13 * 7)) fun b1 =>
 ldStr H (Addr.add (Addr.add a1 (Int.toNat s13 * 7)) 1) fun s =>
 ldStr H (Addr.add (Addr.add a1 (Int.toNat s13 * 7)) 2) fun s1 =>
 ldInt H (Addr.add (Addr.add a1 (Int.toNat s13 * 7)) 3) .i64 fun n =>
 ldInt H (Addr.add (Addr.add a1 (Int.toNat s13 * 7)) 4) .i64 fun n1 =>
 ldInt H (Addr.add (Addr.add a1 (Int.toNat s13 * 7)) 5) .i64 fun n2 =>
 ldInt H (Addr.add (Addr.add a1 (Int.toNat s13 * 7)) 6) .i64 fun n3 =>
 ldBool H (Addr.add a2 (Int.toNat s13 * 7)) fun b2 =>
 ldStr H (Addr.add (Addr.add a2 (Int.toNat s13 * 7)) 1) fun s2 =>
 ldStr H (Addr.add (Addr.add a2 (Int.toNat s13 * 7)) 2) fun s3 =>
 ldInt H (Addr.add (Addr.add a2 (Int.toNat s13 * 7)) 3) .i64 fun n4 =>
 ldInt H (Addr.add (Addr.add a2 (Int.toNat s13 * 7)) 4) .i64 fun n5 =>
 ldInt H (Addr.add (Addr.add a2 (Int.toNat s13 * 7)) 5) .i64 fun n6 =>
 ldInt H (Addr.add (Addr.add a2 (Int.toNat s13 * 7)) 6) .i64 fun n7 =>
 rawB Tryz.prog .neq 36 (.agg ⟨[(.bool b1), (.string s), (.string s1), (.int .i64 n), (.int .i64 n1), (.int .i64 n2), (.int .i64 n3)]⟩) (.agg ⟨[(.bool b2), (.string s2), (.string s3), (.int .i64 n4), (.int .i64 n5), (.int .i64 n6), (.int .i64 n7)]⟩) fun b3 =>
 iteB (!b3) (
 R (.returned (.bool false)) H) <|
 L0 a an1 ac b bn bc s12 (IntKind.wrap .i64 (s13 + (1 : Int))) H R) <|
 R (.returned (.bool true)) H
theorem L0_step {a : OA} {an1 ac : Nat} {b : OA} {bn bc : Nat} {s12 s13 : Int} {H : Heap} {R : EH} (h : L0n a an1 ac b bn bc s12 s13 H R) : L0 a an1 ac b bn bc s12 s13 H R :=
 goL_of_den (an := an) (fuel := 100000) (X := L0n a an1 ac b bn bc s12 s13 H R) mixed fn (by kernel_rfl) (fun ρ0 => by kernel_rfl) h
def go (a : OA) (an1 ac : Nat) (b : OA) (bn bc : Nat) (H : Heap) (R : EH) : Prop :=
 iteB (((an1 : Nat) : Int) != ((bn : Nat) : Int)) (
 R (.returned (.bool false)) H) <|
 L0 a an1 ac b bn bc ((an1 : Nat) : Int) (0 : Int) H R
theorem calls {a : OA} {an1 ac : Nat} {b : OA} {bn bc : Nat} {H : Heap} {R : EH} (h : go a an1 ac b bn bc H R) : CallsH Tryz.prog 11 ⟨[(.slice a an1 ac), (.slice b bn bc)]⟩ H R :=
 callsH_of_den (an := an) (fuel := 100000) (X := go a an1 ac b bn bc H R) (c := body) mixed fn (by kernel_rfl) (by kernel_rfl) (by kernel_rfl) ok (by kernel_rfl) h
end F11
/-! ### 13 "pub-stadtholder/laws.zzFits19" -/
namespace F13
def an : Ann := { kinds := [], taus := [], pairs := [], lab := [] }
noncomputable def body : Code := (Tryz.f13.body).getD .skip
theorem fn : Tryz.prog.funcs[13]? = some Tryz.f13 := by kernel_rfl
theorem ok : codeOk an 7 body = true := by kernel_rfl
def go (x_0 : Bool) (x_1 x_2 : ByteArray) (x_3 x_4 x_5 x_6 : Int) (H : Heap) (R : EH) : Prop :=
 newD H (.cells ⟨[(.bool x_0), (.string x_1), (.string x_2), (.int .i64 x_3), (.int .i64 x_4), (.int .i64 x_5), (.int .i64 x_6)]⟩ 36) fun r H1 =>
 ldStr H1 ⟨r, 1, none⟩ fun s =>
 ldStr H1 ⟨r, 2, none⟩ fun s1 =>
 ldInt H1 ⟨r, 3, none⟩ .i64 fun n =>
 ldInt H1 ⟨r, 4, none⟩ .i64 fun n1 =>
 ldInt H1 ⟨r, 5, none⟩ .i64 fun n2 =>
 ldInt H1 ⟨r, 6, none⟩ .i64 fun n3 =>
 callD Tryz.prog 21 [(.agg ⟨[(.string s), (.string s1), (.int .i64 n), (.int .i64 n1), (.int .i64 n2), (.int .i64 n3)]⟩)] H1 (panK R) fun v H2 =>
 tBool v fun b =>
 iteB (!b) (
 R (.returned (.bool false)) H2) <|
 R (.returned (.bool true)) H2
theorem calls {x_0 : Bool} {x_1 x_2 : ByteArray} {x_3 x_4 x_5 x_6 : Int} {H : Heap} {R : EH} (h : go x_0 x_1 x_2 x_3 x_4 x_5 x_6 H R) : CallsH Tryz.prog 13 ⟨[(.agg ⟨[(.bool x_0), (.string x_1), (.string x_2), (.int .i64 x_3), (.int .i64 x_4), (.int .i64 x_5), (.int .i64 x_6)]⟩)]⟩ H R :=
 callsH_of_den (an := an) (fuel := 100000) (X := go x_0 x_1 x_2 x_3 x_4 x_5 x_6 H R) (c := body) mixed fn (by kernel_rfl) (by kernel_rfl) (by kernel_rfl) ok (by kernel_rfl) h
end F13
/-! ### 18 "pub-stadtholder/impl.told" -/
namespace F18
def an : Ann := { kinds := [(5007, .grow), (5008, .grow)], taus := [(5, [[0, 2, 4, 1, 3, 5, 6, 7, 8, 9, 10, 11]])], pairs := [], lab := [(40000004, [1, 2, 3, 4])] }
noncomputable def body : Code := (Tryz.f18.body).getD .skip
theorem fn : Tryz.prog.funcs[18]? = some Tryz.f18 := by kernel_rfl
theorem ok : codeOk an 31 body = true := by kernel_rfl
noncomputable def L0t : List Item := [.code (sub [1, 1, 0, 1, 0, 0] body), .inLoop (sub [1, 1, 0, 1, 0, 0] body), .inBlock 0, .code (sub [1, 1, 1] body)]
def L0 (b s2 t : Nat) (i : Int) (H : Heap) (R : EH) : Prop :=
 GoL Tryz.prog 18 31 L0t [1, 2, 3, 4] [(.pointer (some ⟨b, 0, none⟩)), (.pointer (some ⟨s2, 0, none⟩)), (.pointer (some ⟨t, 0, none⟩)), (.int .i64 i)] H R
def L0n (b s2 t : Nat) (i : Int) (H : Heap) (R : EH) : Prop :=
 ldSl H ⟨b, 1, none⟩ fun q qn qc =>
 iteB (decide (i < ((qn : Nat) : Int))) (
 ldSl H ⟨t, 1, none⟩ fun q1 q1n q1c =>
 ldSl H ⟨b, 1, none⟩ fun q2 q2n q2c =>
 idxD q2 q2n i fun a =>
 ldPtr H (Addr.add a (Int.toNat i * 1)) fun p =>
 callD Tryz.prog 32 [(.pointer p)] H nope fun v H1 =>
 tAgg v fun l =>
 tCons l fun c l1 =>
 tBool c fun b1 =>
 tCons l1 fun c1 l2 =>
 tStr c1 fun s =>
 tCons l2 fun c2 l3 =>
 tStr c2 fun s1 =>
 tCons l3 fun c3 l4 =>
 tInt c3 .i64 fun n =>
 tCons l4 fun c4 l5 =>
 tInt c4 .i64 fun n1 =>
 tCons l5 fun c5 l6 =>
 tInt c5 .i64 fun n2 =>
 tCons l6 fun c6 l7 =>
 tInt c6 .i64 fun n3 =>
 tNil l7 <|
 andD (ExtH H H1) <|
 newD H1 (.cells ⟨[(.bool b1), (.string s), (.string s1), (.int .i64 n), (.int .i64 n1), (.int .i64 n2), (.int .i64 n3)]⟩ 36) fun r H2 =>
 apD H2 7 72 [(.bool false), (.string (ByteArray.mk #[])), (.string (ByteArray.mk #[])), (.int .i64 (0 : Int)), (.int .i64 (0 : Int)), (.int .i64 (0 : Int)), (.int .i64 (0 : Int))] 36 q1 q1n q1c (some ⟨r, 0, none⟩) 1 fun q3 q3n q3c H3 =>
 st1 H3 ⟨t, 1, none⟩ (.slice q3 q3n q3c) fun H4 =>
 L0 b s2 t (IntKind.wrap .i64 (i + (1 : Int))) H4 R) <|
 ldInt H ⟨t, 0, none⟩ .i64 fun n4 =>
 ldSl H ⟨t, 1, none⟩ fun q4 q4n q4c =>
 ldInt H ⟨t, 2, none⟩ .i64 fun n5 =>
 ldInt H ⟨t, 3, none⟩ .i64 fun n6 =>
 st1 H ⟨s2, 0, none⟩ (.int .i64 n4) fun H5 =>
 st1 H5 ⟨s2, 1, none⟩ (.slice q4 q4n q4c) fun H6 =>
 st1 H6 ⟨s2, 2, none⟩ (.int .i64 n5) fun H7 =>
 st1 H7 ⟨s2, 3, none⟩ (.int .i64 n6) fun H8 =>
 ldInt H8 ⟨s2, 0, none⟩ .i64 fun n7 =>
 ldSl H8 ⟨s2, 1, none⟩ fun q5 q5n q5c =>
 ldInt H8 ⟨s2, 2, none⟩ .i64 fun n8 =>
 ldInt H8 ⟨s2, 3, none⟩ .i64 fun n9 =>
 R (.returned (.agg ⟨[(.int .i64 n7), (.slice q5 q5n q5c), (.int .i64 n8), (.int .i64 n9)]⟩)) H8
theorem L0_step {b s2 t : Nat} {i : Int} {H : Heap} {R : EH} (h : L0n b s2 t i H R) : L0 b s2 t i H R :=
 goL_of_den (an := an) (fuel := 100000) (X := L0n b s2 t i H R) mixed fn (by kernel_rfl) (fun ρ0 => by kernel_rfl) h
def go (b_0 : Int) (b_1 : OA) (b_1n b_1c : Nat) (b_2 b_3 : Int) (H : Heap) (R : EH) : Prop :=
 newD H (.cells ⟨[(.int .i64 b_0), (.slice b_1 b_1n b_1c), (.int .i64 b_2), (.int .i64 b_3)]⟩ 61) fun r H1 =>
 newD H1 (.cells ⟨[(.int .i64 (0 : Int)), (.slice none 0 0), (.int .i64 (0 : Int)), (.int .i64 (0 : Int))]⟩ 39) fun r1 H2 =>
 ldInt H2 ⟨r, 0, none⟩ .i64 fun n =>
 ldInt H2 ⟨r, 2, none⟩ .i64 fun n1 =>
 ldInt H2 ⟨r, 3, none⟩ .i64 fun n2 =>
 newD H2 (.cells ⟨[(.int .i64 (0 : Int)), (.slice none 0 0), (.int .i64 (0 : Int)), (.int .i64 (0 : Int))]⟩ 39) fun r2 H3 =>
 st1 H3 ⟨r2, 0, none⟩ (.int .i64 n) fun H4 =>
 st1 H4 ⟨r2, 1, none⟩ (.slice none 0 0) fun H5 =>
 st1 H5 ⟨r2, 2, none⟩ (.int .i64 n1) fun H6 =>
 st1 H6 ⟨r2, 3, none⟩ (.int .i64 n2) fun H7 =>
 L0 r r1 r2 (0 : Int) H7 R
theorem calls {b_0 : Int} {b_1 : OA} {b_1n b_1c : Nat} {b_2 b_3 : Int} {H : Heap} {R : EH} (h : go b_0 b_1 b_1n b_1c b_2 b_3 H R) : CallsH Tryz.prog 18 ⟨[(.agg ⟨[(.int .i64 b_0), (.slice b_1 b_1n b_1c), (.int .i64 b_2), (.int .i64 b_3)]⟩)]⟩ H R :=
 callsH_of_den (an := an) (fuel := 100000) (X := go b_0 b_1 b_1n b_1c b_2 b_3 H R) (c := body) mixed fn (by kernel_rfl) (by kernel_rfl) (by kernel_rfl) ok (by kernel_rfl) h
end F18
/-! ### 20 "pub-stadtholder/impl.eventsIn" -/
namespace F20
def an : Ann := { kinds := [(6002, .loud), (6005, .loud)], taus := [], pairs := [], lab := [(40000004, [0, 3, 4]), (60000010, [0, 3, 4, 6])] }
noncomputable def body : Code := (Tryz.f20.body).getD .skip
theorem fn : Tryz.prog.funcs[20]? = some Tryz.f20 := by kernel_rfl
theorem ok : codeOk an 49 body = true := by kernel_rfl
noncomputable def L0t : List Item := [.code (sub [1, 1, 0, 1, 0, 0] body), .inLoop (sub [1, 1, 0, 1, 0, 0] body), .inBlock 0, .code (sub [1, 1, 1] body)]
def L0 (l : OA) (ln lc : Nat) (out : OA) (outn outc : Nat) (i : Int) (H : Heap) (R : EH) : Prop :=
 GoL Tryz.prog 20 49 L0t [0, 3, 4] [(.slice l ln lc), (.slice out outn outc), (.int .i64 i)] H R
noncomputable def L1t : List Item := [.code (sub [1, 1, 0, 1, 0, 0, 1, 0, 0, 1, 1, 1] body), .inBlock 1, .code (sub [1, 1, 0, 1, 0, 0, 1, 1] body), .inLoop (sub [1, 1, 0, 1, 0, 0] body), .inBlock 0, .code (sub [1, 1, 1] body)]
def L1 (l : OA) (ln lc : Nat) (out : OA) (outn outc : Nat) (i : Int) (e : Nat) (H : Heap) (R : EH) : Prop :=
 GoL Tryz.prog 20 49 L1t [0, 3, 4, 6] [(.slice l ln lc), (.slice out outn outc), (.int .i64 i), (.pointer (some ⟨e, 0, none⟩))] H R
def L0n (l : OA) (ln lc : Nat) (out : OA) (outn outc : Nat) (i : Int) (H : Heap) (R : EH) : Prop :=
 iteB (decide (i < ((ln : Nat) : Int))) (
 idxD l ln i fun a =>
 ldStr H (Addr.add (Addr.add a (Int.toNat i * 7)) 1) fun s =>
 ldStr H (Addr.add (Addr.add (Addr.add a (Int.toNat i * 7)) 1) 1) fun s1 =>
 ldInt H (Addr.add (Addr.add (Addr.add a (Int.toNat i * 7)) 1) 2) .i64 fun n =>
 ldInt H (Addr.add (Addr.add (Addr.add a (Int.toNat i * 7)) 1) 3) .i64 fun n1 =>
 ldInt H (Addr.add (Addr.add (Addr.add a (Int.toNat i * 7)) 1) 4) .i64 fun n2 =>
 ldInt H (Addr.add (Addr.add (Addr.add a (Int.toNat i * 7)) 1) 5) .i64 fun n3 =>
 newD H (.cells ⟨[(.string (ByteArray.mk #[])), (.string (ByteArray.mk #[])), (.int .i64 (0 : Int)), (.int .i64 (0 : Int)), (.int .i64 (0 : Int)), (.int .i64 (0 : Int))]⟩ 34) fun r H1 =>
 st1 H1 ⟨r, 0, none⟩ (.string s) fun H2 =>
 st1 H2 ⟨r, 1, none⟩ (.string s1) fun H3 =>
 st1 H3 ⟨r, 2, none⟩ (.int .i64 n) fun H4 =>
 st1 H4 ⟨r, 3, none⟩ (.int .i64 n1) fun H5 =>
 st1 H5 ⟨r, 4, none⟩ (.int .i64 n2) fun H6 =>
 st1 H6 ⟨r, 5, none⟩ (.int .i64 n3) fun H7 =>
 ldStr H7 ⟨r, 0, none⟩ fun s2 =>
 sbD H7 5 s2 fun r1 c H8 =>
 ldStr H8 ⟨r, 1, none⟩ fun s3 =>
 sbD H8 5 s3 fun r2 c1 H9 =>
 ldInt H9 ⟨r, 2, none⟩ .i64 fun n4 =>
 ldInt H9 ⟨r, 3, none⟩ .i64 fun n5 =>
 ldInt H9 ⟨r, 4, none⟩ .i64 fun n6 =>
 ldInt H9 ⟨r, 5, none⟩ .i64 fun n7 =>
 newD H9 (.cells ⟨[(.slice (some ⟨r1, 0, none⟩) (ByteArray.size s2) c), (.int .i64 n4), (.int .i64 n5), (.int .i64 n6), (.slice (some ⟨r2, 0, none⟩) (ByteArray.size s3) c1), (.int .i64 n7)]⟩ 85) fun r3 H10 =>
 newD H10 (.cells ⟨[(.int .i32 (0 : Int)), (.pointer (some ⟨r3, 0, none⟩)), (.pointer none)]⟩ 88) fun r4 H11 =>
 idxD l ln i fun a1 =>
 ldBool H11 (Addr.add a1 (Int.toNat i * 7)) fun b =>
 iteB b (
 st1 H11 ⟨r4, 0, none⟩ (.int .i32 (1 : Int)) fun H12 =>
 L1 l ln lc out outn outc i r4 H12 R) <|
 L1 l ln lc out outn outc i r4 H11 R) <|
 R (.returned (.slice out outn outc)) H
theorem L0_step {l : OA} {ln lc : Nat} {out : OA} {outn outc : Nat} {i : Int} {H : Heap} {R : EH} (h : L0n l ln lc out outn outc i H R) : L0 l ln lc out outn outc i H R :=
 goL_of_den (an := an) (fuel := 100000) (X := L0n l ln lc out outn outc i H R) mixed fn (by kernel_rfl) (fun ρ0 => by kernel_rfl) h
def L1n (l : OA) (ln lc : Nat) (out : OA) (outn outc : Nat) (i : Int) (e : Nat) (H : Heap) (R : EH) : Prop :=
 newD H (.cells ⟨[(.pointer (some ⟨e, 0, none⟩))]⟩ 77) fun r H1 =>
 apD H1 1 8 [(.pointer none)] 77 out outn outc (some ⟨r, 0, none⟩) 1 fun q qn qc H2 =>
 L0 l ln lc q qn qc (IntKind.wrap .i64 (i + (1 : Int))) H2 R
theorem L1_step {l : OA} {ln lc : Nat} {out : OA} {outn outc : Nat} {i : Int} {e : Nat} {H : Heap} {R : EH} (h : L1n l ln lc out outn outc i e H R) : L1 l ln lc out outn outc i e H R :=
 goL_of_den (an := an) (fuel := 100000) (X := L1n l ln lc out outn outc i e H R) mixed fn (by kernel_rfl) (fun ρ0 => by kernel_rfl) h
def go (l : OA) (ln lc : Nat) (H : Heap) (R : EH) : Prop :=
 L0 l ln lc none 0 0 (0 : Int) H R
theorem calls {l : OA} {ln lc : Nat} {H : Heap} {R : EH} (h : go l ln lc H R) : CallsH Tryz.prog 20 ⟨[(.slice l ln lc)]⟩ H R :=
 callsH_of_den (an := an) (fuel := 100000) (X := go l ln lc H R) (c := body) mixed fn (by kernel_rfl) (by kernel_rfl) (by kernel_rfl) ok (by kernel_rfl) h
end F20
/-! ### 21 "pub-stadtholder/laws.zzFits14" -/
namespace F21
def an : Ann := { kinds := [], taus := [], pairs := [], lab := [] }
noncomputable def body : Code := (Tryz.f21.body).getD .skip
theorem fn : Tryz.prog.funcs[21]? = some Tryz.f21 := by kernel_rfl
theorem ok : codeOk an 11 body = true := by kernel_rfl
def go (x_0 x_1 : ByteArray) (x_2 x_3 x_4 x_5 : Int) (H : Heap) (R : EH) : Prop :=
 newD H (.cells ⟨[(.string x_0), (.string x_1), (.int .i64 x_2), (.int .i64 x_3), (.int .i64 x_4), (.int .i64 x_5)]⟩ 34) fun r H1 =>
 ldStr H1 ⟨r, 0, none⟩ fun s =>
 iteB (decide (((ByteArray.size s : Nat) : Int) > (2147483647 : Int))) (
 R (.returned (.bool false)) H1) <|
 ldStr H1 ⟨r, 1, none⟩ fun s1 =>
 iteB (decide (((ByteArray.size s1 : Nat) : Int) > (2147483647 : Int))) (
 R (.returned (.bool false)) H1) <|
 R (.returned (.bool true)) H1
theorem calls {x_0 x_1 : ByteArray} {x_2 x_3 x_4 x_5 : Int} {H : Heap} {R : EH} (h : go x_0 x_1 x_2 x_3 x_4 x_5 H R) : CallsH Tryz.prog 21 ⟨[(.agg ⟨[(.string x_0), (.string x_1), (.int .i64 x_2), (.int .i64 x_3), (.int .i64 x_4), (.int .i64 x_5)]⟩)]⟩ H R :=
 callsH_of_den (an := an) (fuel := 100000) (X := go x_0 x_1 x_2 x_3 x_4 x_5 H R) (c := body) mixed fn (by kernel_rfl) (by kernel_rfl) (by kernel_rfl) ok (by kernel_rfl) h
end F21
/-! ### 32 "pub-stadtholder/impl.event" -/
namespace F32
def an : Ann := { kinds := [(1009, .grow)], taus := [(1, [[0, 1, 2, 5, 6, 7, 3, 4, 8, 9, 10, 11]])], pairs := [], lab := [] }
noncomputable def body : Code := (Tryz.f32.body).getD .skip
theorem fn : Tryz.prog.funcs[32]? = some Tryz.f32 := by kernel_rfl
theorem ok : codeOk an 14 body = true := by kernel_rfl
def go (e : OA) (H : Heap) (R : EH) : Prop :=
 newD H (.cells ⟨[(.bool false), (.string (ByteArray.mk #[])), (.string (ByteArray.mk #[])), (.int .i64 (0 : Int)), (.int .i64 (0 : Int)), (.int .i64 (0 : Int)), (.int .i64 (0 : Int))]⟩ 36) fun r H1 =>
 nilD e fun a =>
 nilD e fun a1 =>
 ldInt H1 a .i32 fun n =>
 ldPtr H1 (Addr.add a1 1) fun p =>
 callD Tryz.prog 50 [(.pointer p)] H1 nope fun v H2 =>
 tAgg v fun l =>
 tCons l fun c l1 =>
 tStr c fun s =>
 tCons l1 fun c1 l2 =>
 tStr c1 fun s1 =>
 tCons l2 fun c2 l3 =>
 tInt c2 .i64 fun n1 =>
 tCons l3 fun c3 l4 =>
 tInt c3 .i64 fun n2 =>
 tCons l4 fun c4 l5 =>
 tInt c4 .i64 fun n3 =>
 tCons l5 fun c5 l6 =>
 tInt c5 .i64 fun n4 =>
 tNil l6 <|
 andD (ExtH H1 H2) <|
 st1 H2 ⟨r, 0, none⟩ (.bool (n == (1 : Int))) fun H3 =>
 st1 H3 ⟨r, 1, none⟩ (.string s) fun H4 =>
 st1 H4 ⟨r, 2, none⟩ (.string s1) fun H5 =>
 st1 H5 ⟨r, 3, none⟩ (.int .i64 n1) fun H6 =>
 st1 H6 ⟨r, 4, none⟩ (.int .i64 n2) fun H7 =>
 st1 H7 ⟨r, 5, none⟩ (.int .i64 n3) fun H8 =>
 st1 H8 ⟨r, 6, none⟩ (.int .i64 n4) fun H9 =>
 ldBool H9 ⟨r, 0, none⟩ fun b =>
 ldStr H9 ⟨r, 1, none⟩ fun s2 =>
 ldStr H9 ⟨r, 2, none⟩ fun s3 =>
 ldInt H9 ⟨r, 3, none⟩ .i64 fun n5 =>
 ldInt H9 ⟨r, 4, none⟩ .i64 fun n6 =>
 ldInt H9 ⟨r, 5, none⟩ .i64 fun n7 =>
 ldInt H9 ⟨r, 6, none⟩ .i64 fun n8 =>
 R (.returned (.agg ⟨[(.bool b), (.string s2), (.string s3), (.int .i64 n5), (.int .i64 n6), (.int .i64 n7), (.int .i64 n8)]⟩)) H9
theorem calls {e : OA} {H : Heap} {R : EH} (h : go e H R) : CallsH Tryz.prog 32 ⟨[(.pointer e)]⟩ H R :=
 callsH_of_den (an := an) (fuel := 100000) (X := go e H R) (c := body) mixed fn (by kernel_rfl) (by kernel_rfl) (by kernel_rfl) ok (by kernel_rfl) h
end F32
/-! ### 33 "(*pub-stadtholder/pub/etcdserver/storage/mvcc.eventBatch).add" -/
namespace F33
def an : Ann := { kinds := [], taus := [(4, [[0, 1, 2, 4, 5, 6, 3, 7, 8, 9, 10, 11, 12, 13, 14, 15, 16, 17, 18]])], pairs := [], lab := [(10000011, [0, 1])] }
noncomputable def body : Code := (Tryz.f33.body).getD .skip
theorem fn : Tryz.prog.funcs[33]? = some Tryz.f33 := by kernel_rfl
theorem ok : codeOk an 84 body = true := by kernel_rfl
noncomputable def L0t : List Item := [.code (sub [1, 1, 1, 1, 1] body)]
def L0 (s0 s1 : OA) (H : Heap) (R : EH) : Prop :=
 GoL Tryz.prog 33 84 L0t [0, 1] [(.pointer s0), (.pointer s1)] H R
def L0n (s0 s1 : OA) (H : Heap) (R : EH) : Prop :=
 nilD s0 fun a =>
 ldSl H a fun q qn qc =>
 newD H (.cells ⟨[(.pointer s1)]⟩ 77) fun r H1 =>
 apD H1 1 8 [(.pointer none)] 77 q qn qc (some ⟨r, 0, none⟩) 1 fun q1 q1n q1c H2 =>
 nilD s0 fun a1 =>
 st1 H2 a1 (.slice q1 q1n q1c) fun H3 =>
 R (.returned (.tuple ⟨[]⟩)) H3
theorem L0_step {s0 s1 : OA} {H : Heap} {R : EH} (h : L0n s0 s1 H R) : L0 s0 s1 H R :=
 goL_of_den (an := an) (fuel := 100000) (X := L0n s0 s1 H R) mixed fn (by kernel_rfl) (fun ρ0 => by kernel_rfl) h
def go (s0 s1 : OA) (H : Heap) (R : EH) : Prop :=
 nilD s0 fun a =>
 ldInt H (Addr.add a 1) .i64 fun n =>
 iteB (decide (n > (1000 : Int))) (
 R (.returned (.tuple ⟨[]⟩)) H) <|
 nilD s0 fun a1 =>
 ldSl H a1 fun q qn qc =>
 iteB (((qn : Nat) : Int) == (0 : Int)) (
 nilD s0 fun a2 =>
 st1 H (Addr.add a2 1) (.int .i64 (1 : Int)) fun H1 =>
 nilD s0 fun a3 =>
 ldSl H1 a3 fun q1 q1n q1c =>
 newD H1 (.cells ⟨[(.pointer s1)]⟩ 77) fun r H2 =>
 apD H2 1 8 [(.pointer none)] 77 q1 q1n q1c (some ⟨r, 0, none⟩) 1 fun q2 q2n q2c H3 =>
 nilD s0 fun a4 =>
 st1 H3 a4 (.slice q2 q2n q2c) fun H4 =>
 R (.returned (.tuple ⟨[]⟩)) H4) <|
 nilD s0 fun a5 =>
 nilD s0 fun a6 =>
 ldSl H a5 fun q3 q3n q3c =>
 ldSl H a6 fun q4 q4n q4c =>
 idxD q3 q3n (IntKind.wrap .i64 (((q4n : Nat) : Int) - (1 : Int))) fun a7 =>
 ldPtr H (Addr.add a7 (Int.toNat (IntKind.wrap .i64 (((q4n : Nat) : Int) - (1 : Int))) * 1)) fun p =>
 nilD p fun a8 =>
 ldPtr H (Addr.add a8 1) fun p1 =>
 nilD p1 fun a9 =>
 ldInt H (Addr.add a9 2) .i64 fun n1 =>
 nilD s1 fun a10 =>
 ldPtr H (Addr.add a10 1) fun p2 =>
 nilD p2 fun a11 =>
 ldInt H (Addr.add a11 2) .i64 fun n2 =>
 iteB (decide (n2 > n1)) (
 nilD s0 fun a12 =>
 ldInt H (Addr.add a12 1) .i64 fun n3 =>
 nilD s0 fun a13 =>
 st1 H (Addr.add a13 1) (.int .i64 (IntKind.wrap .i64 (n3 + (1 : Int)))) fun H5 =>
 nilD s0 fun a14 =>
 ldInt H5 (Addr.add a14 1) .i64 fun n4 =>
 iteB (decide (n4 > (1000 : Int))) (
 nilD s0 fun a15 =>
 st1 H5 (Addr.add a15 2) (.int .i64 n2) fun H6 =>
 R (.returned (.tuple ⟨[]⟩)) H6) <|
 L0 s0 s1 H5 R) <|
 L0 s0 s1 H R
theorem calls {s0 s1 : OA} {H : Heap} {R : EH} (h : go s0 s1 H R) : CallsH Tryz.prog 33 ⟨[(.pointer s0), (.pointer s1)]⟩ H R :=
 callsH_of_den (an := an) (fuel := 100000) (X := go s0 s1 H R) (c := body) mixed fn (by kernel_rfl) (by kernel_rfl) (by kernel_rfl) ok (by kernel_rfl) h
end F33
/-! ### 50 "pub-stadtholder/impl.kvOf" -/
namespace F50
def an : Ann := { kinds := [(1004, .read), (1009, .read)], taus := [(1, [[0, 1, 2, 5, 6, 7, 10, 11, 12, 14, 15, 16, 18, 19, 20, 22, 23, 24, 3, 4, 8, 9, 13, 17, 21, 25, 26, 27]])], pairs := [], lab := [] }
noncomputable def body : Code := (Tryz.f50.body).getD .skip
theorem fn : Tryz.prog.funcs[50]? = some Tryz.f50 := by kernel_rfl
theorem ok : codeOk an 30 body = true := by kernel_rfl
def go (x : OA) (H : Heap) (R : EH) : Prop :=
 newD H (.cells ⟨[(.string (ByteArray.mk #[])), (.string (ByteArray.mk #[])), (.int .i64 (0 : Int)), (.int .i64 (0 : Int)), (.int .i64 (0 : Int)), (.int .i64 (0 : Int))]⟩ 34) fun r H1 =>
 nilD x fun a =>
 nilD x fun a1 =>
 nilD x fun a2 =>
 nilD x fun a3 =>
 nilD x fun a4 =>
 nilD x fun a5 =>
 ldSl H1 a fun q qn qc =>
 bsD H1 q qn fun s =>
 ldSl H1 (Addr.add a1 4) fun q1 q1n q1c =>
 bsD H1 q1 q1n fun s1 =>
 ldInt H1 (Addr.add a2 1) .i64 fun n =>
 ldInt H1 (Addr.add a3 2) .i64 fun n1 =>
 ldInt H1 (Addr.add a4 3) .i64 fun n2 =>
 ldInt H1 (Addr.add a5 5) .i64 fun n3 =>
 st1 H1 ⟨r, 0, none⟩ (.string s) fun H2 =>
 st1 H2 ⟨r, 1, none⟩ (.string s1) fun H3 =>
 st1 H3 ⟨r, 2, none⟩ (.int .i64 n) fun H4 =>
 st1 H4 ⟨r, 3, none⟩ (.int .i64 n1) fun H5 =>
 st1 H5 ⟨r, 4, none⟩ (.int .i64 n2) fun H6 =>
 st1 H6 ⟨r, 5, none⟩ (.int .i64 n3) fun H7 =>
 ldStr H7 ⟨r, 0, none⟩ fun s2 =>
 ldStr H7 ⟨r, 1, none⟩ fun s3 =>
 ldInt H7 ⟨r, 2, none⟩ .i64 fun n4 =>
 ldInt H7 ⟨r, 3, none⟩ .i64 fun n5 =>
 ldInt H7 ⟨r, 4, none⟩ .i64 fun n6 =>
 ldInt H7 ⟨r, 5, none⟩ .i64 fun n7 =>
 R (.returned (.agg ⟨[(.string s2), (.string s3), (.int .i64 n4), (.int .i64 n5), (.int .i64 n6), (.int .i64 n7)]⟩)) H7
theorem calls {x : OA} {H : Heap} {R : EH} (h : go x H R) : CallsH Tryz.prog 50 ⟨[(.pointer x)]⟩ H R :=
 callsH_of_den (an := an) (fuel := 100000) (X := go x H R) (c := body) mixed fn (by kernel_rfl) (by kernel_rfl) (by kernel_rfl) ok (by kernel_rfl) h
end F50
end Go.Proofs.YtobolifgehagfaaGreat
