/- What functions of this seat do, each proved by a walk; no condition. -/
import Derived.Test.YtobolifgehagfaaGreatQD
import Derived.KernelRfl
set_option linter.unusedVariables false
namespace Go.Proofs.YtobolifgehagfaaGreat
open Go Go.Den Go.Proofs
/-! ### 3 "pub-stadtholder/laws.FnGroupBatch" -/
namespace F3
def an : Ann := { kinds := [], taus := [], pairs := [], lab := [] }
noncomputable def body : Code := (Tryz.f3.body).getD .skip
theorem fn : Tryz.prog.funcs[3]? = some Tryz.f3 := by kernel_rfl
theorem ok : codeOk an 17 body = true := by kernel_rfl
def go (l : OA) (ln lc : Nat) (events : OA) (eventsn eventsc : Nat) (H : Heap) (R : EH) : Prop :=
 callD Tryz.prog 6 [(.slice l ln lc)] H (panK R) fun v H1 =>
 tBool v fun b =>
 iteB (!b) (
 R (.returned (.bool true)) H1) <|
 callD Tryz.prog 7 [(.slice events eventsn eventsc)] H1 (panK R) fun v1 H2 =>
 tBool v1 fun b1 =>
 iteB (!b1) (
 R (.returned (.bool true)) H2) <|
 callD Tryz.prog 8 [(.slice l ln lc), (.agg ⟨[(.int .i64 (7 : Int)), (.int .i64 (0 : Int)), (.string (ByteArray.mk #[])), (.string (ByteArray.mk #[])), (.bool false), (.int .i64 (0 : Int)), (.string (ByteArray.mk #[])), (.int .i64 (0 : Int)), (.int .i64 (0 : Int)), (.slice events eventsn eventsc)]⟩)] H2 (panK R) fun v2 H3 =>
 tBool v2 fun b2 =>
 R (.returned (.bool b2)) H3
theorem calls {l : OA} {ln lc : Nat} {events : OA} {eventsn eventsc : Nat} {H : Heap} {R : EH} (h : go l ln lc events eventsn eventsc H R) : CallsH Tryz.prog 3 ⟨[(.slice l ln lc), (.slice events eventsn eventsc)]⟩ H R :=
 callsH_of_den (an := an) (fuel := 100000) (X := go l ln lc events eventsn eventsc H R) (c := body) mixed fn (by kernel_rfl) (by kernel_rfl) (by kernel_rfl) ok (by kernel_rfl) h
end F3
/-! ### 28 "pub-stadtholder/spec.For" -/
namespace F28
def an : Ann := { kinds := [], taus := [], pairs := [], lab := [(40000004, [2, 5, 8, 9, 10]), (60000007, [2, 5, 7, 8, 9, 10]), (40000008, [2, 5, 8, 9, 10])] }
noncomputable def body : Code := (Tryz.f28.body).getD .skip
theorem fn : Tryz.prog.funcs[28]? = some Tryz.f28 := by kernel_rfl
theorem ok : codeOk an 33 body = true := by kernel_rfl
noncomputable def L0t : List Item := [.code (sub [1, 1, 0, 1, 0, 0] body), .inLoop (sub [1, 1, 0, 1, 0, 0] body), .inBlock 0, .code (sub [1, 1, 1] body)]
def L0 (w : Nat) (out : OA) (outn outc : Nat) (s8 : OA) (s8n s8c : Nat) (s9 s10 : Int) (H : Heap) (R : EH) : Prop :=
 GoL Tryz.prog 28 33 L0t [2, 5, 8, 9, 10] [(.pointer (some ⟨w, 0, none⟩)), (.slice out outn outc), (.slice s8 s8n s8c), (.int .i64 s9), (.int .i64 s10)] H R
noncomputable def L1t : List Item := [.code (sub [1, 1, 0, 1, 0, 0, 1, 1, 0, 0, 1, 1, 0] body), .inBlock 1, .code (sub [1, 1, 0, 1, 0, 0, 1, 1, 1] body), .inLoop (sub [1, 1, 0, 1, 0, 0] body), .inBlock 0, .code (sub [1, 1, 1] body)]
def L1 (w : Nat) (out : OA) (outn outc e : Nat) (s8 : OA) (s8n s8c : Nat) (s9 s10 : Int) (H : Heap) (R : EH) : Prop :=
 GoL Tryz.prog 28 33 L1t [2, 5, 7, 8, 9, 10] [(.pointer (some ⟨w, 0, none⟩)), (.slice out outn outc), (.pointer (some ⟨e, 0, none⟩)), (.slice s8 s8n s8c), (.int .i64 s9), (.int .i64 s10)] H R
noncomputable def L2t : List Item := [.code (sub [1, 1, 0, 1, 0, 0, 1, 1, 1] body), .inLoop (sub [1, 1, 0, 1, 0, 0] body), .inBlock 0, .code (sub [1, 1, 1] body)]
def L2 (w : Nat) (out : OA) (outn outc : Nat) (s8 : OA) (s8n s8c : Nat) (s9 s10 : Int) (H : Heap) (R : EH) : Prop :=
 GoL Tryz.prog 28 33 L2t [2, 5, 8, 9, 10] [(.pointer (some ⟨w, 0, none⟩)), (.slice out outn outc), (.slice s8 s8n s8c), (.int .i64 s9), (.int .i64 s10)] H R
def L0n (w : Nat) (out : OA) (outn outc : Nat) (s8 : OA) (s8n s8c : Nat) (s9 s10 : Int) (H : Heap) (R : EH) : Prop :=
 iteB (decide (s10 < s9)) (
 idxD s8 s8n s10 fun a =>
 ldBool H (Addr.add a (Int.toNat s10 * 7)) fun b =>
 ldStr H (Addr.add (Addr.add a (Int.toNat s10 * 7)) 1) fun s =>
 ldStr H (Addr.add (Addr.add a (Int.toNat s10 * 7)) 2) fun s1 =>
 ldInt H (Addr.add (Addr.add a (Int.toNat s10 * 7)) 3) .i64 fun n =>
 ldInt H (Addr.add (Addr.add a (Int.toNat s10 * 7)) 4) .i64 fun n1 =>
 ldInt H (Addr.add (Addr.add a (Int.toNat s10 * 7)) 5) .i64 fun n2 =>
 ldInt H (Addr.add (Addr.add a (Int.toNat s10 * 7)) 6) .i64 fun n3 =>
 newD H (.cells ⟨[(.bool false), (.string (ByteArray.mk #[])), (.string (ByteArray.mk #[])), (.int .i64 (0 : Int)), (.int .i64 (0 : Int)), (.int .i64 (0 : Int)), (.int .i64 (0 : Int))]⟩ 36) fun r H1 =>
 st1 H1 ⟨r, 0, none⟩ (.bool b) fun H2 =>
 st1 H2 ⟨r, 1, none⟩ (.string s) fun H3 =>
 st1 H3 ⟨r, 2, none⟩ (.string s1) fun H4 =>
 st1 H4 ⟨r, 3, none⟩ (.int .i64 n) fun H5 =>
 st1 H5 ⟨r, 4, none⟩ (.int .i64 n1) fun H6 =>
 st1 H6 ⟨r, 5, none⟩ (.int .i64 n2) fun H7 =>
 st1 H7 ⟨r, 6, none⟩ (.int .i64 n3) fun H8 =>
 ldInt H8 ⟨w, 0, none⟩ .i64 fun n4 =>
 ldStr H8 ⟨w, 1, none⟩ fun s2 =>
 ldStr H8 ⟨w, 2, none⟩ fun s3 =>
 ldBool H8 ⟨w, 3, none⟩ fun b1 =>
 ldInt H8 ⟨w, 4, none⟩ .i64 fun n5 =>
 ldStr H8 ⟨r, 1, none⟩ fun s4 =>
 callD Tryz.prog 26 [(.agg ⟨[(.int .i64 n4), (.string s2), (.string s3), (.bool b1), (.int .i64 n5)]⟩), (.string s4)] H8 (panK R) fun v H9 =>
 tBool v fun b2 =>
 iteB b2 (
 ldInt H9 ⟨r, 4, none⟩ .i64 fun n6 =>
 ldInt H9 ⟨w, 4, none⟩ .i64 fun n7 =>
 iteB (decide (n6 ≥ n7)) (
 L1 w out outn outc r s8 s8n s8c s9 s10 H9 R) <|
 L2 w out outn outc s8 s8n s8c s9 s10 H9 R) <|
 L2 w out outn outc s8 s8n s8c s9 s10 H9 R) <|
 R (.returned (.slice out outn outc)) H
theorem L0_step {w : Nat} {out : OA} {outn outc : Nat} {s8 : OA} {s8n s8c : Nat} {s9 s10 : Int} {H : Heap} {R : EH} (h : L0n w out outn outc s8 s8n s8c s9 s10 H R) : L0 w out outn outc s8 s8n s8c s9 s10 H R :=
 goL_of_den (an := an) (fuel := 100000) (X := L0n w out outn outc s8 s8n s8c s9 s10 H R) mixed fn (by kernel_rfl) (fun ρ0 => by kernel_rfl) h
def L1n (w : Nat) (out : OA) (outn outc e : Nat) (s8 : OA) (s8n s8c : Nat) (s9 s10 : Int) (H : Heap) (R : EH) : Prop :=
 ldBool H ⟨e, 0, none⟩ fun b =>
 ldStr H ⟨e, 1, none⟩ fun s =>
 ldStr H ⟨e, 2, none⟩ fun s1 =>
 ldInt H ⟨e, 3, none⟩ .i64 fun n =>
 ldInt H ⟨e, 4, none⟩ .i64 fun n1 =>
 ldInt H ⟨e, 5, none⟩ .i64 fun n2 =>
 ldInt H ⟨e, 6, none⟩ .i64 fun n3 =>
 newD H (.cells ⟨[(.bool b), (.string s), (.string s1), (.int .i64 n), (.int .i64 n1), (.int .i64 n2), (.int .i64 n3)]⟩ 36) fun r H1 =>
 apD H1 7 72 [(.bool false), (.string (ByteArray.mk #[])), (.string (ByteArray.mk #[])), (.int .i64 (0 : Int)), (.int .i64 (0 : Int)), (.int .i64 (0 : Int)), (.int .i64 (0 : Int))] 36 out outn outc (some ⟨r, 0, none⟩) 1 fun q qn qc H2 =>
 L2 w q qn qc s8 s8n s8c s9 s10 H2 R
theorem L1_step {w : Nat} {out : OA} {outn outc e : Nat} {s8 : OA} {s8n s8c : Nat} {s9 s10 : Int} {H : Heap} {R : EH} (h : L1n w out outn outc e s8 s8n s8c s9 s10 H R) : L1 w out outn outc e s8 s8n s8c s9 s10 H R :=
 goL_of_den (an := an) (fuel := 100000) (X := L1n w out outn outc e s8 s8n s8c s9 s10 H R) mixed fn (by kernel_rfl) (fun ρ0 => by kernel_rfl) h
def L2n (w : Nat) (out : OA) (outn outc : Nat) (s8 : OA) (s8n s8c : Nat) (s9 s10 : Int) (H : Heap) (R : EH) : Prop :=
 L0 w out outn outc s8 s8n s8c s9 (IntKind.wrap .i64 (s10 + (1 : Int))) H R
theorem L2_step {w : Nat} {out : OA} {outn outc : Nat} {s8 : OA} {s8n s8c : Nat} {s9 s10 : Int} {H : Heap} {R : EH} (h : L2n w out outn outc s8 s8n s8c s9 s10 H R) : L2 w out outn outc s8 s8n s8c s9 s10 H R :=
 goL_of_den (an := an) (fuel := 100000) (X := L2n w out outn outc s8 s8n s8c s9 s10 H R) mixed fn (by kernel_rfl) (fun ρ0 => by kernel_rfl) h
def go (w_0 : Int) (w_1 w_2 : ByteArray) (w_3 : Bool) (w_4 : Int) (events : OA) (eventsn eventsc : Nat) (H : Heap) (R : EH) : Prop :=
 newD H (.cells ⟨[(.int .i64 w_0), (.string w_1), (.string w_2), (.bool w_3), (.int .i64 w_4)]⟩ 28) fun r H1 =>
 L0 r none 0 0 events eventsn eventsc ((eventsn : Nat) : Int) (0 : Int) H1 R
theorem calls {w_0 : Int} {w_1 w_2 : ByteArray} {w_3 : Bool} {w_4 : Int} {events : OA} {eventsn eventsc : Nat} {H : Heap} {R : EH} (h : go w_0 w_1 w_2 w_3 w_4 events eventsn eventsc H R) : CallsH Tryz.prog 28 ⟨[(.agg ⟨[(.int .i64 w_0), (.string w_1), (.string w_2), (.bool w_3), (.int .i64 w_4)]⟩), (.slice events eventsn eventsc)]⟩ H R :=
 callsH_of_den (an := an) (fuel := 100000) (X := go w_0 w_1 w_2 w_3 w_4 events eventsn eventsc H R) (c := body) mixed fn (by kernel_rfl) (by kernel_rfl) (by kernel_rfl) ok (by kernel_rfl) h
end F28
/-! ### 29 "pub-stadtholder/spec.Batch" -/
namespace F29
def an : Ann := { kinds := [], taus := [(9, [[0, 1, 3, 5, 6, 2, 4, 7, 8, 9, 10, 11, 12]])], pairs := [], lab := [(40000004, [2, 3, 7, 8, 9]), (60000012, [2, 3, 5, 7, 8, 9]), (40000015, [2, 3, 7, 8, 9])] }
noncomputable def body : Code := (Tryz.f29.body).getD .skip
theorem fn : Tryz.prog.funcs[29]? = some Tryz.f29 := by kernel_rfl
theorem ok : codeOk an 56 body = true := by kernel_rfl
noncomputable def L0t : List Item := [.code (sub [1, 1, 0, 1, 0, 0] body), .inLoop (sub [1, 1, 0, 1, 0, 0] body), .inBlock 0, .code (sub [1, 1, 1] body)]
def L0 (s2 t : Nat) (s7 : OA) (s7n s7c : Nat) (s8 s9 : Int) (H : Heap) (R : EH) : Prop :=
 GoL Tryz.prog 29 56 L0t [2, 3, 7, 8, 9] [(.pointer (some ⟨s2, 0, none⟩)), (.pointer (some ⟨t, 0, none⟩)), (.slice s7 s7n s7c), (.int .i64 s8), (.int .i64 s9)] H R
noncomputable def L1t : List Item := [.code (sub [1, 1, 0, 1, 0, 0, 1, 1, 0, 0, 1, 1, 1] body), .inBlock 1, .code (sub [1, 1, 0, 1, 0, 0, 1, 1, 1] body), .inLoop (sub [1, 1, 0, 1, 0, 0] body), .inBlock 0, .code (sub [1, 1, 1] body)]
def L1 (s2 t e : Nat) (s7 : OA) (s7n s7c : Nat) (s8 s9 : Int) (H : Heap) (R : EH) : Prop :=
 GoL Tryz.prog 29 56 L1t [2, 3, 5, 7, 8, 9] [(.pointer (some ⟨s2, 0, none⟩)), (.pointer (some ⟨t, 0, none⟩)), (.pointer (some ⟨e, 0, none⟩)), (.slice s7 s7n s7c), (.int .i64 s8), (.int .i64 s9)] H R
noncomputable def L2t : List Item := [.code (sub [1, 1, 0, 1, 0, 0, 1, 1, 1] body), .inLoop (sub [1, 1, 0, 1, 0, 0] body), .inBlock 0, .code (sub [1, 1, 1] body)]
def L2 (s2 t : Nat) (s7 : OA) (s7n s7c : Nat) (s8 s9 : Int) (H : Heap) (R : EH) : Prop :=
 GoL Tryz.prog 29 56 L2t [2, 3, 7, 8, 9] [(.pointer (some ⟨s2, 0, none⟩)), (.pointer (some ⟨t, 0, none⟩)), (.slice s7 s7n s7c), (.int .i64 s8), (.int .i64 s9)] H R
def L0n (s2 t : Nat) (s7 : OA) (s7n s7c : Nat) (s8 s9 : Int) (H : Heap) (R : EH) : Prop :=
 iteB (decide (s9 < s8)) (
 idxD s7 s7n s9 fun a =>
 ldBool H (Addr.add a (Int.toNat s9 * 7)) fun b =>
 ldStr H (Addr.add (Addr.add a (Int.toNat s9 * 7)) 1) fun s =>
 ldStr H (Addr.add (Addr.add a (Int.toNat s9 * 7)) 2) fun s1 =>
 ldInt H (Addr.add (Addr.add a (Int.toNat s9 * 7)) 3) .i64 fun n =>
 ldInt H (Addr.add (Addr.add a (Int.toNat s9 * 7)) 4) .i64 fun n1 =>
 ldInt H (Addr.add (Addr.add a (Int.toNat s9 * 7)) 5) .i64 fun n2 =>
 ldInt H (Addr.add (Addr.add a (Int.toNat s9 * 7)) 6) .i64 fun n3 =>
 newD H (.cells ⟨[(.bool false), (.string (ByteArray.mk #[])), (.string (ByteArray.mk #[])), (.int .i64 (0 : Int)), (.int .i64 (0 : Int)), (.int .i64 (0 : Int)), (.int .i64 (0 : Int))]⟩ 36) fun r H1 =>
 st1 H1 ⟨r, 0, none⟩ (.bool b) fun H2 =>
 st1 H2 ⟨r, 1, none⟩ (.string s) fun H3 =>
 st1 H3 ⟨r, 2, none⟩ (.string s1) fun H4 =>
 st1 H4 ⟨r, 3, none⟩ (.int .i64 n) fun H5 =>
 st1 H5 ⟨r, 4, none⟩ (.int .i64 n1) fun H6 =>
 st1 H6 ⟨r, 5, none⟩ (.int .i64 n2) fun H7 =>
 st1 H7 ⟨r, 6, none⟩ (.int .i64 n3) fun H8 =>
 ldSl H8 ⟨t, 1, none⟩ fun q qn qc =>
 ldInt H8 ⟨t, 2, none⟩ .i64 fun n4 =>
 iteB (decide (n4 > (1000 : Int))) (
 L2 s2 t s7 s7n s7c s8 s9 H8 R) <|
 iteB (((qn : Nat) : Int) == (0 : Int)) (
 st1 H8 ⟨t, 2, none⟩ (.int .i64 (1 : Int)) fun H9 =>
 L1 s2 t r s7 s7n s7c s8 s9 H9 R) <|
 ldInt H8 ⟨r, 4, none⟩ .i64 fun n5 =>
 ldSl H8 ⟨t, 1, none⟩ fun q1 q1n q1c =>
 idxD q1 q1n (IntKind.wrap .i64 (((qn : Nat) : Int) - (1 : Int))) fun a1 =>
 ldInt H8 (Addr.add (Addr.add (Addr.add a1 (Int.toNat (IntKind.wrap .i64 (((qn : Nat) : Int) - (1 : Int))) * 7)) 1) 3) .i64 fun n6 =>
 iteB (decide (n5 > n6)) (
 ldInt H8 ⟨t, 2, none⟩ .i64 fun n7 =>
 st1 H8 ⟨t, 2, none⟩ (.int .i64 (IntKind.wrap .i64 (n7 + (1 : Int)))) fun H10 =>
 L1 s2 t r s7 s7n s7c s8 s9 H10 R) <|
 L1 s2 t r s7 s7n s7c s8 s9 H8 R) <|
 ldInt H ⟨t, 0, none⟩ .i64 fun n8 =>
 ldSl H ⟨t, 1, none⟩ fun q2 q2n q2c =>
 ldInt H ⟨t, 2, none⟩ .i64 fun n9 =>
 ldInt H ⟨t, 3, none⟩ .i64 fun n10 =>
 st1 H ⟨s2, 0, none⟩ (.int .i64 n8) fun H11 =>
 st1 H11 ⟨s2, 1, none⟩ (.slice q2 q2n q2c) fun H12 =>
 st1 H12 ⟨s2, 2, none⟩ (.int .i64 n9) fun H13 =>
 st1 H13 ⟨s2, 3, none⟩ (.int .i64 n10) fun H14 =>
 ldInt H14 ⟨s2, 0, none⟩ .i64 fun n11 =>
 ldSl H14 ⟨s2, 1, none⟩ fun q3 q3n q3c =>
 ldInt H14 ⟨s2, 2, none⟩ .i64 fun n12 =>
 ldInt H14 ⟨s2, 3, none⟩ .i64 fun n13 =>
 R (.returned (.agg ⟨[(.int .i64 n11), (.slice q3 q3n q3c), (.int .i64 n12), (.int .i64 n13)]⟩)) H14
theorem L0_step {s2 t : Nat} {s7 : OA} {s7n s7c : Nat} {s8 s9 : Int} {H : Heap} {R : EH} (h : L0n s2 t s7 s7n s7c s8 s9 H R) : L0 s2 t s7 s7n s7c s8 s9 H R :=
 goL_of_den (an := an) (fuel := 100000) (X := L0n s2 t s7 s7n s7c s8 s9 H R) mixed fn (by kernel_rfl) (fun ρ0 => by kernel_rfl) h
def L1n (s2 t e : Nat) (s7 : OA) (s7n s7c : Nat) (s8 s9 : Int) (H : Heap) (R : EH) : Prop :=
 ldInt H ⟨t, 2, none⟩ .i64 fun n =>
 iteB (decide (n > (1000 : Int))) (
 ldInt H ⟨e, 4, none⟩ .i64 fun n1 =>
 st1 H ⟨t, 3, none⟩ (.int .i64 n1) fun H1 =>
 L2 s2 t s7 s7n s7c s8 s9 H1 R) <|
 ldSl H ⟨t, 1, none⟩ fun q qn qc =>
 ldBool H ⟨e, 0, none⟩ fun b =>
 ldStr H ⟨e, 1, none⟩ fun s =>
 ldStr H ⟨e, 2, none⟩ fun s1 =>
 ldInt H ⟨e, 3, none⟩ .i64 fun n2 =>
 ldInt H ⟨e, 4, none⟩ .i64 fun n3 =>
 ldInt H ⟨e, 5, none⟩ .i64 fun n4 =>
 ldInt H ⟨e, 6, none⟩ .i64 fun n5 =>
 newD H (.cells ⟨[(.bool b), (.string s), (.string s1), (.int .i64 n2), (.int .i64 n3), (.int .i64 n4), (.int .i64 n5)]⟩ 36) fun r H2 =>
 apD H2 7 72 [(.bool false), (.string (ByteArray.mk #[])), (.string (ByteArray.mk #[])), (.int .i64 (0 : Int)), (.int .i64 (0 : Int)), (.int .i64 (0 : Int)), (.int .i64 (0 : Int))] 36 q qn qc (some ⟨r, 0, none⟩) 1 fun q1 q1n q1c H3 =>
 st1 H3 ⟨t, 1, none⟩ (.slice q1 q1n q1c) fun H4 =>
 L2 s2 t s7 s7n s7c s8 s9 H4 R
theorem L1_step {s2 t e : Nat} {s7 : OA} {s7n s7c : Nat} {s8 s9 : Int} {H : Heap} {R : EH} (h : L1n s2 t e s7 s7n s7c s8 s9 H R) : L1 s2 t e s7 s7n s7c s8 s9 H R :=
 goL_of_den (an := an) (fuel := 100000) (X := L1n s2 t e s7 s7n s7c s8 s9 H R) mixed fn (by kernel_rfl) (fun ρ0 => by kernel_rfl) h
def L2n (s2 t : Nat) (s7 : OA) (s7n s7c : Nat) (s8 s9 : Int) (H : Heap) (R : EH) : Prop :=
 L0 s2 t s7 s7n s7c s8 (IntKind.wrap .i64 (s9 + (1 : Int))) H R
theorem L2_step {s2 t : Nat} {s7 : OA} {s7n s7c : Nat} {s8 s9 : Int} {H : Heap} {R : EH} (h : L2n s2 t s7 s7n s7c s8 s9 H R) : L2 s2 t s7 s7n s7c s8 s9 H R :=
 goL_of_den (an := an) (fuel := 100000) (X := L2n s2 t s7 s7n s7c s8 s9 H R) mixed fn (by kernel_rfl) (fun ρ0 => by kernel_rfl) h
def go (events : OA) (eventsn eventsc : Nat) (H : Heap) (R : EH) : Prop :=
 newD H (.cells ⟨[(.int .i64 (0 : Int)), (.slice none 0 0), (.int .i64 (0 : Int)), (.int .i64 (0 : Int))]⟩ 39) fun r H1 =>
 newD H1 (.cells ⟨[(.int .i64 (0 : Int)), (.slice none 0 0), (.int .i64 (0 : Int)), (.int .i64 (0 : Int))]⟩ 39) fun r1 H2 =>
 L0 r r1 events eventsn eventsc ((eventsn : Nat) : Int) (0 : Int) H2 R
theorem calls {events : OA} {eventsn eventsc : Nat} {H : Heap} {R : EH} (h : go events eventsn eventsc H R) : CallsH Tryz.prog 29 ⟨[(.slice events eventsn eventsc)]⟩ H R :=
 callsH_of_den (an := an) (fuel := 100000) (X := go events eventsn eventsc H R) (c := body) mixed fn (by kernel_rfl) (by kernel_rfl) (by kernel_rfl) ok (by kernel_rfl) h
end F29
/-! ### 31 "pub-stadtholder/laws.grSameTold" -/
namespace F31
def an : Ann := { kinds := [], taus := [], pairs := [], lab := [] }
noncomputable def body : Code := (Tryz.f31.body).getD .skip
theorem fn : Tryz.prog.funcs[31]? = some Tryz.f31 := by kernel_rfl
theorem ok : codeOk an 31 body = true := by kernel_rfl
def go (a_0 : Int) (a_1 : OA) (a_1n a_1c : Nat) (a_2 a_3 b_0 : Int) (b_1 : OA) (b_1n b_1c : Nat) (b_2 b_3 : Int) (H : Heap) (R : EH) : Prop :=
 newD H (.cells ⟨[(.int .i64 a_0), (.slice a_1 a_1n a_1c), (.int .i64 a_2), (.int .i64 a_3)]⟩ 39) fun r H1 =>
 newD H1 (.cells ⟨[(.int .i64 b_0), (.slice b_1 b_1n b_1c), (.int .i64 b_2), (.int .i64 b_3)]⟩ 39) fun r1 H2 =>
 ldInt H2 ⟨r, 0, none⟩ .i64 fun n =>
 ldInt H2 ⟨r1, 0, none⟩ .i64 fun n1 =>
 iteB (n == n1) (
 ldInt H2 ⟨r, 2, none⟩ .i64 fun n2 =>
 ldInt H2 ⟨r1, 2, none⟩ .i64 fun n3 =>
 iteB (n2 == n3) (
 ldInt H2 ⟨r, 3, none⟩ .i64 fun n4 =>
 ldInt H2 ⟨r1, 3, none⟩ .i64 fun n5 =>
 iteB (n4 == n5) (
 ldSl H2 ⟨r, 1, none⟩ fun q qn qc =>
 ldSl H2 ⟨r1, 1, none⟩ fun q1 q1n q1c =>
 callD Tryz.prog 11 [(.slice q qn qc), (.slice q1 q1n q1c)] H2 (panK R) fun v H3 =>
 tBool v fun b =>
 R (.returned (.bool b)) H3) <|
 R (.returned (.bool false)) H2) <|
 R (.returned (.bool false)) H2) <|
 R (.returned (.bool false)) H2
theorem calls {a_0 : Int} {a_1 : OA} {a_1n a_1c : Nat} {a_2 a_3 b_0 : Int} {b_1 : OA} {b_1n b_1c : Nat} {b_2 b_3 : Int} {H : Heap} {R : EH} (h : go a_0 a_1 a_1n a_1c a_2 a_3 b_0 b_1 b_1n b_1c b_2 b_3 H R) : CallsH Tryz.prog 31 ⟨[(.agg ⟨[(.int .i64 a_0), (.slice a_1 a_1n a_1c), (.int .i64 a_2), (.int .i64 a_3)]⟩), (.agg ⟨[(.int .i64 b_0), (.slice b_1 b_1n b_1c), (.int .i64 b_2), (.int .i64 b_3)]⟩)]⟩ H R :=
 callsH_of_den (an := an) (fuel := 100000) (X := go a_0 a_1 a_1n a_1c a_2 a_3 b_0 b_1 b_1n b_1c b_2 b_3 H R) (c := body) mixed fn (by kernel_rfl) (by kernel_rfl) (by kernel_rfl) ok (by kernel_rfl) h
end F31
/-! ### 46 "(*pub-stadtholder/pub/etcdserver/storage/mvcc.ZzGroup).Batch" -/
namespace F46
def an : Ann := { kinds := [(2005, .heavy 0), (3000, .heavy 134), (4000, .heavy 134), (5018, .grow)], taus := [(5, [[0, 1, 2, 3, 5, 6, 7, 9, 10, 11, 13, 14, 15, 4, 8, 12, 16, 17, 18, 19, 20]])], pairs := [], lab := [(40000004, [5, 13])] }
noncomputable def body : Code := (Tryz.f46.body).getD .skip
theorem fn : Tryz.prog.funcs[46]? = some Tryz.f46 := by kernel_rfl
theorem ok : codeOk an 40 body = true := by kernel_rfl
noncomputable def L0t : List Item := [.code (sub [1, 1, 0, 1, 0, 0] body), .inLoop (sub [1, 1, 0, 1, 0, 0] body), .inBlock 0, .code (sub [1, 1, 1] body)]
def L0 (out : OA) (outn outc : Nat) (s13 : OA) (H : Heap) (R : EH) : Prop :=
 GoL Tryz.prog 46 40 L0t [5, 13] [(.slice out outn outc), (.pointer s13)] H R
def L0n (out : OA) (outn outc : Nat) (s13 : OA) (H : Heap) (R : EH) : Prop :=
 valD Tryz.prog (Instr.next (.pointer s13) false 0) H (panK R) fun v H1 =>
 tTup v fun l =>
 tCons l fun c l1 =>
 tBool c fun b =>
 iteB b (
 tCons l1 fun c1 l2 =>
 tPtr c1 fun p =>
 tCons l2 fun c2 l3 =>
 tPtr c2 fun p1 =>
 tNil l3 <|
 valD Tryz.prog (Instr.entry (.pointer s13)) H1 (panK R) fun v1 H2 =>
 tTup v1 fun l4 =>
 tCons l4 fun c3 l5 =>
 tPtr c3 fun p2 =>
 tCons l5 fun c4 l6 =>
 tPtr c4 fun p3 =>
 tNil l6 <|
 nilD p2 fun a =>
 nilD p3 fun a1 =>
 nilD p3 fun a2 =>
 nilD p3 fun a3 =>
 ldInt H2 (Addr.add a 7) .i64 fun n =>
 ldSl H2 a1 fun q qn qc =>
 ldInt H2 (Addr.add a2 1) .i64 fun n1 =>
 ldInt H2 (Addr.add a3 2) .i64 fun n2 =>
 newD H2 (.cells ⟨[(.int .i64 n), (.slice q qn qc), (.int .i64 n1), (.int .i64 n2)]⟩ 61) fun r H3 =>
 apD H3 4 48 [(.int .i64 (0 : Int)), (.slice none 0 0), (.int .i64 (0 : Int)), (.int .i64 (0 : Int))] 61 out outn outc (some ⟨r, 0, none⟩) 1 fun q1 q1n q1c H4 =>
 L0 q1 q1n q1c s13 H4 R) <|
 tNil l1 <|
 R (.returned (.slice out outn outc)) H1
theorem L0_step {out : OA} {outn outc : Nat} {s13 : OA} {H : Heap} {R : EH} (h : L0n out outn outc s13 H R) : L0 out outn outc s13 H R :=
 goL_of_den (an := an) (fuel := 100000) (X := L0n out outn outc s13 H R) mixed fn (by kernel_rfl) (fun ρ0 => by kernel_rfl) h
def go (z evs : OA) (evsn evsc : Nat) (H : Heap) (R : EH) : Prop :=
 nilD z fun a =>
 callD Tryz.prog 60 [(.pointer (some a)), (.slice evs evsn evsc)] H (panK R) fun v H1 =>
 tMap v fun m =>
 valD Tryz.prog (Instr.range 134 (.map m)) H1 (panK R) fun v1 H2 =>
 tPtr v1 fun p =>
 L0 none 0 0 p H2 R
theorem calls {z evs : OA} {evsn evsc : Nat} {H : Heap} {R : EH} (h : go z evs evsn evsc H R) : CallsH Tryz.prog 46 ⟨[(.pointer z), (.slice evs evsn evsc)]⟩ H R :=
 callsH_of_den (an := an) (fuel := 100000) (X := go z evs evsn evsc H R) (c := body) mixed fn (by kernel_rfl) (by kernel_rfl) (by kernel_rfl) ok (by kernel_rfl) h
end F46
/-! ### 48 "pub-stadtholder/impl.grouped$1" -/
namespace F48
def an : Ann := { kinds := [], taus := [], pairs := [], lab := [] }
noncomputable def body : Code := (Tryz.f48.body).getD .skip
theorem fn : Tryz.prog.funcs[48]? = some Tryz.f48 := by kernel_rfl
theorem ok : codeOk an 15 body = true := by kernel_rfl
def go (x_0 : Int) (x_1 : OA) (x_1n x_1c : Nat) (x_2 x_3 y_0 : Int) (y_1 : OA) (y_1n y_1c : Nat) (y_2 y_3 : Int) (H : Heap) (R : EH) : Prop :=
 newD H (.cells ⟨[(.int .i64 x_0), (.slice x_1 x_1n x_1c), (.int .i64 x_2), (.int .i64 x_3)]⟩ 39) fun r H1 =>
 newD H1 (.cells ⟨[(.int .i64 y_0), (.slice y_1 y_1n y_1c), (.int .i64 y_2), (.int .i64 y_3)]⟩ 39) fun r1 H2 =>
 ldInt H2 ⟨r, 0, none⟩ .i64 fun n =>
 ldInt H2 ⟨r1, 0, none⟩ .i64 fun n1 =>
 iteB (decide (n < n1)) (
 R (.returned (.int .i64 (-1 : Int))) H2) <|
 ldInt H2 ⟨r, 0, none⟩ .i64 fun n2 =>
 ldInt H2 ⟨r1, 0, none⟩ .i64 fun n3 =>
 iteB (decide (n2 > n3)) (
 R (.returned (.int .i64 (1 : Int))) H2) <|
 R (.returned (.int .i64 (0 : Int))) H2
theorem calls {x_0 : Int} {x_1 : OA} {x_1n x_1c : Nat} {x_2 x_3 y_0 : Int} {y_1 : OA} {y_1n y_1c : Nat} {y_2 y_3 : Int} {H : Heap} {R : EH} (h : go x_0 x_1 x_1n x_1c x_2 x_3 y_0 y_1 y_1n y_1c y_2 y_3 H R) : CallsH Tryz.prog 48 ⟨[(.agg ⟨[(.int .i64 x_0), (.slice x_1 x_1n x_1c), (.int .i64 x_2), (.int .i64 x_3)]⟩), (.agg ⟨[(.int .i64 y_0), (.slice y_1 y_1n y_1c), (.int .i64 y_2), (.int .i64 y_3)]⟩)]⟩ H R :=
 callsH_of_den (an := an) (fuel := 100000) (X := go x_0 x_1 x_1n x_1c x_2 x_3 y_0 y_1 y_1n y_1c y_2 y_3 H R) (c := body) mixed fn (by kernel_rfl) (by kernel_rfl) (by kernel_rfl) ok (by kernel_rfl) h
end F48
/-! ### 60 "pub-stadtholder/pub/etcdserver/storage/mvcc.newWatcherBatch" -/
namespace F60
def an : Ann := { kinds := [(1004, .heavy 0), (7008, .read), (7010, .heavy 0), (8000, .heavy 94), (9000, .heavy 94), (11015, .grow)], taus := [(10, [[0, 1, 2, 7, 8, 9, 3, 4, 5, 6, 10, 11]]), (11, [[0, 1, 2, 3, 4, 6, 7, 8, 10, 11, 12, 5, 9, 13, 14, 15, 16]])], pairs := [], lab := [(40000006, [0, 5, 16, 17, 18]), (80000009, [0, 5, 7, 16, 17, 18, 32])] }
noncomputable def body : Code := (Tryz.f60.body).getD .skip
theorem fn : Tryz.prog.funcs[60]? = some Tryz.f60 := by kernel_rfl
theorem ok : codeOk an 68 body = true := by kernel_rfl
noncomputable def L0t : List Item := [.code (sub [1, 1, 1, 0, 1, 0, 0] body), .inLoop (sub [1, 1, 1, 0, 1, 0, 0] body), .inBlock 0, .code (sub [1, 1, 1, 1] body)]
def L0 (s0 : OA) (s5 : Nat) (s16 : OA) (s16n s16c : Nat) (s17 s18 : Int) (H : Heap) (R : EH) : Prop :=
 GoL Tryz.prog 60 68 L0t [0, 5, 16, 17, 18] [(.pointer s0), (.map (some s5)), (.slice s16 s16n s16c), (.int .i64 s17), (.int .i64 s18)] H R
noncomputable def L1t : List Item := [.code (sub [1, 1, 1, 0, 1, 0, 0, 1, 1, 0, 0, 1, 1, 0, 0] body), .inLoop (sub [1, 1, 1, 0, 1, 0, 0, 1, 1, 0, 0, 1, 1, 0, 0] body), .inBlock 2, .inBlock 1, .code (sub [1, 1, 1, 0, 1, 0, 0, 1, 1, 1] body), .inLoop (sub [1, 1, 1, 0, 1, 0, 0] body), .inBlock 0, .code (sub [1, 1, 1, 1] body)]
def L1 (s0 : OA) (s5 : Nat) (s7 s16 : OA) (s16n s16c : Nat) (s17 s18 : Int) (s32 : OA) (H : Heap) (R : EH) : Prop :=
 GoL Tryz.prog 60 68 L1t [0, 5, 7, 16, 17, 18, 32] [(.pointer s0), (.map (some s5)), (.pointer s7), (.slice s16 s16n s16c), (.int .i64 s17), (.int .i64 s18), (.pointer s32)] H R
def L0n (s0 : OA) (s5 : Nat) (s16 : OA) (s16n s16c : Nat) (s17 s18 : Int) (H : Heap) (R : EH) : Prop :=
 iteB (decide (s18 < s17)) (
 idxD s16 s16n s18 fun a =>
 ldPtr H (Addr.add a (Int.toNat s18 * 1)) fun p =>
 nilD p fun a1 =>
 ldPtr H (Addr.add a1 1) fun p1 =>
 nilD p1 fun a2 =>
 ldSl H a2 fun q qn qc =>
 bsD H q qn fun s =>
 callD Tryz.prog 56 [(.pointer s0), (.string s)] H (panK R) fun v H1 =>
 tMap v fun m =>
 valD Tryz.prog (Instr.range 94 (.map m)) H1 (panK R) fun v1 H2 =>
 tPtr v1 fun p2 =>
 L1 s0 s5 p s16 s16n s16c s17 s18 p2 H2 R) <|
 R (.returned (.map (some s5))) H
theorem L0_step {s0 : OA} {s5 : Nat} {s16 : OA} {s16n s16c : Nat} {s17 s18 : Int} {H : Heap} {R : EH} (h : L0n s0 s5 s16 s16n s16c s17 s18 H R) : L0 s0 s5 s16 s16n s16c s17 s18 H R :=
 goL_of_den (an := an) (fuel := 100000) (X := L0n s0 s5 s16 s16n s16c s17 s18 H R) mixed fn (by kernel_rfl) (fun ρ0 => by kernel_rfl) h
def L1n (s0 : OA) (s5 : Nat) (s7 s16 : OA) (s16n s16c : Nat) (s17 s18 : Int) (s32 : OA) (H : Heap) (R : EH) : Prop :=
 valD Tryz.prog (Instr.next (.pointer s32) false 0) H (panK R) fun v H1 =>
 tTup v fun l =>
 tCons l fun c l1 =>
 tBool c fun b =>
 iteB b (
 tCons l1 fun c1 l2 =>
 tPtr c1 fun p =>
 tCons l2 fun c2 l3 =>
 tAgg c2 fun l4 =>
 tNil l4 <|
 tNil l3 <|
 valD Tryz.prog (Instr.entry (.pointer s32)) H1 (panK R) fun v1 H2 =>
 tTup v1 fun l5 =>
 tCons l5 fun c3 l6 =>
 tPtr c3 fun p1 =>
 tCons l6 fun c4 l7 =>
 tAgg c4 fun l8 =>
 tNil l8 <|
 tNil l7 <|
 nilD s7 fun a =>
 nilD p1 fun a1 =>
 ldPtr H2 (Addr.add a 1) fun p2 =>
 nilD p2 fun a2 =>
 ldInt H2 (Addr.add a2 2) .i64 fun n =>
 ldInt H2 (Addr.add a1 6) .i64 fun n1 =>
 iteB (decide (n ≥ n1)) (
 nilD s7 fun a3 =>
 nilD s7 fun a4 =>
 nilD s7 fun a5 =>
 ldInt H2 a3 .i32 fun n2 =>
 ldPtr H2 (Addr.add a4 1) fun p3 =>
 ldPtr H2 (Addr.add a5 2) fun p4 =>
 newD H2 (.cells ⟨[(.int .i32 n2), (.pointer p3), (.pointer p4)]⟩ 88) fun r H3 =>
 callD Tryz.prog 81 [(.map (some s5)), (.pointer p1), (.pointer (some ⟨r, 0, none⟩))] H3 (panK R) fun v2 H4 =>
 tTup v2 fun l9 =>
 tNil l9 <|
 L1 s0 s5 s7 s16 s16n s16c s17 s18 s32 H4 R) <|
 L1 s0 s5 s7 s16 s16n s16c s17 s18 s32 H2 R) <|
 tNil l1 <|
 L0 s0 s5 s16 s16n s16c s17 (IntKind.wrap .i64 (s18 + (1 : Int))) H1 R
theorem L1_step {s0 : OA} {s5 : Nat} {s7 s16 : OA} {s16n s16c : Nat} {s17 s18 : Int} {s32 : OA} {H : Heap} {R : EH} (h : L1n s0 s5 s7 s16 s16n s16c s17 s18 s32 H R) : L1 s0 s5 s7 s16 s16n s16c s17 s18 s32 H R :=
 goL_of_den (an := an) (fuel := 100000) (X := L1n s0 s5 s7 s16 s16n s16c s17 s18 s32 H R) mixed fn (by kernel_rfl) (fun ρ0 => by kernel_rfl) h
def go (s0 s1 : OA) (s1n s1c : Nat) (H : Heap) (R : EH) : Prop :=
 nilD s0 fun a =>
 ldMap H (Addr.add a 2) fun m =>
 valD Tryz.prog (Builtin.len_ #[94] 3 ⟨[(.map m)]⟩) H (panK R) fun v H1 =>
 tInt v .i64 fun n =>
 iteB (n == (0 : Int)) (
 R (.returned (.map none)) H1) <|
 newD H1 (.map #[] 0) fun r H2 =>
 L0 s0 r s1 s1n s1c ((s1n : Nat) : Int) (0 : Int) H2 R
theorem calls {s0 s1 : OA} {s1n s1c : Nat} {H : Heap} {R : EH} (h : go s0 s1 s1n s1c H R) : CallsH Tryz.prog 60 ⟨[(.pointer s0), (.slice s1 s1n s1c)]⟩ H R :=
 callsH_of_den (an := an) (fuel := 100000) (X := go s0 s1 s1n s1c H R) (c := body) mixed fn (by kernel_rfl) (by kernel_rfl) (by kernel_rfl) ok (by kernel_rfl) h
end F60
/-! ### 81 "(pub-stadtholder/pub/etcdserver/storage/mvcc.watcherBatch).add" -/
namespace F81
def an : Ann := { kinds := [(2, .heavy 0), (3003, .heavy 0)], taus := [], pairs := [], lab := [] }
noncomputable def body : Code := (Tryz.f81.body).getD .skip
theorem fn : Tryz.prog.funcs[81]? = some Tryz.f81 := by kernel_rfl
theorem ok : codeOk an 20 body = true := by kernel_rfl
def go (wb : Option Nat) (w ev : OA) (H : Heap) (R : EH) : Prop :=
 valD Tryz.prog (Instr.lookup 134 (.map wb) (.pointer w) false) H (panK R) fun v H1 =>
 tPtr v fun p =>
 iteB (Option.isNone p) (
 newD H1 (.cells ⟨[(.slice none 0 0), (.int .i64 (0 : Int)), (.int .i64 (0 : Int))]⟩ 80) fun r H2 =>
 uniD Tryz.prog (Instr.mapUpdate 134 (.map wb) (.pointer w) (.pointer (some ⟨r, 0, none⟩))) H2 (panK R) fun H3 =>
 callD Tryz.prog 33 [(.pointer (some ⟨r, 0, none⟩)), (.pointer ev)] H3 (panK R) fun v2 H4 =>
 tTup v2 fun l =>
 tNil l <|
 R (.returned (.tuple ⟨[]⟩)) H4) <|
 callD Tryz.prog 33 [(.pointer p), (.pointer ev)] H1 (panK R) fun v3 H5 =>
 tTup v3 fun l1 =>
 tNil l1 <|
 R (.returned (.tuple ⟨[]⟩)) H5
theorem calls {wb : Option Nat} {w ev : OA} {H : Heap} {R : EH} (h : go wb w ev H R) : CallsH Tryz.prog 81 ⟨[(.map wb), (.pointer w), (.pointer ev)]⟩ H R :=
 callsH_of_den (an := an) (fuel := 100000) (X := go wb w ev H R) (c := body) mixed fn (by kernel_rfl) (by kernel_rfl) (by kernel_rfl) ok (by kernel_rfl) h
end F81
end Go.Proofs.YtobolifgehagfaaGreat
