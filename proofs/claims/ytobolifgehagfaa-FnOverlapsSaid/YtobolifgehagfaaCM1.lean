/- What functions of this seat do, each proved by a walk; no condition. -/
import Derived.Test.YtobolifgehagfaaCSM
import Derived.Test.YtobolifgehagfaaJM4
set_option linter.unusedVariables false
set_option linter.unusedSimpArgs false
set_option linter.unnecessarySimpa false
namespace Go.Proofs.Ytobolifgehagfaa
open Go Go.Den Go.Proofs
/-! Requests: what came in, and what is made of it. -/
structure RqF (C : Type) where
  k : Int
  key : ByteArray
  en : ByteArray
  val : ByteArray
  n1 : Int
  n2 : Int
  n3 : Int
  n4 : Int
  n5 : Int
  n6 : Int
  n7 : Int
  n8 : Int
  n9 : Int
  b1 : Bool
  b2 : Bool
  b3 : Bool
  b4 : Bool
  b5 : Bool
  cp : Option Addr
  cn : Nat
  cc : Nat
  tp : Option Addr
  tn : Nat
  tc : Nat
  ep : Option Addr
  el : Nat
  ec : Nat
  T : List C
  E : List C
abbrev RqF.cells {C : Type} (x : RqF C) : List Value := [.int .i64 x.k, .string x.key, .string x.en, .string x.val, .int .i64 x.n1, .int .i64 x.n2, .int .i64 x.n3, .int .i64 x.n4, .int .i64 x.n5, .int .i64 x.n6, .int .i64 x.n7, .int .i64 x.n8, .int .i64 x.n9, .bool x.b1, .bool x.b2, .bool x.b3, .bool x.b4, .bool x.b5, .slice x.cp x.cn x.cc, .slice x.tp x.tn x.tc, .slice x.ep x.el x.ec]
def RQ : Nat → Type
  | 0 => Empty
  | f + 1 => RqF (RQ f)
/-- The same, as far as it is looked at by itself. -/
abbrev RF := RqF Unit
structure CmT where
  t : Int
  rs : Int
  key : ByteArray
  endd : ByteArray
  n : Int
  val : ByteArray
  bare : Bool
abbrev CmT.cells (x : CmT) : List Value := [.int .i64 x.t, .int .i64 x.rs, .string x.key, .string x.endd, .int .i64 x.n, .string x.val, .bool x.bare]
def SzC (x : CmT) : Prop := x.key.size ≤ 140737488351232 ∧ x.endd.size ≤ 140737488351232 ∧ x.val.size ≤ 140737488351232
def CmpsOk (H : Heap) (p : Option Addr) (n : Nat) : Prop := n ≤ 140737488351232 ∧ ∃ l : List CmT, RowsAt CmT.cells 7 H p l ∧ l.length = n ∧ ∀ x ∈ l, SzC x
def SzQ {C : Type} (x : RqF C) : Prop := x.key.size ≤ 140737488351232 ∧ x.en.size ≤ 140737488351232 ∧ x.val.size ≤ 140737488351232
abbrev SubP (C : Type) := Heap → Option Addr → Nat → List C → Prop
/-- Requests as they lie in memory. -/
def RowsL {C : Type} (sub : SubP C) (H : Heap) (p : Option Addr) (n : Nat) (xs : List (RqF C)) : Prop :=
  n ≤ 140737488351232 ∧ xs.length = n ∧ RowsAt (RqF.cells (C := C)) 21 H p xs ∧ ∀ x ∈ xs, SzQ x ∧ CmpsOk H x.cp x.cn ∧ sub H x.tp x.tn x.T ∧ sub H x.ep x.el x.E
def RowsQ : (f : Nat) → SubP (RQ f)
  | 0 => fun _ _ n _ => n = 0
  | f + 1 => RowsL (RowsQ f)
theorem CmpsOk.ext {H H1 : Heap} {p : Option Addr} {n : Nat} (h : CmpsOk H p n) (e : ExtH H H1) : CmpsOk H1 p n := by
  obtain ⟨a, l, b, c, d⟩ := h
  exact ⟨a, l, b.ext e, c, d⟩
def Stays {C : Type} (sub : SubP C) : Prop := ∀ H H1 p n xs, ExtH H H1 → sub H p n xs → sub H1 p n xs
theorem RowsL.ext {C : Type} {sub : SubP C} (hs : Stays sub) : Stays (RowsL sub) := fun H H1 p n xs e ⟨h1, h2, h3, h4⟩ =>
  ⟨h1, h2, h3.ext e, fun x hx => by
    obtain ⟨a, b, c, d⟩ := h4 x hx
    exact ⟨a, b.ext e, hs _ _ _ _ _ e c, hs _ _ _ _ _ e d⟩⟩
theorem RowsQ.ext : ∀ f : Nat, Stays (RowsQ f)
  | 0 => fun _ _ _ _ _ _ h => h
  | f + 1 => RowsL.ext (RowsQ.ext f)
section
variable {H : Heap}
theorem order_any (i : Int) : CallsH Try.prog 58 ⟨[.int .i64 i]⟩ H (fun e H1 => ∃ k : Int, e = .returned (.int .i32 k) ∧ Sat H1 ([] ++ [old H])) := by
  have S := Sat.start H
  refine F58.calls ?_
  unfold F58.go
  repeat' first
    | refine iteB_i (fun _ => ?_) (fun _ => ?_)
    | exact ⟨_, rfl, S⟩
end
/-- Bytes of a text, as a slice has them. -/
def bpc (p : Option Addr) (s : ByteArray) : HP := fun h => (p = none ∧ s.size = 0) ∨ ∃ r rest E fr, p = some ⟨r, 0, none⟩ ∧ h r = some (.cells ⟨bytesOf s.data.toList ++ rest⟩ E fr)
theorem bpc_at {H : Heap} {l : List HP} {p : Option Addr} {s : ByteArray} (S : Sat H l) (hm : bpc p s ∈ l) : cellsAt H p (bytesOf s.data.toList) := by
  obtain ⟨h, h1, h2⟩ := S.mem hm
  rcases h1 with ⟨rfl, h3⟩ | ⟨r, rest, E, fr, rfl, h3⟩
  · intro j v hj
    obtain ⟨⟨l⟩⟩ := s
    have : l = [] := List.length_eq_zero_iff.1 h3
    subst this
    simp [bytesOf] at hj
  · exact cellsAt_block (h2 _ _ h3)
section
variable {H : Heap}
theorem bytesOf_okQ {s : ByteArray} (h : s.size ≤ 140737488351232) : CallsH Try.prog 93 ⟨[.string s]⟩ H (fun e H1 => ∃ x : Option Addr × Nat, e = .returned (.slice x.1 s.size x.2) ∧ Sat H1 ([bpc x.1 s] ++ [old H])) := by
  have S := Sat.start H
  refine F93.calls ?_
  unfold F93.go
  refine iteB_i (fun hs => ?_) (fun hs => ?_)
  · rw [eqS_eq] at hs
    obtain rfl := of_decide_eq_true hs
    refine ⟨(none, 0), rfl, ?_⟩
    exact ⟨fun _ => none, .inl ⟨rfl, rfl⟩, fun _ _ h => (by cases h), S.out.mono fun b o h => by rw [PH.minus_none rfl]; exact h⟩
  · (repeat (first | (refine Step.go ?_; intros) | refine iteB_t (by decide) ?_ | refine iteB_f (by decide) ?_ | (refine Duo.mk (by first | omega | exact rfl | decide) ?_; intros) | (refine Duo.mk (Clo.mk (by kernel_rfl)) ?_; intros)))
    rename_i r c H1 hc S1
    refine ⟨(some ⟨r, 0, none⟩, c), rfl, S1.to ?_⟩
    exact Ent.first fun k hk => .inr ⟨r, _, _, _, rfl, hk⟩
theorem rangeIn_any {C : Type} {x : RqF C} (h1 : x.key.size ≤ 140737488351232) (h2 : x.en.size ≤ 140737488351232) : CallsH Try.prog 73 ⟨[.agg ⟨x.cells⟩]⟩ H (fun e H1 => ∃ b : Nat, e = .returned (.pointer (some ⟨b, 0, none⟩)) ∧ Sat H1 ([] ++ [old H])) := by
  have S := Sat.start H
  refine F73.calls ?_
  unfold F73.go
  (repeat (first | (refine Step.go ?_; intros) | refine iteB_t (by decide) ?_ | refine iteB_f (by decide) ?_ | (refine Duo.mk (by first | omega | exact rfl | decide) ?_; intros) | (refine Duo.mk (Clo.mk (by kernel_rfl)) ?_; intros)))
  rename_i r0 H1 S1
  refine ⟨?_, ?_, ?_, ?_⟩
  all_goals
    repeat first
      | (refine grow_i (by assumption) (bytesOf_okQ h2) ?_; rintro ⟨p, c⟩ _ _ _; try dsimp only)
      | (refine grow_i (by assumption) (order_any _) ?_; rintro k _ _ _; try dsimp only)
      | (refine Step.go ?_; intros)
      | (refine Duo.mk (by first | omega | exact rfl | decide | assumption | exact Sat.grown) ?_; intros)
  all_goals exact ⟨_, rfl, (by simp only [List.nil_append, List.cons_append] at *; exact Sat.fin (m := [old H]))⟩
theorem cmpIn_any {x : CmT} (hx : SzC x) : CallsH Try.prog 97 ⟨[.agg ⟨x.cells⟩]⟩ H (fun e H1 => ∃ b : Nat, e = .returned (.pointer (some ⟨b, 0, none⟩)) ∧ Sat H1 ([] ++ [old H])) := by
  have h1 := hx.1
  have h2 := hx.2.1
  have h3 := hx.2.2
  have S := Sat.start H
  refine F97.calls ?_
  unfold F97.go
  (repeat (first | (refine Step.go ?_; intros) | refine iteB_t (by decide) ?_ | refine iteB_f (by decide) ?_ | (refine Duo.mk (by first | omega | exact rfl | decide) ?_; intros) | (refine Duo.mk (Clo.mk (by kernel_rfl)) ?_; intros)))
  rename_i r0 H1 S1
  have fin : ∀ (l r : List HP) (_ : At r0 (.cells ⟨x.cells⟩ 222) l) (_ : Take (old H) l r) (r2 : Nat) (H2 : Heap) (y1 y2 : Int) (p q : Option Addr) (n c m d : Nat), Sat H2 (pt r2 (.cells ⟨[.int .i32 y1, .int .i32 y2, .slice p n c, .nilIface, .slice q m d]⟩ 242) :: l) →
      F97.L0 r0 r2 H2 (fun e H1 => ∃ b : Nat, e = .returned (.pointer (some ⟨b, 0, none⟩)) ∧ Sat H1 ([] ++ [old H])) := by
    intro l r _ _ r2 H2 y1 y2 p q n c m d S2
    refine F97.L0_step ?_
    unfold F97.L0n
    (repeat (first | (refine Step.go ?_; intros) | refine iteB_t (by decide) ?_ | refine iteB_f (by decide) ?_ | (refine Duo.mk (by first | omega | exact rfl | decide) ?_; intros) | (refine Duo.mk (Clo.mk (by kernel_rfl)) ?_; intros)))
    refine iteB_i (fun _ => ⟨_, rfl, Sat.fin (m := [old H])⟩) (fun _ => ?_)
    (repeat (first | (refine Step.go ?_; intros) | refine iteB_t (by decide) ?_ | refine iteB_f (by decide) ?_ | (refine Duo.mk (by first | omega | exact rfl | decide) ?_; intros) | (refine Duo.mk (Clo.mk (by kernel_rfl)) ?_; intros)))
    refine iteB_i (fun _ => ?_) (fun _ => ?_)
    · (repeat (first | (refine Step.go ?_; intros) | refine iteB_t (by decide) ?_ | refine iteB_f (by decide) ?_ | (refine Duo.mk (by first | omega | exact rfl | decide) ?_; intros) | (refine Duo.mk (Clo.mk (by kernel_rfl)) ?_; intros)))
      exact ⟨_, rfl, Sat.fin (m := [old H])⟩
    refine iteB_i (fun _ => ?_) (fun _ => ?_)
    · (repeat (first | (refine Step.go ?_; intros) | refine iteB_t (by decide) ?_ | refine iteB_f (by decide) ?_ | (refine Duo.mk (by first | omega | exact rfl | decide) ?_; intros) | (refine Duo.mk (Clo.mk (by kernel_rfl)) ?_; intros)))
      exact ⟨_, rfl, Sat.fin (m := [old H])⟩
    refine iteB_i (fun _ => ?_) (fun _ => ?_)
    · (repeat (first | (refine Step.go ?_; intros) | refine iteB_t (by decide) ?_ | refine iteB_f (by decide) ?_ | (refine Duo.mk (by first | omega | exact rfl | decide) ?_; intros) | (refine Duo.mk (Clo.mk (by kernel_rfl)) ?_; intros)))
      exact ⟨_, rfl, Sat.fin (m := [old H])⟩
    refine iteB_i (fun _ => ?_) (fun _ => ?_)
    · (repeat (first | (refine Step.go ?_; intros) | refine iteB_t (by decide) ?_ | refine iteB_f (by decide) ?_ | (refine Duo.mk (by first | omega | exact rfl | decide) ?_; intros) | (refine Duo.mk (Clo.mk (by kernel_rfl)) ?_; intros)))
      exact ⟨_, rfl, Sat.fin (m := [old H])⟩
    refine iteB_i (fun _ => ?_) (fun _ => ?_)
    · (repeat (first | (refine Step.go ?_; intros) | refine iteB_t (by decide) ?_ | refine iteB_f (by decide) ?_ | (refine Duo.mk (by first | omega | exact rfl | decide) ?_; intros) | (refine Duo.mk (Clo.mk (by kernel_rfl)) ?_; intros)))
      exact ⟨_, rfl, Sat.fin (m := [old H])⟩
    exact ⟨_, rfl, Sat.fin (m := [old H])⟩
  refine ⟨?_, ?_, ?_, ?_⟩
  all_goals
    repeat first
      | (refine grow_i (by assumption) (bytesOf_okQ h2) ?_; rintro ⟨p, c⟩ _ _ _; try dsimp only)
      | (refine grow_i (by assumption) (order_any _) ?_; rintro k _ _ _; try dsimp only)
      | (refine Step.go ?_; intros)
      | (refine Duo.mk (by first | omega | exact rfl | decide | assumption | exact Sat.grown) ?_; intros)
  all_goals
    rename_i S9
    simp only [List.nil_append, List.cons_append] at S9
    exact fin _ _ inferInstance inferInstance _ _ _ _ _ _ _ _ _ _ S9
abbrev puO {C : Type} (x : RqF C) (k kc v vc : Nat) : Obj := .cells ⟨[.slice (some ⟨k, 0, none⟩) x.key.size kc, .slice (some ⟨v, 0, none⟩) x.val.size vc, .int .i64 x.n1, .bool x.b3, .bool x.b4, .bool x.b5]⟩ 213
abbrev deO {C : Type} (x : RqF C) (k kc : Nat) (p : Option Addr) (c : Nat) : Obj := .cells ⟨[.slice (some ⟨k, 0, none⟩) x.key.size kc, .slice p x.en.size c, .bool x.b3]⟩ 215
theorem putIn_ok {C : Type} {x : RqF C} (h1 : x.key.size ≤ 140737488351232) (h2 : x.val.size ≤ 140737488351232) : CallsH Try.prog 75 ⟨[.agg ⟨x.cells⟩]⟩ H (fun e H1 => ∃ y : Nat × (Nat × Nat) × (Nat × Nat), e = .returned (.pointer (some ⟨y.1, 0, none⟩)) ∧ Sat H1 ([pt y.1 (puO x y.2.1.1 y.2.1.2 y.2.2.1 y.2.2.2), bpc (some ⟨y.2.1.1, 0, none⟩) x.key] ++ [old H])) := by
  have S := Sat.start H
  refine F75.calls ?_
  unfold F75.go
  (repeat (first | (refine Step.go ?_; intros) | refine iteB_t (by decide) ?_ | refine iteB_f (by decide) ?_ | (refine Duo.mk (by first | omega | exact rfl | decide) ?_; intros) | (refine Duo.mk (Clo.mk (by kernel_rfl)) ?_; intros)))
  rename_i r0 H1 S1 k kc H2 _ S2 v vc H3 _ S3 b H4 S4
  refine ⟨(b, (k, kc), (v, vc)), rfl, S4.to ?_⟩
  apply Ent.pick
  · (repeat (first | exact Sel.here | apply Sel.there))
  refine Ent.trans (Ent.bring (c := pt k (.cells ⟨bytesOf x.key.data.toList ++ List.replicate (kc - x.key.size) (.int .u8 0)⟩ 5 (kc, kc + 1))) (by (repeat (first | exact Sel.here | apply Sel.there)))) ?_
  refine Ent.trans (Ent.first (d := bpc (some ⟨k, 0, none⟩) x.key) fun q hq => .inr ⟨k, _, _, _, rfl, hq⟩) ?_
  exact Fits.out (m := [bpc (some ⟨k, 0, none⟩) x.key, old H])
theorem delIn_ok {C : Type} {x : RqF C} (h1 : x.key.size ≤ 140737488351232) (h2 : x.en.size ≤ 140737488351232) : CallsH Try.prog 77 ⟨[.agg ⟨x.cells⟩]⟩ H (fun e H1 => ∃ y : Nat × (Nat × Nat) × (Option Addr × Nat), e = .returned (.pointer (some ⟨y.1, 0, none⟩)) ∧ Sat H1 ([pt y.1 (deO x y.2.1.1 y.2.1.2 y.2.2.1 y.2.2.2), bpc (some ⟨y.2.1.1, 0, none⟩) x.key, bpc y.2.2.1 x.en] ++ [old H])) := by
  have S := Sat.start H
  refine F77.calls ?_
  unfold F77.go
  (repeat (first | (refine Step.go ?_; intros) | refine iteB_t (by decide) ?_ | refine iteB_f (by decide) ?_ | (refine Duo.mk (by first | omega | exact rfl | decide) ?_; intros) | (refine Duo.mk (Clo.mk (by kernel_rfl)) ?_; intros)))
  rename_i r0 H1 S1
  have fin : ∀ (k kc b c : Nat) (p : Option Addr) (l m : List HP) (H4 : Heap), Sel (pt k (.cells ⟨bytesOf x.key.data.toList ++ List.replicate (kc - x.key.size) (.int .u8 0)⟩ 5 (kc, kc + 1))) l m → Fits m [bpc p x.en, old H] → Sat H4 (pt b (deO x k kc p c) :: l) → Sat H4 [pt b (deO x k kc p c), bpc (some ⟨k, 0, none⟩) x.key, bpc p x.en, old H] := by
    intro k kc b c p l m H4 s f S4
    refine S4.to (Ent.cons ?_)
    refine Ent.trans (Ent.bring s) ?_
    refine Ent.trans (Ent.first (d := bpc (some ⟨k, 0, none⟩) x.key) fun q hq => .inr ⟨k, _, _, _, rfl, hq⟩) ?_
    exact Ent.cons f.out
  refine ⟨?_, ?_⟩
  · (repeat (first | (refine Step.go ?_; intros) | refine iteB_t (by decide) ?_ | refine iteB_f (by decide) ?_ | (refine Duo.mk (by first | omega | exact rfl | decide) ?_; intros) | (refine Duo.mk (Clo.mk (by kernel_rfl)) ?_; intros)))
    rename_i k kc H2 hk S2
    refine grow_i S2 (bytesOf_okQ h2) ?_
    rintro ⟨p, c⟩ H3 E3 S3
    dsimp only at S3 ⊢
    simp only [List.cons_append, List.nil_append] at S3
    (repeat (first | (refine Step.go ?_; intros) | refine iteB_t (by decide) ?_ | refine iteB_f (by decide) ?_ | (refine Duo.mk (by first | omega | exact rfl | decide) ?_; intros) | (refine Duo.mk (Clo.mk (by kernel_rfl)) ?_; intros)))
    rename_i b H6 S6
    exact ⟨(b, (k, kc), (p, c)), rfl, fin k kc b c p _ _ H6 (by (repeat (first | exact Sel.here | apply Sel.there))) inferInstance S6⟩
  · (repeat (first | (refine Step.go ?_; intros) | refine iteB_t (by decide) ?_ | refine iteB_f (by decide) ?_ | (refine Duo.mk (by first | omega | exact rfl | decide) ?_; intros) | (refine Duo.mk (Clo.mk (by kernel_rfl)) ?_; intros)))
    refine grow_i S1 (bytesOf_okQ h2) ?_
    rintro ⟨p, c⟩ H3 E3 S3
    dsimp only at S3 ⊢
    simp only [List.cons_append, List.nil_append] at S3
    (repeat (first | (refine Step.go ?_; intros) | refine iteB_t (by decide) ?_ | refine iteB_f (by decide) ?_ | (refine Duo.mk (by first | omega | exact rfl | decide) ?_; intros) | (refine Duo.mk (Clo.mk (by kernel_rfl)) ?_; intros)))
    rename_i k kc H2 hk S2 b H6 S6
    exact ⟨(b, (k, kc), (p, c)), rfl, fin k kc b c p _ _ H6 (by (repeat (first | exact Sel.here | apply Sel.there))) inferInstance S6⟩
/-! What is refused. -/
abbrev eS1 : ByteArray := ByteArray.mk #[101, 116, 99, 100, 115, 101, 114, 118, 101, 114, 58, 32, 107, 101, 121, 32, 105, 115, 32, 110, 111, 116, 32, 112, 114, 111, 118, 105, 100, 101, 100]
abbrev eS2 : ByteArray := ByteArray.mk #[101, 116, 99, 100, 115, 101, 114, 118, 101, 114, 58, 32, 118, 97, 108, 117, 101, 32, 105, 115, 32, 112, 114, 111, 118, 105, 100, 101, 100]
abbrev eS3 : ByteArray := ByteArray.mk #[101, 116, 99, 100, 115, 101, 114, 118, 101, 114, 58, 32, 108, 101, 97, 115, 101, 32, 105, 115, 32, 112, 114, 111, 118, 105, 100, 101, 100]
abbrev eS4 : ByteArray := ByteArray.mk #[101, 116, 99, 100, 115, 101, 114, 118, 101, 114, 58, 32, 116, 111, 111, 32, 109, 97, 110, 121, 32, 111, 112, 101, 114, 97, 116, 105, 111, 110, 115, 32, 105, 110, 32, 116, 120, 110, 32, 114, 101, 113, 117, 101, 115, 116]
abbrev eS5 : ByteArray := ByteArray.mk #[101, 116, 99, 100, 115, 101, 114, 118, 101, 114, 58, 32, 100, 117, 112, 108, 105, 99, 97, 116, 101, 32, 107, 101, 121, 32, 103, 105, 118, 101, 110, 32, 105, 110, 32, 116, 120, 110, 32, 114, 101, 113, 117, 101, 115, 116]
theorem undE : ∃ ms, Try.prog.underlying 98 = some (.interface ms) := by
  have h : (match Try.prog.underlying 98 with | some (.interface _) => true | _ => false) = true := by kernel_rfl
  split at h
  · rename_i ms hm; exact ⟨ms, hm⟩
  · cases h
set_option maxRecDepth 100000 in
theorem rawS {op : BinOp} {a b : ByteArray} {k : Bool → Prop} (hk : k (a == b)) : rawI Try.prog op 98 (.iface 176 (.string a)) (.iface 176 (.string b)) k := by
  obtain ⟨ms, h⟩ := undE
  exact rawI_str h (ti := Try.t176) (by kernel_rfl) (by kernel_rfl) (by kernel_rfl) hk
theorem kind0 : CallsH Try.prog 48 ⟨[IV.v .nil]⟩ H (Gives (.int .i64 0) H) := by
  refine F48.calls ?_
  unfold F48.go
  refine ifNil_nil ?_
  refine iteB_t rfl ?_
  exact ⟨rfl, ExtH.refl H⟩
theorem kind1 : CallsH Try.prog 48 ⟨[IV.v (.mk 176 (.string eS1))]⟩ H (Gives (.int .i64 1) H) := by
  refine F48.calls ?_
  unfold F48.go
  refine ifNil_mk ?_
  refine iteB_f rfl ?_
  refine rawS (a := eS1) (b := eS1) (iteB_t (by kernel_rfl) ?_)
  exact ⟨rfl, ExtH.refl H⟩
theorem kind5 : CallsH Try.prog 48 ⟨[IV.v (.mk 176 (.string eS5))]⟩ H (Gives (.int .i64 5) H) := by
  refine F48.calls ?_
  unfold F48.go
  refine ifNil_mk ?_
  refine iteB_f rfl ?_
  refine rawS (a := eS5) (b := eS1) (iteB_f (by kernel_rfl) ?_)
  refine rawS (a := eS5) (b := eS2) (iteB_f (by kernel_rfl) ?_)
  refine rawS (a := eS5) (b := eS3) (iteB_f (by kernel_rfl) ?_)
  refine rawS (a := eS5) (b := eS4) (iteB_f (by kernel_rfl) ?_)
  refine rawS (a := eS5) (b := eS5) (iteB_t (by kernel_rfl) ?_)
  exact ⟨rfl, ExtH.refl H⟩
abbrev rqL (k : ByteArray) : RF := ⟨2, k, ⟨#[]⟩, ⟨#[]⟩, 0, 0, 0, 0, 0, 0, 0, 0, 0, false, false, false, false, false, none, 0, 0, none, 0, 0, none, 0, 0, [], []⟩
theorem ckPut {k : ByteArray} (hk : k.size ≤ 140737488351232) : CallsH Try.prog 45 ⟨[.agg ⟨(rqL k).cells⟩, .int .i64 3]⟩ H (Gives (.int .i64 (if k.size = 0 then 1 else 0)) H) := by
  have S := Sat.start H
  refine F45.calls ?_
  unfold F45.go
  (repeat (first | (refine Step.go ?_; intros) | refine iteB_t (by decide) ?_ | refine iteB_f (by decide) ?_ | (refine Duo.mk (by first | omega | exact rfl | decide) ?_; intros) | (refine Duo.mk (Clo.mk (by kernel_rfl)) ?_; intros)))
  rename_i r0 H1 S1
  refine iteB_f rfl ?_
  refine iteB_t rfl ?_
  (repeat (first | (refine Step.go ?_; intros) | refine iteB_t (by decide) ?_ | refine iteB_f (by decide) ?_ | (refine Duo.mk (by first | omega | exact rfl | decide) ?_; intros) | (refine Duo.mk (Clo.mk (by kernel_rfl)) ?_; intros)))
  refine grow_i S1 (putIn_ok (x := rqL k) hk (by show (0 : Nat) ≤ _; omega)) ?_
  rintro ⟨b, ⟨kb, kc⟩, ⟨v, vc⟩⟩ H2 E2 S2
  dsimp only at S2 ⊢
  simp only [List.cons_append, List.nil_append] at S2
  have zz : CallsH Try.prog 74 ⟨[pA b]⟩ H2 (fun e H3 => e = .returned (if k.size = 0 then IV.v (.mk 176 (.string eS1)) else IV.v .nil) ∧ Sat H3 ([pt b (puO (rqL k) kb kc v vc)] ++ [old H])) := by
    refine F74.calls ?_
    unfold F74.go
    have cp : CallsH Try.prog 94 ⟨[pA b]⟩ H2 (fun e H3 => e = .returned (if k.size = 0 then IV.v (.mk 176 (.string eS1)) else IV.v .nil) ∧ Sat H3 ([pt b (puO (rqL k) kb kc v vc)] ++ [old H])) := by
      refine F94.calls ?_
      unfold F94.go
      (repeat (first | (refine Step.go ?_; intros) | refine iteB_t (by decide) ?_ | refine iteB_f (by decide) ?_ | (refine Duo.mk (by first | omega | exact rfl | decide) ?_; intros) | (refine Duo.mk (Clo.mk (by kernel_rfl)) ?_; intros)))
      refine iteB_i (fun h => ?_) (fun h => ?_)
      · have h : (k.size : Int) = 0 := eq_of_beq h
        rw [if_pos (by omega)]
        exact ⟨rfl, S2.to (Fits.out (m := [pt b (puO (rqL k) kb kc v vc), old H]))⟩
      have h : ¬ (k.size : Int) = 0 := by simpa using h
      rw [if_neg (by omega)]
      (repeat (first | (refine Step.go ?_; intros) | refine iteB_t (by decide) ?_ | refine iteB_f (by decide) ?_ | (refine Duo.mk (by first | omega | exact rfl | decide) ?_; intros) | (refine Duo.mk (Clo.mk (by kernel_rfl)) ?_; intros)))
      refine F94.L0_step ?_
      unfold F94.L0n
      (repeat (first | (refine Step.go ?_; intros) | refine iteB_t (by decide) ?_ | refine iteB_f (by decide) ?_ | (refine Duo.mk (by first | omega | exact rfl | decide) ?_; intros) | (refine Duo.mk (Clo.mk (by kernel_rfl)) ?_; intros)))
      exact ⟨rfl, S2.to (Fits.out (m := [pt b (puO (rqL k) kb kc v vc), old H]))⟩
    refine callD_i cp ?_
    rintro _ H3 ⟨rfl, S3⟩
    refine ⟨if k.size = 0 then .mk 176 (.string eS1) else .nil, by split <;> rfl, ?_⟩
    exact ⟨by split <;> rfl, S3⟩
  refine tPtr_i ?_
  refine callD_i zz ?_
  rintro _ H3 ⟨rfl, S3⟩
  simp only [List.cons_append, List.nil_append] at S3
  refine ⟨if k.size = 0 then .mk 176 (.string eS1) else .nil, by split <;> rfl, ?_⟩
  split
  · refine gives_i S3 kind1 ?_
    intro H4 E4 S4
    (repeat (first | (refine Step.go ?_; intros) | refine iteB_t (by decide) ?_ | refine iteB_f (by decide) ?_ | (refine Duo.mk (by first | omega | exact rfl | decide) ?_; intros) | (refine Duo.mk (Clo.mk (by kernel_rfl)) ?_; intros)))
    exact ⟨rfl, Sat.grown⟩
  · refine gives_i S3 kind0 ?_
    intro H4 E4 S4
    (repeat (first | (refine Step.go ?_; intros) | refine iteB_t (by decide) ?_ | refine iteB_f (by decide) ?_ | (refine Duo.mk (by first | omega | exact rfl | decide) ?_; intros) | (refine Duo.mk (Clo.mk (by kernel_rfl)) ?_; intros)))
    exact ⟨rfl, Sat.grown⟩
theorem ckLive_ok : CallsH Try.prog 25 ⟨[]⟩ H (Gives (.bool true) H) := by
  have S := Sat.start H
  refine F25.calls ?_
  unfold F25.go
  refine gives_i S (ckPut (k := ⟨#[]⟩) (by show (0 : Nat) ≤ _; omega)) ?_
  intro H1 E1 S1
  (repeat (first | (refine Step.go ?_; intros) | refine iteB_t (by decide) ?_ | refine iteB_f (by decide) ?_ | (refine Duo.mk (by first | omega | exact rfl | decide) ?_; intros) | (refine Duo.mk (Clo.mk (by kernel_rfl)) ?_; intros)))
  refine gives_i S1 (ckPut (k := ⟨#[107]⟩) (by show (1 : Nat) ≤ _; omega)) ?_
  intro H2 E2 S2
  (repeat (first | (refine Step.go ?_; intros) | refine iteB_t (by decide) ?_ | refine iteB_f (by decide) ?_ | (refine Duo.mk (by first | omega | exact rfl | decide) ?_; intros) | (refine Duo.mk (Clo.mk (by kernel_rfl)) ?_; intros)))
  exact ⟨rfl, Sat.grown⟩
end
end Go.Proofs.Ytobolifgehagfaa

set_option linter.unusedVariables false
set_option linter.unusedSimpArgs false
set_option linter.unnecessarySimpa false
namespace Go.Proofs.Ytobolifgehagfaa
open Go Go.Den Go.Proofs
/-! What is counted of requests. -/
theorem copyQ {C : Type} {H : Heap} {l : List HP} {p : Option Addr} {pn i : Nat} {xs : List (RqF C)} {x : RqF C} {K : Nat → Heap → Prop} (S : Sat H l) (R : RowsAt (RqF.cells (C := C)) 21 H p xs) (hn : xs.length = pn) (hx : xs[i]? = some x)
    (k : ∀ r H2, ExtH H H2 → Sat H2 (pt r (.cells ⟨x.cells⟩ 92) :: l) → K r H2) :
    idxD p pn ((i : Nat) : Int) fun a =>
    ldInt H (Addr.add a (Int.toNat ((i : Nat) : Int) * 21)) .i64 fun n =>
    ldStr H (Addr.add (Addr.add a (Int.toNat ((i : Nat) : Int) * 21)) 1) fun s =>
    ldStr H (Addr.add (Addr.add a (Int.toNat ((i : Nat) : Int) * 21)) 2) fun s1 =>
    ldStr H (Addr.add (Addr.add a (Int.toNat ((i : Nat) : Int) * 21)) 3) fun s2 =>
    ldInt H (Addr.add (Addr.add a (Int.toNat ((i : Nat) : Int) * 21)) 4) .i64 fun n1 =>
    ldInt H (Addr.add (Addr.add a (Int.toNat ((i : Nat) : Int) * 21)) 5) .i64 fun n2 =>
    ldInt H (Addr.add (Addr.add a (Int.toNat ((i : Nat) : Int) * 21)) 6) .i64 fun n3 =>
    ldInt H (Addr.add (Addr.add a (Int.toNat ((i : Nat) : Int) * 21)) 7) .i64 fun n4 =>
    ldInt H (Addr.add (Addr.add a (Int.toNat ((i : Nat) : Int) * 21)) 8) .i64 fun n5 =>
    ldInt H (Addr.add (Addr.add a (Int.toNat ((i : Nat) : Int) * 21)) 9) .i64 fun n6 =>
    ldInt H (Addr.add (Addr.add a (Int.toNat ((i : Nat) : Int) * 21)) 10) .i64 fun n7 =>
    ldInt H (Addr.add (Addr.add a (Int.toNat ((i : Nat) : Int) * 21)) 11) .i64 fun n8 =>
    ldInt H (Addr.add (Addr.add a (Int.toNat ((i : Nat) : Int) * 21)) 12) .i64 fun n9 =>
    ldBool H (Addr.add (Addr.add a (Int.toNat ((i : Nat) : Int) * 21)) 13) fun b =>
    ldBool H (Addr.add (Addr.add a (Int.toNat ((i : Nat) : Int) * 21)) 14) fun b1 =>
    ldBool H (Addr.add (Addr.add a (Int.toNat ((i : Nat) : Int) * 21)) 15) fun b2 =>
    ldBool H (Addr.add (Addr.add a (Int.toNat ((i : Nat) : Int) * 21)) 16) fun b3 =>
    ldBool H (Addr.add (Addr.add a (Int.toNat ((i : Nat) : Int) * 21)) 17) fun b4 =>
    ldSl H (Addr.add (Addr.add a (Int.toNat ((i : Nat) : Int) * 21)) 18) fun q qn qc =>
    ldSl H (Addr.add (Addr.add a (Int.toNat ((i : Nat) : Int) * 21)) 19) fun q1 q1n q1c =>
    ldSl H (Addr.add (Addr.add a (Int.toNat ((i : Nat) : Int) * 21)) 20) fun q2 q2n q2c =>
    newD H (.cells ⟨[(.int .i64 (0 : Int)), (.string (ByteArray.mk #[])), (.string (ByteArray.mk #[])), (.string (ByteArray.mk #[])), (.int .i64 (0 : Int)), (.int .i64 (0 : Int)), (.int .i64 (0 : Int)), (.int .i64 (0 : Int)), (.int .i64 (0 : Int)), (.int .i64 (0 : Int)), (.int .i64 (0 : Int)), (.int .i64 (0 : Int)), (.int .i64 (0 : Int)), (.bool false), (.bool false), (.bool false), (.bool false), (.bool false), (.slice none 0 0), (.slice none 0 0), (.slice none 0 0)]⟩ 92) fun r H1 =>
    st1 H1 ⟨r, 0, none⟩ (.int .i64 n) fun H2 =>
    st1 H2 ⟨r, 1, none⟩ (.string s) fun H3 =>
    st1 H3 ⟨r, 2, none⟩ (.string s1) fun H4 =>
    st1 H4 ⟨r, 3, none⟩ (.string s2) fun H5 =>
    st1 H5 ⟨r, 4, none⟩ (.int .i64 n1) fun H6 =>
    st1 H6 ⟨r, 5, none⟩ (.int .i64 n2) fun H7 =>
    st1 H7 ⟨r, 6, none⟩ (.int .i64 n3) fun H8 =>
    st1 H8 ⟨r, 7, none⟩ (.int .i64 n4) fun H9 =>
    st1 H9 ⟨r, 8, none⟩ (.int .i64 n5) fun H10 =>
    st1 H10 ⟨r, 9, none⟩ (.int .i64 n6) fun H11 =>
    st1 H11 ⟨r, 10, none⟩ (.int .i64 n7) fun H12 =>
    st1 H12 ⟨r, 11, none⟩ (.int .i64 n8) fun H13 =>
    st1 H13 ⟨r, 12, none⟩ (.int .i64 n9) fun H14 =>
    st1 H14 ⟨r, 13, none⟩ (.bool b) fun H15 =>
    st1 H15 ⟨r, 14, none⟩ (.bool b1) fun H16 =>
    st1 H16 ⟨r, 15, none⟩ (.bool b2) fun H17 =>
    st1 H17 ⟨r, 16, none⟩ (.bool b3) fun H18 =>
    st1 H18 ⟨r, 17, none⟩ (.bool b4) fun H19 =>
    st1 H19 ⟨r, 18, none⟩ (.slice q qn qc) fun H20 =>
    st1 H20 ⟨r, 19, none⟩ (.slice q1 q1n q1c) fun H21 =>
    st1 H21 ⟨r, 20, none⟩ (.slice q2 q2n q2c) fun H22 => K r H22 := by
  have R1 : RowsC H p (RqF.cells (C := C)) 21 xs := ⟨R⟩
  have S0 := Sat.start H
  have hi := lt_of hx
  have hI := HasI.nat hx
  refine RowsC.idx R1 hn ⟨by omega, by omega, fun a ha => ?_⟩
  subst ha
  (repeat (first | (refine Step.go ?_; intros) | refine iteB_t (by decide) ?_ | refine iteB_f (by decide) ?_ | (refine Duo.mk (by first | omega | exact rfl | decide) ?_; intros) | (refine Duo.mk (Clo.mk (by kernel_rfl)) ?_; intros)))
  exact k _ _ Sat.grown (Sat.onto (m := [pt _ _]) (by assumption) S)
def totL {C : Type} (T : List C → Nat) (xs : List (RqF C)) : Nat := (xs.map fun x => 1 + if x.k = 4 then T x.T + T x.E + x.cn else 0).sum
def tot : (f : Nat) → List (RQ f) → Nat
  | 0 => fun _ => 0
  | f + 1 => totL (tot f)
theorem tot_take {C : Type} {T : List C → Nat} {xs : List (RqF C)} {i : Nat} {x : RqF C} (hx : xs[i]? = some x) : totL T (xs.take (i + 1)) = totL T (xs.take i) + (1 + if x.k = 4 then T x.T + T x.E + x.cn else 0) := by
  unfold totL
  rw [List.take_add_one, hx]
  simp
theorem tot_len {C : Type} {T : List C → Nat} {xs : List (RqF C)} : xs.length ≤ totL T xs := by
  unfold totL
  induction xs with
  | nil => simp
  | cons x xs ih => simp only [List.map_cons, List.sum_cons, List.length_cons]; omega
theorem tot_mem {C : Type} {T : List C → Nat} {xs : List (RqF C)} {x : RqF C} (h : x ∈ xs) (hk : x.k = 4) : T x.T + T x.E + x.cn + 1 ≤ totL T xs := by
  unfold totL
  induction xs with
  | nil => cases h
  | cons y xs ih =>
    simp only [List.map_cons, List.sum_cons]
    rcases List.mem_cons.1 h with rfl | h
    · rw [if_pos hk]; omega
    · have := ih h; omega
def ManyEnd (t : Nat) (H : Heap) (n : Nat) (e : Ending) (H1 : Heap) : Prop := ∃ v : Int, e = .returned (.int .i64 v) ∧ ExtH H H1 ∧ -1 ≤ v ∧ v ≤ 200 + (n : Nat) ∧ n ≤ 140737488351232 ∧ (0 ≤ v → (t : Int) ≤ v)
def ManyOk {C : Type} (sub : SubP C) (T : List C → Nat) : Prop := ∀ (xs : List C) (p : Option Addr) (n c : Nat) (deep : Int) (H : Heap), sub H p n xs → 0 ≤ deep → deep ≤ 3 → CallsH Try.prog 41 ⟨[.slice p n c, .int .i64 deep]⟩ H (ManyEnd (T xs) H n)
theorem many_step {C : Type} {sub : SubP C} {T : List C → Nat} (hs : Stays sub) (ih : ManyOk sub T) : ManyOk (RowsL sub) (totL T) := by
  intro xs p n c deep H hR h0 h1
  have hst := RowsL.ext hs
  have hlen := hR.2.1
  have hn := hR.1
  have bad : ∀ H1, ExtH H H1 → ManyEnd (totL T xs) H n (.returned (.int .i64 (-1))) H1 := fun H1 E => ⟨-1, rfl, E, by omega, by omega, hn, fun h => by omega⟩
  have loop : ∀ (k i : Nat) (v : Int) (H1 : Heap), i + k = n → ExtH H H1 → ((totL T (xs.take i) : Nat) : Int) ≤ v → v ≤ 200 + (i : Nat) → F41.L0 deep v p n c (n : Nat) (i : Nat) H1 (ManyEnd (totL T xs) H n) := by
    intro k
    induction k with
    | zero =>
      intro i v H1 hk E hv1 hv2
      obtain rfl : i = n := by omega
      refine F41.L0_step ?_
      unfold F41.L0n
      refine iteB_f (by simp) ?_
      rw [List.take_of_length_le (by omega)] at hv1
      exact ⟨v, rfl, E, by omega, by omega, hn, fun _ => hv1⟩
    | succ k ihk =>
      intro i v H1 hk E hv1 hv2
      obtain ⟨x, hx⟩ : ∃ x, xs[i]? = some x := get_of (by omega)
      obtain ⟨_, _, hrow, hmem⟩ := hst _ _ _ _ _ E hR
      have hmx := hmem x (List.mem_of_getElem? hx)
      have htk := tot_take (T := T) hx
      refine F41.L0_step ?_
      unfold F41.L0n
      refine iteB_t (by simp; omega) ?_
      refine copyQ (Sat.start H1) hrow hlen hx fun r H2 E2 S2 => ?_
      have l2 : ∀ (v' : Int) (H3 : Heap), ExtH H2 H3 → ((totL T (xs.take (i + 1)) : Nat) : Int) ≤ v' → v' ≤ 200 + ((i + 1 : Nat) : Int) → F41.L2 deep v' p n c (n : Nat) (i : Nat) H3 (ManyEnd (totL T xs) H n) := by
        intro v' H3 E3 k1 k2
        refine F41.L2_step ?_
        unfold F41.L2n
        rw [wr64 (by omega) (by omega)]
        exact ihk (i + 1) v' H3 (by omega) ((E.trans E2).trans E3) k1 k2
      have l1 : (x.k = 4 → 1 ≤ deep) → F41.L1 deep (v + 1) r p n c (n : Nat) (i : Nat) H2 (ManyEnd (totL T xs) H n) := by
        intro hd
        refine F41.L1_step ?_
        unfold F41.L1n
        (repeat (first | (refine Step.go ?_; intros) | refine iteB_t (by decide) ?_ | refine iteB_f (by decide) ?_ | (refine Duo.mk (by first | omega | exact rfl | decide) ?_; intros) | (refine Duo.mk (Clo.mk (by kernel_rfl)) ?_; intros)))
        refine iteB_i (fun h => ?_) (fun h => ?_)
        · have h : x.k ≠ 4 := by simpa using h
          rw [if_neg h] at htk
          exact l2 (v + 1) H2 (ExtH.refl _) (by omega) (by omega)
        have h : x.k = 4 := by simpa using h
        rw [if_pos h] at htk
        have hd1 := hd h
        (repeat (first | (refine Step.go ?_; intros) | refine iteB_t (by decide) ?_ | refine iteB_f (by decide) ?_ | (refine Duo.mk (by first | omega | exact rfl | decide) ?_; intros) | (refine Duo.mk (Clo.mk (by kernel_rfl)) ?_; intros)))
        rw [wr64 (i := deep - 1) (by omega) (by omega)]
        refine callD_i (ih x.T x.tp x.tn x.tc (deep - 1) H2 (hs _ _ _ _ _ E2 hmx.2.2.1) (by omega) (by omega)) ?_
        rintro _ H3 ⟨a, rfl, E3, a1, a2, a4, a3⟩
        have S3 := S2.ext E3
        (repeat (first | (refine Step.go ?_; intros) | refine iteB_t (by decide) ?_ | refine iteB_f (by decide) ?_ | (refine Duo.mk (by first | omega | exact rfl | decide) ?_; intros) | (refine Duo.mk (Clo.mk (by kernel_rfl)) ?_; intros)))
        refine callD_i (ih x.E x.ep x.el x.ec (deep - 1) H3 (hs _ _ _ _ _ (E2.trans E3) hmx.2.2.2) (by omega) (by omega)) ?_
        rintro _ H4 ⟨b, rfl, E4, b1, b2, b4, b3⟩
        have S4 := S3.ext E4
        have hE : ExtH H H4 := ((E.trans E2).trans E3).trans E4
        have hcn := hmx.2.1.1
        clear S3 S2
        (repeat (first | (refine Step.go ?_; intros) | refine iteB_t (by decide) ?_ | refine iteB_f (by decide) ?_ | (refine Duo.mk (by first | omega | exact rfl | decide) ?_; intros) | (refine Duo.mk (Clo.mk (by kernel_rfl)) ?_; intros)))
        refine iteB_i (fun h => bad _ hE) (fun ha => ?_)
        refine iteB_i (fun h => bad _ hE) (fun hb => ?_)
        have ha : ¬ a < 0 := by simpa using ha
        have hb : ¬ b < 0 := by simpa using hb
        rw [wr64 (i := a + b) (by omega) (by omega), wr64 (i := a + b + ((x.cn : Nat) : Int)) (by omega) (by omega), wr64 (i := v + 1 + (a + b + ((x.cn : Nat) : Int))) (by omega) (by omega)]
        refine iteB_i (fun h => bad _ hE) (fun hc => ?_)
        have hc : ¬ v + 1 + (a + b + ((x.cn : Nat) : Int)) > 200 := by simpa using hc
        have a3 := a3 (by omega)
        have b3 := b3 (by omega)
        exact l2 _ H4 (E3.trans E4) (by omega) (by omega)
      have hE : ExtH H H2 := E.trans E2
      (repeat (first | (refine Step.go ?_; intros) | refine iteB_t (by decide) ?_ | refine iteB_f (by decide) ?_ | (refine Duo.mk (by first | omega | exact rfl | decide) ?_; intros) | (refine Duo.mk (Clo.mk (by kernel_rfl)) ?_; intros)))
      refine iteB_i (fun h => bad _ hE) (fun ha => ?_)
      (repeat (first | (refine Step.go ?_; intros) | refine iteB_t (by decide) ?_ | refine iteB_f (by decide) ?_ | (refine Duo.mk (by first | omega | exact rfl | decide) ?_; intros) | (refine Duo.mk (Clo.mk (by kernel_rfl)) ?_; intros)))
      refine iteB_i (fun h => bad _ hE) (fun hb => ?_)
      (repeat (first | (refine Step.go ?_; intros) | refine iteB_t (by decide) ?_ | refine iteB_f (by decide) ?_ | (refine Duo.mk (by first | omega | exact rfl | decide) ?_; intros) | (refine Duo.mk (Clo.mk (by kernel_rfl)) ?_; intros)))
      rw [wr64 (i := v + 1) (by omega) (by omega)]
      refine iteB_i (fun h => ?_) (fun h => ?_)
      · refine iteB_i (fun h => bad _ hE) (fun hd => ?_)
        have hd : ¬ deep = 0 := by simpa using hd
        exact l1 fun _ => by omega
      · exact l1 fun h2 => absurd h2 (by simpa using h)
  refine F41.calls ?_
  unfold F41.go
  refine loop n 0 0 H (by omega) (ExtH.refl _) ?_ (by omega)
  simp [totL]
theorem many_ok : ∀ f : Nat, ManyOk (RowsQ f) (tot f)
  | 0 => by
    intro xs p n c deep H hR h0 h1
    have hn : n = 0 := hR
    subst hn
    refine F41.calls ?_
    unfold F41.go
    refine F41.L0_step ?_
    unfold F41.L0n
    refine iteB_f (by decide) ?_
    exact ⟨0, rfl, ExtH.refl _, by omega, by omega, by omega, fun _ => by show ((0 : Nat) : Int) ≤ 0; omega⟩
  | f + 1 => many_step (RowsQ.ext f) (many_ok f)
theorem few_ok {f : Nat} {xs : List (RQ f)} {p : Option Addr} {n c : Nat} {H : Heap} (hR : RowsQ f H p n xs) : CallsH Try.prog 22 ⟨[.slice p n c]⟩ H (fun e H1 => ExtH H H1 ∧ ∃ b, e = .returned (.bool b) ∧ (b = true → tot f xs ≤ 200)) := by
  refine F22.calls ?_
  unfold F22.go
  refine callD_i (many_ok f xs p n c 3 H hR (by omega) (by omega)) ?_
  rintro _ H1 ⟨v, rfl, E, _, _, _, h⟩
  refine tInt_i ?_
  refine iteB_i (fun h1 => ?_) (fun h1 => ?_)
  · have h1 : v ≥ 0 := of_decide_eq_true h1
    have := h h1
    exact ⟨E, _, rfl, fun h2 => by have := of_decide_eq_true h2; omega⟩
  · exact ⟨E, _, rfl, fun h2 => by cases h2⟩
end Go.Proofs.Ytobolifgehagfaa

set_option linter.unusedVariables false
set_option linter.unusedSimpArgs false
set_option linter.unnecessarySimpa false
namespace Go.Proofs.Ytobolifgehagfaa
open Go Go.Den Go.Proofs
/-! Requests that are proper; what they put and delete. -/
def propL {C : Type} (P : List C → Prop) (xs : List (RqF C)) : Prop := ∀ x ∈ xs, (x.k = 2 → x.key.size ≠ 0) ∧ (x.k = 3 → x.key.size ≠ 0 ∧ (x.en.size ≠ 0 → ltS x.key x.en = true ∧ x.en ≠ ⟨#[0]⟩)) ∧ (x.k = 4 → P x.T ∧ P x.E)
def prop : (f : Nat) → List (RQ f) → Prop
  | 0 => fun _ => True
  | f + 1 => propL (prop f)
def BoolEnd (P : Prop) (H : Heap) (e : Ending) (H1 : Heap) : Prop := ∃ b : Bool, e = .returned (.bool b) ∧ ExtH H H1 ∧ (b = true → P)
def PropOk {C : Type} (sub : SubP C) (P : List C → Prop) : Prop := ∀ (xs : List C) (p : Option Addr) (n c : Nat) (H : Heap), sub H p n xs → CallsH Try.prog 23 ⟨[.slice p n c]⟩ H (BoolEnd (P xs) H)
theorem prop_step {C : Type} {sub : SubP C} {P : List C → Prop} (hs : Stays sub) (ih : PropOk sub P) : PropOk (RowsL sub) (propL P) := by
  intro xs p n c H hR
  have hst := RowsL.ext hs
  have hlen := hR.2.1
  have hn := hR.1
  have bad : ∀ H1, ExtH H H1 → BoolEnd (propL P xs) H (.returned (.bool false)) H1 := fun H1 E => ⟨false, rfl, E, fun h => by cases h⟩
  have loop : ∀ (k i : Nat) (H1 : Heap), i + k = n → ExtH H H1 → propL P (xs.take i) → F23.L0 p n c (n : Nat) (i : Nat) H1 (BoolEnd (propL P xs) H) := by
    intro k
    induction k with
    | zero =>
      intro i H1 hk E hp
      obtain rfl : i = n := by omega
      refine F23.L0_step ?_
      unfold F23.L0n
      refine iteB_f (by simp) ?_
      rw [List.take_of_length_le (by omega)] at hp
      exact ⟨true, rfl, E, fun _ => hp⟩
    | succ k ihk =>
      intro i H1 hk E hp
      obtain ⟨x, hx⟩ : ∃ x, xs[i]? = some x := get_of (by omega)
      obtain ⟨_, _, hrow, hmem⟩ := hst _ _ _ _ _ E hR
      have hmx := hmem x (List.mem_of_getElem? hx)
      refine F23.L0_step ?_
      unfold F23.L0n
      refine iteB_t (by simp; omega) ?_
      refine copyQ (Sat.start H1) hrow hlen hx fun r H2 E2 S2 => ?_
      have l1 : ∀ H3, ExtH H2 H3 → ((x.k = 2 → x.key.size ≠ 0) ∧ (x.k = 3 → x.key.size ≠ 0 ∧ (x.en.size ≠ 0 → ltS x.key x.en = true ∧ x.en ≠ ⟨#[0]⟩)) ∧ (x.k = 4 → P x.T ∧ P x.E)) → F23.L1 p n c (n : Nat) (i : Nat) H3 (BoolEnd (propL P xs) H) := by
        intro H3 E3 h
        refine F23.L1_step ?_
        unfold F23.L1n
        rw [wr64 (by omega) (by omega)]
        refine ihk (i + 1) H3 (by omega) ((E.trans E2).trans E3) ?_
        intro y hy
        rw [List.take_add_one, hx] at hy
        rcases List.mem_append.1 hy with hy | hy
        · exact hp y hy
        · simp at hy; subst hy; exact h
      have hE : ExtH H H2 := E.trans E2
      (repeat (first | (refine Step.go ?_; intros) | refine iteB_t (by decide) ?_ | refine iteB_f (by decide) ?_ | (refine Duo.mk (by first | omega | exact rfl | decide) ?_; intros) | (refine Duo.mk (Clo.mk (by kernel_rfl)) ?_; intros)))
      refine iteB_i (fun h2 => ?_) (fun h2 => ?_)
      · have h2 : x.k = 2 := by simpa using h2
        (repeat (first | (refine Step.go ?_; intros) | refine iteB_t (by decide) ?_ | refine iteB_f (by decide) ?_ | (refine Duo.mk (by first | omega | exact rfl | decide) ?_; intros) | (refine Duo.mk (Clo.mk (by kernel_rfl)) ?_; intros)))
        refine iteB_i (fun h => bad _ hE) (fun h => ?_)
        rw [eqS_nil] at h
        have h := of_decide_eq_false h
        exact l1 H2 (ExtH.refl _) ⟨fun _ => h, fun h3 => by omega, fun h3 => by omega⟩
      have h2 : ¬ x.k = 2 := by simpa using h2
      refine iteB_i (fun h3 => ?_) (fun h3 => ?_)
      · have h3 : x.k = 3 := by simpa using h3
        (repeat (first | (refine Step.go ?_; intros) | refine iteB_t (by decide) ?_ | refine iteB_f (by decide) ?_ | (refine Duo.mk (by first | omega | exact rfl | decide) ?_; intros) | (refine Duo.mk (Clo.mk (by kernel_rfl)) ?_; intros)))
        refine iteB_i (fun h => bad _ hE) (fun h => ?_)
        rw [eqS_nil] at h
        have h := of_decide_eq_false h
        (repeat (first | (refine Step.go ?_; intros) | refine iteB_t (by decide) ?_ | refine iteB_f (by decide) ?_ | (refine Duo.mk (by first | omega | exact rfl | decide) ?_; intros) | (refine Duo.mk (Clo.mk (by kernel_rfl)) ?_; intros)))
        refine iteB_i (fun he => ?_) (fun he => ?_)
        · (repeat (first | (refine Step.go ?_; intros) | refine iteB_t (by decide) ?_ | refine iteB_f (by decide) ?_ | (refine Duo.mk (by first | omega | exact rfl | decide) ?_; intros) | (refine Duo.mk (Clo.mk (by kernel_rfl)) ?_; intros)))
          refine iteB_i (fun h4 => bad _ hE) (fun h4 => ?_)
          (repeat (first | (refine Step.go ?_; intros) | refine iteB_t (by decide) ?_ | refine iteB_f (by decide) ?_ | (refine Duo.mk (by first | omega | exact rfl | decide) ?_; intros) | (refine Duo.mk (Clo.mk (by kernel_rfl)) ?_; intros)))
          refine iteB_i (fun h5 => bad _ hE) (fun h5 => ?_)
          have h6 := ltS_flip x.en x.key
          rw [h4] at h6
          rw [eqS_eq] at h5
          exact l1 H2 (ExtH.refl _) ⟨fun _ => by omega, fun _ => ⟨h, fun _ => ⟨h6.symm, of_decide_eq_false h5⟩⟩, fun h3 => by omega⟩
        · rw [eqS_nil] at he
          have he : x.en.size = 0 := by simpa using he
          exact l1 H2 (ExtH.refl _) ⟨fun _ => by omega, fun _ => ⟨h, fun h7 => absurd he h7⟩, fun h3 => by omega⟩
      have h3 : ¬ x.k = 3 := by simpa using h3
      refine iteB_i (fun h4 => ?_) (fun h4 => ?_)
      · have h4 : x.k = 4 := by simpa using h4
        (repeat (first | (refine Step.go ?_; intros) | refine iteB_t (by decide) ?_ | refine iteB_f (by decide) ?_ | (refine Duo.mk (by first | omega | exact rfl | decide) ?_; intros) | (refine Duo.mk (Clo.mk (by kernel_rfl)) ?_; intros)))
        refine callD_i (ih x.T x.tp x.tn x.tc H2 (hs _ _ _ _ _ E2 hmx.2.2.1)) ?_
        rintro _ H3 ⟨b, rfl, E3, hb⟩
        have S3 := S2.ext E3
        (repeat (first | (refine Step.go ?_; intros) | refine iteB_t (by decide) ?_ | refine iteB_f (by decide) ?_ | (refine Duo.mk (by first | omega | exact rfl | decide) ?_; intros) | (refine Duo.mk (Clo.mk (by kernel_rfl)) ?_; intros)))
        refine iteB_i (fun h => bad _ (hE.trans E3)) (fun h => ?_)
        have hb := hb (by simpa using h)
        (repeat (first | (refine Step.go ?_; intros) | refine iteB_t (by decide) ?_ | refine iteB_f (by decide) ?_ | (refine Duo.mk (by first | omega | exact rfl | decide) ?_; intros) | (refine Duo.mk (Clo.mk (by kernel_rfl)) ?_; intros)))
        refine callD_i (ih x.E x.ep x.el x.ec H3 (hs _ _ _ _ _ (E2.trans E3) hmx.2.2.2)) ?_
        rintro _ H4 ⟨b', rfl, E4, hb'⟩
        have S4 := S3.ext E4
        (repeat (first | (refine Step.go ?_; intros) | refine iteB_t (by decide) ?_ | refine iteB_f (by decide) ?_ | (refine Duo.mk (by first | omega | exact rfl | decide) ?_; intros) | (refine Duo.mk (Clo.mk (by kernel_rfl)) ?_; intros)))
        refine iteB_i (fun h => bad _ ((hE.trans E3).trans E4)) (fun h => ?_)
        have hb' := hb' (by simpa using h)
        exact l1 H4 (E3.trans E4) ⟨fun h => by omega, fun h => by omega, fun _ => ⟨hb, hb'⟩⟩
      have h4 : ¬ x.k = 4 := by simpa using h4
      exact l1 H2 (ExtH.refl _) ⟨fun h => absurd h h2, fun h => absurd h h3, fun h => absurd h h4⟩
  refine F23.calls ?_
  unfold F23.go
  exact loop n 0 H (by omega) (ExtH.refl _) (fun x hx => by simp at hx)
theorem prop_ok : ∀ f : Nat, PropOk (RowsQ f) (prop f)
  | 0 => by
    intro xs p n c H hR
    have hn : n = 0 := hR
    subst hn
    refine F23.calls ?_
    unfold F23.go
    refine F23.L0_step ?_
    unfold F23.L0n
    refine iteB_f (by decide) ?_
    exact ⟨true, rfl, ExtH.refl _, fun _ => trivial⟩
  | f + 1 => prop_step (RowsQ.ext f) (prop_ok f)
end Go.Proofs.Ytobolifgehagfaa

set_option linter.unusedVariables false
set_option linter.unusedSimpArgs false
set_option linter.unnecessarySimpa false
namespace Go.Proofs.Ytobolifgehagfaa
open Go Go.Den Go.Proofs
/-! What requests delete, at any depth. -/
abbrev DelI := (Option Addr × Nat) × List SP
def DelsEnd (t : Nat) (H : Heap) (e : Ending) (H1 : Heap) : Prop := ∃ y : DelI, e = .returned (.slice y.1.1 y.2.length y.1.2) ∧ Sat H1 ([lift (y.2.length ≤ t ∧ ∀ s ∈ y.2, Sz s), sl SP.cells 35 5 y.1.1 y.2.length y.1.2 y.2] ++ [old H])
def DelsOk {C : Type} (sub : SubP C) (T : List C → Nat) : Prop := ∀ (xs : List C) (p : Option Addr) (n c : Nat) (H : Heap), sub H p n xs → T xs ≤ 200 → CallsH Try.prog 42 ⟨[.slice p n c]⟩ H (DelsEnd (T xs) H)
section
variable {H : Heap}
theorem deleted_ok {C : Type} {x : RqF C} : CallsH Try.prog 53 ⟨[.agg ⟨x.cells⟩]⟩ H (Gives (.agg ⟨(⟨x.key, x.en, decide (x.en.size = 0), 0, 0⟩ : SP).cells⟩) H) := by
  have S := Sat.start H
  refine F53.calls ?_
  unfold F53.go
  (repeat (first | (refine Step.go ?_; intros) | refine iteB_t (by decide) ?_ | refine iteB_f (by decide) ?_ | (refine Duo.mk (by first | omega | exact rfl | decide) ?_; intros) | (refine Duo.mk (Clo.mk (by kernel_rfl)) ?_; intros)))
  refine ⟨?_, Sat.grown⟩
  rw [eqS_nil]
end
theorem sp_isC (y : SP) : ∀ v ∈ y.cells, isCell v = true := by
  intro v hv
  simp [SP.cells] at hv
  rcases hv with rfl | rfl | rfl | rfl | rfl <;> rfl
abbrev spZ : List Value := [.string (ByteArray.mk #[]), .string (ByteArray.mk #[]), .bool false, .int .i64 (0 : Int), .int .i64 (0 : Int)]
theorem rows_one {α : Type} {f : α → List Value} {z : Nat} {H : Heap} {r : Nat} {y : α} {T : TypeId} {fr : Nat × Nat} (h : H[r]? = some (.cells ⟨f y⟩ T fr)) : RowsAt f z H (some ⟨r, 0, none⟩) [y] := by
  refine .inr ⟨_, rfl, fun i w hi j v hj => ?_⟩
  match i, hi with
  | 0, hi =>
    simp only [List.getElem?_cons_zero, Option.some.injEq] at hi
    subst hi
    rw [add_add', add_mk]
    simp only [Nat.zero_mul, Nat.zero_add]
    exact hcell_of h hj
  | i + 1, hi => simp at hi
/-- Spans put behind spans. -/
theorem appSps {H : Heap} {l : List HP} {p q : Option Addr} {xs ys : List SP} {c : Nat} {m : List HP} {K : Option Addr → Nat → Nat → Heap → Prop} (S : Sat H l) (s : Sel (sl SP.cells 35 5 p xs.length c xs) l m) (hq : RowsAt SP.cells 5 H q ys) (hn : xs.length + ys.length ≤ 1000000)
    (k : ∀ p' c' H1, Sat H1 (sl SP.cells 35 5 p' (xs ++ ys).length c' (xs ++ ys) :: m) → K p' (xs ++ ys).length c' H1) : apD H 5 56 spZ 35 p xs.length c q ys.length K := by
  have S1 := S.bring s
  refine S1.slApp (ys := ys) (hq.cells fun _ => rfl) rfl (fun y hy => rfl) (fun v hv => ?_) rfl (by decide) (by omega) fun p' c' H1 S2 => ?_
  · obtain ⟨y, hy, hv⟩ := List.mem_flatMap.1 hv
    exact sp_isC y v hv
  · rw [← List.length_append] at S2 ⊢
    exact k p' c' H1 S2
theorem dels_step {C : Type} {sub : SubP C} {T : List C → Nat} (hs : Stays sub) (ih : DelsOk sub T) : DelsOk (RowsL sub) (totL T) := by
  intro xs p n c H hR hT
  have hst := RowsL.ext hs
  have hlen := hR.2.1
  have hn := hR.1
  have loop : ∀ (k i : Nat) (L : List SP) (q : Option Addr) (d : Nat) (H1 : Heap), i + k = n → L.length ≤ totL T (xs.take i) → (∀ s ∈ L, Sz s) → Sat H1 [sl SP.cells 35 5 q L.length d L, old H] → F42.L0 q L.length d p n c (n : Nat) (i : Nat) H1 (DelsEnd (totL T xs) H) := by
    intro k
    induction k with
    | zero =>
      intro i L q d H1 hk hL hz S
      obtain rfl : i = n := by omega
      refine F42.L0_step ?_
      unfold F42.L0n
      refine iteB_f (by simp) ?_
      rw [List.take_of_length_le (by omega)] at hL
      exact ⟨((q, d), L), rfl, S.to (Ent.lift ⟨hL, hz⟩ .refl)⟩
    | succ k ihk =>
      intro i L q d H1 hk hL hz S
      obtain ⟨x, hx⟩ : ∃ x, xs[i]? = some x := get_of (by omega)
      have E : ExtH H H1 := Sat.grown
      obtain ⟨_, _, hrow, hmem⟩ := hst _ _ _ _ _ E hR
      have hmx := hmem x (List.mem_of_getElem? hx)
      have htk := tot_take (T := T) hx
      have hle : totL T (xs.take (i + 1)) ≤ totL T xs := by
        have := tot_take (T := T) hx
        unfold totL
        rw [← List.take_append_drop (i + 1) xs, List.map_append, List.sum_append]
        simp
      refine F42.L0_step ?_
      unfold F42.L0n
      refine iteB_t (by simp; omega) ?_
      refine copyQ S hrow hlen hx fun r H2 E2 S2 => ?_
      clear S
      have l2 : ∀ (L' : List SP) (q' : Option Addr) (d' : Nat) (H3 : Heap), L'.length ≤ totL T (xs.take (i + 1)) → (∀ s ∈ L', Sz s) → Sat H3 [sl SP.cells 35 5 q' L'.length d' L', old H] → F42.L2 q' L'.length d' p n c (n : Nat) (i : Nat) H3 (DelsEnd (totL T xs) H) := by
        intro L' q' d' H3 k1 k2 S3
        refine F42.L2_step ?_
        unfold F42.L2n
        rw [wr64 (by omega) (by omega)]
        exact ihk (i + 1) L' q' d' H3 (by omega) k1 k2 S3
      have l1 : ∀ (L' : List SP) (q' : Option Addr) (d' : Nat) (H3 : Heap), L'.length + (if x.k = 4 then 0 else 0) ≤ totL T (xs.take i) + 1 → (∀ s ∈ L', Sz s) → Sat H3 [sl SP.cells 35 5 q' L'.length d' L', pt r (.cells ⟨x.cells⟩ 92), old H] → F42.L1 q' L'.length d' r p n c (n : Nat) (i : Nat) H3 (DelsEnd (totL T xs) H) := by
        intro L' q' d' H3 k1 k2 S3
        refine F42.L1_step ?_
        unfold F42.L1n
        (repeat (first | (refine Step.go ?_; intros) | refine iteB_t (by decide) ?_ | refine iteB_f (by decide) ?_ | (refine Duo.mk (by first | omega | exact rfl | decide) ?_; intros) | (refine Duo.mk (Clo.mk (by kernel_rfl)) ?_; intros)))
        refine iteB_i (fun h => ?_) (fun h => ?_)
        · have h : x.k = 4 := by simpa using h
          rw [if_pos h] at htk
          have hTx : T x.T ≤ 200 := by omega
          have hTe : T x.E ≤ 200 := by omega
          refine ⟨?_, ?_, ?_⟩
          all_goals
            have E3 : ExtH H H3 := Sat.grown
            have hs1 := hmx.2.2.1
            (repeat (first | (refine Step.go ?_; intros) | refine iteB_t (by decide) ?_ | refine iteB_f (by decide) ?_ | (refine Duo.mk (by first | omega | exact rfl | decide) ?_; intros) | (refine Duo.mk (Clo.mk (by kernel_rfl)) ?_; intros)))
            refine grow_i S3 (ih x.T x.tp x.tn x.tc H3 (hs _ _ _ _ _ E3 (hR.2.2.2 x (List.mem_of_getElem? hx)).2.2.1) hTx) ?_
            rintro ⟨⟨q1, d1⟩, L1⟩ H4 E4 S4
            dsimp only at S4 ⊢
            simp only [List.cons_append, List.nil_append] at S4
            obtain ⟨⟨g1, g2⟩, S4⟩ := S4.lift
            clear S3
            (repeat (first | (refine Step.go ?_; intros) | refine iteB_t (by decide) ?_ | refine iteB_f (by decide) ?_ | (refine Duo.mk (by first | omega | exact rfl | decide) ?_; intros) | (refine Duo.mk (Clo.mk (by kernel_rfl)) ?_; intros)))
            refine appSps (p := q') (xs := L') (ys := L1) (c := d') S4 (by (repeat (first | exact Sel.here | apply Sel.there))) (S4.rowsAt (List.mem_cons_self ..)) (by omega) fun q2 d2 H5 S5 => ?_
            have E5 : ExtH H H5 := Sat.grown
            clear S4
            (repeat (first | (refine Step.go ?_; intros) | refine iteB_t (by decide) ?_ | refine iteB_f (by decide) ?_ | (refine Duo.mk (by first | omega | exact rfl | decide) ?_; intros) | (refine Duo.mk (Clo.mk (by kernel_rfl)) ?_; intros)))
            refine grow_i S5 (ih x.E x.ep x.el x.ec H5 (hs _ _ _ _ _ E5 (hR.2.2.2 x (List.mem_of_getElem? hx)).2.2.2) hTe) ?_
            rintro ⟨⟨q3, d3⟩, L3⟩ H6 E6 S6
            dsimp only at S6 ⊢
            simp only [List.cons_append, List.nil_append] at S6
            obtain ⟨⟨g3, g4⟩, S6⟩ := S6.lift
            clear S5
            (repeat (first | (refine Step.go ?_; intros) | refine iteB_t (by decide) ?_ | refine iteB_f (by decide) ?_ | (refine Duo.mk (by first | omega | exact rfl | decide) ?_; intros) | (refine Duo.mk (Clo.mk (by kernel_rfl)) ?_; intros)))
            refine appSps (p := q2) (xs := L' ++ L1) (ys := L3) (c := d2) S6 (by (repeat (first | exact Sel.here | apply Sel.there))) (S6.rowsAt (List.mem_cons_self ..)) (by rw [List.length_append]; omega) fun q4 d4 H7 S7 => ?_
            refine l2 (L' ++ L1 ++ L3) q4 d4 H7 (by simp only [List.length_append]; omega) ?_ (S7.to Fits.out)
            intro s hs'
            rcases List.mem_append.1 hs' with hs' | hs'
            · rcases List.mem_append.1 hs' with hs' | hs'
              · exact k2 s hs'
              · exact g2 s hs'
            · exact g4 s hs'
        · have h : x.k ≠ 4 := by simpa using h
          rw [if_neg h] at htk
          exact l2 L' q' d' H3 (by omega) k2 (S3.to Fits.out)
      (repeat (first | (refine Step.go ?_; intros) | refine iteB_t (by decide) ?_ | refine iteB_f (by decide) ?_ | (refine Duo.mk (by first | omega | exact rfl | decide) ?_; intros) | (refine Duo.mk (Clo.mk (by kernel_rfl)) ?_; intros)))
      refine iteB_i (fun h => ?_) (fun h => ?_)
      · have h : x.k = 3 := by simpa using h
        (repeat (first | (refine Step.go ?_; intros) | refine iteB_t (by decide) ?_ | refine iteB_f (by decide) ?_ | (refine Duo.mk (by first | omega | exact rfl | decide) ?_; intros) | (refine Duo.mk (Clo.mk (by kernel_rfl)) ?_; intros)))
        refine gives_i S2 (deleted_ok (x := x)) fun H3 E3 S3 => ?_
        clear S2
        (repeat (first | (refine Step.go ?_; intros) | refine iteB_t (by decide) ?_ | refine iteB_f (by decide) ?_ | (refine Duo.mk (by first | omega | exact rfl | decide) ?_; intros) | (refine Duo.mk (Clo.mk (by kernel_rfl)) ?_; intros)))
        rename_i r1 H4 S4
        have ho : RowsAt SP.cells 5 H4 (some ⟨r1, 0, none⟩) [(⟨x.key, x.en, decide (x.en.size = 0), 0, 0⟩ : SP)] := by
          exact rows_one (S4.at_ (List.mem_cons_self ..))
        refine appSps (p := q) (xs := L) (ys := [(⟨x.key, x.en, decide (x.en.size = 0), 0, 0⟩ : SP)]) (c := d) S4 (by (repeat (first | exact Sel.here | apply Sel.there))) ho (by simp; omega) fun q2 d2 H5 S5 => ?_
        refine l1 _ q2 d2 H5 (by simp; omega) ?_ (S5.to Fits.out)
        intro s hs'
        rcases List.mem_append.1 hs' with hs' | hs'
        · exact hz s hs'
        · simp at hs'; subst hs'; exact ⟨hmx.1.1, hmx.1.2.1⟩
      · exact l1 L q d H2 (by simp; omega) hz (S2.to Fits.out)
  refine F42.calls ?_
  unfold F42.go
  refine loop n 0 [] none 0 H (by omega) (by simp) (fun s h => by cases h) ((Sat.start H).to (Ent.slNil .refl))
theorem dels_ok : ∀ f : Nat, DelsOk (RowsQ f) (tot f)
  | 0 => by
    intro xs p n c H hR _
    have hn : n = 0 := hR
    subst hn
    refine F42.calls ?_
    unfold F42.go
    refine F42.L0_step ?_
    unfold F42.L0n
    refine iteB_f (by decide) ?_
    exact ⟨((none, 0), []), rfl, (Sat.start H).to (Ent.lift ⟨Nat.zero_le _, fun s h => by cases h⟩ (Ent.slNil .refl))⟩
  | f + 1 => dels_step (RowsQ.ext f) (dels_ok f)
end Go.Proofs.Ytobolifgehagfaa

set_option linter.unusedVariables false
set_option linter.unusedSimpArgs false
set_option linter.unnecessarySimpa false
namespace Go.Proofs.Ytobolifgehagfaa
open Go Go.Den Go.Proofs
/-! What requests put, at any depth. -/
def PutsEnd (t : Nat) (M : List HP) (e : Ending) (H1 : Heap) : Prop := ∃ (ks : List SE) (q : Option Addr) (d : Nat), e = .returned (.slice q ks.length d) ∧ ks.length ≤ t ∧ (∀ s ∈ ks, s.size ≤ 140737488351232) ∧ Sat H1 (sl seC 9 1 q ks.length d ks :: M)
def PutsOk {C : Type} (sub : SubP C) (T : List C → Nat) : Prop := ∀ (xs : List C) (p : Option Addr) (n c : Nat) (M : List HP) (ks : List SE) (q : Option Addr) (d : Nat) (H : Heap), (∀ H, Sat H M → sub H p n xs) → ks.length + T xs ≤ 100000 → (∀ s ∈ ks, s.size ≤ 140737488351232) → Sat H (sl seC 9 1 q ks.length d ks :: M) →
  CallsH Try.prog 44 ⟨[.slice q ks.length d, .slice p n c]⟩ H (PutsEnd (ks.length + T xs) M)
/-- A text put behind texts. -/
theorem appStr {H : Heap} {l : List HP} {p : Option Addr} {xs : List SE} {y : SE} {c r : Nat} {m : List HP} {K : Option Addr → Nat → Nat → Heap → Prop} (S : Sat H l) (s : Sel (sl seC 9 1 p xs.length c xs) l m) (hr : H[r]? = some (.cells ⟨[.string y]⟩ 9)) (hn : xs.length ≤ 1000000)
    (k : ∀ p' c' H1, Sat H1 (sl seC 9 1 p' (xs ++ [y]).length c' (xs ++ [y]) :: m) → K p' (xs ++ [y]).length c' H1) : apD H 1 16 [.string (ByteArray.mk #[])] 9 p xs.length c (some ⟨r, 0, none⟩) 1 K := by
  have S1 := S.bring s
  refine S1.slApp (ys := [y]) ((rows_one (f := seC) (z := 1) hr).cells fun _ => rfl) rfl (fun y hy => rfl) (fun v hv => ?_) rfl (by decide) (by omega) fun p' c' H1 S2 => ?_
  · simp at hv; subst hv; rfl
  · have e : (xs ++ [y]).length = xs.length + 1 := by simp
    have k1 := k p' c' H1
    rw [e] at k1
    exact k1 S2
theorem puts_step {C : Type} {sub : SubP C} {T : List C → Nat} (hs : Stays sub) (ih : PutsOk sub T) : PutsOk (RowsL sub) (totL T) := by
  intro xs p n c M ks q d H hM hT hz S
  have hR := hM H (S.to (Ent.drop .refl))
  have hlen := hR.2.1
  have hn := hR.1
  have loop : ∀ (k i : Nat) (L : List SE) (q : Option Addr) (d : Nat) (H1 : Heap), i + k = n → L.length ≤ ks.length + totL T (xs.take i) → (∀ s ∈ L, s.size ≤ 140737488351232) → Sat H1 (sl seC 9 1 q L.length d L :: M) → F44.L0 q L.length d p n c (n : Nat) (i : Nat) H1 (PutsEnd (ks.length + totL T xs) M) := by
    intro k
    induction k with
    | zero =>
      intro i L q d H1 hk hL hLz S
      obtain rfl : i = n := by omega
      refine F44.L0_step ?_
      unfold F44.L0n
      refine iteB_f (by simp) ?_
      rw [List.take_of_length_le (by omega)] at hL
      exact ⟨L, q, d, rfl, hL, hLz, S⟩
    | succ k ihk =>
      intro i L q d H1 hk hL hLz S
      obtain ⟨x, hx⟩ : ∃ x, xs[i]? = some x := get_of (by omega)
      obtain ⟨_, _, hrow, hmem⟩ := hM H1 (S.to (Ent.drop .refl))
      have htk := tot_take (T := T) hx
      have hle : totL T (xs.take (i + 1)) ≤ totL T xs := by
        unfold totL
        rw [← List.take_append_drop (i + 1) xs, List.map_append, List.sum_append]
        simp
      refine F44.L0_step ?_
      unfold F44.L0n
      refine iteB_t (by simp; omega) ?_
      refine copyQ S hrow hlen hx fun r H2 E2 S2 => ?_
      clear S
      have l2 : ∀ (L' : List SE) (q' : Option Addr) (d' : Nat) (H3 : Heap), L'.length ≤ ks.length + totL T (xs.take (i + 1)) → (∀ s ∈ L', s.size ≤ 140737488351232) → Sat H3 (sl seC 9 1 q' L'.length d' L' :: M) → F44.L2 q' L'.length d' p n c (n : Nat) (i : Nat) H3 (PutsEnd (ks.length + totL T xs) M) := by
        intro L' q' d' H3 k1 kz S3
        refine F44.L2_step ?_
        unfold F44.L2n
        rw [wr64 (by omega) (by omega)]
        exact ihk (i + 1) L' q' d' H3 (by omega) k1 kz S3
      have l1 : ∀ (L' : List SE) (q' : Option Addr) (d' : Nat) (H3 : Heap), L'.length ≤ ks.length + totL T (xs.take i) + 1 → (∀ s ∈ L', s.size ≤ 140737488351232) → Sat H3 (sl seC 9 1 q' L'.length d' L' :: pt r (.cells ⟨x.cells⟩ 92) :: M) → F44.L1 q' L'.length d' r p n c (n : Nat) (i : Nat) H3 (PutsEnd (ks.length + totL T xs) M) := by
        intro L' q' d' H3 k1 kz S3
        refine F44.L1_step ?_
        unfold F44.L1n
        (repeat (first | (refine Step.go ?_; intros) | refine iteB_t (by decide) ?_ | refine iteB_f (by decide) ?_ | (refine Duo.mk (by first | omega | exact rfl | decide) ?_; intros) | (refine Duo.mk (Clo.mk (by kernel_rfl)) ?_; intros)))
        refine iteB_i (fun h => ?_) (fun h => ?_)
        · have h : x.k = 4 := by simpa using h
          rw [if_pos h] at htk
          refine ⟨?_, ?_⟩
          all_goals
            (repeat (first | (refine Step.go ?_; intros) | refine iteB_t (by decide) ?_ | refine iteB_f (by decide) ?_ | (refine Duo.mk (by first | omega | exact rfl | decide) ?_; intros) | (refine Duo.mk (Clo.mk (by kernel_rfl)) ?_; intros)))
            refine callD_i (ih x.T x.tp x.tn x.tc (pt r (.cells ⟨x.cells⟩ 92) :: M) L' q' d' H3 (fun H' S' => ((hM H' (S'.to (Ent.drop .refl))).2.2.2 x (List.mem_of_getElem? hx)).2.2.1) (by omega) kz S3) ?_
            rintro _ H4 ⟨L1, q1, d1, rfl, g1, z1, S4⟩
            clear S3
            (repeat (first | (refine Step.go ?_; intros) | refine iteB_t (by decide) ?_ | refine iteB_f (by decide) ?_ | (refine Duo.mk (by first | omega | exact rfl | decide) ?_; intros) | (refine Duo.mk (Clo.mk (by kernel_rfl)) ?_; intros)))
            refine callD_i (ih x.E x.ep x.el x.ec (pt r (.cells ⟨x.cells⟩ 92) :: M) L1 q1 d1 H4 (fun H' S' => ((hM H' (S'.to (Ent.drop .refl))).2.2.2 x (List.mem_of_getElem? hx)).2.2.2) (by omega) z1 S4) ?_
            rintro _ H5 ⟨L2, q2, d2, rfl, g2, z2, S5⟩
            clear S4
            (repeat (first | (refine Step.go ?_; intros) | refine iteB_t (by decide) ?_ | refine iteB_f (by decide) ?_ | (refine Duo.mk (by first | omega | exact rfl | decide) ?_; intros) | (refine Duo.mk (Clo.mk (by kernel_rfl)) ?_; intros)))
            exact l2 L2 q2 d2 H5 (by omega) z2 (S5.to (Ent.cons (Ent.drop .refl)))
        · have h : x.k ≠ 4 := by simpa using h
          rw [if_neg h] at htk
          exact l2 L' q' d' H3 (by omega) kz (S3.to (Ent.cons (Ent.drop .refl)))
      (repeat (first | (refine Step.go ?_; intros) | refine iteB_t (by decide) ?_ | refine iteB_f (by decide) ?_ | (refine Duo.mk (by first | omega | exact rfl | decide) ?_; intros) | (refine Duo.mk (Clo.mk (by kernel_rfl)) ?_; intros)))
      refine iteB_i (fun h => ?_) (fun h => ?_)
      · (repeat (first | (refine Step.go ?_; intros) | refine iteB_t (by decide) ?_ | refine iteB_f (by decide) ?_ | (refine Duo.mk (by first | omega | exact rfl | decide) ?_; intros) | (refine Duo.mk (Clo.mk (by kernel_rfl)) ?_; intros)))
        rename_i r1 H4 S4
        refine appStr (y := x.key) S4 (by (repeat (first | exact Sel.here | apply Sel.there))) (S4.at_ (List.mem_cons_self ..)) (by omega) fun q2 d2 H5 S5 => ?_
        refine l1 _ q2 d2 H5 (by simp; omega) ?_ (S5.to ?_)
        · intro s hs'
          rcases List.mem_append.1 hs' with hs' | hs'
          · exact hLz s hs'
          · simp at hs'; subst hs'; exact (hmem x (List.mem_of_getElem? hx)).1.1
        refine Ent.cons (Ent.drop ?_)
        exact .refl
      · refine l1 L q d H2 (by omega) hLz (S2.to ?_)
        exact Ent.bring (by (repeat (first | exact Sel.here | apply Sel.there)))
  refine F44.calls ?_
  unfold F44.go
  exact loop n 0 ks q d H (by omega) (by omega) hz S
theorem puts_ok : ∀ f : Nat, PutsOk (RowsQ f) (tot f)
  | 0 => by
    intro xs p n c M ks q d H hM hT hz S
    have hn : n = 0 := hM H (S.to (Ent.drop .refl))
    subst hn
    refine F44.calls ?_
    unfold F44.go
    refine F44.L0_step ?_
    unfold F44.L0n
    refine iteB_f (by decide) ?_
    exact ⟨ks, q, d, rfl, Nat.le_add_right .., hz, S⟩
  | f + 1 => puts_step (RowsQ.ext f) (puts_ok f)
end Go.Proofs.Ytobolifgehagfaa

set_option linter.unusedVariables false
set_option linter.unusedSimpArgs false
set_option linter.unnecessarySimpa false
namespace Go.Proofs.Ytobolifgehagfaa
open Go Go.Den Go.Proofs
/-! Whether a transaction puts what one behind it deletes: some answer. -/
def BehOk {C : Type} (sub : SubP C) (T : List C → Nat) : Prop := ∀ (xs : List C) (p : Option Addr) (n c : Nat) (H : Heap), sub H p n xs → T xs ≤ 200 → CallsH Try.prog 24 ⟨[.slice p n c]⟩ H (BoolEnd True H)
theorem behind_step {C : Type} {sub : SubP C} {T : List C → Nat} (hs : Stays sub) (hd : DelsOk (RowsL sub) (totL T)) (hp : PutsOk (RowsL sub) (totL T)) (ih : BehOk sub T) : BehOk (RowsL sub) (totL T) := by
  intro xs p n c H hR hT
  have hst := RowsL.ext hs
  have hlen := hR.2.1
  have hn := hR.1
  have all : ∀ (b : Bool) (H1 : Heap), ExtH H H1 → BoolEnd True H (.returned (.bool b)) H1 := fun b H1 E => ⟨b, rfl, E, fun h => trivial⟩
  have loop : ∀ (k i : Nat) (L : List SE) (q : Option Addr) (d : Nat) (H1 : Heap), i + k = n → L.length ≤ totL T (xs.take i) → (∀ s ∈ L, s.size ≤ 140737488351232) → Sat H1 [sl seC 9 1 q L.length d L, old H] → F24.L0 q L.length d p n c (n : Nat) (i : Nat) H1 (BoolEnd True H) := by
    intro k
    induction k with
    | zero =>
      intro i L q d H1 hk hL hz S
      obtain rfl : i = n := by omega
      refine F24.L0_step ?_
      unfold F24.L0n
      refine iteB_f (by simp) ?_
      exact all true H1 Sat.grown
    | succ k ihk =>
      intro i L q d H1 hk hL hz S
      obtain ⟨x, hx⟩ : ∃ x, xs[i]? = some x := get_of (by omega)
      have hxm := List.mem_of_getElem? hx
      have E : ExtH H H1 := Sat.grown
      obtain ⟨_, _, hrow, hmem⟩ := hst _ _ _ _ _ E hR
      have htk := tot_take (T := T) hx
      have hle : totL T (xs.take (i + 1)) ≤ totL T xs := by
        unfold totL
        rw [← List.take_append_drop (i + 1) xs, List.map_append, List.sum_append]
        simp
      have hone : totL T [x] + totL T (xs.take i) = totL T (xs.take (i + 1)) := by
        rw [htk]; simp [totL]; omega
      have one : ∀ (H' : Heap) (r' : Nat), ExtH H H' → H'[r']? = some (.cells ⟨x.cells⟩ 92) → RowsL sub H' (some ⟨r', 0, none⟩) 1 [x] := by
        intro H' r' E' hr'
        refine ⟨by omega, rfl, rows_one hr', fun y hy => ?_⟩
        simp at hy
        subst hy
        exact (hst _ _ _ _ _ E' hR).2.2.2 y hxm
      refine F24.L0_step ?_
      unfold F24.L0n
      refine iteB_t (by simp; omega) ?_
      refine copyQ S hrow hlen hx fun r H2 E2 S2 => ?_
      clear S
      have l4 : ∀ (L' : List SE) (q' : Option Addr) (d' : Nat) (H3 : Heap), L'.length ≤ totL T (xs.take (i + 1)) → (∀ s ∈ L', s.size ≤ 140737488351232) → Sat H3 [sl seC 9 1 q' L'.length d' L', old H] → F24.L4 q' L'.length d' p n c (n : Nat) (i : Nat) H3 (BoolEnd True H) := by
        intro L' q' d' H3 k1 kz S3
        refine F24.L4_step ?_
        unfold F24.L4n
        rw [wr64 (by omega) (by omega)]
        exact ihk (i + 1) L' q' d' H3 (by omega) k1 kz S3
      have l2 : ∀ (k2 j : Nat) (H3 : Heap), j + k2 = L.length → Sat H3 [sl seC 9 1 q L.length d L, pt r (.cells ⟨x.cells⟩ 92), old H] → F24.L2 q L.length d r p n c (n : Nat) (i : Nat) q L.length d (L.length : Nat) (j : Nat) H3 (BoolEnd True H) := by
        intro k2
        induction k2 with
        | zero =>
          intro j H3 hj S3
          obtain rfl : j = L.length := by omega
          refine F24.L2_step ?_
          unfold F24.L2n
          refine iteB_f (by simp) ?_
          (repeat (first | (refine Step.go ?_; intros) | refine iteB_t (by decide) ?_ | refine iteB_f (by decide) ?_ | (refine Duo.mk (by first | omega | exact rfl | decide) ?_; intros) | (refine Duo.mk (Clo.mk (by kernel_rfl)) ?_; intros)))
          rename_i r2 H4 S4
          have E4 : ExtH H H4 := Sat.grown
          refine callD_i (hp [x] (some ⟨r2, 0, none⟩) 1 1 [pt r2 (.cells ⟨x.cells⟩ 92), old H] L q d H4 (fun H' S' => one H' r2 (S'.old (by simp)) (S'.at_ (List.mem_cons_self ..))) (by omega) hz (S4.to Fits.out)) ?_
          rintro _ H5 ⟨L1, q1, d1, rfl, g1, z1, S5⟩
          (repeat (first | (refine Step.go ?_; intros) | refine iteB_t (by decide) ?_ | refine iteB_f (by decide) ?_ | (refine Duo.mk (by first | omega | exact rfl | decide) ?_; intros) | (refine Duo.mk (Clo.mk (by kernel_rfl)) ?_; intros)))
          exact l4 L1 q1 d1 H5 (by omega) z1 (S5.to Fits.out)
        | succ k2 ih2 =>
          intro j H3 hj S3
          obtain ⟨s, hs'⟩ : ∃ s, L[j]? = some s := get_of (by omega)
          have hI := HasI.nat hs'
          have hsz := hz s (List.mem_of_getElem? hs')
          refine F24.L2_step ?_
          unfold F24.L2n
          refine iteB_t (by simp; omega) ?_
          refine Sat.idx (f := seC) (E := 9) (z := 1) S3 ⟨by omega, by omega, fun ra oa ha => ?_⟩
          subst ha
          (repeat (first | (refine Step.go ?_; intros) | refine iteB_t (by decide) ?_ | refine iteB_f (by decide) ?_ | (refine Duo.mk (by first | omega | exact rfl | decide) ?_; intros) | (refine Duo.mk (Clo.mk (by kernel_rfl)) ?_; intros)))
          rename_i r1 H4 S4
          have E4 : ExtH H H4 := Sat.grown
          refine grow_i S4 (hd [x] (some ⟨r1, 0, none⟩) 1 1 H4 (one H4 r1 E4 (S4.at_ (List.mem_cons_self ..))) (by omega)) ?_
          rintro ⟨⟨q3, d3⟩, D⟩ H5 E5 S5
          dsimp only at S5 ⊢
          simp only [List.cons_append, List.nil_append] at S5
          obtain ⟨⟨g1, g2⟩, S5⟩ := S5.lift
          clear S4 S3
          (repeat (first | (refine Step.go ?_; intros) | refine iteB_t (by decide) ?_ | refine iteB_f (by decide) ?_ | (refine Duo.mk (by first | omega | exact rfl | decide) ?_; intros) | (refine Duo.mk (Clo.mk (by kernel_rfl)) ?_; intros)))
          have S6 : Sat H5 [sl SP.cells 35 5 q3 D.length d3 D, sl seC 9 1 (some ⟨ra, oa, none⟩) L.length d L, pt r (.cells ⟨x.cells⟩ 92), old H] := S5.to Fits.out
          clear S5
          have l3 : ∀ (k3 m : Nat) (H6 : Heap), m + k3 = D.length → Sat H6 [sl SP.cells 35 5 q3 D.length d3 D, sl seC 9 1 (some ⟨ra, oa, none⟩) L.length d L, pt r (.cells ⟨x.cells⟩ 92), old H] →
              F24.L3 (some ⟨ra, oa, none⟩) L.length d r s p n c (n : Nat) (i : Nat) (some ⟨ra, oa, none⟩) L.length d (L.length : Nat) (j : Nat) q3 D.length d3 (D.length : Nat) (m : Nat) H6 (BoolEnd True H) := by
            intro k3
            induction k3 with
            | zero =>
              intro m H6 hm S6
              obtain rfl : m = D.length := by omega
              refine F24.L3_step ?_
              unfold F24.L3n
              refine iteB_f (by simp) ?_
              rw [wr64 (by omega) (by omega)]
              exact ih2 (j + 1) H6 (by omega) (S6.to Fits.out)
            | succ k3 ih3 =>
              intro m H6 hm S6
              obtain ⟨t, ht⟩ : ∃ t, D[m]? = some t := get_of (by omega)
              have hI := HasI.nat ht
              have htz := g2 t (List.mem_of_getElem? ht)
              refine F24.L3_step ?_
              unfold F24.L3n
              refine iteB_t (by simp; omega) ?_
              refine Sat.idx (f := SP.cells) (E := 35) (z := 5) S6 ⟨by omega, by omega, fun rb ob hb => ?_⟩
              subst hb
              (repeat (first | (refine Step.go ?_; intros) | refine iteB_t (by decide) ?_ | refine iteB_f (by decide) ?_ | (refine Duo.mk (by first | omega | exact rfl | decide) ?_; intros) | (refine Duo.mk (Clo.mk (by kernel_rfl)) ?_; intros)))
              rename_i S7
              refine gives_i S7 (meet_ok (s := t) (t := ⟨s, ⟨#[]⟩, true, 0, 0⟩) htz.1 hsz) fun H8 E8 S8 => ?_
              refine tBool_i ?_
              refine iteB_i (fun _ => all _ _ Sat.grown) (fun _ => ?_)
              rw [wr64 (by omega) (by omega)]
              exact ih3 (m + 1) H8 (by omega) (S8.to Fits.out)
          exact l3 D.length 0 H5 (by omega) S6
      have hE : ExtH H H2 := E.trans E2
      (repeat (first | (refine Step.go ?_; intros) | refine iteB_t (by decide) ?_ | refine iteB_f (by decide) ?_ | (refine Duo.mk (by first | omega | exact rfl | decide) ?_; intros) | (refine Duo.mk (Clo.mk (by kernel_rfl)) ?_; intros)))
      refine iteB_i (fun h => ?_) (fun h => ?_)
      · refine l4 L q d H2 (by omega) hz (S2.to Fits.out)
      have h : x.k = 4 := by simpa using h
      rw [if_pos h] at htk
      (repeat (first | (refine Step.go ?_; intros) | refine iteB_t (by decide) ?_ | refine iteB_f (by decide) ?_ | (refine Duo.mk (by first | omega | exact rfl | decide) ?_; intros) | (refine Duo.mk (Clo.mk (by kernel_rfl)) ?_; intros)))
      refine callD_i (ih x.T x.tp x.tn x.tc H2 (hs _ _ _ _ _ hE (hR.2.2.2 x hxm).2.2.1) (by omega)) ?_
      rintro _ H3 ⟨b, rfl, E3, _⟩
      have S3 := S2.ext E3
      (repeat (first | (refine Step.go ?_; intros) | refine iteB_t (by decide) ?_ | refine iteB_f (by decide) ?_ | (refine Duo.mk (by first | omega | exact rfl | decide) ?_; intros) | (refine Duo.mk (Clo.mk (by kernel_rfl)) ?_; intros)))
      refine iteB_i (fun h => all _ _ Sat.grown) (fun h => ?_)
      have E4 : ExtH H H3 := Sat.grown
      (repeat (first | (refine Step.go ?_; intros) | refine iteB_t (by decide) ?_ | refine iteB_f (by decide) ?_ | (refine Duo.mk (by first | omega | exact rfl | decide) ?_; intros) | (refine Duo.mk (Clo.mk (by kernel_rfl)) ?_; intros)))
      refine callD_i (ih x.E x.ep x.el x.ec H3 (hs _ _ _ _ _ E4 (hR.2.2.2 x hxm).2.2.2) (by omega)) ?_
      rintro _ H4 ⟨b', rfl, E4', _⟩
      have S4 := S3.ext E4'
      (repeat (first | (refine Step.go ?_; intros) | refine iteB_t (by decide) ?_ | refine iteB_f (by decide) ?_ | (refine Duo.mk (by first | omega | exact rfl | decide) ?_; intros) | (refine Duo.mk (Clo.mk (by kernel_rfl)) ?_; intros)))
      refine iteB_i (fun h => all _ _ Sat.grown) (fun h => ?_)
      refine F24.L1_step ?_
      unfold F24.L1n
      exact l2 L.length 0 H4 (by omega) (S4.to Fits.out)
  refine F24.calls ?_
  unfold F24.go
  exact loop n 0 [] none 0 H (by omega) (by simp) (fun s h => by cases h) ((Sat.start H).to (Ent.slNil .refl))
theorem behind_ok : ∀ f : Nat, BehOk (RowsQ f) (tot f)
  | 0 => by
    intro xs p n c H hR _
    have hn : n = 0 := hR
    subst hn
    refine F24.calls ?_
    unfold F24.go
    refine F24.L0_step ?_
    unfold F24.L0n
    refine iteB_f (by decide) ?_
    exact ⟨true, rfl, ExtH.refl _, fun _ => trivial⟩
  | f + 1 => behind_step (RowsQ.ext f) (dels_ok (f + 1)) (puts_ok (f + 1)) (behind_ok f)
end Go.Proofs.Ytobolifgehagfaa

set_option linter.unusedVariables false
set_option linter.unusedSimpArgs false
set_option linter.unnecessarySimpa false
namespace Go.Proofs.Ytobolifgehagfaa
open Go Go.Den Go.Proofs
/-! Requests as they are handed on. -/
/-- A part of memory of which something is known wherever it is. -/
def inH (φ : Heap → Prop) : HP := fun h => ∀ H' : Heap, PH.sub h (PH.of H') → φ H'
theorem inH_out {H : Heap} {l : List HP} {φ : Heap → Prop} (S : Sat H l) (hm : inH φ ∈ l) : φ H := by
  obtain ⟨h, h1, h2⟩ := S.mem hm
  exact h1 H h2
theorem Ent.toIn {φ : Heap → Prop} {m l : List HP} (h : ∀ H', Sat H' m → φ H') : Ent (Den.star m :: l) (inH φ :: l) :=
  Ent.first fun k hk H' hs => h H' ⟨SatP.mono hs hk⟩
theorem Sat.toIn {H : Heap} {φ : Heap → Prop} {m l : List HP} (S : Sat H (m ++ l)) (h : ∀ H', Sat H' m → φ H') : Sat H (inH φ :: l) := by
  have S1 : Sat H (Den.star m :: l) := ⟨SatP.star_iff.2 S.out⟩
  exact S1.to (Ent.toIn h)
theorem All2.snoc {α β : Type} {R : α → β → Prop} {a : α} {b : β} : ∀ {l : List α} {m : List β}, All2 R l m → R a b → All2 R (l ++ [a]) (m ++ [b])
  | _, _, .nil, h => .cons h .nil
  | _, _, .cons h1 h2, h => .cons h1 (h2.snoc h)
theorem All2.imp {α β : Type} {R R' : α → β → Prop} (hi : ∀ a b, R a b → R' a b) : ∀ {l : List α} {m : List β}, All2 R l m → All2 R' l m
  | _, _, .nil => .nil
  | _, _, .cons h1 h2 => .cons (hi _ _ h1) (h2.imp hi)
abbrev SubO (C : Type) := Heap → List C → Option Addr → Nat → Prop
abbrev ptC (b : Nat) : List Value := [pA b]
def TxnH {C : Type} (so : SubO C) (x : RqF C) (b : Nat) (H : Heap) : Prop := ∃ cp cn cc sp sn sc fp fn fc, H[b]? = some (.cells ⟨[.slice cp cn cc, .slice sp sn sc, .slice fp fn fc]⟩ 218) ∧ so H x.T sp sn ∧ so H x.E fp fn
def OpB {C : Type} (so : SubO C) (H : Heap) (x : RqF C) (b : Nat) : Prop := ∃ (t : TypeId) (r p : Nat), H[b]? = some (.cells ⟨[.iface t (pA r)]⟩ 166) ∧
  ((x.k = 1 ∧ t = 162) ∨
   (x.k = 2 ∧ t = 167 ∧ H[r]? = some (.cells ⟨[pA p]⟩ 169) ∧ ∃ k kc v vc, H[p]? = some (puO x k kc v vc) ∧ cellsAt H (some ⟨k, 0, none⟩) (bytesOf x.key.data.toList)) ∨
   (x.k = 3 ∧ t = 170 ∧ H[r]? = some (.cells ⟨[pA p]⟩ 172) ∧ ∃ k kc q c, H[p]? = some (deO x k kc q c) ∧ cellsAt H (some ⟨k, 0, none⟩) (bytesOf x.key.data.toList) ∧ cellsAt H q (bytesOf x.en.data.toList)) ∨
   (x.k = 4 ∧ t = 173 ∧ H[r]? = some (.cells ⟨[pA p]⟩ 175) ∧ TxnH so x p H))
/-- Those that are handed on. -/
def known {C : Type} (xs : List (RqF C)) : List (RqF C) := xs.filter fun x => decide (1 ≤ x.k ∧ x.k ≤ 4)
def OpsL {C : Type} (so : SubO C) (H : Heap) (xs : List (RqF C)) (q : Option Addr) (n : Nat) : Prop := ∃ bs : List Nat, bs.length = n ∧ n ≤ 140737488351232 ∧ RowsAt ptC 1 H q bs ∧ All2 (OpB so H) (known xs) bs
def OpsH : (f : Nat) → SubO (RQ f)
  | 0 => fun _ _ _ n => n = 0
  | f + 1 => OpsL (OpsH f)
def StaysO {C : Type} (so : SubO C) : Prop := ∀ H H1 xs q n, ExtH H H1 → so H xs q n → so H1 xs q n
theorem OpB.ext {C : Type} {so : SubO C} (hs : StaysO so) {H H1 : Heap} (e : ExtH H H1) {x : RqF C} {b : Nat} (h : OpB so H x b) : OpB so H1 x b := by
  obtain ⟨t, r, p, h1, h2⟩ := h
  refine ⟨t, r, p, e.block_some h1, ?_⟩
  rcases h2 with h2 | ⟨a1, a2, a3, k, kc, v, vc, a4, a5⟩ | ⟨a1, a2, a3, k, kc, q, c, a4, a5, a6⟩ | ⟨a1, a2, a3, cp, cn, cc, sp, sn, sc, fp, fn, fc, a4, a5, a6⟩
  · exact .inl h2
  · exact .inr (.inl ⟨a1, a2, e.block_some a3, k, kc, v, vc, e.block_some a4, cellsAt_ext a5 e⟩)
  · exact .inr (.inr (.inl ⟨a1, a2, e.block_some a3, k, kc, q, c, e.block_some a4, cellsAt_ext a5 e, cellsAt_ext a6 e⟩))
  · exact .inr (.inr (.inr ⟨a1, a2, e.block_some a3, cp, cn, cc, sp, sn, sc, fp, fn, fc, e.block_some a4, hs _ _ _ _ _ e a5, hs _ _ _ _ _ e a6⟩))
theorem OpsL.ext {C : Type} {so : SubO C} (hs : StaysO so) : StaysO (OpsL so) := fun H H1 xs q n e ⟨bs, h1, h2, h3, h4⟩ => ⟨bs, h1, h2, h3.ext e, h4.imp fun _ _ h => h.ext hs e⟩
theorem OpsH.ext : ∀ f, StaysO (OpsH f)
  | 0 => fun _ _ _ _ _ _ h => h
  | f + 1 => OpsL.ext (OpsH.ext f)
abbrev OpI := (Option Addr × Nat) × Nat
def OpsOk {C : Type} (sub : SubP C) (so : SubO C) (T : List C → Nat) : Prop := ∀ (xs : List C) (p : Option Addr) (n c : Nat) (H : Heap), sub H p n xs → T xs ≤ 200 → CallsH Try.prog 47 ⟨[.slice p n c]⟩ H (fun e H1 => ∃ y : OpI, e = .returned (.slice y.1.1 y.2 y.1.2) ∧ Sat H1 ([inH fun H' => so H' xs y.1.1 y.2] ++ [old H]))
/-- A pointer put behind pointers. -/
theorem appPt {H : Heap} {l : List HP} {p : Option Addr} {xs : List Nat} {y : Nat} {c r T : Nat} {m : List HP} {K : Option Addr → Nat → Nat → Heap → Prop} (S : Sat H l) (s : Sel (sl ptC T 1 p xs.length c xs) l m) (hr : H[r]? = some (.cells ⟨ptC y⟩ T)) (hn : xs.length ≤ 1000000)
    (k : ∀ p' c' H1, Sat H1 (sl ptC T 1 p' (xs ++ [y]).length c' (xs ++ [y]) :: m) → K p' (xs ++ [y]).length c' H1) : apD H 1 8 [.pointer none] T p xs.length c (some ⟨r, 0, none⟩) 1 K := by
  have S1 := S.bring s
  refine S1.slApp (ys := [y]) ((rows_one (f := ptC) (z := 1) hr).cells fun _ => rfl) rfl (fun y hy => rfl) (fun v hv => ?_) rfl (by decide) (by omega) fun p' c' H1 S2 => ?_
  · simp at hv; subst hv; rfl
  · have e : (xs ++ [y]).length = xs.length + 1 := by simp
    have k1 := k p' c' H1
    rw [e] at k1
    exact k1 S2
theorem txnIn_ok {C : Type} {sub : SubP C} {so : SubO C} {T : List C → Nat} (hs : Stays sub) (ih : OpsOk sub so T) {x : RqF C} {H : Heap} (h : SzQ x ∧ CmpsOk H x.cp x.cn ∧ sub H x.tp x.tn x.T ∧ sub H x.ep x.el x.E) (hc : x.cn ≤ 200) (ht : T x.T ≤ 200) (he : T x.E ≤ 200) :
    CallsH Try.prog 79 ⟨[.agg ⟨x.cells⟩]⟩ H (fun e H1 => ∃ b : Nat, e = .returned (pA b) ∧ Sat H1 ([inH (TxnH so x b)] ++ [old H])) := by
  obtain ⟨hz, ⟨hcn, cl, hrows, hcl, hcz⟩, hT, hE⟩ := h
  have S := Sat.start H
  refine F79.calls ?_
  unfold F79.go
  (repeat (first | (refine Step.go ?_; intros) | refine iteB_t (by decide) ?_ | refine iteB_f (by decide) ?_ | (refine Duo.mk (by first | omega | exact rfl | decide) ?_; intros) | (refine Duo.mk (Clo.mk (by kernel_rfl)) ?_; intros)))
  rename_i r H1 S1 b H2 S2
  have R : RowsC H x.cp CmT.cells 7 cl := ⟨hrows⟩
  have loop : ∀ (k i : Nat) (L : List Nat) (q : Option Addr) (d : Nat) (H3 : Heap), i + k = x.cn → L.length = i → Sat H3 [pt b (.cells ⟨[.slice q L.length d, .slice none 0 0, .slice none 0 0]⟩ 218), sl ptC 219 1 q L.length d L, pt r (.cells ⟨x.cells⟩ 92), old H] →
      F79.L0 r b (i : Nat) H3 (fun e H1 => ∃ b : Nat, e = .returned (pA b) ∧ Sat H1 ([inH (TxnH so x b)] ++ [old H])) := by
    intro k
    induction k with
    | zero =>
      intro i L q d H3 hk hL S3
      obtain rfl : i = x.cn := by omega
      refine F79.L0_step ?_
      unfold F79.L0n
      (repeat (first | (refine Step.go ?_; intros) | refine iteB_t (by decide) ?_ | refine iteB_f (by decide) ?_ | (refine Duo.mk (by first | omega | exact rfl | decide) ?_; intros) | (refine Duo.mk (Clo.mk (by kernel_rfl)) ?_; intros)))
      refine iteB_f (by simp) ?_
      have E3 : ExtH H H3 := Sat.grown
      (repeat (first | (refine Step.go ?_; intros) | refine iteB_t (by decide) ?_ | refine iteB_f (by decide) ?_ | (refine Duo.mk (by first | omega | exact rfl | decide) ?_; intros) | (refine Duo.mk (Clo.mk (by kernel_rfl)) ?_; intros)))
      refine grow_i S3 (ih x.T x.tp x.tn x.tc H3 (hs _ _ _ _ _ E3 hT) ht) ?_
      rintro ⟨⟨q1, d1⟩, n1⟩ H4 E4 S4
      dsimp only at S4 ⊢
      simp only [List.cons_append, List.nil_append] at S4
      clear S3
      (repeat (first | (refine Step.go ?_; intros) | refine iteB_t (by decide) ?_ | refine iteB_f (by decide) ?_ | (refine Duo.mk (by first | omega | exact rfl | decide) ?_; intros) | (refine Duo.mk (Clo.mk (by kernel_rfl)) ?_; intros)))
      rename_i H5 S5
      have E5 : ExtH H H5 := Sat.grown
      refine grow_i S5 (ih x.E x.ep x.el x.ec H5 (hs _ _ _ _ _ E5 hE) he) ?_
      rintro ⟨⟨q2, d2⟩, n2⟩ H6 E6 S6
      dsimp only at S6 ⊢
      simp only [List.cons_append, List.nil_append] at S6
      clear S4 S5
      (repeat (first | (refine Step.go ?_; intros) | refine iteB_t (by decide) ?_ | refine iteB_f (by decide) ?_ | (refine Duo.mk (by first | omega | exact rfl | decide) ?_; intros) | (refine Duo.mk (Clo.mk (by kernel_rfl)) ?_; intros)))
      rename_i H7 S7
      refine ⟨b, rfl, ?_⟩
      have S8 : Sat H7 ([pt b (.cells ⟨[.slice q L.length d, .slice q1 n1 d1, .slice q2 n2 d2]⟩ 218), inH (fun H' => so H' x.T q1 n1), inH (fun H' => so H' x.E q2 n2)] ++ [old H]) := by
        refine S7.to ?_
        show Ent _ [_, _, _, _]
        iterate 3 (apply Ent.pick; (focus (repeat (first | exact Sel.here | apply Sel.there))))
        exact Fits.out
      exact Sat.toIn S8 fun H' S' => ⟨q, L.length, d, q1, n1, d1, q2, n2, d2, S'.at_ (by simp), inH_out (φ := fun H' => so H' x.T q1 n1) S' (by simp), inH_out (φ := fun H' => so H' x.E q2 n2) S' (by simp)⟩
    | succ k ihk =>
      intro i L q d H3 hk hL S3
      obtain ⟨y, hy⟩ : ∃ y, cl[i]? = some y := get_of (by omega)
      have hI := HasI.nat hy
      refine F79.L0_step ?_
      unfold F79.L0n
      (repeat (first | (refine Step.go ?_; intros) | refine iteB_t (by decide) ?_ | refine iteB_f (by decide) ?_ | (refine Duo.mk (by first | omega | exact rfl | decide) ?_; intros) | (refine Duo.mk (Clo.mk (by kernel_rfl)) ?_; intros)))
      refine iteB_t (by simp; omega) ?_
      (repeat (first | (refine Step.go ?_; intros) | refine iteB_t (by decide) ?_ | refine iteB_f (by decide) ?_ | (refine Duo.mk (by first | omega | exact rfl | decide) ?_; intros) | (refine Duo.mk (Clo.mk (by kernel_rfl)) ?_; intros)))
      refine RowsC.idx R hcl ⟨by omega, by omega, fun a ha => ?_⟩
      have R' : RowsC H (some a) CmT.cells 7 cl := ⟨by rw [← ha]; exact hrows⟩
      (repeat (first | (refine Step.go ?_; intros) | refine iteB_t (by decide) ?_ | refine iteB_f (by decide) ?_ | (refine Duo.mk (by first | omega | exact rfl | decide) ?_; intros) | (refine Duo.mk (Clo.mk (by kernel_rfl)) ?_; intros)))
      refine grow_i S3 (cmpIn_any (x := y) (hcz y (List.mem_of_getElem? hy))) ?_
      rintro pb H4 E4 S4
      simp only [List.nil_append] at S4
      clear S3
      try dsimp only
      refine tPtr_i ?_
      refine andD_i E4 ?_
      (repeat (first | (refine Step.go ?_; intros) | refine iteB_t (by decide) ?_ | refine iteB_f (by decide) ?_ | (refine Duo.mk (by first | omega | exact rfl | decide) ?_; intros) | (refine Duo.mk (Clo.mk (by kernel_rfl)) ?_; intros)))
      rename_i r1 H5 S5
      refine appPt (y := pb) S5 (by (repeat (first | exact Sel.here | apply Sel.there))) (S5.at_ (List.mem_cons_self ..)) (by omega) fun q2 d2 H6 S6 => ?_
      clear S4 S5
      (repeat (first | (refine Step.go ?_; intros) | refine iteB_t (by decide) ?_ | refine iteB_f (by decide) ?_ | (refine Duo.mk (by first | omega | exact rfl | decide) ?_; intros) | (refine Duo.mk (Clo.mk (by kernel_rfl)) ?_; intros)))
      rename_i H7 S7
      rw [wr64 (by omega) (by omega)]
      refine ihk (i + 1) (L ++ [pb]) q2 d2 H7 (by omega) (by simp; omega) (S7.to ?_)
      iterate 3 (apply Ent.pick; (focus (repeat (first | exact Sel.here | apply Sel.there))))
      exact Fits.out
  refine loop x.cn 0 [] none 0 H2 (by omega) rfl (S2.to ?_)
  apply Ent.pick
  · (repeat (first | exact Sel.here | apply Sel.there))
  exact Ent.slNil .refl
theorem known_take {C : Type} {xs : List (RqF C)} {i : Nat} {x : RqF C} (hx : xs[i]? = some x) : known (xs.take (i + 1)) = known (xs.take i) ++ (if 1 ≤ x.k ∧ x.k ≤ 4 then [x] else []) := by
  unfold known
  rw [List.take_add_one, hx]
  by_cases h : 1 ≤ x.k ∧ x.k ≤ 4
  · simp [h]
  · simp [h]
theorem known_len {C : Type} (xs : List (RqF C)) : (known xs).length ≤ xs.length := List.length_filter_le ..
theorem ops_step {C : Type} {sub : SubP C} {so : SubO C} {T : List C → Nat} (hs : Stays sub) (hso : StaysO so) (ih : OpsOk sub so T) : OpsOk (RowsL sub) (OpsL so) (totL T) := by
  intro xs p n c H hR hT
  have hst := RowsL.ext hs
  have hlen := hR.2.1
  have hn := hR.1
  have hle := tot_len (T := T) (xs := xs)
  have R : RowsC H p (RqF.cells (C := C)) 21 xs := ⟨hR.2.2.1⟩
  have loop : ∀ (k i : Nat) (L : List Nat) (q : Option Addr) (d : Nat) (H1 : Heap), i + k = n → L.length = (known (xs.take i)).length → Sat H1 [sl ptC 161 1 q L.length d L, inH (fun H' => All2 (OpB so H') (known (xs.take i)) L), old H] →
      F47.L0 p n c q L.length d (i : Nat) H1 (fun e H1 => ∃ y : OpI, e = .returned (.slice y.1.1 y.2 y.1.2) ∧ Sat H1 ([inH fun H' => OpsL so H' xs y.1.1 y.2] ++ [old H])) := by
    intro k
    induction k with
    | zero =>
      intro i L q d H1 hk hL S
      obtain rfl : i = n := by omega
      refine F47.L0_step ?_
      unfold F47.L0n
      refine iteB_f (by simp) ?_
      rw [List.take_of_length_le (by omega)] at hL S
      have := known_len xs
      refine ⟨((q, d), L.length), rfl, Sat.toIn (m := [sl ptC 161 1 q L.length d L, inH (fun H' => All2 (OpB so H') (known xs) L)]) S fun H' S' => ⟨L, rfl, by omega, S'.rowsAt (List.mem_cons_self ..), inH_out (φ := fun H' => All2 (OpB so H') (known xs) L) S' (by simp)⟩⟩
    | succ k ihk =>
      intro i L q d H1 hk hL S
      obtain ⟨x, hx⟩ : ∃ x, xs[i]? = some x := get_of (by omega)
      have hI := HasI.nat hx
      have hxm := List.mem_of_getElem? hx
      have E : ExtH H H1 := Sat.grown
      have hmx := (hst _ _ _ _ _ E hR).2.2.2 x hxm
      have hkt := known_take hx
      have htk := known_len (xs.take i)
      have htl : (xs.take i).length ≤ n := by rw [List.length_take]; omega
      have l1 : ∀ (L' : List Nat) (q' : Option Addr) (d' : Nat) (H3 : Heap), L'.length = (known (xs.take (i + 1))).length → Sat H3 [sl ptC 161 1 q' L'.length d' L', inH (fun H' => All2 (OpB so H') (known (xs.take (i + 1))) L'), old H] →
          F47.L1 p n c q' L'.length d' (i : Nat) H3 (fun e H1 => ∃ y : OpI, e = .returned (.slice y.1.1 y.2 y.1.2) ∧ Sat H1 ([inH fun H' => OpsL so H' xs y.1.1 y.2] ++ [old H])) := by
        intro L' q' d' H3 k1 S3
        refine F47.L1_step ?_
        unfold F47.L1n
        rw [wr64 (by omega) (by omega)]
        exact ihk (i + 1) L' q' d' H3 (by omega) k1 S3
      -- one is put behind
      have put : ∀ (hk4 : 1 ≤ x.k ∧ x.k ≤ 4) (b : Nat) (q' : Option Addr) (d' : Nat) (H3 : Heap), Sat H3 [sl ptC 161 1 q' (L ++ [b]).length d' (L ++ [b]), inH (fun H' => All2 (OpB so H') (known (xs.take i)) L), inH (fun H' => OpB so H' x b), old H] →
          F47.L1 p n c q' (L ++ [b]).length d' (i : Nat) H3 (fun e H1 => ∃ y : OpI, e = .returned (.slice y.1.1 y.2 y.1.2) ∧ Sat H1 ([inH fun H' => OpsL so H' xs y.1.1 y.2] ++ [old H])) := by
        intro hk4 b q' d' H3 S3
        rw [if_pos hk4] at hkt
        refine l1 (L ++ [b]) q' d' H3 (by rw [hkt]; simp; omega) ?_
        have S4 : Sat H3 ([inH (fun H' => All2 (OpB so H') (known (xs.take i)) L), inH (fun H' => OpB so H' x b)] ++ [sl ptC 161 1 q' (L ++ [b]).length d' (L ++ [b]), old H]) := by
          refine S3.to ?_
          show Ent _ [_, _, _, _]
          iterate 3 (apply Ent.pick; (focus (repeat (first | exact Sel.here | apply Sel.there))))
          exact Ent.refl
        have S5 := Sat.toIn (φ := fun H' => All2 (OpB so H') (known (xs.take (i + 1))) (L ++ [b])) S4 fun H' S' => by
          rw [hkt]
          exact (inH_out (φ := fun H' => All2 (OpB so H') (known (xs.take i)) L) S' (by simp)).snoc (inH_out (φ := fun H' => OpB so H' x b) S' (by simp))
        exact S5.to (Ent.bring (by (repeat (first | exact Sel.here | apply Sel.there))))
      refine F47.L0_step ?_
      unfold F47.L0n
      refine iteB_t (by simp; omega) ?_
      refine RowsC.idx R hlen ⟨by omega, by omega, fun a ha => ?_⟩
      have R' : RowsC H (some a) (RqF.cells (C := C)) 21 xs := ⟨by rw [← ha]; exact hR.2.2.1⟩
      (repeat (first | (refine Step.go ?_; intros) | refine iteB_t (by decide) ?_ | refine iteB_f (by decide) ?_ | (refine Duo.mk (by first | omega | exact rfl | decide) ?_; intros) | (refine Duo.mk (Clo.mk (by kernel_rfl)) ?_; intros)))
      refine iteB_i (fun h => ?_) (fun h1 => ?_)
      · have h : x.k = 1 := by simpa using h
        refine RowsC.idx R hlen ⟨by omega, by omega, fun a' ha' => ?_⟩
        obtain rfl : a = a' := by rw [ha] at ha'; exact Option.some.inj ha'
        (repeat (first | (refine Step.go ?_; intros) | refine iteB_t (by decide) ?_ | refine iteB_f (by decide) ?_ | (refine Duo.mk (by first | omega | exact rfl | decide) ?_; intros) | (refine Duo.mk (Clo.mk (by kernel_rfl)) ?_; intros)))
        refine grow_i S (rangeIn_any (x := x) hmx.1.1 hmx.1.2.1) ?_
        rintro b H2 E2 S2
        simp only [List.nil_append] at S2
        clear S
        try dsimp only
        (repeat (first | (refine Step.go ?_; intros) | refine iteB_t (by decide) ?_ | refine iteB_f (by decide) ?_ | (refine Duo.mk (by first | omega | exact rfl | decide) ?_; intros) | (refine Duo.mk (Clo.mk (by kernel_rfl)) ?_; intros)))
        rename_i r1 H3 S3 r2 H4 S4 r3 H5 S5
        refine appPt (y := r2) S5 (by (repeat (first | exact Sel.here | apply Sel.there))) (S5.at_ (List.mem_cons_self ..)) (by omega) fun q2 d2 H6 S6 => ?_
        refine put (by omega) r2 q2 d2 H6 ?_
        have S7 : Sat H6 ([pt r2 (.cells ⟨[.iface 162 (pA r1)]⟩ 166)] ++ [sl ptC 161 1 q2 (L ++ [r2]).length d2 (L ++ [r2]), inH (fun H' => All2 (OpB so H') (known (xs.take i)) L), old H]) := by
          refine S6.to ?_
          show Ent _ [_, _, _, _]
          iterate 3 (apply Ent.pick; (focus (repeat (first | exact Sel.here | apply Sel.there))))
          exact Fits.out
        have S8 := Sat.toIn (φ := fun H' => OpB so H' x r2) S7 fun H' S' => ⟨_, r1, 0, S'.at_ (List.mem_cons_self ..), .inl ⟨h, rfl⟩⟩
        refine S8.to ?_
        iterate 2 (apply Ent.pick; (focus (repeat (first | exact Sel.here | apply Sel.there))))
        exact .refl
      have h1 : ¬ x.k = 1 := by simpa using h1
      refine iteB_i (fun h => ?_) (fun h2 => ?_)
      · have h : x.k = 2 := by simpa using h
        refine RowsC.idx R hlen ⟨by omega, by omega, fun a' ha' => ?_⟩
        obtain rfl : a = a' := by rw [ha] at ha'; exact Option.some.inj ha'
        (repeat (first | (refine Step.go ?_; intros) | refine iteB_t (by decide) ?_ | refine iteB_f (by decide) ?_ | (refine Duo.mk (by first | omega | exact rfl | decide) ?_; intros) | (refine Duo.mk (Clo.mk (by kernel_rfl)) ?_; intros)))
        refine grow_i S (putIn_ok (x := x) hmx.1.1 hmx.1.2.2) ?_
        rintro ⟨b, ⟨kb, kc⟩, ⟨v, vc⟩⟩ H2 E2 S2
        dsimp only at S2 ⊢
        simp only [List.cons_append, List.nil_append] at S2
        clear S
        (repeat (first | (refine Step.go ?_; intros) | refine iteB_t (by decide) ?_ | refine iteB_f (by decide) ?_ | (refine Duo.mk (by first | omega | exact rfl | decide) ?_; intros) | (refine Duo.mk (Clo.mk (by kernel_rfl)) ?_; intros)))
        rename_i r1 H3 S3 r2 H4 S4 r3 H5 S5
        refine appPt (y := r2) S5 (by (repeat (first | exact Sel.here | apply Sel.there))) (S5.at_ (List.mem_cons_self ..)) (by omega) fun q2 d2 H6 S6 => ?_
        refine put (by omega) r2 q2 d2 H6 ?_
        have S7 : Sat H6 ([pt r2 (.cells ⟨[.iface 167 (pA r1)]⟩ 166), pt r1 (.cells ⟨[pA b]⟩ 169), pt b (puO x kb kc v vc), bpc (some ⟨kb, 0, none⟩) x.key] ++ [sl ptC 161 1 q2 (L ++ [r2]).length d2 (L ++ [r2]), inH (fun H' => All2 (OpB so H') (known (xs.take i)) L), old H]) := by
          refine S6.to ?_
          show Ent _ [_, _, _, _, _, _, _]
          iterate 6 (apply Ent.pick; (focus (repeat (first | exact Sel.here | apply Sel.there))))
          exact Fits.out
        have S8 := Sat.toIn (φ := fun H' => OpB so H' x r2) S7 fun H' S' => ⟨_, r1, b, S'.at_ (List.mem_cons_self ..), .inr (.inl ⟨h, rfl, S'.at_ (by simp), kb, kc, v, vc, S'.at_ (by simp), bpc_at S' (by simp)⟩)⟩
        refine S8.to ?_
        iterate 2 (apply Ent.pick; (focus (repeat (first | exact Sel.here | apply Sel.there))))
        exact .refl
      have h2 : ¬ x.k = 2 := by simpa using h2
      refine iteB_i (fun h => ?_) (fun h3 => ?_)
      · have h : x.k = 3 := by simpa using h
        refine RowsC.idx R hlen ⟨by omega, by omega, fun a' ha' => ?_⟩
        obtain rfl : a = a' := by rw [ha] at ha'; exact Option.some.inj ha'
        (repeat (first | (refine Step.go ?_; intros) | refine iteB_t (by decide) ?_ | refine iteB_f (by decide) ?_ | (refine Duo.mk (by first | omega | exact rfl | decide) ?_; intros) | (refine Duo.mk (Clo.mk (by kernel_rfl)) ?_; intros)))
        refine grow_i S (delIn_ok (x := x) hmx.1.1 hmx.1.2.1) ?_
        rintro ⟨b, ⟨kb, kc⟩, ⟨v, vc⟩⟩ H2 E2 S2
        dsimp only at S2 ⊢
        simp only [List.cons_append, List.nil_append] at S2
        clear S
        (repeat (first | (refine Step.go ?_; intros) | refine iteB_t (by decide) ?_ | refine iteB_f (by decide) ?_ | (refine Duo.mk (by first | omega | exact rfl | decide) ?_; intros) | (refine Duo.mk (Clo.mk (by kernel_rfl)) ?_; intros)))
        rename_i r1 H3 S3 r2 H4 S4 r3 H5 S5
        refine appPt (y := r2) S5 (by (repeat (first | exact Sel.here | apply Sel.there))) (S5.at_ (List.mem_cons_self ..)) (by omega) fun q2 d2 H6 S6 => ?_
        refine put (by omega) r2 q2 d2 H6 ?_
        have S7 : Sat H6 ([pt r2 (.cells ⟨[.iface 170 (pA r1)]⟩ 166), pt r1 (.cells ⟨[pA b]⟩ 172), pt b (deO x kb kc v vc), bpc (some ⟨kb, 0, none⟩) x.key, bpc v x.en] ++ [sl ptC 161 1 q2 (L ++ [r2]).length d2 (L ++ [r2]), inH (fun H' => All2 (OpB so H') (known (xs.take i)) L), old H]) := by
          refine S6.to ?_
          show Ent _ [_, _, _, _, _, _, _, _]
          iterate 7 (apply Ent.pick; (focus (repeat (first | exact Sel.here | apply Sel.there))))
          exact Fits.out
        have S8 := Sat.toIn (φ := fun H' => OpB so H' x r2) S7 fun H' S' => ⟨_, r1, b, S'.at_ (List.mem_cons_self ..), .inr (.inr (.inl ⟨h, rfl, S'.at_ (by simp), kb, kc, v, vc, S'.at_ (by simp), bpc_at S' (by simp), bpc_at S' (by simp)⟩))⟩
        refine S8.to ?_
        iterate 2 (apply Ent.pick; (focus (repeat (first | exact Sel.here | apply Sel.there))))
        exact .refl
      have h3 : ¬ x.k = 3 := by simpa using h3
      refine iteB_i (fun h => ?_) (fun h4 => ?_)
      · have h : x.k = 4 := by simpa using h
        have hm4 := tot_mem (T := T) hxm h
        refine RowsC.idx R hlen ⟨by omega, by omega, fun a' ha' => ?_⟩
        obtain rfl : a = a' := by rw [ha] at ha'; exact Option.some.inj ha'
        (repeat (first | (refine Step.go ?_; intros) | refine iteB_t (by decide) ?_ | refine iteB_f (by decide) ?_ | (refine Duo.mk (by first | omega | exact rfl | decide) ?_; intros) | (refine Duo.mk (Clo.mk (by kernel_rfl)) ?_; intros)))
        refine grow_i S (txnIn_ok hs ih hmx (by omega) (by omega) (by omega)) ?_
        rintro b H2 E2 S2
        try dsimp only
        simp only [List.cons_append, List.nil_append] at S2
        clear S
        (repeat (first | (refine Step.go ?_; intros) | refine iteB_t (by decide) ?_ | refine iteB_f (by decide) ?_ | (refine Duo.mk (by first | omega | exact rfl | decide) ?_; intros) | (refine Duo.mk (Clo.mk (by kernel_rfl)) ?_; intros)))
        rename_i r1 H3 S3 r2 H4 S4 r3 H5 S5
        refine appPt (y := r2) S5 (by (repeat (first | exact Sel.here | apply Sel.there))) (S5.at_ (List.mem_cons_self ..)) (by omega) fun q2 d2 H6 S6 => ?_
        refine put (by omega) r2 q2 d2 H6 ?_
        have S7 : Sat H6 ([pt r2 (.cells ⟨[.iface 173 (pA r1)]⟩ 166), pt r1 (.cells ⟨[pA b]⟩ 175), inH (TxnH so x b)] ++ [sl ptC 161 1 q2 (L ++ [r2]).length d2 (L ++ [r2]), inH (fun H' => All2 (OpB so H') (known (xs.take i)) L), old H]) := by
          refine S6.to ?_
          show Ent _ [_, _, _, _, _, _]
          iterate 5 (apply Ent.pick; (focus (repeat (first | exact Sel.here | apply Sel.there))))
          exact Fits.out
        have S8 := Sat.toIn (φ := fun H' => OpB so H' x r2) S7 fun H' S' => ⟨_, r1, b, S'.at_ (List.mem_cons_self ..), .inr (.inr (.inr ⟨h, rfl, S'.at_ (by simp), inH_out (φ := TxnH so x b) S' (by simp)⟩))⟩
        refine S8.to ?_
        iterate 2 (apply Ent.pick; (focus (repeat (first | exact Sel.here | apply Sel.there))))
        exact .refl
      have h4 : ¬ x.k = 4 := by simpa using h4
      rw [if_neg (by omega)] at hkt
      rw [List.append_nil] at hkt
      refine l1 L q d H1 (by rw [hkt]; exact hL) ?_
      rw [hkt]
      exact S
  refine F47.calls ?_
  unfold F47.go
  refine loop n 0 [] none 0 H (by omega) (by simp [known]) ((Sat.start H).to (Ent.slNil ?_))
  intro k x
  exact ⟨fun _ => none, fun H' _ => by simp [known]; exact .nil, fun _ _ h => (by cases h), x.mono fun b o h => by rw [PH.minus_none rfl]; exact h⟩
theorem ops_ok : ∀ f : Nat, OpsOk (RowsQ f) (OpsH f) (tot f)
  | 0 => by
    intro xs p n c H hR _
    have hn : n = 0 := hR
    subst hn
    refine F47.calls ?_
    unfold F47.go
    refine F47.L0_step ?_
    unfold F47.L0n
    refine iteB_f (by decide) ?_
    refine ⟨((none, 0), 0), rfl, (Sat.start H).to ?_⟩
    intro k x
    exact ⟨fun _ => none, fun H' _ => rfl, fun _ _ h => (by cases h), x.mono fun b o h => by rw [PH.minus_none rfl]; exact h⟩
  | f + 1 => ops_step (RowsQ.ext f) (OpsH.ext f) (ops_ok f)
end Go.Proofs.Ytobolifgehagfaa

set_option linter.unusedVariables false
set_option linter.unusedSimpArgs false
set_option linter.unnecessarySimpa false
namespace Go.Proofs.Ytobolifgehagfaa
open Go Go.Den Go.Proofs
/-! Whether something is met. -/
def isx (o : Int) (B E : EN) : Tr → Bool
  | .nil => false
  | .node it c t u => if cmpI o B E it.B it.E = 0 then true else if (match t.mx o with | some M => ltE o B M | none => false) = true then isx o B E t else isx o B E u
theorem mx2_in {o : Int} {e : EN} {a : Option EN} : mx2 o e a = e ∨ a = some (mx2 o e a) := by
  cases a with
  | none => exact .inl rfl
  | some a =>
    unfold mx2
    dsimp only
    split
    · exact .inr rfl
    · exact .inl rfl
theorem mx_in {o : Int} : ∀ (T : Tr) (m : EN), T.mx o = some m → ∃ x ∈ T.inL, x.E = m
  | .nil, m, h => by cases h
  | .node it c l r, m, h => by
    have h : mx3 o it.E (l.mx o) (r.mx o) = m := by simpa [Tr.mx] using h
    subst h
    unfold mx3
    rcases mx2_in (o := o) (e := mx2 o it.E (l.mx o)) (a := r.mx o) with h | h
    · rw [h]
      rcases mx2_in (o := o) (e := it.E) (a := l.mx o) with h1 | h1
      · exact ⟨it, by simp [Tr.inL], h1.symm⟩
      · obtain ⟨x, hx, e⟩ := mx_in l _ h1
        exact ⟨x, by simp [Tr.inL, hx], e⟩
    · obtain ⟨x, hx, e⟩ := mx_in r _ h
      exact ⟨x, by simp [Tr.inL, hx], e⟩
theorem mx_none {o : Int} : ∀ T : Tr, T.mx o = none → T.inL = []
  | .nil, _ => rfl
  | .node it c l r, h => by simp [Tr.mx] at h
theorem any_none {α : Type} {p : α → Bool} {l : List α} (h : ∀ x ∈ l, p x = false) : l.any p = false := by
  rw [List.any_eq_false]
  intro x hx
  rw [h x hx]; simp
theorem isx_ok {o : Int} {B E : EN} (hp : ltE o B E = true) : ∀ T : Tr, Srt o T.inL → (∀ x ∈ T.inL, ltE o x.B x.E = true) → isx o B E T = T.inL.any (meetI o B E)
  | .nil, _, _ => rfl
  | .node it c l r, hs, hx => by
    unfold Srt at hs
    rw [Tr.inL, List.pairwise_append] at hs
    obtain ⟨s1, s2, s3⟩ := hs
    rw [List.pairwise_cons] at s2
    have el := isx_ok hp l s1 (fun x h => hx x (by simp [Tr.inL, h]))
    have er := isx_ok hp r s2.2 (fun x h => hx x (by simp [Tr.inL, h]))
    have hi := hx it (by simp [Tr.inL])
    unfold isx
    rw [el, er, cmpI_law hp hi, Tr.inL, List.any_append, List.any_cons]
    cases hm : meetI o B E it with
    | true =>
      have hm' : (ltE o B it.E && ltE o it.B E) = true := hm
      rw [hm']; simp
    | false =>
      have hm' : (ltE o B it.E && ltE o it.B E) = false := hm
      rw [hm', Bool.false_or]
      rw [if_neg (by simp only [Bool.false_eq_true, if_false]; split <;> omega)]
      cases hmx : l.mx o with
      | none =>
        rw [mx_none l hmx]
        simp
      | some M =>
        dsimp only
        obtain ⟨y, hy, rfl⟩ := mx_in l M hmx
        split
        · rename_i hlt
          cases ha : l.inL.any (meetI o B E) with
          | true => simp
          | false =>
            rw [any_none (l := r.inL) (fun x h => ?_)]
            · rfl
            have h1 : meetI o B E y = false := by
              have := List.any_eq_false.1 ha y hy
              simpa using this
            unfold meetI at h1
            rw [hlt, Bool.true_and] at h1
            have h2 : ltE o x.B y.B = false := by
              have := s3 y hy x (by simp [h])
              unfold goL at this
              simp only [Bool.or_eq_false_iff] at this
              exact this.1
            unfold meetI
            rw [nlt_trans h1 h2, Bool.and_false]
        · rename_i hlt
          have hlt : ltE o B y.E = false := by simpa using hlt
          rw [any_none (l := l.inL) (fun x h => ?_)]
          · rfl
          unfold meetI
          rw [nlt_trans (mx_up l _ hmx x h) hlt, Bool.false_and]
section
variable {H : Heap} {l m : List HP} {g : PH} {o : Int} {sr b tp : Nat}
theorem isx_loop {i j : IV} {B E : EN} {n : Int} {rt vb : Nat} {H0 : Heap} (hi : IsG g o i B) (hj : IsG g o j E) : ∀ (t : Tr) (p : Nat) (H : Heap), ExtH H0 H → TrH H g o sr p t → Blk H tp (treO rt n sr) → Blk H sr senO → Blk H vb (.cells ⟨[i.v, j.v]⟩ 109) → PH.sub g (PH.of H) →
    F143.L0 (some (aA tp)) vb (some (aA (t.ref sr))) H (Gives (.bool (isx o B E t)) H0) := by
  intro t
  induction t with
  | nil =>
    intro p H E0 hT b1 b2 b3 hg
    refine F143.L0_step ?_
    unfold F143.L0n
    dsimp only [Tr.ref]
    (repeat (first | (refine Step.go ?_; intros) | refine iteB_t (by decide) ?_ | refine iteB_f (by decide) ?_ | (refine Duo.mk (by first | omega | exact rfl | decide) ?_; intros) | (refine Duo.mk (Clo.mk (by kernel_rfl)) ?_; intros)))
    refine pq_same ?_
    (repeat (first | (refine Step.go ?_; intros) | refine iteB_t (by decide) ?_ | refine iteB_f (by decide) ?_ | (refine Duo.mk (by first | omega | exact rfl | decide) ?_; intros) | (refine Duo.mk (Clo.mk (by kernel_rfl)) ?_; intros)))
    refine F143.L1_step ?_
    unfold F143.L1n
    (repeat (first | (refine Step.go ?_; intros) | refine iteB_t (by decide) ?_ | refine iteB_f (by decide) ?_ | (refine Duo.mk (by first | omega | exact rfl | decide) ?_; intros) | (refine Duo.mk (Clo.mk (by kernel_rfl)) ?_; intros)))
    refine pq_same ?_
    exact ⟨rfl, E0⟩
  | node it c t u ih1 ih2 =>
    intro p H E0 hT b1 b2 b3 hg
    obtain ⟨h1, h2, ⟨m, h3, h4⟩, h5, h6⟩ := hT
    have S := Sat.start H
    refine F143.L0_step ?_
    unfold F143.L0n
    dsimp only [Tr.ref]
    (repeat (first | (refine Step.go ?_; intros) | refine iteB_t (by decide) ?_ | refine iteB_f (by decide) ?_ | (refine Duo.mk (by first | omega | exact rfl | decide) ?_; intros) | (refine Duo.mk (Clo.mk (by kernel_rfl)) ?_; intros)))
    refine pq_ne h2 h4.out b2.out ?_
    (repeat (first | (refine Step.go ?_; intros) | refine iteB_t (by decide) ?_ | refine iteB_f (by decide) ?_ | (refine Duo.mk (by first | omega | exact rfl | decide) ?_; intros) | (refine Duo.mk (Clo.mk (by kernel_rfl)) ?_; intros)))
    refine call_of (compareC b3 h4 rfl rfl rfl rfl (hi H hg) (hj H hg) (h1.1 H hg) (h1.2 H hg)) ?_
    rintro _ H1 ⟨rfl, E1⟩
    have b1' := b1.ext E1
    have b2' := b2.ext E1
    have b3' := b3.ext E1
    have h4' := h4.ext E1
    have hg1 := subExt hg E1
    have h5' := h5.ext E1
    have h6' := h6.ext E1
    have E01 := E0.trans E1
    clear b1 b2 b3 h4 hg h5 h6 S
    (repeat (first | (refine Step.go ?_; intros) | refine iteB_t (by decide) ?_ | refine iteB_f (by decide) ?_ | (refine Duo.mk (by first | omega | exact rfl | decide) ?_; intros) | (refine Duo.mk (Clo.mk (by kernel_rfl)) ?_; intros)))
    refine iteB_i (fun h => ?_) (fun h => ?_)
    · have h : cmpI o B E it.B it.E ≠ 0 := by simpa using h
      refine F143.L2_step ?_
      unfold F143.L2n
      (repeat (first | (refine Step.go ?_; intros) | refine iteB_t (by decide) ?_ | refine iteB_f (by decide) ?_ | (refine Duo.mk (by first | omega | exact rfl | decide) ?_; intros) | (refine Duo.mk (Clo.mk (by kernel_rfl)) ?_; intros)))
      have right : ∀ H2, ExtH H1 H2 → (isx o B E (.node it c t u) = isx o B E u) → F143.L3 (some (aA tp)) vb (some (aA it.r)) H2 (Gives (.bool (isx o B E (.node it c t u))) H0) := by
        intro H2 E2 he
        rw [he]
        have h4'' := h4'.ext E2
        refine F143.L3_step ?_
        unfold F143.L3n
        (repeat (first | (refine Step.go ?_; intros) | refine iteB_t (by decide) ?_ | refine iteB_f (by decide) ?_ | (refine Duo.mk (by first | omega | exact rfl | decide) ?_; intros) | (refine Duo.mk (Clo.mk (by kernel_rfl)) ?_; intros)))
        exact ih2 it.r H2 (E01.trans E2) (h6'.ext E2) (b1'.ext E2) (b2'.ext E2) (b3'.ext E2) (subExt hg1 E2)
      cases t with
      | nil =>
        dsimp only [Tr.ref]
        refine pq_same ?_
        (repeat (first | (refine Step.go ?_; intros) | refine iteB_t (by decide) ?_ | refine iteB_f (by decide) ?_ | (refine Duo.mk (by first | omega | exact rfl | decide) ?_; intros) | (refine Duo.mk (Clo.mk (by kernel_rfl)) ?_; intros)))
        refine right H1 (ExtH.refl _) ?_
        rw [isx, if_neg h]
        rfl
      | node it2 c2 t2 u2 =>
        dsimp only [Tr.ref]
        obtain ⟨k1, k2, ⟨m2, ⟨M', k3, k3'⟩, k4⟩, k5, k6⟩ := id h5'
        dsimp only [Tr.ref] at h4'
        refine pq_ne k2 k4.out b2'.out ?_
        have hb := b3'.out
        (repeat (first | (refine Step.go ?_; intros) | refine iteB_t (by decide) ?_ | refine iteB_f (by decide) ?_ | (refine Duo.mk (by first | omega | exact rfl | decide) ?_; intros) | (refine Duo.mk (Clo.mk (by kernel_rfl)) ?_; intros)))
        have S := Sat.start H1
        refine cmpH hg1 k3 hi S fun H2 E2 S2 => ?_
        (repeat (first | (refine Step.go ?_; intros) | refine iteB_t (by decide) ?_ | refine iteB_f (by decide) ?_ | (refine Duo.mk (by first | omega | exact rfl | decide) ?_; intros) | (refine Duo.mk (Clo.mk (by kernel_rfl)) ?_; intros)))
        rw [cmpE_pos]
        have hlt : ltE o B M' = (match (Tr.node it2 c2 t2 u2).mx o with | some M => ltE o B M | none => false) := by
          show _ = ltE o B (mx3 o it2.E (t2.mx o) (u2.mx o))
          exact k3'.lt_r
        have h4'' := h4'.ext E2
        refine iteB_i (fun h7 => ?_) (fun h7 => ?_)
        · refine F143.L4_step ?_
          unfold F143.L4n
          (repeat (first | (refine Step.go ?_; intros) | refine iteB_t (by decide) ?_ | refine iteB_f (by decide) ?_ | (refine Duo.mk (by first | omega | exact rfl | decide) ?_; intros) | (refine Duo.mk (Clo.mk (by kernel_rfl)) ?_; intros)))
          rw [isx, if_neg h, ← hlt, if_pos h7]
          exact ih1 it.r H2 (E01.trans E2) (h5'.ext E2) (b1'.ext E2) (b2'.ext E2) (b3'.ext E2) (subExt hg1 E2)
        · refine right H2 E2 ?_
          rw [isx, if_neg h, ← hlt, if_neg (by rw [h7]; simp)]
    · have h : cmpI o B E it.B it.E = 0 := by simpa using h
      rw [isx, if_pos h]
      refine F143.L1_step ?_
      unfold F143.L1n
      (repeat (first | (refine Step.go ?_; intros) | refine iteB_t (by decide) ?_ | refine iteB_f (by decide) ?_ | (refine Duo.mk (by first | omega | exact rfl | decide) ?_; intros) | (refine Duo.mk (Clo.mk (by kernel_rfl)) ?_; intros)))
      refine pq_ne h2 h4'.out b2'.out ?_
      exact ⟨rfl, E01⟩
theorem Intersects_ok {i j : IV} {B E : EN} {T : Tr} {n : Int} (hi : IsG g o i B) (hj : IsG g o j E) (hT : TrH H g o sr sr T) (b1 : Blk H tp (treO (T.ref sr) n sr)) (b2 : Blk H sr senO) (hg : PH.sub g (PH.of H)) :
    CallsH Try.prog 143 ⟨[pA tp, .agg ⟨[i.v, j.v]⟩]⟩ H (Gives (.bool (isx o B E T)) H) := by
  have S := Sat.start H
  refine F143.calls (iv_0 := i) (iv_1 := j) ?_
  unfold F143.go
  (repeat (first | (refine Step.go ?_; intros) | refine iteB_t (by decide) ?_ | refine iteB_f (by decide) ?_ | (refine Duo.mk (by first | omega | exact rfl | decide) ?_; intros) | (refine Duo.mk (Clo.mk (by kernel_rfl)) ?_; intros)))
  rename_i r H1 S1
  have E1 : ExtH H H1 := Sat.grown
  have b1' := b1.ext E1
  (repeat (first | (refine Step.go ?_; intros) | refine iteB_t (by decide) ?_ | refine iteB_f (by decide) ?_ | (refine Duo.mk (by first | omega | exact rfl | decide) ?_; intros) | (refine Duo.mk (Clo.mk (by kernel_rfl)) ?_; intros)))
  exact isx_loop hi hj T sr H1 E1 (hT.ext E1) b1' (b2.ext E1) ⟨S1.at_ (by simp)⟩ (subExt hg E1)
end
end Go.Proofs.Ytobolifgehagfaa

set_option linter.unusedVariables false
set_option linter.unusedSimpArgs false
set_option linter.unnecessarySimpa false
namespace Go.Proofs.Ytobolifgehagfaa
open Go Go.Den Go.Proofs
/-! Trees by the ends of their intervals; one tree put into another. -/
abbrev EP := EN × EN
def keyI (it : It) : EP := (it.B, it.E)
def keyX (x : SP × Int) : EP := (x.1.B, x.1.E)
def goK (o : Int) (z y : EP) : Bool := ltE o z.1 y.1 || (!ltE o y.1 z.1 && ltE o z.2 y.2)
def putK (o : Int) (z : EP) : List EP → List EP
  | [] => [z]
  | y :: l => if goK o z y then z :: y :: l else y :: putK o z l
theorem putI_key {o : Int} {z : It} : ∀ l : List It, (putI o z l).map keyI = putK o (keyI z) (l.map keyI)
  | [] => rfl
  | y :: l => by
    rw [List.map_cons, putI, putK]
    have e : goK o (keyI z) (keyI y) = goL o z.B z.E y := rfl
    rw [e]
    split
    · rfl
    · rw [List.map_cons, putI_key l]
theorem putP_key {o : Int} {z : SP × Int} : ∀ l : List (SP × Int), (putP o z l).map keyX = putK o (keyX z) (l.map keyX)
  | [] => rfl
  | y :: l => by
    rw [List.map_cons, putP, putK]
    have e : goK o (keyX z) (keyX y) = aheadS o z.1 y.1 := rfl
    rw [e]
    split
    · rfl
    · rw [List.map_cons, putP_key l]
/-- What ends are like. -/
def GoodK (z : EP) : Prop := z.1.1.size ≠ 0 ∧ z.2.1.size ≠ 0 ∧ ltE 1 z.1 z.2 = true
structure TrW (T : Tr) (K : List EP) : Prop where
  wt : Wt 1 T
  key : T.inL.map keyI = K
theorem putK_mem {o : Int} {z x : EP} : ∀ {l : List EP}, x ∈ putK o z l ↔ x = z ∨ x ∈ l
  | [] => by simp [putK]
  | y :: l => by
    rw [putK]
    split
    · simp
    · simp only [List.mem_cons, putK_mem (l := l)]
      constructor
      · rintro (h | h | h)
        · exact .inr (.inl h)
        · exact .inl h
        · exact .inr (.inr h)
      · rintro (h | h | h)
        · exact .inr (.inl h)
        · exact .inl h
        · exact .inr (.inr h)
theorem putK_len {o : Int} {z : EP} : ∀ l : List EP, (putK o z l).length = l.length + 1
  | [] => rfl
  | y :: l => by
    rw [putK]
    split
    · simp
    · simp [putK_len l]
theorem TrW.nil : TrW .nil [] := ⟨⟨⟨⟨0, rfl⟩, trivial, rfl⟩, List.Pairwise.nil, fun _ h => by cases h⟩, rfl⟩
theorem TrW.ins {T : Tr} {K : List EP} (h : TrW T K) {z : It} (hz : ltE 1 z.B z.E = true) : TrW (Go.Proofs.Ytobolifgehagfaa.ins 1 z T) (putK 1 (keyI z) K) := by
  obtain ⟨a, b⟩ := h.wt.ins hz
  exact ⟨a, by rw [b, putI_key, h.key]⟩
theorem TrW.len {T : Tr} {K : List EP} (h : TrW T K) : T.inL.length = K.length := by rw [← h.key, List.length_map]
def putsK (o : Int) (K : List EP) (zs : List EP) : List EP := zs.foldl (fun K z => putK o z K) K
theorem putsK_snoc {o : Int} {K zs : List EP} {z : EP} : putsK o K (zs ++ [z]) = putK o z (putsK o K zs) := by simp [putsK]
theorem putsK_len {o : Int} : ∀ (zs K : List EP), (putsK o K zs).length = K.length + zs.length
  | [], K => rfl
  | z :: zs, K => by
    show (putsK o (putK o z K) zs).length = _
    rw [putsK_len zs, putK_len, List.length_cons]; omega
theorem putsK_mem {o : Int} {x : EP} : ∀ {zs K : List EP}, x ∈ putsK o K zs → x ∈ zs ∨ x ∈ K
  | [], K, h => .inr h
  | z :: zs, K, h => by
    rcases putsK_mem (zs := zs) (K := putK o z K) h with h | h
    · exact .inl (List.mem_cons_of_mem _ h)
    · rcases putK_mem.1 h with rfl | h
      · exact .inl (List.mem_cons_self ..)
      · exact .inr h
abbrev b0E : EN := (⟨#[0]⟩, 0)
abbrev infE : EN := (⟨#[]⟩, 0)
theorem ltAll : ltE 1 b0E infE = true := by
  unfold ltE
  rw [if_neg (by decide), if_pos (by refine ⟨by decide, ?_⟩; show ¬ ((1 : Nat) = 0 ↔ (0 : Nat) = 0); decide)]
  exact decide_eq_true (show (0 : Nat) = 0 from rfl)
theorem ltS_zero {a : ByteArray} (h : a.size ≠ 0) : ltS a ⟨#[0]⟩ = false := by
  unfold ltS
  rw [ByteArray.toList_eq, ByteArray.toList_eq]
  obtain ⟨⟨l⟩⟩ := a
  cases l with
  | nil => exact absurd rfl h
  | cons x l =>
    show Op.bytesLess (x :: l) [0] = false
    unfold Op.bytesLess
    have h1 : decide (x < 0) = false := decide_eq_false (by intro h; exact absurd (show x.toNat < 0 from h) (by omega))
    rw [h1]
    cases l <;> simp [Op.bytesLess]
theorem meet_all {z : EP} (h : GoodK z) : ltE 1 b0E z.2 = true ∧ ltE 1 z.1 infE = true := by
  obtain ⟨h1, h2, h3⟩ := h
  constructor
  · have e : ltE 1 b0E z.2 = ltS ⟨#[0]⟩ z.2.1 := by
      unfold ltE
      rw [if_neg (by decide), if_neg (by rintro ⟨_, h⟩; apply h; show (1 : Nat) = 0 ↔ _; omega)]
    have e3 : ltE 1 z.1 z.2 = ltS z.1.1 z.2.1 := by
      unfold ltE
      rw [if_neg (by decide), if_neg (by rintro ⟨_, h⟩; apply h; omega)]
    rw [e3] at h3
    rw [e]
    cases h5 : ltS ⟨#[0]⟩ z.2.1 with
    | true => rfl
    | false =>
      -- E ≤ 0, B < E
      have h6 := ltS_zero h2
      have h7 : z.2.1 = ⟨#[0]⟩ := by
        rcases seTot _ _ h5 with h | h
        · exact h.symm
        · rw [show seLt z.2.1 ⟨#[0]⟩ = ltS z.2.1 ⟨#[0]⟩ from rfl, h6] at h; cases h
      rw [h7, ltS_zero h1] at h3
      cases h3
  · unfold ltE
    rw [if_neg (by decide), if_pos (by refine ⟨by decide, ?_⟩; intro h; exact h1 (h.2 rfl))]
    exact decide_eq_true (show (0 : Nat) = 0 from rfl)
theorem vis_all {T : Tr} {K : List EP} (h : TrW T K) (hK : ∀ z ∈ K, GoodK z) : vis 1 b0E infE T = T.inL := by
  rw [vis_ok ltAll T h.wt.srt h.wt.prop, List.filter_eq_self]
  intro it hit
  have := meet_all (hK (keyI it) (by rw [← h.key]; exact List.mem_map_of_mem hit))
  unfold meetI
  rw [show ltE 1 b0E it.E = true from this.1, show ltE 1 it.B infE = true from this.2]
  rfl
section
variable {H : Heap} {l : List HP} {g : PH} {sr tp sr2 tp2 : Nat} {T U : Tr} {n n2 : Int} {K K2 : List EP}
/-- The state while one tree is put into another. -/
def UniJ (g : PH) (sr tp : Nat) (n : Int) (K : List EP) (sr2 tp2 : Nat) (n2 : Int) (U : Tr) (rc : Nat) (s : List It) (l : List HP) (H : Heap) : Prop :=
  ∃ T, TrW T (putsK 1 K (s.map keyI)) ∧ Sat H (tr g 1 sr sr T :: pt tp (treO (T.ref sr) (n + (s.length : Int)) sr) :: pt sr senO :: tr g 1 sr2 sr2 U :: pt tp2 (treO (U.ref sr2) n2 sr2) :: pt sr2 senO :: pt rc (.cells ⟨[pA tp]⟩ 136) :: has g :: l)
theorem uni_vis {rc : Nat} (hn : 0 ≤ n ∧ n ≤ 1000000) (hU : ∀ it ∈ U.inL, ltE 1 it.B it.E = true) : VisJ (UniJ g sr tp n K sr2 tp2 n2 U rc) addF (.mk (.func 160) ⟨[]⟩ ⟨[pA rc]⟩) U.inL List.length 1000000 := by
  refine ⟨fun s it => by simp [addF], ?_, ?_, ?_, ?_⟩
  · rintro s l m H H1 ⟨T, h, S⟩ S1
    refine ⟨T, h, (S1.onto S).to ?_⟩
    refine fun k x => SatP.perm ?_ x
    have := (List.perm_append_comm (l₁ := m) (l₂ := [tr g 1 sr sr T, pt tp (treO (T.ref sr) (n + (s.length : Int)) sr), pt sr senO, tr g 1 sr2 sr2 U, pt tp2 (treO (U.ref sr2) n2 sr2), pt sr2 senO, pt rc (.cells ⟨[pA tp]⟩ 136), has g])).append_right l
    simpa using this
  · rintro s l H ⟨T, h, S⟩
    exact S.to (Ent.drop (Ent.drop (Ent.drop (Ent.drop (Ent.drop (Ent.drop (Ent.drop (Ent.drop .refl))))))))
  · rintro s m l H ⟨T, h, S⟩
    refine ⟨T, h, S.to ?_⟩
    refine Ent.cons (Ent.cons (Ent.cons (Ent.cons (Ent.cons (Ent.cons (Ent.cons (Ent.cons ?_)))))))
    intro k x
    obtain ⟨h, _, _, y⟩ := star_in x
    exact y.mono PH.minus_sub
  · rintro s l it H Q K hit hw ⟨T, h, S⟩ k
    obtain ⟨hO, hne, m, x, y, p, c, hblk⟩ := TrH.mem (trH_of (S.bring (c := tr g 1 sr2 sr2 U) (by (repeat (first | exact Sel.here | apply Sel.there))))) hit
    refine Step.go (Duo.mk (Clo.mk (by kernel_rfl)) ?_)
    refine F160.calls ?_
    unfold F160.go
    (repeat (first | (refine Step.go ?_; intros) | refine iteB_t (by decide) ?_ | refine iteB_f (by decide) ?_ | (refine Duo.mk (by first | omega | exact rfl | decide) ?_; intros) | (refine Duo.mk (Clo.mk (by kernel_rfl)) ?_; intros)))
    have S1 : Sat H (tr g 1 sr sr T :: pt tp (treO (T.ref sr) (n + (s.length : Int)) sr) :: pt sr senO :: has g :: tr g 1 sr2 sr2 U :: pt tp2 (treO (U.ref sr2) n2 sr2) :: pt sr2 senO :: pt rc (.cells ⟨[pA tp]⟩ 136) :: l) := by
      refine S.to ?_
      iterate 7 (apply Ent.pick; (focus (repeat (first | exact Sel.here | apply Sel.there))))
      exact Ent.bring (by (repeat (first | exact Sel.here | apply Sel.there)))
    refine call_of (insert_ok (i := it.i) (j := it.j) (v := it.v) (B := it.B) (E := it.E) hO.1 hO.2 h.wt.rb (by omega) S1) ?_
    rintro _ H1 ⟨rfl, nb, S2⟩
    (repeat (first | (refine Step.go ?_; intros) | refine iteB_t (by decide) ?_ | refine iteB_f (by decide) ?_ | (refine Duo.mk (by first | omega | exact rfl | decide) ?_; intros) | (refine Duo.mk (Clo.mk (by kernel_rfl)) ?_; intros)))
    have hT := h.ins (z := ⟨nb, it.i, it.j, it.v, it.B, it.E⟩) (hU it hit)
    refine k H1 ⟨Go.Proofs.Ytobolifgehagfaa.ins 1 ⟨nb, it.i, it.j, it.v, it.B, it.E⟩ T, ?_, S2.to ?_⟩
    · show TrW _ (putsK 1 _ ((s ++ [it]).map keyI))
      rw [List.map_append, List.map_cons, List.map_nil, putsK_snoc]
      exact hT
    · have e : (addF s it).1.length = s.length + 1 := by simp [addF]
      rw [e]
      have e2 : n + (s.length : Int) + 1 = n + ((s.length + 1 : Nat) : Int) := by omega
      rw [e2]
      iterate 7 (apply Ent.pick; (focus (repeat (first | exact Sel.here | apply Sel.there))))
      exact Ent.bring (by (repeat (first | exact Sel.here | apply Sel.there)))
theorem Union_ok {i j : IV} (hi : IsG g 1 i b0E) (hj : IsG g 1 j infE) (hn : 0 ≤ n ∧ n ≤ 1000000) (hT : TrW T K) (hU : TrW U K2) (hK : ∀ z ∈ K2, GoodK z) (hl : K2.length ≤ 1000000)
    (S : Sat H (tr g 1 sr sr T :: pt tp (treO (T.ref sr) n sr) :: pt sr senO :: tr g 1 sr2 sr2 U :: pt tp2 (treO (U.ref sr2) n2 sr2) :: pt sr2 senO :: has g :: l)) :
    CallsH Try.prog 147 ⟨[pA tp, .iface 136 (pA tp2), .agg ⟨[i.v, j.v]⟩]⟩ H (fun e H1 => e = .returned (.tuple ⟨[]⟩) ∧ ∃ T', TrW T' (putsK 1 K K2) ∧ Sat H1 (tr g 1 sr sr T' :: pt tp (treO (T'.ref sr) (n + (K2.length : Int)) sr) :: pt sr senO :: tr g 1 sr2 sr2 U :: pt tp2 (treO (U.ref sr2) n2 sr2) :: pt sr2 senO :: has g :: l)) := by
  refine F147.calls (inIvt := .mk 136 (pA tp2)) (ivl_0 := i) (ivl_1 := j) ?_
  unfold F147.go
  (repeat (first | (refine Step.go ?_; intros) | refine iteB_t (by decide) ?_ | refine iteB_f (by decide) ?_ | (refine Duo.mk (by first | omega | exact rfl | decide) ?_; intros) | (refine Duo.mk (Clo.mk (by kernel_rfl)) ?_; intros)))
  rename_i rc H1 S1 r2 H2 S2
  have hlen := hU.len
  refine callI_i (f := 148) (by kernel_rfl) (by kernel_rfl) (by kernel_rfl) ?_
  have V := uni_vis (g := g) (sr := sr) (tp := tp) (n := n) (K := K) (sr2 := sr2) (tp2 := tp2) (n2 := n2) (U := U) (rc := rc) hn hU.wt.prop
  have J0 : UniJ g sr tp n K sr2 tp2 n2 U rc [] l H2 := by
    refine ⟨T, hT, S2.to ?_⟩
    have e2 : n + ((([] : List It).length : Nat) : Int) = n := by simp
    rw [e2]
    iterate 8 (apply Ent.pick; (focus (repeat (first | exact Sel.here | apply Sel.there))))
    exact Ent.drop .refl
  refine Visit_ok (s := []) (J := UniJ g sr tp n K sr2 tp2 n2 U rc) (T := U) (n := n2) (tp := tp2) (sr := sr2) (g := g) (w := List.length) (W := 1000000) V hi hj (fun s l' H' h' => ?_) ?_ J0 fun H3 J3 => ?_
  · obtain ⟨T', _, S'⟩ := h'
    exact ⟨trH_of (S'.bring (c := tr g 1 sr2 sr2 U) (by (repeat (first | exact Sel.here | apply Sel.there)))), ⟨S'.at_ (by simp)⟩, ⟨S'.at_ (by simp)⟩, (HasG.sub (g := g) (l := _) inferInstance S')⟩
  · rw [vis_all hU hK, hlen]; simp; omega
  · rw [vis_all hU hK, foldV_add] at J3
    obtain ⟨T', h', S3⟩ := J3
    (repeat (first | (refine Step.go ?_; intros) | refine iteB_t (by decide) ?_ | refine iteB_f (by decide) ?_ | (refine Duo.mk (by first | omega | exact rfl | decide) ?_; intros) | (refine Duo.mk (Clo.mk (by kernel_rfl)) ?_; intros)))
    refine ⟨rfl, T', ?_, S3.to ?_⟩
    · have := h'
      simp only [List.nil_append, hU.key] at this
      exact this
    · simp only [List.nil_append]
      rw [hlen]
      iterate 6 (apply Ent.pick; (focus (repeat (first | exact Sel.here | apply Sel.there))))
      exact Ent.drop .refl
end
end Go.Proofs.Ytobolifgehagfaa

set_option linter.unusedVariables false
set_option linter.unusedSimpArgs false
set_option linter.unnecessarySimpa false
namespace Go.Proofs.Ytobolifgehagfaa
open Go Go.Den Go.Proofs
/-! The reference's pieces inside what is touched. -/
abbrev toO (q : Option Addr) (m d : Nat) (o : Int) (p : Option Addr) (n c : Nat) : Obj := .cells ⟨[.slice q m d, .int .i64 o, .slice p n c]⟩ 65
section
variable {H H0 : Heap} {l : List HP} {o : Int} {q0 : Option Addr} {m0 d0 : Nat}
theorem put_loopT {z : SP × Int} {L : List (SP × Int)} {pr sb : Nat} {p : Option Addr} {n c : Nat} {R : Ending → Heap → Prop} (hL : ∀ x ∈ L, SzX x) (hz : SzX z) (hn : n ≤ 100000)
    (next : ∀ (i : Nat) H1, i ≤ n → putP o z L = L.take i ++ z :: L.drop i → Sat H1 (pt sb (.cells ⟨z.1.cells⟩ 35) :: pt pr (toO q0 m0 d0 o p n c) :: sl pcC 71 6 p n c (L.map plainX) :: l) → F38.L1 (some ⟨pr, 1, none⟩) z.2 sb (i : Nat) H1 R) :
    ∀ (k i : Nat) (H : Heap), i + k = n → (∀ j x, L[j]? = some x → j < i → aheadS o z.1 x.1 = false) → Sat H (pt sb (.cells ⟨z.1.cells⟩ 35) :: pt pr (toO q0 m0 d0 o p n c) :: sl pcC 71 6 p n c (L.map plainX) :: l) →
      F38.L0 (some ⟨pr, 1, none⟩) z.2 sb (i : Nat) H R := by
  intro k
  induction k with
  | zero =>
    intro i H hk hi S
    have hlen := (Sat.slLen S (.tail _ (.tail _ (.head _)))).1
    rw [List.length_map] at hlen
    refine F38.L0_step ?_
    unfold F38.L0n
    (iterate 2 (refine Step.go ?_; intros))
    refine iteB_f (by simp; omega) ?_
    exact next i H (by omega) (putP_at (by omega) hi (fun x hx => by rw [List.getElem?_eq_none (by omega)] at hx; cases hx)) S
  | succ k ih =>
    intro i H hk hi S
    have hlen := (Sat.slLen S (.tail _ (.tail _ (.head _)))).1
    rw [List.length_map] at hlen
    obtain ⟨x, hx⟩ : ∃ x, L[i]? = some x := get_of (by omega)
    have hI : HasI (L.map plainX) ((i : Nat) : Int) (plainX x) := HasI.nat (by rw [List.getElem?_map, hx]; rfl)
    refine F38.L0_step ?_
    unfold F38.L0n
    (iterate 2 (refine Step.go ?_; intros))
    refine iteB_t (by simp; omega) ?_
    (repeat (first | (refine Step.go ?_; intros) | refine iteB_t (by decide) ?_ | refine iteB_f (by decide) ?_ | (refine Duo.mk (by first | omega | exact rfl | decide) ?_; intros) | (refine Duo.mk (Clo.mk (by kernel_rfl)) ?_; intros)))
    refine Sat.idx (f := pcC) (E := 71) (z := 6) S ⟨by omega, by omega, fun r0 o0 hr => ?_⟩
    subst hr
    (repeat (first | (refine Step.go ?_; intros) | refine iteB_t (by decide) ?_ | refine iteB_f (by decide) ?_ | (refine Duo.mk (by first | omega | exact rfl | decide) ?_; intros) | (refine Duo.mk (Clo.mk (by kernel_rfl)) ?_; intros)))
    refine gives_i S (ahead_ok (o := o) (s := z.1) (t := (plainX x).1) hz (hL x (List.mem_of_getElem? hx))) ?_
    intro H1 E1 S1
    (repeat (first | (refine Step.go ?_; intros) | refine iteB_t (by decide) ?_ | refine iteB_f (by decide) ?_ | (refine Duo.mk (by first | omega | exact rfl | decide) ?_; intros) | (refine Duo.mk (Clo.mk (by kernel_rfl)) ?_; intros)))
    rw [ahead_plain]
    refine iteB_i (fun h => ?_) (fun h => ?_)
    · refine F38.L2_step ?_
      unfold F38.L2n
      rw [wr (by omega) (by omega)]
      have ei : ((i : Nat) : Int) + 1 = ((i + 1 : Nat) : Int) := by omega
      rw [ei]
      refine ih (i + 1) H1 (by omega) (fun j y hj hlt => ?_) S1
      by_cases hji : j = i
      · subst hji; rw [hx] at hj; cases hj; simpa using h
      · exact hi j y hj (by omega)
    · exact next i H1 (by omega) (putP_at (by omega) hi (fun y hy => by rw [hx] at hy; cases hy; simpa using h)) S1
theorem put_okT {z : SP × Int} {L : List (SP × Int)} {pr : Nat} {p : Option Addr} {n c : Nat} (hL : ∀ x ∈ L, SzX x) (hz : SzX z) (hn : n ≤ 100000) (S : Sat H (pt pr (toO q0 m0 d0 o p n c) :: sl pcC 71 6 p n c (L.map plainX) :: l)) :
    CallsH Try.prog 38 ⟨[.pointer (some ⟨pr, 1, none⟩), .agg ⟨z.1.cells⟩, .int .i64 z.2]⟩ H (fun e H1 => e = .returned (.tuple ⟨[]⟩) ∧ ∃ p' c', Sat H1 (pt pr (toO q0 m0 d0 o p' (n + 1) c') :: sl pcC 71 6 p' (n + 1) c' ((putP o z L).map plainX) :: l)) := by
  have hlen := (Sat.slLen S (.tail _ (.head _))).1
  rw [List.length_map] at hlen
  have hnc := (Sat.slLen S (.tail _ (.head _))).2
  refine F38.calls ?_
  unfold F38.go
  (repeat (first | (refine Step.go ?_; intros) | refine iteB_t (by decide) ?_ | refine iteB_f (by decide) ?_ | (refine Duo.mk (by first | omega | exact rfl | decide) ?_; intros) | (refine Duo.mk (Clo.mk (by kernel_rfl)) ?_; intros)))
  rename_i sb H1 S1
  refine put_loopT (o := o) (q0 := q0) (m0 := m0) (d0 := d0) (z := z) (L := L) (l := l) (p := p) (c := c) (pr := pr) hL hz hn ?_ n 0 H1 (by omega) (fun j x _ h => by omega) (S1.to Fits.out)
  clear S S1
  intro i H2 hi hp S2
  refine F38.L1_step ?_
  unfold F38.L1n
  (repeat (first | (refine Step.go ?_; intros) | refine iteB_t (by decide) ?_ | refine iteB_f (by decide) ?_ | (refine Duo.mk (by first | omega | exact rfl | decide) ?_; intros) | (refine Duo.mk (Clo.mk (by kernel_rfl)) ?_; intros)))
  rename_i r H3 S3
  rw [Int.toNat_natCast, slP_zero]
  have T3 : Sat H3 (sl pcC 71 6 (some ⟨r, 0, none⟩) 0 0 [] :: pt sb (.cells ⟨z.1.cells⟩ 35) :: pt pr (toO q0 m0 d0 o p n c) :: sl pcC 71 6 p n c (L.map plainX) :: l) := S3.to (Ent.slClose (f := pcC) (pre := []) (xs := []) (sp := []) rfl (by simp) (Nat.le_refl _) rfl (by simp))
  refine T3.slApp (ys := (L.map plainX).take i) (d := i) (cells_take ?_) (by simp; omega) (fun _ _ => rfl) ?_ rfl (by decide) (by omega) ?_
  · have := slCells_of (i := 0) T3 (.tail _ (.tail _ (.tail _ (.head _)))) (by omega)
    rw [slP_zero, List.drop_zero] at this
    exact this
  · intro v hv
    obtain ⟨y, _, hv⟩ := List.mem_flatMap.1 hv
    exact pc_isC y v hv
  intro p1 c1 H4 S4
  rw [Nat.zero_add, List.nil_append] at S4
  have fin : ∀ p' c' H, Sat H (sl pcC 71 6 p' (0 + i + 1 + (n - i)) c' ((L.map plainX).take i ++ [plainX z] ++ (L.map plainX).drop i) :: pt sb (.cells ⟨z.1.cells⟩ 35) :: pt pr (toO q0 m0 d0 o p n c) :: sl pcC 71 6 p n c (L.map plainX) :: l) →
      st1 H (Addr.add ⟨pr, 1, none⟩ 1) (.slice p' (0 + i + 1 + (n - i)) c') fun H7 => (fun e H1 => e = Ending.returned (.tuple ⟨[]⟩) ∧ ∃ p' c', Sat H1 (pt pr (toO q0 m0 d0 o p' (n + 1) c') :: sl pcC 71 6 p' (n + 1) c' ((putP o z L).map plainX) :: l)) (.returned (.tuple ⟨[]⟩)) H7 := by
    intro p' c' H S
    have e1 : 0 + i + 1 + (n - i) = n + 1 := by omega
    have e2 : (L.map plainX).take i ++ [plainX z] ++ (L.map plainX).drop i = (putP o z L).map plainX := by
      rw [hp, List.map_append, List.map_cons, List.map_take, List.map_drop]; simp
    rw [e1, e2] at S
    rw [e1]
    (repeat (first | (refine Step.go ?_; intros) | refine iteB_t (by decide) ?_ | refine iteB_f (by decide) ?_ | (refine Duo.mk (by first | omega | exact rfl | decide) ?_; intros) | (refine Duo.mk (Clo.mk (by kernel_rfl)) ?_; intros)))
    rename_i H9 S9
    exact ⟨rfl, p', c', S9.to Fits.out⟩
  have S4 : Sat H4 (sl pcC 71 6 p1 (0 + i) c1 ((L.map plainX).take i) :: pt sb (.cells ⟨z.1.cells⟩ 35) :: pt pr (toO q0 m0 d0 o p n c) :: sl pcC 71 6 p n c (L.map plainX) :: l) := by rw [Nat.zero_add]; exact S4
  refine ⟨?_, ?_, ?_⟩
  · (repeat (first | (refine Step.go ?_; intros) | refine iteB_t (by decide) ?_ | refine iteB_f (by decide) ?_ | (refine Duo.mk (by first | omega | exact rfl | decide) ?_; intros) | (refine Duo.mk (Clo.mk (by kernel_rfl)) ?_; intros)))
    refine gives_i S4 (plain_ok hz) ?_
    intro H5 E5 S5
    (repeat (first | (refine Step.go ?_; intros) | refine iteB_t (by decide) ?_ | refine iteB_f (by decide) ?_ | (refine Duo.mk (by first | omega | exact rfl | decide) ?_; intros) | (refine Duo.mk (Clo.mk (by kernel_rfl)) ?_; intros)))
    rename_i r1 H6 S6
    refine app1 (z := plainX z) (by omega) S6 fun p2 c2 H7 S7 => ?_
    rw [Int.toNat_natCast]
    refine app2 (by omega) (by omega) hi S7 (by (repeat (first | exact Sel.here | apply Sel.there))) fun p3 c3 H8 S8 => ?_
    (iterate 1 (refine Step.go ?_; intros))
    exact fin p3 c3 H8 S8
  · (repeat (first | (refine Step.go ?_; intros) | refine iteB_t (by decide) ?_ | refine iteB_f (by decide) ?_ | (refine Duo.mk (by first | omega | exact rfl | decide) ?_; intros) | (refine Duo.mk (Clo.mk (by kernel_rfl)) ?_; intros)))
    refine gives_i S4 (plain_ok hz) ?_
    intro H5 E5 S5
    (repeat (first | (refine Step.go ?_; intros) | refine iteB_t (by decide) ?_ | refine iteB_f (by decide) ?_ | (refine Duo.mk (by first | omega | exact rfl | decide) ?_; intros) | (refine Duo.mk (Clo.mk (by kernel_rfl)) ?_; intros)))
    (repeat (first | (refine Step.go ?_; intros) | refine iteB_t (by decide) ?_ | refine iteB_f (by decide) ?_ | (refine Duo.mk (by first | omega | exact rfl | decide) ?_; intros) | (refine Duo.mk (Clo.mk (by kernel_rfl)) ?_; intros)))
    rename_i r1 H6 S6
    refine app1 (z := plainX z) (by omega) S6 fun p2 c2 H7 S7 => ?_
    rw [Int.toNat_natCast]
    refine app2 (by omega) (by omega) hi S7 (by (repeat (first | exact Sel.here | apply Sel.there))) fun p3 c3 H8 S8 => ?_
    (iterate 1 (refine Step.go ?_; intros))
    exact fin p3 c3 H8 S8
  · (repeat (first | (refine Step.go ?_; intros) | refine iteB_t (by decide) ?_ | refine iteB_f (by decide) ?_ | (refine Duo.mk (by first | omega | exact rfl | decide) ?_; intros) | (refine Duo.mk (Clo.mk (by kernel_rfl)) ?_; intros)))
    refine gives_i S4 (plain_ok hz) ?_
    intro H5 E5 S5
    (repeat (first | (refine Step.go ?_; intros) | refine iteB_t (by decide) ?_ | refine iteB_f (by decide) ?_ | (refine Duo.mk (by first | omega | exact rfl | decide) ?_; intros) | (refine Duo.mk (Clo.mk (by kernel_rfl)) ?_; intros)))
    rename_i r1 H6 S6
    refine app1 (z := plainX z) (by omega) S6 fun p2 c2 H7 S7 => ?_
    (repeat (first | (refine Step.go ?_; intros) | refine iteB_t (by decide) ?_ | refine iteB_f (by decide) ?_ | (refine Duo.mk (by first | omega | exact rfl | decide) ?_; intros) | (refine Duo.mk (Clo.mk (by kernel_rfl)) ?_; intros)))
    rw [Int.toNat_natCast]
    refine app2 (by omega) (by omega) hi S7 (by (repeat (first | exact Sel.here | apply Sel.there))) fun p3 c3 H8 S8 => ?_
    (iterate 1 (refine Step.go ?_; intros))
    exact fin p3 c3 H8 S8
section
variable {pr : Nat} {p : Option Addr} {n c : Nat} {L : List (SP × Int)} (hB : H0[pr]? = some (toO q0 m0 d0 o p n c)) (hR : RowsAt pcC 6 H0 p (L.map plainX)) (hn : L.length = n) (hb : n ≤ 100000)
include hB hR hn hb
theorem meeting_loopT {s : SP} (hz : s.b.size ≤ 140737488351232) (hL : ∀ x ∈ L, SzX x) {sb : Nat} : ∀ (k i m : Nat) (q : Option Addr) (d : Nat) (H : Heap) (l : List HP), i + k = n → m = ((L.take i).filter (meetX o s)).length →
    Sat H (pt sb (.cells ⟨s.cells⟩ 35) :: sl pcC 71 6 q m d (((L.take i).filter (meetX o s)).map plainX) :: old H0 :: l) →
    F64.L0 (some ⟨pr, 1, none⟩) sb q m d p n c (n : Nat) (i : Nat) H (fun e H1 => ∃ q d, e = .returned (.slice q (L.filter (meetX o s)).length d) ∧ Sat H1 [sl pcC 71 6 q (L.filter (meetX o s)).length d ((L.filter (meetX o s)).map plainX), old H0]) := by
  intro k
  induction k with
  | zero =>
    intro i m q d H l hk hm S
    refine F64.L0_step ?_
    unfold F64.L0n
    refine iteB_f (by simp; omega) ?_
    rw [List.take_of_length_le (by omega)] at hm S
    subst hm
    exact ⟨q, d, rfl, S.to Fits.out⟩
  | succ k ih =>
    intro i m q d H l hk hm S
    have A := atOld hB
    have R0 : RowsC H0 p pcC 6 (L.map plainX) := ⟨hR⟩
    obtain ⟨x, hx⟩ : ∃ x, L[i]? = some x := get_of (by omega)
    have hI : HasI (L.map plainX) ((i : Nat) : Int) (plainX x) := HasI.nat (by rw [List.getElem?_map, hx]; rfl)
    have et : L.take (i + 1) = L.take i ++ [x] := by
      rw [List.take_add_one, hx]; rfl
    have hml : m ≤ n := by
      have h1 := List.length_filter_le (meetX o s) (L.take i)
      have h2 := List.length_take_le i L
      omega
    have next : ∀ m' q' d' H1 l', m' = ((L.take (i + 1)).filter (meetX o s)).length → Sat H1 (pt sb (.cells ⟨s.cells⟩ 35) :: sl pcC 71 6 q' m' d' (((L.take (i + 1)).filter (meetX o s)).map plainX) :: old H0 :: l') →
        F64.L1 (some ⟨pr, 1, none⟩) sb q' m' d' p n c (n : Nat) (i : Nat) H1 (fun e H1 => ∃ q d, e = .returned (.slice q (L.filter (meetX o s)).length d) ∧ Sat H1 [sl pcC 71 6 q (L.filter (meetX o s)).length d ((L.filter (meetX o s)).map plainX), old H0]) := by
      intro m' q' d' H1 l' hm' S1
      refine F64.L1_step ?_
      unfold F64.L1n
      rw [wr (by omega) (by omega), show ((i : Nat) : Int) + 1 = ((i + 1 : Nat) : Int) by omega]
      exact ih (i + 1) m' q' d' H1 l' (by omega) hm' S1
    refine F64.L0_step ?_
    unfold F64.L0n
    refine iteB_t (by simp; omega) ?_
    refine R0.idx (by simp [hn]) ⟨by omega, by omega, ?_⟩
    intro a ha
    subst ha
    (repeat (first | (refine Step.go ?_; intros) | refine iteB_t (by decide) ?_ | refine iteB_f (by decide) ?_ | (refine Duo.mk (by first | omega | exact rfl | decide) ?_; intros) | (refine Duo.mk (Clo.mk (by kernel_rfl)) ?_; intros)))
    rename_i rb _ _ _ _ _ _ _ _ _ _ _ _ H1 S1
    refine gives_i S1 (meet_ok (s := (plainX x).1) (t := s) (hL x (List.mem_of_getElem? hx)) hz) ?_
    intro H2 E2 S2
    (repeat (first | (refine Step.go ?_; intros) | refine iteB_t (by decide) ?_ | refine iteB_f (by decide) ?_ | (refine Duo.mk (by first | omega | exact rfl | decide) ?_; intros) | (refine Duo.mk (Clo.mk (by kernel_rfl)) ?_; intros)))
    refine iteB_i (fun h => ?_) (fun h => ?_)
    · have h : meetX o s x = true := h
      have ef : (L.take (i + 1)).filter (meetX o s) = (L.take i).filter (meetX o s) ++ [x] := by
        rw [et, List.filter_append, List.filter_cons, if_pos h]; rfl
      (repeat (first | (refine Step.go ?_; intros) | refine iteB_t (by decide) ?_ | refine iteB_f (by decide) ?_ | (refine Duo.mk (by first | omega | exact rfl | decide) ?_; intros) | (refine Duo.mk (Clo.mk (by kernel_rfl)) ?_; intros)))
      rename_i r1 H3 S3
      refine app1 (z := plainX x) (k := m) (A := ((L.take i).filter (meetX o s)).map plainX) (m := pt rb (.cells ⟨pcC (plainX x)⟩ 71) :: pt sb (.cells ⟨s.cells⟩ 35) :: old H0 :: l) (by omega) (S3.to Fits.out) fun q' d' H4 S4 => ?_
      refine next (m + 1) q' d' H4 [] (by rw [ef, List.length_append, hm]; rfl) ?_
      rw [ef, List.map_append]
      refine S4.to ?_
      iterate 3 (apply Ent.pick; (focus (repeat (first | exact Sel.here | apply Sel.there))))
      exact Ent.nil
    · have h : meetX o s x = false := h
      have ef : (L.take (i + 1)).filter (meetX o s) = (L.take i).filter (meetX o s) := by
        rw [et, List.filter_append, List.filter_cons, if_neg (by rw [h]; simp)]; simp
      exact next m q d H2 [] (by rw [ef]; exact hm) (by rw [ef]; exact S2.to Fits.out)
theorem meeting_okT {s : SP} (hz : s.b.size ≤ 140737488351232) (hL : ∀ x ∈ L, SzX x) : CallsH Try.prog 64 ⟨[.pointer (some ⟨pr, 1, none⟩), .agg ⟨s.cells⟩]⟩ H0 (fun e H1 => ∃ q d, e = .returned (.slice q (L.filter (meetX o s)).length d) ∧ Sat H1 [sl pcC 71 6 q (L.filter (meetX o s)).length d ((L.filter (meetX o s)).map plainX), old H0]) := by
  have S := Sat.start H0
  have A := atOld hB
  refine F64.calls ?_
  unfold F64.go
  (repeat (first | (refine Step.go ?_; intros) | refine iteB_t (by decide) ?_ | refine iteB_f (by decide) ?_ | (refine Duo.mk (by first | omega | exact rfl | decide) ?_; intros) | (refine Duo.mk (Clo.mk (by kernel_rfl)) ?_; intros)))
  rename_i sb H1 S1
  refine meeting_loopT hB hR hn hb hz hL n 0 0 none 0 H1 [] (by omega) rfl ?_
  refine S1.to ?_
  apply Ent.pick
  · (repeat (first | exact Sel.here | apply Sel.there))
  exact Ent.slNil .refl
end
end
/-! Texts. -/
def hasT (s : SE) (xs : List SE) : Bool := xs.any fun x => decide (x = s)
theorem hasT_iff {s : SE} {xs : List SE} : hasT s xs = true ↔ s ∈ xs := by
  unfold hasT
  rw [List.any_eq_true]
  constructor
  · rintro ⟨x, h1, h2⟩; rw [← of_decide_eq_true h2]; exact h1
  · intro h; exact ⟨s, h, decide_eq_true rfl⟩
section
variable {H : Heap}
theorem hasText_ok {xs : List SE} {s : SE} {p : Option Addr} {n c : Nat} (hR : RowsAt seC 1 H p xs) (hn : xs.length = n) (hb : n ≤ 1000000) : CallsH Try.prog 54 ⟨[.slice p n c, .string s]⟩ H (Gives (.bool (hasT s xs)) H) := by
  have S := Sat.start H
  have R : RowsC H p seC 1 xs := ⟨hR⟩
  have loop : ∀ (k i : Nat), i + k = n → (s ∈ xs ↔ s ∈ xs.drop i) → F54.L0 p n c s (i : Nat) H (Gives (.bool (hasT s xs)) H) := by
    intro k
    induction k with
    | zero =>
      intro i hk hi
      refine F54.L0_step ?_
      unfold F54.L0n
      refine iteB_f (by simp; omega) ?_
      rw [List.drop_eq_nil_of_le (by omega)] at hi
      have : hasT s xs = false := by
        cases h : hasT s xs with
        | false => rfl
        | true => cases hi.1 (hasT_iff.1 h)
      rw [this]
      exact ⟨rfl, ExtH.refl _⟩
    | succ k ih =>
      intro i hk hi
      obtain ⟨x, hx⟩ : ∃ x, xs[i]? = some x := get_of (by omega)
      have hI := HasI.nat hx
      refine F54.L0_step ?_
      unfold F54.L0n
      refine iteB_t (by simp; omega) ?_
      refine RowsC.idx R hn ⟨by omega, by omega, fun a ha => ?_⟩
      have R' : RowsC H (some a) seC 1 xs := ⟨by rw [← ha]; exact hR⟩
      (repeat (first | (refine Step.go ?_; intros) | refine iteB_t (by decide) ?_ | refine iteB_f (by decide) ?_ | (refine Duo.mk (by first | omega | exact rfl | decide) ?_; intros) | (refine Duo.mk (Clo.mk (by kernel_rfl)) ?_; intros)))
      rw [eqS_eq]
      refine iteB_i (fun h => ?_) (fun h => ?_)
      · have h := of_decide_eq_true h
        subst h
        rw [hasT_iff.2 (List.mem_of_getElem? hx)]
        exact ⟨rfl, ExtH.refl _⟩
      · have h := of_decide_eq_false h
        rw [wr64 (by omega) (by omega)]
        refine ih (i + 1) (by omega) (hi.trans ?_)
        have : xs.drop i = x :: xs.drop (i + 1) := by
          rw [List.drop_eq_getElem_cons (by omega)]
          congr 1
          have := List.getElem?_eq_getElem (l := xs) (i := i) (by omega)
          rw [hx] at this; exact (Option.some.inj this).symm
        rw [this, List.mem_cons]
        exact ⟨fun h2 => h2.resolve_left fun e => h e.symm, .inr⟩
  refine F54.calls ?_
  unfold F54.go
  exact loop n 0 (by omega) (by simp)
/-- A text put into a list of rising ones. -/
def neT (s : SE) (x : SE) : Bool := !decide (x = s)
def leT (s x : SE) : Bool := seLt s x || decide (s = x)
def putX (s : SE) : List SE → List SE
  | [] => [s]
  | x :: l => if leT s x = true then s :: (x :: l).filter (neT s) else x :: putX s l
theorem putX_mem {s y : SE} : ∀ {l : List SE}, y ∈ putX s l ↔ y = s ∨ y ∈ l
  | [] => by simp [putX]
  | x :: l => by
    rw [putX]
    split
    · rw [List.mem_cons, List.mem_filter]
      constructor
      · rintro (h | h)
        · exact .inl h
        · exact .inr h.1
      · rintro (h | h)
        · exact .inl h
        · by_cases hy : y = s
          · exact .inl hy
          · exact .inr ⟨h, by unfold neT; rw [decide_eq_false hy]; rfl⟩
    · rw [List.mem_cons, putX_mem (l := l), List.mem_cons]
      constructor
      · rintro (h | h | h)
        · exact .inr (.inl h)
        · exact .inl h
        · exact .inr (.inr h)
      · rintro (h | h | h)
        · exact .inr (.inl h)
        · exact .inl h
        · exact .inr (.inr h)
abbrev Ris (l : List SE) : Prop := l.Pairwise fun x y => seLt x y = true
theorem leT_f {s x : SE} (h : leT s x = false) : seLt x s = true := by
  unfold leT at h
  simp only [Bool.or_eq_false_iff] at h
  rcases seTot s x h.1 with h1 | h1
  · exact absurd h1 (of_decide_eq_false h.2)
  · exact h1
theorem putX_ris {s : SE} : ∀ {l : List SE}, Ris l → Ris (putX s l)
  | [], _ => by simp [putX, Ris]
  | x :: l, h => by
    have h0 := h
    unfold Ris at h
    rw [List.pairwise_cons] at h
    rw [putX]
    split
    · rename_i hle
      unfold Ris
      rw [List.pairwise_cons]
      refine ⟨fun y hy => ?_, List.Pairwise.filter _ h0⟩
      obtain ⟨h1, h2⟩ := List.mem_filter.1 hy
      have h2 : ¬ y = s := by
        intro e
        unfold neT at h2
        rw [decide_eq_true e] at h2
        cases h2
      unfold leT at hle
      rw [Bool.or_eq_true] at hle
      rcases List.mem_cons.1 h1 with rfl | h1
      · rcases hle with hle | hle
        · exact hle
        · exact absurd (of_decide_eq_true hle).symm h2
      · rcases hle with hle | hle
        · exact seLin.tr _ _ _ hle (h.1 y h1)
        · have e := of_decide_eq_true hle
          subst e
          first | exact h.1 y h1 | exact h.1 y ((List.mem_cons.1 h1).resolve_left h2)
    · rename_i hle
      unfold Ris
      rw [List.pairwise_cons]
      refine ⟨fun y hy => ?_, putX_ris h.2⟩
      rcases putX_mem.1 hy with rfl | hy
      · exact leT_f (by simpa using hle)
      · exact h.1 y hy
theorem putX_len {s : SE} : ∀ l : List SE, (putX s l).length ≤ l.length + 1
  | [] => by simp [putX]
  | x :: l => by
    rw [putX]
    split
    · rw [List.length_cons]
      have := List.length_filter_le (neT s) (x :: l)
      omega
    · rw [List.length_cons, List.length_cons]
      have := putX_len (s := s) l
      omega
theorem putText_ok {xs : List SE} {s : SE} {p : Option Addr} {n c : Nat} (hR : RowsAt seC 1 H p xs) (hn : xs.length = n) (hb : n ≤ 100000) : CallsH Try.prog 56 ⟨[.slice p n c, .string s]⟩ H (fun e H1 => ∃ y : Option Addr × Nat, e = .returned (.slice y.1 (putX s xs).length y.2) ∧ Sat H1 ([sl seC 9 1 y.1 (putX s xs).length y.2 (putX s xs)] ++ [old H])) := by
  have R : RowsC H p seC 1 xs := ⟨hR⟩
  have hpl := putX_len (s := s) xs
  have loop : ∀ (k i : Nat) (put : Bool) (L : List SE) (q : Option Addr) (d : Nat) (H1 : Heap), i + k = n → (if put = true then L ++ (xs.drop i).filter (neT s) else L ++ putX s (xs.drop i)) = putX s xs → Sat H1 [sl seC 9 1 q L.length d L, old H] →
      F56.L0 p n c s q L.length d put (i : Nat) H1 (fun e H1 => ∃ y : Option Addr × Nat, e = .returned (.slice y.1 (putX s xs).length y.2) ∧ Sat H1 ([sl seC 9 1 y.1 (putX s xs).length y.2 (putX s xs)] ++ [old H])) := by
    intro k
    induction k with
    | zero =>
      intro i put L q d H1 hk hL S
      have hLl : L.length ≤ (putX s xs).length := by
        rw [← hL]; split <;> simp
      refine F56.L0_step ?_
      unfold F56.L0n
      refine iteB_f (by simp; omega) ?_
      rw [List.drop_eq_nil_of_le (by omega)] at hL
      cases put with
      | false =>
        rw [if_neg (by simp)] at hL
        refine iteB_t rfl ?_
        (repeat (first | (refine Step.go ?_; intros) | refine iteB_t (by decide) ?_ | refine iteB_f (by decide) ?_ | (refine Duo.mk (by first | omega | exact rfl | decide) ?_; intros) | (refine Duo.mk (Clo.mk (by kernel_rfl)) ?_; intros)))
        rename_i r H2 S2
        refine appStr (y := s) S2 (by (repeat (first | exact Sel.here | apply Sel.there))) (S2.at_ (List.mem_cons_self ..)) (by omega) fun q2 d2 H3 S3 => ?_
        have e : L ++ [s] = putX s xs := hL
        rw [e] at S3 ⊢
        exact ⟨(q2, d2), rfl, S3.to (Fits.out (m := [_, old H]))⟩
      | true =>
        rw [if_pos rfl] at hL
        refine iteB_f rfl ?_
        have e : L = putX s xs := by simpa using hL
        subst e
        exact ⟨(q, d), rfl, S⟩
    | succ k ih =>
      intro i put L q d H1 hk hL S
      have hLl : L.length ≤ (putX s xs).length := by
        rw [← hL]; split <;> simp
      obtain ⟨x, hx⟩ : ∃ x, xs[i]? = some x := get_of (by omega)
      have hI := HasI.nat hx
      have hdrop : xs.drop i = x :: xs.drop (i + 1) := by
        rw [List.drop_eq_getElem_cons (by omega)]
        congr 1
        have := List.getElem?_eq_getElem (l := xs) (i := i) (by omega)
        rw [hx] at this; exact (Option.some.inj this).symm
      have l3 : ∀ (put : Bool) (L : List SE) (q : Option Addr) (d : Nat) (H1 : Heap), (if put = true then L ++ (xs.drop (i + 1)).filter (neT s) else L ++ putX s (xs.drop (i + 1))) = putX s xs → Sat H1 [sl seC 9 1 q L.length d L, old H] →
          F56.L3 p n c s q L.length d put (i : Nat) H1 (fun e H1 => ∃ y : Option Addr × Nat, e = .returned (.slice y.1 (putX s xs).length y.2) ∧ Sat H1 ([sl seC 9 1 y.1 (putX s xs).length y.2 (putX s xs)] ++ [old H])) := by
        intro put L q d H1 hL S
        refine F56.L3_step ?_
        unfold F56.L3n
        rw [wr64 (by omega) (by omega)]
        exact ih (i + 1) put L q d H1 (by omega) hL S
      -- the element itself
      have l2 : ∀ (put : Bool) (L : List SE) (q : Option Addr) (d : Nat) (H1 : Heap), (if put = true then L ++ (x :: xs.drop (i + 1)).filter (neT s) else L ++ (if neT s x = true then [x] else []) ++ putX s (xs.drop (i + 1))) = putX s xs → Sat H1 [sl seC 9 1 q L.length d L, old H] →
          F56.L2 p n c s q L.length d put (i : Nat) H1 (fun e H1 => ∃ y : Option Addr × Nat, e = .returned (.slice y.1 (putX s xs).length y.2) ∧ Sat H1 ([sl seC 9 1 y.1 (putX s xs).length y.2 (putX s xs)] ++ [old H])) := by
        intro put L q d H1 hL S
        have hLl : L.length ≤ (putX s xs).length := by
          rw [← hL]
          split
          · simp
          · simp <;> omega
        refine F56.L2_step ?_
        unfold F56.L2n
        refine RowsC.idx R hn ⟨by omega, by omega, fun a ha => ?_⟩
        have R' : RowsC H (some a) seC 1 xs := ⟨by rw [← ha]; exact hR⟩
        (repeat (first | (refine Step.go ?_; intros) | refine iteB_t (by decide) ?_ | refine iteB_f (by decide) ?_ | (refine Duo.mk (by first | omega | exact rfl | decide) ?_; intros) | (refine Duo.mk (Clo.mk (by kernel_rfl)) ?_; intros)))
        rw [eqS_eq]
        refine iteB_i (fun h => ?_) (fun h => ?_)
        · have hne : neT s x = true := h
          refine RowsC.idx R hn ⟨by omega, by omega, fun a' ha' => ?_⟩
          have R'' : RowsC H (some a') seC 1 xs := ⟨by rw [← ha']; exact hR⟩
          (repeat (first | (refine Step.go ?_; intros) | refine iteB_t (by decide) ?_ | refine iteB_f (by decide) ?_ | (refine Duo.mk (by first | omega | exact rfl | decide) ?_; intros) | (refine Duo.mk (Clo.mk (by kernel_rfl)) ?_; intros)))
          rename_i r H2 S2
          refine appStr (y := x) S2 (by (repeat (first | exact Sel.here | apply Sel.there))) (S2.at_ (List.mem_cons_self ..)) (by omega) fun q2 d2 H3 S3 => ?_
          refine l3 put (L ++ [x]) q2 d2 H3 ?_ (S3.to Fits.out)
          rw [← hL]
          cases put <;> simp [List.filter_cons, hne]
        · have hne : neT s x = false := h
          refine l3 put L q d H1 ?_ S
          rw [← hL]
          cases put <;> simp [List.filter_cons, hne]
      rw [hdrop] at hL
      refine F56.L0_step ?_
      unfold F56.L0n
      refine iteB_t (by simp; omega) ?_
      cases put with
      | true =>
        rw [if_pos rfl] at hL
        refine iteB_f rfl ?_
        exact l2 true L q d H1 (by rw [if_pos rfl]; exact hL) S
      | false =>
        rw [if_neg (by simp)] at hL
        refine iteB_t rfl ?_
        refine RowsC.idx R hn ⟨by omega, by omega, fun a ha => ?_⟩
        have R' : RowsC H (some a) seC 1 xs := ⟨by rw [← ha]; exact hR⟩
        (repeat (first | (refine Step.go ?_; intros) | refine iteB_t (by decide) ?_ | refine iteB_f (by decide) ?_ | (refine Duo.mk (by first | omega | exact rfl | decide) ?_; intros) | (refine Duo.mk (Clo.mk (by kernel_rfl)) ?_; intros)))
        rw [eqS_eq]
        rw [putX] at hL
        refine iteB_i (fun h => ?_) (fun h => ?_)
        · have hle : leT s x = true := h
          rw [if_pos hle] at hL
          refine F56.L1_step ?_
          unfold F56.L1n
          (repeat (first | (refine Step.go ?_; intros) | refine iteB_t (by decide) ?_ | refine iteB_f (by decide) ?_ | (refine Duo.mk (by first | omega | exact rfl | decide) ?_; intros) | (refine Duo.mk (Clo.mk (by kernel_rfl)) ?_; intros)))
          rename_i r H2 S2
          refine appStr (y := s) S2 (by (repeat (first | exact Sel.here | apply Sel.there))) (S2.at_ (List.mem_cons_self ..)) (by omega) fun q2 d2 H3 S3 => ?_
          refine l2 true (L ++ [s]) q2 d2 H3 ?_ (S3.to Fits.out)
          rw [if_pos rfl, ← hL]
          simp
        · have hle : leT s x = false := h
          rw [if_neg (by rw [hle]; simp)] at hL
          have hne : neT s x = true := by
            unfold neT
            have h1 := leT_f hle
            have : ¬ x = s := by
              intro e
              subst e
              rw [seIrr] at h1
              cases h1
            rw [decide_eq_false this]; rfl
          refine l2 false L q d H1 ?_ S
          rw [if_neg (by simp), if_pos hne, ← hL]
          simp
  refine F56.calls ?_
  unfold F56.go
  refine loop n 0 false [] none 0 H (by omega) (by simp) ((Sat.start H).to (Ent.slNil .refl))
end
end Go.Proofs.Ytobolifgehagfaa

set_option linter.unusedVariables false
set_option linter.unusedSimpArgs false
set_option linter.unnecessarySimpa false
namespace Go.Proofs.Ytobolifgehagfaa
open Go Go.Den Go.Proofs
/-! What the reference makes of requests. -/
abbrev Tch := List SE × List EP
def ptE (k : SE) : EP := ((k, 0), (k ++ ⟨#[0]⟩, 0))
def clashK (K : List EP) (k : SE) : Bool := K.any fun z => ltE 1 z.1 (ptE k).2 && ltE 1 (ptE k).1 z.2
abbrev delSp {C : Type} (x : RqF C) : SP := ⟨x.key, x.en, decide (x.en.size = 0), 0, 0⟩
def keyD {C : Type} (x : RqF C) : EP := keyX (delSp x, 0)
def delsK {C : Type} (xs : List (RqF C)) : List EP := (xs.filter fun x => decide (x.k = 3)).map keyD
def addT (a b : Tch) (st : Tch) : Option Tch :=
  if (a.1 ++ b.1).any (fun k => hasT k st.1 || clashK st.2 k) = true then none
  else some (((a.1 ++ b.1).foldl (fun l k => putX k l) []).foldl (fun l k => putX k l) st.1, putsK 1 st.2 (a.2 ++ b.2))
def stepT {C : Type} (sp : List C → Option Tch) (st : Option Tch) (x : RqF C) : Option Tch :=
  if x.k = 4 then (match st with | none => none | some st => match sp x.T with | none => none | some a => match sp x.E with | none => none | some b => addT a b st) else st
def stepP {C : Type} (st : Option Tch) (x : RqF C) : Option Tch :=
  if x.k = 2 then (match st with | none => none | some st => if (hasT x.key st.1 || clashK st.2 x.key) = true then none else some (putX x.key st.1, st.2)) else st
def spL {C : Type} (sp : List C → Option Tch) (xs : List (RqF C)) : Option Tch := xs.foldl stepP (xs.foldl (stepT sp) (some ([], putsK 1 [] (delsK xs))))
def spO : (f : Nat) → List (RQ f) → Option Tch
  | 0 => fun _ => some ([], [])
  | f + 1 => spL (spO f)
theorem stepT_none {C : Type} {sp : List C → Option Tch} {x : RqF C} : stepT sp none x = none := by unfold stepT; split <;> rfl
theorem stepP_none {C : Type} {x : RqF C} : stepP none x = none := by unfold stepP; split <;> rfl
theorem foldT_none {C : Type} {sp : List C → Option Tch} : ∀ xs : List (RqF C), xs.foldl (stepT sp) none = none
  | [] => rfl
  | x :: xs => by rw [List.foldl_cons, stepT_none]; exact foldT_none xs
theorem foldP_none {C : Type} : ∀ xs : List (RqF C), xs.foldl stepP none = none
  | [] => rfl
  | x :: xs => by rw [List.foldl_cons, stepP_none]; exact foldP_none xs
theorem spL_badT {C : Type} {sp : List C → Option Tch} {xs : List (RqF C)} {i : Nat} (h : (xs.take i).foldl (stepT sp) (some ([], putsK 1 [] (delsK xs))) = none) : spL sp xs = none := by
  unfold spL
  have : xs.foldl (stepT sp) (some ([], putsK 1 [] (delsK xs))) = none := by
    have key : ∀ b, xs.foldl (stepT sp) b = (xs.drop i).foldl (stepT sp) ((xs.take i).foldl (stepT sp) b) := fun b => by rw [← List.foldl_append, List.take_append_drop]
    rw [key, h, foldT_none]
  rw [this, foldP_none]
theorem foldl_take {α β : Type} {f : β → α → β} {b : β} {xs : List α} {i : Nat} {x : α} (hx : xs[i]? = some x) : (xs.take (i + 1)).foldl f b = f ((xs.take i).foldl f b) x := by
  rw [List.take_add_one, hx, List.foldl_append]
  rfl
/-- How the reference ends. -/
def SpEnd (r : Option Tch) (t : Nat) (H : Heap) (e : Ending) (H1 : Heap) : Prop :=
  match r with
  | none => e = .returned (.tuple ⟨[.agg ⟨[.slice none 0 0, .int .i64 0, .slice none 0 0]⟩, .bool false]⟩) ∧ ExtH H H1
  | some st => ∃ (y : (Option Addr × Nat) × (Option Addr × Nat)) (D : List (SP × Int)), e = .returned (.tuple ⟨[.agg ⟨[.slice y.1.1 st.1.length y.1.2, .int .i64 1, .slice y.2.1 D.length y.2.2]⟩, .bool true]⟩) ∧ D.map keyX = st.2 ∧ (∀ x ∈ D, SzX x) ∧ st.1.length ≤ t ∧ D.length ≤ t ∧ (∀ s ∈ st.1, s.size ≤ 140737488351232) ∧
      Sat H1 ([sl seC 9 1 y.1.1 st.1.length y.1.2 st.1, sl pcC 71 6 y.2.1 D.length y.2.2 (D.map plainX)] ++ [old H])
def SpOk {C : Type} (sub : SubP C) (sp : List C → Option Tch) (T : List C → Nat) : Prop := ∀ (xs : List C) (p : Option Addr) (n c : Nat) (H : Heap), sub H p n xs → T xs ≤ 200 → CallsH Try.prog 27 ⟨[.slice p n c]⟩ H (SpEnd (sp xs) (T xs) H)
section
variable {H : Heap} {l : List HP} {pr : Nat} {q p : Option Addr} {m d n c : Nat} {D : List (SP × Int)} {k : SE}
theorem clash_eq : decide ((((D.filter (meetX 1 ⟨k, ⟨#[]⟩, true, 0, 0⟩)).length : Nat) : Int) > 0) = clashK (D.map keyX) k := by
  unfold clashK
  rw [List.any_map]
  have e : (fun z : EP => ltE 1 z.1 (ptE k).2 && ltE 1 (ptE k).1 z.2) ∘ keyX = meetX 1 ⟨k, ⟨#[]⟩, true, 0, 0⟩ := rfl
  rw [e]
  cases h : D.any (meetX 1 ⟨k, ⟨#[]⟩, true, 0, 0⟩) with
  | true =>
    obtain ⟨x, h1, h2⟩ := List.any_eq_true.1 h
    have : x ∈ D.filter (meetX 1 ⟨k, ⟨#[]⟩, true, 0, 0⟩) := List.mem_filter.2 ⟨h1, h2⟩
    have := List.length_pos_of_mem this
    exact decide_eq_true (by omega)
  | false =>
    rw [filter_none (fun x hx => by have := List.any_eq_false.1 h x hx; simpa using this)]
    rfl
theorem clashes_ok (hk : k.size ≤ 140737488351232) (hL : ∀ x ∈ D, SzX x) (hB : H[pr]? = some (toO q m d 1 p n c)) (hR : RowsAt pcC 6 H p (D.map plainX)) (hn : D.length = n) (hb : n ≤ 100000) :
    CallsH Try.prog 55 ⟨[pA pr, .string k]⟩ H (Gives (.bool (clashK (D.map keyX) k)) H) := by
  have S := Sat.start H
  refine F55.calls ?_
  unfold F55.go
  (repeat (first | (refine Step.go ?_; intros) | refine iteB_t (by decide) ?_ | refine iteB_f (by decide) ?_ | (refine Duo.mk (by first | omega | exact rfl | decide) ?_; intros) | (refine Duo.mk (Clo.mk (by kernel_rfl)) ?_; intros)))
  refine call_of (meeting_okT (s := ⟨k, ⟨#[]⟩, true, 0, 0⟩) hB hR hn hb hk hL) ?_
  rintro _ H1 ⟨q, d, rfl, S1⟩
  (repeat (first | (refine Step.go ?_; intros) | refine iteB_t (by decide) ?_ | refine iteB_f (by decide) ?_ | (refine Duo.mk (by first | omega | exact rfl | decide) ?_; intros) | (refine Duo.mk (Clo.mk (by kernel_rfl)) ?_; intros)))
  rw [clash_eq]
  exact ⟨rfl, Sat.grown⟩
end
end Go.Proofs.Ytobolifgehagfaa
