/- What functions of this seat do, each proved by a walk; no condition. -/
import Derived.Test.YtcejmnfjkdjobaaCM
set_option linter.unusedVariables false
set_option linter.unusedSimpArgs false
set_option linter.unnecessarySimpa false
namespace Go.Proofs.Ytcejmnfjkdjobaa
open Go Go.Den Go.Proofs
/-! FnCheckOne. -/
abbrev eS1 : ByteArray := ByteArray.mk #[101, 116, 99, 100, 115, 101, 114, 118, 101, 114, 58, 32, 107, 101, 121, 32, 105, 115, 32, 110, 111, 116, 32, 112, 114, 111, 118, 105, 100, 101, 100]
abbrev eS2 : ByteArray := ByteArray.mk #[101, 116, 99, 100, 115, 101, 114, 118, 101, 114, 58, 32, 118, 97, 108, 117, 101, 32, 105, 115, 32, 112, 114, 111, 118, 105, 100, 101, 100]
abbrev eS3 : ByteArray := ByteArray.mk #[101, 116, 99, 100, 115, 101, 114, 118, 101, 114, 58, 32, 108, 101, 97, 115, 101, 32, 105, 115, 32, 112, 114, 111, 118, 105, 100, 101, 100]
abbrev eS4 : ByteArray := ByteArray.mk #[101, 116, 99, 100, 115, 101, 114, 118, 101, 114, 58, 32, 116, 111, 111, 32, 109, 97, 110, 121, 32, 111, 112, 101, 114, 97, 116, 105, 111, 110, 115, 32, 105, 110, 32, 116, 120, 110, 32, 114, 101, 113, 117, 101, 115, 116]
abbrev eS5 : ByteArray := ByteArray.mk #[101, 116, 99, 100, 115, 101, 114, 118, 101, 114, 58, 32, 100, 117, 112, 108, 105, 99, 97, 116, 101, 32, 107, 101, 121, 32, 103, 105, 118, 101, 110, 32, 105, 110, 32, 116, 120, 110, 32, 114, 101, 113, 117, 101, 115, 116]
abbrev eS6 : ByteArray := ByteArray.mk #[101, 116, 99, 100, 115, 101, 114, 118, 101, 114, 58, 32, 105, 110, 118, 97, 108, 105, 100, 32, 115, 111, 114, 116, 32, 111, 112, 116, 105, 111, 110]
abbrev eS7 : ByteArray := ByteArray.mk #[101, 116, 99, 100, 115, 101, 114, 118, 101, 114, 58, 32, 107, 101, 121, 32, 110, 111, 116, 32, 102, 111, 117, 110, 100]
def errV : Nat → IV
  | 1 => .mk 127 (.string eS1)
  | 2 => .mk 127 (.string eS2)
  | 3 => .mk 127 (.string eS3)
  | 6 => .mk 127 (.string eS6)
  | _ => .nil
theorem und70 : ∃ ms, Try.prog.underlying 70 = some (.interface ms) := by
  have h : (match Try.prog.underlying 70 with | some (.interface _) => true | _ => false) = true := by kernel_rfl
  split at h
  · rename_i ms hm; exact ⟨ms, hm⟩
  · cases h
set_option maxRecDepth 100000 in
theorem rawS {op : BinOp} {a b : ByteArray} {k : Bool → Prop} (hk : k (a == b)) : rawI Try.prog op 70 (.iface 127 (.string a)) (.iface 127 (.string b)) k := by
  obtain ⟨ms, h⟩ := und70
  exact rawI_str h (ti := Try.t127) (by kernel_rfl) (by kernel_rfl) (by kernel_rfl) hk
section
variable {H : Heap}
theorem ifNil_nil {k : Bool → Prop} (h : k true) : ifNilD (IV.v .nil) k := h
theorem ifNil_mk {t : TypeId} {x : Value} {k : Bool → Prop} (h : k false) : ifNilD (IV.v (.mk t x)) k := h
theorem kind0 : CallsH Try.prog 31 ⟨[IV.v .nil]⟩ H (Gives (.int .i64 0) H) := by
  refine F31.calls ?_
  unfold F31.go
  refine ifNil_nil ?_
  refine iteB_t rfl ?_
  exact ⟨rfl, ExtH.refl H⟩
theorem kind1 : CallsH Try.prog 31 ⟨[IV.v (.mk 127 (.string eS1))]⟩ H (Gives (.int .i64 1) H) := by
  refine F31.calls ?_
  unfold F31.go
  refine ifNil_mk ?_
  refine iteB_f rfl ?_
  refine rawS (a := eS1) (b := eS1) (iteB_t (by kernel_rfl) ?_)
  exact ⟨rfl, ExtH.refl H⟩
theorem kind2 : CallsH Try.prog 31 ⟨[IV.v (.mk 127 (.string eS2))]⟩ H (Gives (.int .i64 2) H) := by
  refine F31.calls ?_
  unfold F31.go
  refine ifNil_mk ?_
  refine iteB_f rfl ?_
  refine rawS (a := eS2) (b := eS1) (iteB_f (by kernel_rfl) ?_)
  refine rawS (a := eS2) (b := eS2) (iteB_t (by kernel_rfl) ?_)
  exact ⟨rfl, ExtH.refl H⟩
theorem kind3 : CallsH Try.prog 31 ⟨[IV.v (.mk 127 (.string eS3))]⟩ H (Gives (.int .i64 3) H) := by
  refine F31.calls ?_
  unfold F31.go
  refine ifNil_mk ?_
  refine iteB_f rfl ?_
  refine rawS (a := eS3) (b := eS1) (iteB_f (by kernel_rfl) ?_)
  refine rawS (a := eS3) (b := eS2) (iteB_f (by kernel_rfl) ?_)
  refine rawS (a := eS3) (b := eS3) (iteB_t (by kernel_rfl) ?_)
  exact ⟨rfl, ExtH.refl H⟩
theorem kind6 : CallsH Try.prog 31 ⟨[IV.v (.mk 127 (.string eS6))]⟩ H (Gives (.int .i64 6) H) := by
  refine F31.calls ?_
  unfold F31.go
  refine ifNil_mk ?_
  refine iteB_f rfl ?_
  refine rawS (a := eS6) (b := eS1) (iteB_f (by kernel_rfl) ?_)
  refine rawS (a := eS6) (b := eS2) (iteB_f (by kernel_rfl) ?_)
  refine rawS (a := eS6) (b := eS3) (iteB_f (by kernel_rfl) ?_)
  refine rawS (a := eS6) (b := eS4) (iteB_f (by kernel_rfl) ?_)
  refine rawS (a := eS6) (b := eS5) (iteB_f (by kernel_rfl) ?_)
  refine rawS (a := eS6) (b := eS6) (iteB_t (by kernel_rfl) ?_)
  exact ⟨rfl, ExtH.refl H⟩
theorem kind_ok {k : Nat} (h : k = 0 ∨ k = 1 ∨ k = 2 ∨ k = 3 ∨ k = 6) : CallsH Try.prog 31 ⟨[(errV k).v]⟩ H (Gives (.int .i64 (k : Int)) H) := by
  rcases h with rfl | rfl | rfl | rfl | rfl
  · exact kind0
  · exact kind1
  · exact kind2
  · exact kind3
  · exact kind6
theorem eqS_nil (a : ByteArray) : eqS a (ByteArray.mk #[]) = decide (a.size = 0) := by
  unfold eqS
  rw [ByteArray.toList_eq, ByteArray.toList_eq, Bool.eq_iff_iff, decide_eq_true_iff, beq_iff_eq]
  obtain ⟨⟨l⟩⟩ := a
  show l = [] ↔ l.length = 0
  rw [List.length_eq_zero_iff]
/-- What a request is refused for. -/
def refR (r : RQ) : Nat := if r.key.size = 0 then 1 else if r.so < 0 ∨ 2 < r.so ∨ r.st < 0 ∨ 4 < r.st then 6 else 0
def refP (r : RQ) : Nat := if r.key.size = 0 then 1 else if r.igV = true ∧ r.value.size ≠ 0 then 2 else if r.igL = true ∧ r.lease ≠ 0 then 3 else 0
def refD (r : RQ) : Nat := if r.key.size = 0 then 1 else 0
def refused (r : RQ) : Nat := if r.kind = 1 then refR r else if r.kind = 2 then refP r else refD r
theorem o32_lt {i : Int} : (o32 i < 0 ↔ (i < 0 ∨ 2147483647 < i)) := by unfold o32; split <;> (try split) <;> omega
theorem o32_gt {i k : Int} (hk : 0 ≤ k ∧ k < 1000) : (k < o32 i ↔ (k < i ∧ i ≤ 2147483647)) := by unfold o32; split <;> (try split) <;> omega
theorem range_ok {r : RQ} {x : RI} (h : H[x.b]? = some (rgO r x)) : CallsH Try.prog 63 ⟨[.pointer (some ⟨x.b, 0, none⟩)]⟩ H (Gives (errV (refR r)).v H) := by
  have S := Sat.start H
  have A := atOld h
  have e1 := @o32_lt r.so
  have e2 := @o32_lt r.st
  have e3 := @o32_gt r.so 2 (by omega)
  have e4 := @o32_gt r.st 4 (by omega)
  refine F63.calls ?_
  unfold F63.go
  unfold refR
  (repeat (first | (refine Step.go ?_; intros) | refine iteB_t (by decide) ?_ | refine iteB_f (by decide) ?_ | (refine Duo.mk (by first | omega | exact rfl | decide) ?_; intros) | (refine Duo.mk (Clo.mk (by kernel_rfl)) ?_; intros)))
  refine iteB_i (fun h => ?_) (fun h => ?_)
  · have h := eq_of_beq h
    rw [if_pos (by omega)]
    exact ⟨rfl, Sat.grown⟩
  have h : ¬ (r.key.size : Int) = 0 := by simpa using h
  rw [if_neg (by omega)]
  (repeat (first | (refine Step.go ?_; intros) | refine iteB_t (by decide) ?_ | refine iteB_f (by decide) ?_ | (refine Duo.mk (by first | omega | exact rfl | decide) ?_; intros) | (refine Duo.mk (Clo.mk (by kernel_rfl)) ?_; intros)))
  refine iteB_i (fun h1 => ?_) (fun h1 => ?_)
  · have h1 := of_decide_eq_true h1
    rw [if_pos (by omega)]
    exact ⟨rfl, Sat.grown⟩
  have h1 := of_decide_eq_false h1
  (repeat (first | (refine Step.go ?_; intros) | refine iteB_t (by decide) ?_ | refine iteB_f (by decide) ?_ | (refine Duo.mk (by first | omega | exact rfl | decide) ?_; intros) | (refine Duo.mk (Clo.mk (by kernel_rfl)) ?_; intros)))
  refine iteB_i (fun h2 => ?_) (fun h2 => ?_)
  · have h2 := of_decide_eq_true h2
    rw [if_pos (by omega)]
    exact ⟨rfl, Sat.grown⟩
  have h2 := of_decide_eq_false h2
  refine F63.L0_step ?_
  unfold F63.L0n
  (repeat (first | (refine Step.go ?_; intros) | refine iteB_t (by decide) ?_ | refine iteB_f (by decide) ?_ | (refine Duo.mk (by first | omega | exact rfl | decide) ?_; intros) | (refine Duo.mk (Clo.mk (by kernel_rfl)) ?_; intros)))
  refine iteB_i (fun h3 => ?_) (fun h3 => ?_)
  · have h3 := of_decide_eq_true h3
    rw [if_pos (by omega)]
    exact ⟨rfl, Sat.grown⟩
  have h3 := of_decide_eq_false h3
  (repeat (first | (refine Step.go ?_; intros) | refine iteB_t (by decide) ?_ | refine iteB_f (by decide) ?_ | (refine Duo.mk (by first | omega | exact rfl | decide) ?_; intros) | (refine Duo.mk (Clo.mk (by kernel_rfl)) ?_; intros)))
  refine iteB_i (fun h4 => ?_) (fun h4 => ?_)
  · have h4 := of_decide_eq_true h4
    rw [if_pos (by omega)]
    exact ⟨rfl, Sat.grown⟩
  have h4 := of_decide_eq_false h4
  rw [if_neg (by omega)]
  exact ⟨rfl, Sat.grown⟩
abbrev puO (r : RQ) (k kc v vc : Nat) : Obj := .cells ⟨[.slice (some ⟨k, 0, none⟩) r.key.size kc, .slice (some ⟨v, 0, none⟩) r.value.size vc, .int .i64 r.lease, .bool r.prev, .bool r.igV, .bool r.igL]⟩ 129
theorem putIn_ok {r : RQ} (h1 : r.key.size < 2 ^ 62) (h2 : r.value.size < 2 ^ 62) : CallsH Try.prog 34 ⟨[.agg ⟨r.cells⟩]⟩ H (fun e H1 => ∃ x : Nat × (Nat × Nat) × (Nat × Nat), e = .returned (.pointer (some ⟨x.1, 0, none⟩)) ∧ Sat H1 ([pt x.1 (puO r x.2.1.1 x.2.1.2 x.2.2.1 x.2.2.2)] ++ [old H])) := by
  have S := Sat.start H
  refine F34.calls ?_
  unfold F34.go
  (repeat (first | (refine Step.go ?_; intros) | refine iteB_t (by decide) ?_ | refine iteB_f (by decide) ?_ | (refine Duo.mk (by first | omega | exact rfl | decide) ?_; intros) | (refine Duo.mk (Clo.mk (by kernel_rfl)) ?_; intros)))
  rename_i r0 H1 S1 k kc H2 _ S2 v vc H3 _ S3 b H4 S4
  exact ⟨(b, (k, kc), (v, vc)), rfl, S4.to (m := [pt b (puO r k kc v vc), old H]) Fits.out⟩
theorem put_ok {r : RQ} {b k kc v vc : Nat} (h : H[b]? = some (puO r k kc v vc)) : CallsH Try.prog 64 ⟨[.pointer (some ⟨b, 0, none⟩)]⟩ H (Gives (errV (refP r)).v H) := by
  have S := Sat.start H
  have A := atOld h
  have fin : (r.key.size ≠ 0) → (¬ (r.igV = true ∧ r.value.size ≠ 0)) → F64.L0 (some ⟨b, 0, none⟩) H (Gives (errV (refP r)).v H) := by
    intro g1 g2
    unfold refP
    rw [if_neg g1, if_neg g2]
    refine F64.L0_step ?_
    unfold F64.L0n
    (repeat (first | (refine Step.go ?_; intros) | refine iteB_t (by decide) ?_ | refine iteB_f (by decide) ?_ | (refine Duo.mk (by first | omega | exact rfl | decide) ?_; intros) | (refine Duo.mk (Clo.mk (by kernel_rfl)) ?_; intros)))
    refine iteB_i (fun h => ?_) (fun h => ?_)
    · (repeat (first | (refine Step.go ?_; intros) | refine iteB_t (by decide) ?_ | refine iteB_f (by decide) ?_ | (refine Duo.mk (by first | omega | exact rfl | decide) ?_; intros) | (refine Duo.mk (Clo.mk (by kernel_rfl)) ?_; intros)))
      refine iteB_i (fun h2 => ?_) (fun h2 => ?_)
      · rw [if_pos ⟨h, by simpa using h2⟩]
        exact ⟨rfl, Sat.grown⟩
      · have h2 : r.lease = 0 := by simpa using h2
        rw [if_neg (by rintro ⟨_, h3⟩; exact h3 h2)]
        exact ⟨rfl, Sat.grown⟩
    · rw [if_neg (by rintro ⟨h3, _⟩; rw [h] at h3; cases h3)]
      exact ⟨rfl, Sat.grown⟩
  refine F64.calls ?_
  unfold F64.go
  (repeat (first | (refine Step.go ?_; intros) | refine iteB_t (by decide) ?_ | refine iteB_f (by decide) ?_ | (refine Duo.mk (by first | omega | exact rfl | decide) ?_; intros) | (refine Duo.mk (Clo.mk (by kernel_rfl)) ?_; intros)))
  refine iteB_i (fun h => ?_) (fun h => ?_)
  · have h := eq_of_beq h
    unfold refP
    rw [if_pos (by omega)]
    exact ⟨rfl, Sat.grown⟩
  have h : ¬ (r.key.size : Int) = 0 := by simpa using h
  (repeat (first | (refine Step.go ?_; intros) | refine iteB_t (by decide) ?_ | refine iteB_f (by decide) ?_ | (refine Duo.mk (by first | omega | exact rfl | decide) ?_; intros) | (refine Duo.mk (Clo.mk (by kernel_rfl)) ?_; intros)))
  refine iteB_i (fun h1 => ?_) (fun h1 => ?_)
  · (repeat (first | (refine Step.go ?_; intros) | refine iteB_t (by decide) ?_ | refine iteB_f (by decide) ?_ | (refine Duo.mk (by first | omega | exact rfl | decide) ?_; intros) | (refine Duo.mk (Clo.mk (by kernel_rfl)) ?_; intros)))
    refine iteB_i (fun h2 => ?_) (fun h2 => ?_)
    · have h2 : ¬ (r.value.size : Int) = 0 := by simpa using h2
      unfold refP
      rw [if_neg (by omega), if_pos ⟨h1, by omega⟩]
      exact ⟨rfl, Sat.grown⟩
    · have h2 : (r.value.size : Int) = 0 := by simpa using h2
      exact fin (by omega) (by rintro ⟨_, h3⟩; omega)
  · exact fin (by omega) (by rintro ⟨h3, _⟩; rw [h1] at h3; cases h3)
abbrev deO (r : RQ) (k kc : Nat) (x : SLI) : Obj := .cells ⟨[.slice (some ⟨k, 0, none⟩) r.key.size kc, .slice x.1 x.2.1 x.2.2, .bool r.prev]⟩ 131
theorem delIn_ok {r : RQ} (h1 : r.key.size < 2 ^ 62) (h2 : r.endd.size < 2 ^ 62) : CallsH Try.prog 36 ⟨[.agg ⟨r.cells⟩]⟩ H (fun e H1 => ∃ x : Nat × (Nat × Nat) × SLI, e = .returned (.pointer (some ⟨x.1, 0, none⟩)) ∧ Sat H1 ([pt x.1 (deO r x.2.1.1 x.2.1.2 x.2.2)] ++ [old H])) := by
  have S := Sat.start H
  refine F36.calls ?_
  unfold F36.go
  (repeat (first | (refine Step.go ?_; intros) | refine iteB_t (by decide) ?_ | refine iteB_f (by decide) ?_ | (refine Duo.mk (by first | omega | exact rfl | decide) ?_; intros) | (refine Duo.mk (Clo.mk (by kernel_rfl)) ?_; intros)))
  rename_i r0 H1 S1
  refine ⟨?_, ?_⟩
  · (repeat (first | (refine Step.go ?_; intros) | refine iteB_t (by decide) ?_ | refine iteB_f (by decide) ?_ | (refine Duo.mk (by first | omega | exact rfl | decide) ?_; intros) | (refine Duo.mk (Clo.mk (by kernel_rfl)) ?_; intros)))
    rename_i k kc H2 hk S2
    refine grow_i S2 (bytesOf_ok h2) ?_
    rintro ⟨p, n, c⟩ H3 E3 S3
    dsimp only at S3 ⊢
    simp only [List.nil_append] at S3
    (repeat (first | (refine Step.go ?_; intros) | refine iteB_t (by decide) ?_ | refine iteB_f (by decide) ?_ | (refine Duo.mk (by first | omega | exact rfl | decide) ?_; intros) | (refine Duo.mk (Clo.mk (by kernel_rfl)) ?_; intros)))
    rename_i b H6 S6
    exact ⟨(b, (k, kc), (p, n, c)), rfl, S6.to (m := [pt b (deO r k kc (p, n, c)), old H]) Fits.out⟩
  · (repeat (first | (refine Step.go ?_; intros) | refine iteB_t (by decide) ?_ | refine iteB_f (by decide) ?_ | (refine Duo.mk (by first | omega | exact rfl | decide) ?_; intros) | (refine Duo.mk (Clo.mk (by kernel_rfl)) ?_; intros)))
    refine grow_i S1 (bytesOf_ok h2) ?_
    rintro ⟨p, n, c⟩ H3 E3 S3
    dsimp only at S3 ⊢
    simp only [List.nil_append] at S3
    (repeat (first | (refine Step.go ?_; intros) | refine iteB_t (by decide) ?_ | refine iteB_f (by decide) ?_ | (refine Duo.mk (by first | omega | exact rfl | decide) ?_; intros) | (refine Duo.mk (Clo.mk (by kernel_rfl)) ?_; intros)))
    rename_i k kc H2 hk S2 b H6 S6
    exact ⟨(b, (k, kc), (p, n, c)), rfl, S6.to (m := [pt b (deO r k kc (p, n, c)), old H]) Fits.out⟩
theorem del_ok {r : RQ} {b k kc : Nat} {x : SLI} (h : H[b]? = some (deO r k kc x)) : CallsH Try.prog 65 ⟨[.pointer (some ⟨b, 0, none⟩)]⟩ H (Gives (errV (refD r)).v H) := by
  have S := Sat.start H
  have A := atOld h
  refine F65.calls ?_
  unfold F65.go
  unfold refD
  (repeat (first | (refine Step.go ?_; intros) | refine iteB_t (by decide) ?_ | refine iteB_f (by decide) ?_ | (refine Duo.mk (by first | omega | exact rfl | decide) ?_; intros) | (refine Duo.mk (Clo.mk (by kernel_rfl)) ?_; intros)))
  refine iteB_i (fun h => ?_) (fun h => ?_)
  · have h := eq_of_beq h
    rw [if_pos (by omega)]
    exact ⟨rfl, Sat.grown⟩
  have h : ¬ (r.key.size : Int) = 0 := by simpa using h
  rw [if_neg (by omega)]
  exact ⟨rfl, Sat.grown⟩
end
end Go.Proofs.Ytcejmnfjkdjobaa
