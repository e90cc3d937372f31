/- What functions of this seat do, each proved by a walk; no condition. -/
import Derived.Test.YtobolifgehagfaaGreatQM2
import Derived.Test.YtobolifgehagfaaGreatQM3
import Derived.Test.YtobolifgehagfaaGreatQD
set_option linter.unusedVariables false
set_option linter.unusedSimpArgs false
set_option linter.unnecessarySimpa false
namespace Go.Proofs.YtobolifgehagfaaGreat
open Go Go.Den Go.Proofs
structure AR where
  ok : Bool
  n : Int
  q : Option Addr
  qn : Nat
  qc : Nat
  t : Option Addr
  tn : Nat
  tc : Nat
abbrev AR.cells (a : AR) : List Value := [.bool a.ok, .int .i64 a.n, .slice a.q a.qn a.qc, .slice a.t a.tn a.tc]
abbrev askC (kd : Int) (qk : ByteArray) (ep : Option Addr) (en ec : Nat) : List Value := [.int .i64 kd, .int .i64 0, .string (ByteArray.mk #[]), .string (ByteArray.mk #[]), .bool false, .int .i64 0, .string qk, .int .i64 0, .int .i64 0, .slice ep en ec]
section
variable {H H0 : Heap} {l : List HP} {z km tp wm im sr : Nat} {L : List Wa} {k : ByteArray}
end
end Go.Proofs.YtobolifgehagfaaGreat

set_option linter.unusedVariables false
set_option linter.unusedSimpArgs false
set_option linter.unnecessarySimpa false
namespace Go.Proofs.YtobolifgehagfaaGreat
open Go Go.Den Go.Proofs
def allW (xs : List Wa) : List Wa := xs.foldl addW []
theorem addW_len {L : List Wa} {x : Wa} : (addW L x).length ≤ L.length + 1 := by
  unfold addW
  split
  · omega
  · simp
theorem fold_len : ∀ (xs L : List Wa), (xs.foldl addW L).length ≤ L.length + xs.length
  | [], L => by simp
  | x :: xs, L => by
    have h1 := fold_len xs (addW L x)
    have h2 := addW_len (L := L) (x := x)
    simp only [List.foldl_cons, List.length_cons]
    omega
abbrev opsL (xs : List Wa) (kd : Int) (qk : ByteArray) (ep : Option Addr) (en ec : Nat) : List (List Value) := xs.map addC ++ [askC kd qk ep en ec]
section
variable {H H0 : Heap} {l : List HP}
theorem after_new {z km tp wm im sr : Nat} (S : Sat H (pt z (grO km tp wm im) :: mp Value.string mpI km [] :: mp ptrK unitF wm [] :: mp (Value.int .i64) ptrK im [] :: pt tp (treO sr 0 sr) :: pt sr senO :: l)) : After z km tp wm im sr [] l H := by
  refine ⟨fun _ => none, [], [], [], .nil, rfl, ⟨(fun p h => by cases h), List.Pairwise.nil, List.Pairwise.nil, List.Pairwise.nil, fun k => ?_, ⟨⟨⟨0, rfl⟩, trivial, rfl⟩, List.Pairwise.nil, (fun it h => by cases h), List.Perm.nil, List.Pairwise.nil⟩, fun c => ?_⟩, ?_⟩
  · constructor
    · intro h; cases h
    · rintro ⟨p, h, _⟩; cases h
  · constructor
    · intro h; cases h
    · rintro ⟨p, h, _⟩; cases h
  · have S1 : Sat H (has (fun _ => none) :: pt z (grO km tp wm im) :: mp Value.string mpI km [] :: mp ptrK unitF wm [] :: mp (Value.int .i64) ptrK im [] :: pt tp (treO sr 0 sr) :: pt sr senO :: l) := has_nothing S
    have S2 := (((S1.to (tr_mknil (g := g0) (o := 1) (sr := sr) (p := sr))).to (sets_nil (f := memK []))).to (sets_nil (f := memR [])))
    refine S2.to ?_
    iterate 10 (apply Ent.pick; (focus (repeat (first | exact Sel.here | apply Sel.there))))
    exact Ent.refl
end
end Go.Proofs.YtobolifgehagfaaGreat

set_option linter.unusedVariables false
set_option linter.unusedSimpArgs false
set_option linter.unnecessarySimpa false
namespace Go.Proofs.YtobolifgehagfaaGreat
open Go Go.Den Go.Proofs
structure WaSz (x : Wa) : Prop where
  key : x.key.size ≤ 2147483647
  e : x.e.size ≤ 2147483647
structure WaPr (x : Wa) : Prop where
  pos : x.he = true → x.key.size ≠ 0
  lt : x.he = true → x.e.size ≠ 0 → ltS x.key x.e = true
section
variable {H H0 : Heap} {l : List HP}
theorem fit17 (x : Wa) : CallsH Tryz.prog 12 ⟨[.agg ⟨x.cells⟩]⟩ H (fun e' H1 => ExtH H H1 ∧ ∃ r, e' = .returned (.bool r) ∧ (r = true → WaSz x)) := by
  have S := Sat.start H
  refine F12.calls ?_
  unfold F12.go
  (repeat (first | (refine Step.go ?_; intros) | refine iteB_t (by decide) ?_ | refine iteB_f (by decide) ?_ | (refine Duo.mk (by first | omega | exact rfl | decide) ?_; intros)))
  refine iteB_i (fun h => ⟨Sat.grown, _, rfl, fun h => by cases h⟩) (fun h1 => ?_)
  (repeat (first | (refine Step.go ?_; intros) | refine iteB_t (by decide) ?_ | refine iteB_f (by decide) ?_ | (refine Duo.mk (by first | omega | exact rfl | decide) ?_; intros)))
  refine iteB_i (fun h => ⟨Sat.grown, _, rfl, fun h => by cases h⟩) (fun h2 => ?_)
  have h1 := of_decide_eq_false h1
  have h2 := of_decide_eq_false h2
  exact ⟨Sat.grown, _, rfl, fun _ => ⟨by omega, by omega⟩⟩
theorem fit20 {xs : List Wa} {p : Option Addr} {n c : Nat} (hR : RowsAt Wa.cells 5 H0 p xs) (hn : xs.length = n) : CallsH Tryz.prog 6 ⟨[.slice p n c]⟩ H0 (fun e' H1 => ExtH H0 H1 ∧ ∃ r, e' = .returned (.bool r) ∧ (r = true → n ≤ 2147483647 ∧ ∀ x ∈ xs, WaSz x)) := by
  refine F6.calls ?_
  unfold F6.go
  refine iteB_i (fun h => ⟨ExtH.refl _, _, rfl, fun h => by cases h⟩) (fun h => ?_)
  have hnb : n ≤ 2147483647 := by have := of_decide_eq_false h; omega
  have R0 : RowsC H0 p Wa.cells 5 xs := ⟨hR⟩
  have loop : ∀ (k i : Nat) (H : Heap), i + k = n → ExtH H0 H → (∀ j x, xs[j]? = some x → j < i → WaSz x) → F6.L0 p n c (n : Nat) (i : Nat) H (fun e' H1 => ExtH H0 H1 ∧ ∃ r, e' = .returned (.bool r) ∧ (r = true → n ≤ 2147483647 ∧ ∀ x ∈ xs, WaSz x)) := by
    intro k
    induction k with
    | zero =>
      intro i H hk E hi
      refine F6.L0_step ?_
      unfold F6.L0n
      refine iteB_f (by simp; omega) ?_
      refine ⟨E, _, rfl, fun _ => ⟨hnb, fun x hx => ?_⟩⟩
      obtain ⟨j, hj⟩ := List.getElem?_of_mem hx
      exact hi j x hj (by have := lt_of hj; omega)
    | succ k ih =>
      intro i H hk E hi
      have S := (Sat.start H0).ext E
      obtain ⟨x, hx⟩ : ∃ x, xs[i]? = some x := get_of (by omega)
      have hI := HasI.nat hx
      refine F6.L0_step ?_
      unfold F6.L0n
      refine iteB_t (by simp; omega) ?_
      refine R0.idx hn ⟨by omega, by omega, ?_⟩
      intro a ha
      subst ha
      (repeat (first | (refine Step.go ?_; intros) | refine iteB_t (by decide) ?_ | refine iteB_f (by decide) ?_ | (refine Duo.mk (by first | omega | exact rfl | decide) ?_; intros)))
      rename_i H1 S1
      have E1 : ExtH H0 H1 := Sat.grown
      refine callD_i (fit17 x) ?_
      rintro e H2 ⟨E2, r, rfl, hr⟩
      (repeat (first | (refine Step.go ?_; intros) | refine iteB_t (by decide) ?_ | refine iteB_f (by decide) ?_ | (refine Duo.mk (by first | omega | exact rfl | decide) ?_; intros)))
      refine iteB_i (fun h => ⟨E1.trans E2, _, rfl, fun h => by cases h⟩) (fun h => ?_)
      have hz := hr (by simpa using h)
      rw [wr64 (by omega) (by omega), show ((i : Nat) : Int) + 1 = ((i + 1 : Nat) : Int) by omega]
      refine ih (i + 1) H2 (by omega) (E1.trans E2) fun j y hj hlt => ?_
      by_cases hji : j = i
      · subst hji; rw [hx] at hj; cases hj; exact hz
      · exact hi j y hj (by omega)
  exact loop n 0 H0 (by omega) (ExtH.refl H0) (fun j x _ h => by omega)
theorem proper_ok (x : Wa) : CallsH Tryz.prog 34 ⟨[.agg ⟨x.cells⟩]⟩ H (fun e' H1 => ExtH H H1 ∧ ∃ r, e' = .returned (.bool r) ∧ (r = true → WaPr x)) := by
  have S := Sat.start H
  refine F34.calls ?_
  unfold F34.go
  (repeat (first | (refine Step.go ?_; intros) | refine iteB_t (by decide) ?_ | refine iteB_f (by decide) ?_ | (refine Duo.mk (by first | omega | exact rfl | decide) ?_; intros)))
  rename_i r H1 S1
  have E1 : ExtH H H1 := Sat.grown
  refine iteB_i (fun h => ⟨E1, _, rfl, fun _ => ?_⟩) (fun h => ?_)
  · have h : x.he = false := by simpa using h
    exact ⟨(fun e => by rw [h] at e; cases e), (fun e => by rw [h] at e; cases e)⟩
  (repeat (first | (refine Step.go ?_; intros) | refine iteB_t (by decide) ?_ | refine iteB_f (by decide) ?_ | (refine Duo.mk (by first | omega | exact rfl | decide) ?_; intros)))
  rw [eqS_nil]
  refine iteB_i (fun h1 => ?_) (fun h1 => ⟨E1, _, rfl, fun h => by cases h⟩)
  have h1 : ¬ x.key.size = 0 := by simpa using h1
  (repeat (first | (refine Step.go ?_; intros) | refine iteB_t (by decide) ?_ | refine iteB_f (by decide) ?_ | (refine Duo.mk (by first | omega | exact rfl | decide) ?_; intros)))
  rw [eqS_nil]
  refine iteB_i (fun h2 => ?_) (fun h2 => ?_)
  · have h2 := of_decide_eq_true h2
    exact ⟨E1, _, rfl, fun _ => ⟨fun _ => h1, fun _ h3 => absurd h2 h3⟩⟩
  · (repeat (first | (refine Step.go ?_; intros) | refine iteB_t (by decide) ?_ | refine iteB_f (by decide) ?_ | (refine Duo.mk (by first | omega | exact rfl | decide) ?_; intros)))
    exact ⟨E1, _, rfl, fun h => ⟨fun _ => h1, fun _ _ => h⟩⟩
end
end Go.Proofs.YtobolifgehagfaaGreat

set_option linter.unusedVariables false
set_option linter.unusedSimpArgs false
set_option linter.unnecessarySimpa false
namespace Go.Proofs.YtobolifgehagfaaGreat
open Go Go.Den Go.Proofs
structure Good (xs : List Wa) (kd : Int) (qk : ByteArray) (evs : List EV) : Prop where
  few : xs.length + 1 ≤ 200
  pr : ∀ x ∈ xs, WaPr x
  key : kd = 4 → qk.size ≠ 0
  evn : evs.length ≤ 200
  evk : ∀ v ∈ evs, v.key.size ≠ 0
section
variable {H H0 : Heap} {l : List HP} {xs : List Wa} {kd : Int} {qk : ByteArray} {ep : Option Addr} {en ec : Nat} {evs : List EV} {p : Option Addr} {n c : Nat}
theorem good_ok (hk : kd = 4 ∨ kd = 7) (hR : RowsAt idC 10 H0 p (opsL xs kd qk ep en ec)) (hE : RowsAt EV.cells 7 H0 ep evs) (hen : evs.length = en) (hn : xs.length + 1 = n) :
    CallsH Tryz.prog 22 ⟨[.slice p n c]⟩ H0 (fun e' H1 => ExtH H0 H1 ∧ ∃ r, e' = .returned (.bool r) ∧ (r = true → Good xs kd qk evs)) := by
  refine F22.calls ?_
  unfold F22.go
  refine iteB_i (fun h => ⟨ExtH.refl _, _, rfl, fun h => by cases h⟩) (fun h => ?_)
  have hnb : n ≤ 200 := by have := of_decide_eq_false h; omega
  have hln : (opsL xs kd qk ep en ec).length = n := by simp [opsL]; omega
  have R0 : RowsC H0 p idC 10 (opsL xs kd qk ep en ec) := ⟨hR⟩
  have RE : RowsC H0 ep EV.cells 7 evs := ⟨hE⟩
  -- the events of the last operation
  have evl : ∀ (j i : Nat) (H : Heap), i + j = en → ExtH H0 H → (∀ x ∈ xs, WaPr x) → (kd = 4 → qk.size ≠ 0) → en ≤ 200 → (∀ (k : Nat) (v : EV), evs[k]? = some v → k < i → v.key.size ≠ 0) →
      F22.L3 p n c (n : Nat) ((xs.length : Nat) : Int) ep en ec (en : Nat) (i : Nat) H (fun e' H1 => ExtH H0 H1 ∧ ∃ r, e' = .returned (.bool r) ∧ (r = true → Good xs kd qk evs)) := by
    intro j
    induction j with
    | zero =>
      intro i H hi E h1 h2 h3 h4
      refine F22.L3_step ?_
      unfold F22.L3n
      refine iteB_f (decide_eq_false (by omega)) ?_
      rw [wr64 (by omega) (by omega)]
      refine F22.L0_step ?_
      unfold F22.L0n
      refine iteB_f (decide_eq_false (by omega)) ?_
      refine ⟨E, _, rfl, fun _ => ⟨by omega, h1, h2, by omega, fun v hv => ?_⟩⟩
      obtain ⟨k, hk⟩ := List.getElem?_of_mem hv
      exact h4 k v hk (by have := lt_of hk; omega)
    | succ j ih =>
      intro i H hi E h1 h2 h3 h4
      have S := (Sat.start H0).ext E
      obtain ⟨v, hv⟩ : ∃ v, evs[i]? = some v := get_of (by omega)
      have hI := HasI.nat hv
      refine F22.L3_step ?_
      unfold F22.L3n
      refine iteB_t (decide_eq_true (by omega)) ?_
      refine RE.idx hen ⟨by omega, by omega, ?_⟩
      intro a ha
      subst ha
      (repeat (first | (refine Step.go ?_; intros) | refine iteB_t (by decide) ?_ | refine iteB_f (by decide) ?_ | (refine Duo.mk (by first | omega | exact rfl | decide) ?_; intros)))
      rename_i H1 S1
      have E1 : ExtH H0 H1 := Sat.grown
      rw [eqS_nil]
      refine iteB_i (fun h => ⟨E1, _, rfl, fun h => by cases h⟩) (fun h => ?_)
      have h := of_decide_eq_false h
      rw [wr64 (by omega) (by omega), show ((i : Nat) : Int) + 1 = ((i + 1 : Nat) : Int) by omega]
      refine ih (i + 1) H1 (by omega) E1 h1 h2 h3 fun k w hw hlt => ?_
      by_cases hji : k = i
      · subst hji; rw [hv] at hw; cases hw; exact h
      · exact h4 k w hw (by omega)
  have loop : ∀ (k i : Nat) (H : Heap), i + k = xs.length → ExtH H0 H → (∀ j x, xs[j]? = some x → j < i → WaPr x) → F22.L0 p n c (n : Nat) (i : Nat) H (fun e' H1 => ExtH H0 H1 ∧ ∃ r, e' = .returned (.bool r) ∧ (r = true → Good xs kd qk evs)) := by
    intro k
    induction k with
    | zero =>
      intro i H hi E h1
      obtain rfl : i = xs.length := by omega
      have hpr : ∀ x ∈ xs, WaPr x := by
        intro x hx
        obtain ⟨j, hj⟩ := List.getElem?_of_mem hx
        exact h1 j x hj (lt_of hj)
      have S := (Sat.start H0).ext E
      have hr : (opsL xs kd qk ep en ec)[xs.length]? = some (askC kd qk ep en ec) := by simp
      have hI := HasI.nat hr
      refine F22.L0_step ?_
      unfold F22.L0n
      refine iteB_t (decide_eq_true (by omega)) ?_
      refine R0.idx hln ⟨by omega, by omega, ?_⟩
      intro a ha
      subst ha
      (repeat (first | (refine Step.go ?_; intros) | refine iteB_t (by decide) ?_ | refine iteB_f (by decide) ?_ | (refine Duo.mk (by first | omega | exact rfl | decide) ?_; intros)))
      rename_i H1 S1
      have E1 : ExtH H0 H1 := Sat.grown
      refine iteB_f (decide_eq_false (by omega)) ?_
      (repeat (first | (refine Step.go ?_; intros) | refine iteB_t (by decide) ?_ | refine iteB_f (by decide) ?_ | (refine Duo.mk (by first | omega | exact rfl | decide) ?_; intros)))
      refine iteB_f (decide_eq_false (by omega)) ?_
      (repeat (first | (refine Step.go ?_; intros) | refine iteB_t (by decide) ?_ | refine iteB_f (by decide) ?_ | (refine Duo.mk (by first | omega | exact rfl | decide) ?_; intros)))
      refine iteB_i (fun h => ⟨E1, _, rfl, fun h => by cases h⟩) (fun h => ?_)
      have hen2 : en ≤ 200 := by have := of_decide_eq_false h; omega
      (repeat (first | (refine Step.go ?_; intros) | refine iteB_t (by decide) ?_ | refine iteB_f (by decide) ?_ | (refine Duo.mk (by first | omega | exact rfl | decide) ?_; intros)))
      refine iteB_f (by rw [beq_eq_false_iff_ne]; omega) ?_
      have l2 : ∀ r, Sat H1 [pt r (.cells ⟨askC kd qk ep en ec⟩ 30), Den.old H0] → (kd = 4 → qk.size ≠ 0) → F22.L2 r (some a) n c (n : Nat) ((xs.length : Nat) : Int) H1 (fun e' H1 => ExtH H0 H1 ∧ ∃ r, e' = .returned (.bool r) ∧ (r = true → Good xs kd qk evs)) := by
        clear S1
        intro r S1 hq
        refine F22.L2_step ?_
        unfold F22.L2n
        (repeat (first | (refine Step.go ?_; intros) | refine iteB_t (by decide) ?_ | refine iteB_f (by decide) ?_ | (refine Duo.mk (by first | omega | exact rfl | decide) ?_; intros)))
        exact evl en 0 H1 (by omega) E1 hpr hq hen2 (fun k v _ h => by omega)
      refine F22.L1_step ?_
      unfold F22.L1n
      (repeat (first | (refine Step.go ?_; intros) | refine iteB_t (by decide) ?_ | refine iteB_f (by decide) ?_ | (refine Duo.mk (by first | omega | exact rfl | decide) ?_; intros)))
      refine iteB_f (by rw [beq_eq_false_iff_ne]; omega) ?_
      (repeat (first | (refine Step.go ?_; intros) | refine iteB_t (by decide) ?_ | refine iteB_f (by decide) ?_ | (refine Duo.mk (by first | omega | exact rfl | decide) ?_; intros)))
      refine iteB_i (fun h4 => ?_) (fun h4 => l2 _ S1 (fun e => by rw [e] at h4; cases h4))
      (repeat (first | (refine Step.go ?_; intros) | refine iteB_t (by decide) ?_ | refine iteB_f (by decide) ?_ | (refine Duo.mk (by first | omega | exact rfl | decide) ?_; intros)))
      rw [eqS_nil]
      refine iteB_i (fun h => ⟨E1, _, rfl, fun h => by cases h⟩) (fun h => l2 _ S1 (fun _ => of_decide_eq_false h))
    | succ k ih =>
      intro i H hi E h1
      have S := (Sat.start H0).ext E
      obtain ⟨x, hxi⟩ : ∃ x, xs[i]? = some x := get_of (by omega)
      have hr : (opsL xs kd qk ep en ec)[i]? = some (addC x) := by
        rw [List.getElem?_append_left (by rw [List.length_map]; omega), List.getElem?_map, hxi]; rfl
      have hI := HasI.nat hr
      refine F22.L0_step ?_
      unfold F22.L0n
      refine iteB_t (decide_eq_true (by omega)) ?_
      refine R0.idx hln ⟨by omega, by omega, ?_⟩
      intro a ha
      subst ha
      (repeat (first | (refine Step.go ?_; intros) | refine iteB_t (by decide) ?_ | refine iteB_f (by decide) ?_ | (refine Duo.mk (by first | omega | exact rfl | decide) ?_; intros)))
      rename_i r H1 S1
      have E1 : ExtH H0 H1 := Sat.grown
      refine callD_i (proper_ok x) ?_
      rintro _ H2 ⟨E2, b, rfl, hb⟩
      have S2 := Sat.later S1 E2
      clear S1
      have E3 := E1.trans E2
      (repeat (first | (refine Step.go ?_; intros) | refine iteB_t (by decide) ?_ | refine iteB_f (by decide) ?_ | (refine Duo.mk (by first | omega | exact rfl | decide) ?_; intros)))
      refine iteB_i (fun h => ⟨E3, _, rfl, fun h => by cases h⟩) (fun h => ?_)
      have hp := hb (by simpa using h)
      refine F22.L1_step ?_
      unfold F22.L1n
      (repeat (first | (refine Step.go ?_; intros) | refine iteB_t (by decide) ?_ | refine iteB_f (by decide) ?_ | (refine Duo.mk (by first | omega | exact rfl | decide) ?_; intros)))
      refine F22.L2_step ?_
      unfold F22.L2n
      (repeat (first | (refine Step.go ?_; intros) | refine iteB_t (by decide) ?_ | refine iteB_f (by decide) ?_ | (refine Duo.mk (by first | omega | exact rfl | decide) ?_; intros)))
      refine F22.L3_step ?_
      unfold F22.L3n
      refine iteB_f (by decide) ?_
      rw [wr64 (by omega) (by omega), show ((i : Nat) : Int) + 1 = ((i + 1 : Nat) : Int) by omega]
      refine ih (i + 1) H2 (by omega) E3 fun j y hj hlt => ?_
      by_cases hji : j = i
      · subst hji; rw [hxi] at hj; cases hj; exact hp
      · exact h1 j y hj (by omega)
  exact loop xs.length 0 H0 (by omega) (ExtH.refl H0) (fun j x _ h => by omega)
end
end Go.Proofs.YtobolifgehagfaaGreat

set_option linter.unusedVariables false
set_option linter.unusedSimpArgs false
set_option linter.unnecessarySimpa false
namespace Go.Proofs.YtobolifgehagfaaGreat
open Go Go.Den Go.Proofs
section
variable {H H0 : Heap} {l : List HP} {xs : List Wa} {kd : Int} {qk : ByteArray} {ep : Option Addr} {en ec : Nat} {evs : List EV} {p : Option Addr} {n c : Nat}
theorem grAfter_ok (hk : kd = 4 ∨ kd = 7) (hR : RowsAt Wa.cells 5 H0 p xs) (hE : RowsAt EV.cells 7 H0 ep evs) (hen : evs.length = en) (hn : xs.length = n) (hb : n ≤ 2147483647) :
    CallsH Tryz.prog 14 ⟨[.slice p n c, .agg ⟨askC kd qk ep en ec⟩]⟩ H0 (fun e' H1 => ∃ q qc b, e' = .returned (.tuple ⟨[.slice q (n + 1) qc, .bool b]⟩) ∧ (b = true → Good xs kd qk evs) ∧ Sat H1 [sl idC 30 10 q (n + 1) qc (opsL xs kd qk ep en ec), old H0]) := by
  refine F14.calls ?_
  unfold F14.go
  have S := Sat.start H0
  refine Step.go ?_
  intro o H1 S1
  clear S
  have loop : ∀ (k i : Nat) (q : Option Addr) (qc : Nat) (H : Heap), i + k = n → Sat H [sl idC 30 10 q i qc ((xs.take i).map addC), pt o (.cells ⟨askC kd qk ep en ec⟩ 30), old H0] →
      F14.L0 o q i qc p n c (n : Nat) (i : Nat) H (fun e' H1 => ∃ q qc b, e' = .returned (.tuple ⟨[.slice q (n + 1) qc, .bool b]⟩) ∧ (b = true → Good xs kd qk evs) ∧ Sat H1 [sl idC 30 10 q (n + 1) qc (opsL xs kd qk ep en ec), old H0]) := by
    intro k
    induction k with
    | zero =>
      intro i q qc H hi S
      obtain rfl : i = n := by omega
      refine F14.L0_step ?_
      unfold F14.L0n
      refine iteB_f (decide_eq_false (by omega)) ?_
      (repeat (first | (refine Step.go ?_; intros) | refine iteB_t (by decide) ?_ | refine iteB_f (by decide) ?_ | (refine Duo.mk (by first | omega | exact rfl | decide) ?_; intros)))
      rename_i r H2 S2
      clear S
      have S3 : Sat H2 [sl idC 30 10 q i qc ((xs.take i).map addC), pt r (.cells ⟨askC kd qk ep en ec⟩ 30), old H0] := by
        refine S2.to ?_
        iterate 2 (apply Ent.pick; (focus (repeat (first | exact Sel.here | apply Sel.there))))
        exact Ent.drop .refl
      clear S2
      refine S3.slApp (ys := [askC kd qk ep en ec]) (q := some ⟨r, 0, none⟩) (d := 1) ?_ rfl (by simp) (by simp [isCell]) rfl (by decide) (by omega) fun q2 c2 H5 S6 => ?_
      · simp only [List.flatMap_cons, List.flatMap_nil, List.append_nil]
        exact cellsAt_one (S3.at_ (List.mem_cons_of_mem _ (List.mem_cons_self ..)))
      clear S3
      rw [← hn, List.take_length, hn] at S6
      have S7 : Sat H5 [sl idC 30 10 q2 (i + 1) c2 (opsL xs kd qk ep en ec), old H0] := by
        refine S6.to ?_
        iterate 1 (apply Ent.pick; (focus (repeat (first | exact Sel.here | apply Sel.there))))
        exact Ent.drop .refl
      clear S6
      have E5 : ExtH H0 H5 := S7.old (by simp)
      refine callD_i (good_ok (xs := xs) (kd := kd) (qk := qk) (ep := ep) (en := en) (ec := ec) (evs := evs) hk (S7.rowsAt (E := 30) (n := i + 1) (k := c2) (by simp)) (hE.ext E5) hen (by omega)) ?_
      rintro _ H6 ⟨E6, b, rfl, hgood⟩
      (repeat (first | (refine Step.go ?_; intros) | refine iteB_t (by decide) ?_ | refine iteB_f (by decide) ?_ | (refine Duo.mk (by first | omega | exact rfl | decide) ?_; intros)))
      exact ⟨q2, c2, b, rfl, hgood, Sat.later S7 E6⟩
    | succ k ih =>
      intro i q qc H hi S
      obtain ⟨x, hxi⟩ : ∃ x, xs[i]? = some x := get_of (by omega)
      have hI := HasI.nat hxi
      have R0 : RowsC H0 p Wa.cells 5 xs := ⟨hR⟩
      refine F14.L0_step ?_
      unfold F14.L0n
      refine iteB_t (decide_eq_true (by omega)) ?_
      refine R0.idx hn ⟨by omega, by omega, ?_⟩
      intro a ha
      subst ha
      (repeat (first | (refine Step.go ?_; intros) | refine iteB_t (by decide) ?_ | refine iteB_f (by decide) ?_ | (refine Duo.mk (by first | omega | exact rfl | decide) ?_; intros)))
      rename_i r H2 S2
      clear S
      have S3 : Sat H2 [sl idC 30 10 q i qc ((xs.take i).map addC), pt r (.cells ⟨addC x⟩ 30), pt o (.cells ⟨askC kd qk ep en ec⟩ 30), old H0] := by
        refine S2.to ?_
        iterate 3 (apply Ent.pick; (focus (repeat (first | exact Sel.here | apply Sel.there))))
        exact Ent.drop .refl
      clear S2
      refine S3.slApp (ys := [addC x]) (q := some ⟨r, 0, none⟩) (d := 1) ?_ rfl (by simp) (by simp [isCell]) rfl (by decide) (by omega) fun q2 c2 H5 S6 => ?_
      · simp only [List.flatMap_cons, List.flatMap_nil, List.append_nil]
        exact cellsAt_one (S3.at_ (List.mem_cons_of_mem _ (List.mem_cons_self ..)))
      clear S3
      rw [wr64 (by omega) (by omega), show ((i : Nat) : Int) + 1 = ((i + 1 : Nat) : Int) by omega]
      have e : (xs.take i).map addC ++ [addC x] = (xs.take (i + 1)).map addC := by rw [List.take_add_one, hxi]; simp
      rw [e] at S6
      refine ih (i + 1) q2 c2 H5 (by omega) (S6.to ?_)
      iterate 1 (apply Ent.pick; (focus (repeat (first | exact Sel.here | apply Sel.there))))
      exact Ent.drop .refl
  refine loop n 0 none 0 H1 (by omega) (S1.to (Ent.slNil Ent.refl))
end
end Go.Proofs.YtobolifgehagfaaGreat

set_option linter.unusedVariables false
set_option linter.unusedSimpArgs false
set_option linter.unnecessarySimpa false
namespace Go.Proofs.YtobolifgehagfaaGreat
open Go Go.Den Go.Proofs
abbrev crO (q : Option Addr) (n c : Nat) : Obj := .cells ⟨[.slice q n c]⟩ 51
abbrev gwL (q : Option Addr) (n c : Nat) (C : List Wa) : HP := sl Wa.cells 28 5 q n c C
structure FindP (C : List Wa) (id : Int) (i : Nat) : Prop where
  le : i ≤ C.length
  lo : ∀ (j : Nat) (x : Wa), j < i → C[j]? = some x → x.id < id
  hi : ∀ (x : Wa), C[i]? = some x → id ≤ x.id
def IdS (C : List Wa) : Prop := C.Pairwise fun a b => a.id < b.id
theorem FindP.up {C : List Wa} {id : Int} {i : Nat} (h : FindP C id i) (hs : IdS C) {j : Nat} {x : Wa} (hj : i ≤ j) (hx : C[j]? = some x) : id ≤ x.id := by
  have hlt : i < C.length := by have := lt_of hx; omega
  have h1 : C[i]? = some C[i] := List.getElem?_eq_getElem hlt
  have h2 := h.hi _ h1
  by_cases e : i = j
  · subst e; rw [h1] at hx; cases hx; exact h2
  · obtain ⟨hjl, rfl⟩ := List.getElem?_eq_some_iff.1 hx
    have := List.pairwise_iff_getElem.1 hs i j hlt hjl (by omega)
    omega
section
variable {H H0 : Heap} {l : List HP} {w : Nat} {q : Option Addr} {n c : Nat} {C : List Wa} {id : Int}
theorem find2_ok (hn : n ≤ 1000000) (S : Sat H (pt w (crO q n c) :: gwL q n c C :: l)) : CallsH Tryz.prog 25 ⟨[pA w, .int .i64 id]⟩ H (fun e H1 => ∃ i b, e = .returned (.tuple ⟨[.int .i64 ((i : Nat) : Int), .bool b]⟩) ∧ FindP C id i ∧ (b = true ↔ ∃ x, C[i]? = some x ∧ x.id = id) ∧ H1 = H) := by
  have hlen := (Sat.slLen S (.tail _ (.head _))).1
  refine F25.calls ?_
  unfold F25.go
  have fin : ∀ i, FindP C id i → F25.L1 (some (aA w)) id (i : Nat) H (fun e H1 => ∃ i b, e = .returned (.tuple ⟨[.int .i64 ((i : Nat) : Int), .bool b]⟩) ∧ FindP C id i ∧ (b = true ↔ ∃ x, C[i]? = some x ∧ x.id = id) ∧ H1 = H) := by
    intro i hi
    refine F25.L1_step ?_
    unfold F25.L1n
    (iterate 2 (refine Step.go ?_; intros))
    by_cases hlt : i < n
    · refine iteB_t (decide_eq_true (by omega)) ?_
      obtain ⟨x, hx⟩ : ∃ x, C[i]? = some x := get_of (by omega)
      have hI := HasI.nat hx
      obtain ⟨ra, oa, rfl⟩ := S.slSome (f := Wa.cells) (E := 28) (z := 5) (p := q) (n := n) (c := c) (xs := C) (by simp) (by omega)
      (repeat (first | (refine Step.go ?_; intros) | refine iteB_t (by decide) ?_ | refine iteB_f (by decide) ?_ | (refine Duo.mk (by first | omega | exact rfl | decide) ?_; intros)))
      refine ⟨i, _, rfl, hi, ?_, rfl⟩
      constructor
      · intro h
        exact ⟨x, hx, eq_of_beq h⟩
      · rintro ⟨y, hy, h⟩
        rw [hx] at hy; cases hy
        simp [h]
    · refine iteB_f (decide_eq_false (by omega)) ?_
      refine ⟨i, false, rfl, hi, ?_, rfl⟩
      constructor
      · intro h; cases h
      · rintro ⟨y, hy, h⟩
        have := lt_of hy
        omega
  have loop : ∀ (k i : Nat), i + k = n → (∀ (j : Nat) (x : Wa), j < i → C[j]? = some x → x.id < id) → F25.L0 (some (aA w)) id (i : Nat) H (fun e H1 => ∃ i b, e = .returned (.tuple ⟨[.int .i64 ((i : Nat) : Int), .bool b]⟩) ∧ FindP C id i ∧ (b = true ↔ ∃ x, C[i]? = some x ∧ x.id = id) ∧ H1 = H) := by
    intro k
    induction k with
    | zero =>
      intro i hi hlo
      refine F25.L0_step ?_
      unfold F25.L0n
      (iterate 2 (refine Step.go ?_; intros))
      refine iteB_f (decide_eq_false (by omega)) ?_
      exact fin i ⟨by omega, hlo, fun x hx => by have := lt_of hx; omega⟩
    | succ k ih =>
      intro i hi hlo
      obtain ⟨x, hx⟩ : ∃ x, C[i]? = some x := get_of (by omega)
      have hI := HasI.nat hx
      obtain ⟨ra, oa, rfl⟩ := S.slSome (f := Wa.cells) (E := 28) (z := 5) (p := q) (n := n) (c := c) (xs := C) (by simp) (by omega)
      refine F25.L0_step ?_
      unfold F25.L0n
      (iterate 2 (refine Step.go ?_; intros))
      refine iteB_t (decide_eq_true (by omega)) ?_
      (repeat (first | (refine Step.go ?_; intros) | refine iteB_t (by decide) ?_ | refine iteB_f (by decide) ?_ | (refine Duo.mk (by first | omega | exact rfl | decide) ?_; intros)))
      refine iteB_i (fun h => ?_) (fun h => ?_)
      · have h := of_decide_eq_true h
        refine F25.L2_step ?_
        unfold F25.L2n
        rw [wr64 (by omega) (by omega), show ((i : Nat) : Int) + 1 = ((i + 1 : Nat) : Int) by omega]
        refine ih (i + 1) (by omega) fun j y hj hy => ?_
        by_cases e : j = i
        · subst e; rw [hx] at hy; cases hy; exact h
        · exact hlo j y (by omega) hy
      · have h := of_decide_eq_false h
        exact fin i ⟨by omega, hlo, fun y hy => by rw [hx] at hy; cases hy; omega⟩
  exact loop n 0 (by omega) (fun j x h => by omega)
theorem within_ok {x : Wa} {k : ByteArray} : CallsH Tryz.prog 49 ⟨[.string k, .string x.key, .string x.e, .bool x.he]⟩ H (Gives (.bool (seesW x k)) H) := by
  refine F49.calls ?_
  unfold F49.go seesW
  refine iteB_i (fun h => ?_) (fun h => ?_)
  · have h : x.he = false := by simpa using h
    rw [if_neg (by rw [h]; simp)]
    exact ⟨rfl, ExtH.refl _⟩
  · have h : x.he = true := by simpa using h
    rw [if_pos h, eqS_nil]
    refine iteB_i (fun h1 => ?_) (fun h1 => ?_)
    · rw [h1]; simp only [Bool.true_or, Bool.and_true]
      exact ⟨rfl, ExtH.refl _⟩
    · rw [h1]; simp only [Bool.false_or]
      refine iteB_i (fun h2 => ?_) (fun h2 => ?_)
      · rw [h2]; simp only [Bool.true_and]
        exact ⟨rfl, ExtH.refl _⟩
      · rw [h2]; simp only [Bool.false_and]
        exact ⟨rfl, ExtH.refl _⟩
theorem sees_ok {x : Wa} {k : ByteArray} : CallsH Tryz.prog 26 ⟨[.agg ⟨x.cells⟩, .string k]⟩ H (Gives (.bool (seesW x k)) H) := by
  have S := Sat.start H
  refine F26.calls ?_
  unfold F26.go
  (repeat (first | (refine Step.go ?_; intros) | refine iteB_t (by decide) ?_ | refine iteB_f (by decide) ?_ | (refine Duo.mk (by first | omega | exact rfl | decide) ?_; intros)))
  rename_i r H1 S1
  refine gives_i S1 within_ok fun H2 E2 S2 => ?_
  clear S1 S
  (repeat (first | (refine Step.go ?_; intros) | refine iteB_t (by decide) ?_ | refine iteB_f (by decide) ?_ | (refine Duo.mk (by first | omega | exact rfl | decide) ?_; intros)))
  exact ⟨rfl, Sat.grown⟩
end
end Go.Proofs.YtobolifgehagfaaGreat

set_option linter.unusedVariables false
set_option linter.unusedSimpArgs false
set_option linter.unnecessarySimpa false
namespace Go.Proofs.YtobolifgehagfaaGreat
open Go Go.Den Go.Proofs
section
variable {H H0 : Heap} {l : List HP} {w : Nat} {q : Option Addr} {n c : Nat} {C : List Wa} {k : ByteArray}
abbrev anO (b : Bool) (i : Int) (q : Option Addr) (qn qc : Nat) : Obj := .cells ⟨[.bool b, .int .i64 i, .slice q qn qc, .slice none 0 0]⟩ 55
end
end Go.Proofs.YtobolifgehagfaaGreat

set_option linter.unusedVariables false
set_option linter.unusedSimpArgs false
set_option linter.unnecessarySimpa false
namespace Go.Proofs.YtobolifgehagfaaGreat
open Go Go.Den Go.Proofs
section
variable {α : Type} {f : α → List Value} {E : TypeId} {z n c : Nat} {p : Option Addr} {xs : List α} {H : Heap} {l m : List HP}
theorem slCells {h : PH} (a : sl f E z p n c xs h) (hs : PH.sub h (PH.of H)) {i : Nat} (hi : i ≤ n) : cellsAt H (slP p i c z) ((xs.drop i).flatMap f) := by
  obtain ⟨a1, a2, a3, a4⟩ := a
  intro j v hj
  rcases a4 with ⟨rfl, rfl⟩ | ⟨r, pre, sp, rfl, hl, hb⟩
  · have : xs = [] := List.eq_nil_of_length_eq_zero (by omega)
    subst this
    simp at hj
  · by_cases hc : c = i
    · have : xs.drop i = [] := List.drop_eq_nil_of_le (by omega)
      rw [this] at hj
      simp at hj
    · refine ⟨_, by unfold slP; rw [if_neg hc]; rfl, ?_⟩
      show hcell H (((⟨r, pre.length, none⟩ : Addr).add (i * z)).add j) = some v
      rw [add_mk, add_mk]
      refine hcell_of (hs _ _ hb) ?_
      rw [← flat_drop a2, List.getElem?_drop] at hj
      rw [List.append_assoc, List.getElem?_append_right (by omega)]
      rw [show pre.length + i * z + j - pre.length = i * z + j by omega]
      rw [List.getElem?_append_left (lt_of hj)]
      exact hj
theorem slCells_of (S : Sat H l) (hm : sl f E z p n c xs ∈ l) {i : Nat} (hi : i ≤ n) : cellsAt H (slP p i c z) ((xs.drop i).flatMap f) := by
  obtain ⟨h, a, hs⟩ := S.mem hm
  exact slCells a hs hi
end
theorem cells_take {α : Type} {f : α → List Value} {H : Heap} {p : Option Addr} {xs : List α} {i : Nat} (h : cellsAt H p (xs.flatMap f)) : cellsAt H p ((xs.take i).flatMap f) := by
  intro j v hj
  refine h j v ?_
  have e : xs.flatMap f = (xs.take i).flatMap f ++ (xs.drop i).flatMap f := by rw [← List.flatMap_append, List.take_append_drop]
  rw [e, List.getElem?_append_left (lt_of hj)]
  exact hj
abbrev gwZ : List Value := [.int .i64 (0 : Int), .string (ByteArray.mk #[]), .string (ByteArray.mk #[]), .bool false, .int .i64 (0 : Int)]
theorem gw_isC (y : Wa) : ∀ v ∈ Wa.cells y, isCell v = true := by
  intro v hv
  simp only [Wa.cells, List.mem_cons, List.not_mem_nil, or_false] at hv
  rcases hv with rfl | rfl | rfl | rfl | rfl <;> rfl
section
variable {H : Heap} {m m1 m2 : List HP} {C A : List Wa} {q : Option Addr} {n c i r : Nat} {K : Option Addr → Nat → Nat → Heap → Prop}
theorem ap0 (S : Sat H m) (s : Sel (pt r (.cells ⟨[]⟩ 28)) m m1) (hm : gwL q n c C ∈ m) (hi : i ≤ C.length) (hlen : C.length = n) (hn : n ≤ 100000)
    (next : ∀ p' c' H1, Sat H1 (gwL p' i c' (C.take i) :: m1) → K p' i c' H1) : apD H 5 56 gwZ 28 (some ⟨r, 0, none⟩) 0 0 (slP q 0 c 5) (Int.toNat ((i : Nat) : Int)) K := by
  rw [Int.toNat_natCast]
  have hc := slCells_of (i := 0) S hm (by omega)
  rw [List.drop_zero] at hc
  have T : Sat H (gwL (some ⟨r, 0, none⟩) 0 0 [] :: m1) := (S.bring s).to (Ent.slClose (f := Wa.cells) (pre := []) (xs := []) (sp := []) rfl (by simp) (Nat.le_refl _) rfl (by simp))
  refine T.slApp (ys := C.take i) (d := i) (cells_take hc) (by simp; omega) (fun _ _ => rfl) ?_ rfl (by decide) (by omega) ?_
  · intro v hv
    obtain ⟨y, _, hv⟩ := List.mem_flatMap.1 hv
    exact gw_isC y v hv
  intro p1 c1 H4 S4
  rw [Nat.zero_add, List.nil_append] at S4
  rw [Nat.zero_add]
  exact next p1 c1 H4 S4
theorem ap1 {x : Wa} {k c1 r1 : Nat} {p1 : Option Addr} (S : Sat H m) (s1 : Sel (gwL p1 k c1 A) m m1) (s : Sel (pt r1 (.cells ⟨Wa.cells x⟩ 28)) m1 m2) (hk : k ≤ 100000)
    (next : ∀ p' c' H1, Sat H1 (gwL p' (k + 1) c' (A ++ [x]) :: m2) → K p' (k + 1) c' H1) : apD H 5 56 gwZ 28 p1 k c1 (some ⟨r1, 0, none⟩) 1 K := by
  have S4 := (S.bring s1).to (Ent.cons (Ent.bring s))
  refine S4.slApp (ys := [x]) (d := 1) ?_ rfl (by simp) (by simp [isCell]) rfl (by decide) (by omega) (fun p' c' H1 S1 => next p' c' H1 (S1.to (Ent.cons (Ent.drop .refl))))
  simp only [List.flatMap_cons, List.flatMap_nil, List.append_nil]
  exact cellsAt_one (S4.at_ (List.mem_cons_of_mem _ (List.mem_cons_self ..)))
theorem ap2 {k c1 : Nat} {p1 : Option Addr} (S : Sat H m) (s1 : Sel (gwL p1 k c1 A) m m1) (hm : gwL q n c C ∈ m) (hi : i ≤ C.length) (hlen : C.length = n) (hk : k ≤ 100000 ∧ n ≤ 100000)
    (next : ∀ p' c' H1, Sat H1 (gwL p' (k + (n - i)) c' (A ++ C.drop i) :: m1) → K p' (k + (n - i)) c' H1) : apD H 5 56 gwZ 28 p1 k c1 (slP q (Int.toNat ((i : Nat) : Int)) c 5) (n - Int.toNat ((i : Nat) : Int)) K := by
  rw [Int.toNat_natCast]
  refine (S.bring s1).slApp (ys := C.drop i) (d := n - i) (slCells_of S hm (by omega)) (by simp; omega) (fun _ _ => rfl) ?_ rfl (by decide) (by omega) next
  intro v hv
  obtain ⟨y, _, hv⟩ := List.mem_flatMap.1 hv
  exact gw_isC y v hv
end
structure CrI (C L : List Wa) : Prop where
  perm : C.Perm L
  srt : IdS C
theorem CrI.add {C L : List Wa} {x : Wa} {i : Nat} (h : CrI C L) (f : FindP C x.id i) (hn : ¬ ∃ y, C[i]? = some y ∧ y.id = x.id) : CrI (C.take i ++ [x] ++ C.drop i) (addW L x) := by
  have hni : x.id ∉ L.map (·.id) := by
    intro hm
    obtain ⟨y, hy, e⟩ := List.mem_map.1 hm
    obtain ⟨j, hj⟩ := List.getElem?_of_mem (h.perm.mem_iff.2 hy)
    by_cases hlt : j < i
    · have := f.lo j y hlt hj; omega
    · by_cases he : j = i
      · subst he; exact hn ⟨y, hj, e⟩
      · have hil : i < C.length := by have := lt_of hj; omega
        have h1 : C[i]? = some C[i] := List.getElem?_eq_getElem hil
        obtain ⟨hjl, rfl⟩ := List.getElem?_eq_some_iff.1 hj
        have h2 := List.pairwise_iff_getElem.1 h.srt i j hil hjl (by omega)
        have h3 := f.hi _ h1
        omega
  refine ⟨?_, ?_⟩
  · unfold addW
    rw [if_neg hni]
    have e : (C.take i ++ [x] ++ C.drop i).Perm (C.take i ++ C.drop i ++ [x]) := by
      rw [List.append_assoc, List.append_assoc]
      exact List.Perm.append_left _ List.perm_append_comm
    rw [List.take_append_drop] at e
    exact e.trans (List.Perm.append_right _ h.perm)
  · unfold IdS
    have hs := h.srt
    unfold IdS at hs
    rw [← List.take_append_drop i C, List.pairwise_append] at hs
    obtain ⟨s1, s2, s3⟩ := hs
    have lo : ∀ y ∈ C.take i, y.id < x.id := by
      intro y hy
      obtain ⟨j, hj⟩ := List.getElem?_of_mem hy
      rw [List.getElem?_take] at hj
      split at hj
      · rename_i hlt
        exact f.lo j y hlt hj
      · cases hj
    have up : ∀ y ∈ C.drop i, x.id < y.id := by
      intro y hy
      obtain ⟨j, hj⟩ := List.getElem?_of_mem hy
      rw [List.getElem?_drop] at hj
      have h1 := f.up h.srt (by omega) hj
      by_cases e : y.id = x.id
      · exfalso
        by_cases h0 : j = 0
        · subst h0; exact hn ⟨y, hj, e⟩
        · have hil : i < C.length := by have := lt_of hj; omega
          have h2 : C[i]? = some C[i] := List.getElem?_eq_getElem hil
          obtain ⟨hjl, rfl⟩ := List.getElem?_eq_some_iff.1 hj
          have h3 := List.pairwise_iff_getElem.1 h.srt i (i + j) hil hjl (by omega)
          have h4 := f.hi _ h2
          omega
      · omega
    rw [List.pairwise_append, List.pairwise_append]
    refine ⟨⟨s1, List.pairwise_singleton .., ?_⟩, s2, ?_⟩
    · intro a ha b hb
      simp only [List.mem_singleton] at hb
      subst hb; exact lo a ha
    · intro a ha b hb
      rcases List.mem_append.1 ha with ha | ha
      · exact s3 a ha b hb
      · simp only [List.mem_singleton] at ha
        subst ha; exact up b hb
theorem CrI.same {C L : List Wa} {x : Wa} {i : Nat} (h : CrI C L) (hn : ∃ y, C[i]? = some y ∧ y.id = x.id) : CrI C (addW L x) := by
  obtain ⟨y, hy, e⟩ := hn
  have hm : x.id ∈ L.map (·.id) := List.mem_map.2 ⟨y, h.perm.mem_iff.1 (List.mem_of_getElem? hy), e⟩
  unfold addW
  rw [if_pos hm]
  exact h
section
variable {H H0 : Heap} {l : List HP} {w : Nat} {q : Option Addr} {n c : Nat} {C L : List Wa} {x : Wa}
def CrAt (w : Nat) (L : List Wa) (l : List HP) (H : Heap) : Prop := ∃ q n c C, CrI C L ∧ C.length = n ∧ Sat H (pt w (crO q n c) :: gwL q n c C :: l)
theorem doAdd_ok (hC : CrI C L) (hn : n < 500) (S : Sat H (pt w (crO q n c) :: gwL q n c C :: l)) :
    CallsH Tryz.prog 16 ⟨[pA w, .agg ⟨addC x⟩]⟩ H (fun e H1 => (∃ a, e = .returned (.agg ⟨AR.cells a⟩)) ∧ CrAt w (addW L x) l H1) := by
  have hlen := (Sat.slLen S (.tail _ (.head _))).1
  have hnc := (Sat.slLen S (.tail _ (.head _))).2
  refine F16.calls ?_
  unfold F16.go
  (repeat (first | (refine Step.go ?_; intros) | refine iteB_t (by decide) ?_ | refine iteB_f (by decide) ?_ | (refine Duo.mk (by first | omega | exact rfl | decide) ?_; intros)))
  rename_i r H1 S1 r1 H2 S2
  have S3 : Sat H2 (pt w (crO q n c) :: gwL q n c C :: pt r (.cells ⟨addC x⟩ 30) :: pt r1 (anO false 0 none 0 0) :: l) := by
    refine S2.to ?_
    iterate 4 (apply Ent.pick; (focus (repeat (first | exact Sel.here | apply Sel.there))))
    exact Ent.refl
  clear S S1 S2
  refine callD_i (find2_ok (id := x.id) (by omega) S3) ?_
  rintro _ H3 ⟨i, b, rfl, hi, hb, rfl⟩
  (repeat (first | (refine Step.go ?_; intros) | refine iteB_t (by decide) ?_ | refine iteB_f (by decide) ?_ | (refine Duo.mk (by first | omega | exact rfl | decide) ?_; intros)))
  rename_i r2 H4 S4
  clear S3
  refine iteB_i (fun h => ?_) (fun h => ?_)
  · (repeat (first | (refine Step.go ?_; intros) | refine iteB_t (by decide) ?_ | refine iteB_f (by decide) ?_ | (refine Duo.mk (by first | omega | exact rfl | decide) ?_; intros)))
    have SE := ‹Sat _ (_ :: _)›
    refine ⟨⟨⟨false, 0, none, 0, 0, none, 0, 0⟩, rfl⟩, q, n, c, C, hC.same (hb.1 h), hlen, SE.to ?_⟩
    iterate 2 (apply Ent.pick; (focus (repeat (first | exact Sel.here | apply Sel.there))))
    exact Ent.drop (Ent.drop (Ent.drop .refl))
  have hnb : ¬ ∃ y, C[i]? = some y ∧ y.id = x.id := by
    intro h1
    rw [hb.2 h1] at h; cases h
  (repeat (first | (refine Step.go ?_; intros) | refine iteB_t (by decide) ?_ | refine iteB_f (by decide) ?_ | (refine Duo.mk (by first | omega | exact rfl | decide) ?_; intros)))
  refine iteB_f (decide_eq_false (by omega)) ?_
  have done : ∀ (p3 : Option Addr) (c3 : Nat) (HC : Heap) (a : AR), Sat HC (pt w (crO p3 (i + 1 + (n - i)) c3) :: gwL p3 (i + 1 + (n - i)) c3 (C.take i ++ [x] ++ C.drop i) :: l) → (∃ a', Ending.returned (.agg ⟨AR.cells a⟩) = .returned (.agg ⟨AR.cells a'⟩)) ∧ CrAt w (addW L x) l HC := by
    intro p3 c3 HC a S
    have hle := hi.le
    exact ⟨⟨a, rfl⟩, p3, _, c3, _, hC.add hi hnb, by simp; omega, S⟩
  have tailE : ∀ {X Y Z U : HP}, Ent (X :: Y :: Z :: U :: l) l := fun {X Y Z U} => Ent.drop (Ent.drop (Ent.drop (Ent.drop .refl)))
  have hle := hi.le
  refine F16.L6_step ?_
  unfold F16.L6n
  refine ⟨?_, ?_, ?_, ?_, ?_, ?_, ?_, ?_, ?_, ?_, ?_, ?_⟩
  · (repeat (first | (refine Step.go ?_; intros) | refine iteB_t (by decide) ?_ | refine iteB_f (by decide) ?_ | (refine Duo.mk (by first | omega | exact rfl | decide) ?_; intros)))
    have SX0 := ‹Sat _ (_ :: _)›
    refine ap0 SX0 (by (repeat (first | exact Sel.here | apply Sel.there))) (by simp) hi.le hlen (by omega) ?_
    intro p1 c1 HA SA
    (repeat (first | (refine Step.go ?_; intros) | refine iteB_t (by decide) ?_ | refine iteB_f (by decide) ?_ | (refine Duo.mk (by first | omega | exact rfl | decide) ?_; intros)))
    have SX1 := ‹Sat _ (_ :: _)›
    refine ap1 SX1 (by (repeat (first | exact Sel.here | apply Sel.there))) (by (repeat (first | exact Sel.here | apply Sel.there))) (by omega) ?_
    intro p2 c2 HB SB
    (repeat (first | (refine Step.go ?_; intros) | refine iteB_t (by decide) ?_ | refine iteB_f (by decide) ?_ | (refine Duo.mk (by first | omega | exact rfl | decide) ?_; intros)))
    have SX2 := ‹Sat _ (_ :: _)›
    refine ap2 SX2 (by (repeat (first | exact Sel.here | apply Sel.there))) (by simp) hi.le hlen (by omega) ?_
    intro p3 c3 HC SC
    (repeat (first | (refine Step.go ?_; intros) | refine iteB_t (by decide) ?_ | refine iteB_f (by decide) ?_ | (refine Duo.mk (by first | omega | exact rfl | decide) ?_; intros)))
    have SE := ‹Sat _ (_ :: _)›
    refine done p3 c3 _ ⟨true, 0, none, 0, 0, none, 0, 0⟩ (SE.to ?_)
    iterate 2 (apply Ent.pick; (focus (repeat (first | exact Sel.here | apply Sel.there))))
    exact tailE
  · (repeat (first | (refine Step.go ?_; intros) | refine iteB_t (by decide) ?_ | refine iteB_f (by decide) ?_ | (refine Duo.mk (by first | omega | exact rfl | decide) ?_; intros)))
    have SX0 := ‹Sat _ (_ :: _)›
    refine ap0 SX0 (by (repeat (first | exact Sel.here | apply Sel.there))) (by simp) hi.le hlen (by omega) ?_
    intro p1 c1 HA SA
    (repeat (first | (refine Step.go ?_; intros) | refine iteB_t (by decide) ?_ | refine iteB_f (by decide) ?_ | (refine Duo.mk (by first | omega | exact rfl | decide) ?_; intros)))
    have SX1 := ‹Sat _ (_ :: _)›
    refine ap1 SX1 (by (repeat (first | exact Sel.here | apply Sel.there))) (by (repeat (first | exact Sel.here | apply Sel.there))) (by omega) ?_
    intro p2 c2 HB SB
    (repeat (first | (refine Step.go ?_; intros) | refine iteB_t (by decide) ?_ | refine iteB_f (by decide) ?_ | (refine Duo.mk (by first | omega | exact rfl | decide) ?_; intros)))
    have SX2 := ‹Sat _ (_ :: _)›
    refine ap2 SX2 (by (repeat (first | exact Sel.here | apply Sel.there))) (by simp) hi.le hlen (by omega) ?_
    intro p3 c3 HC SC
    (repeat (first | (refine Step.go ?_; intros) | refine iteB_t (by decide) ?_ | refine iteB_f (by decide) ?_ | (refine Duo.mk (by first | omega | exact rfl | decide) ?_; intros)))
    have SE := ‹Sat _ (_ :: _)›
    refine done p3 c3 _ ⟨true, 0, none, 0, 0, none, 0, 0⟩ (SE.to ?_)
    iterate 2 (apply Ent.pick; (focus (repeat (first | exact Sel.here | apply Sel.there))))
    exact tailE
  · (repeat (first | (refine Step.go ?_; intros) | refine iteB_t (by decide) ?_ | refine iteB_f (by decide) ?_ | (refine Duo.mk (by first | omega | exact rfl | decide) ?_; intros)))
    have SX0 := ‹Sat _ (_ :: _)›
    refine ap0 SX0 (by (repeat (first | exact Sel.here | apply Sel.there))) (by simp) hi.le hlen (by omega) ?_
    intro p1 c1 HA SA
    (repeat (first | (refine Step.go ?_; intros) | refine iteB_t (by decide) ?_ | refine iteB_f (by decide) ?_ | (refine Duo.mk (by first | omega | exact rfl | decide) ?_; intros)))
    have SX1 := ‹Sat _ (_ :: _)›
    refine ap1 SX1 (by (repeat (first | exact Sel.here | apply Sel.there))) (by (repeat (first | exact Sel.here | apply Sel.there))) (by omega) ?_
    intro p2 c2 HB SB
    (repeat (first | (refine Step.go ?_; intros) | refine iteB_t (by decide) ?_ | refine iteB_f (by decide) ?_ | (refine Duo.mk (by first | omega | exact rfl | decide) ?_; intros)))
    have SX2 := ‹Sat _ (_ :: _)›
    refine ap2 SX2 (by (repeat (first | exact Sel.here | apply Sel.there))) (by simp) hi.le hlen (by omega) ?_
    intro p3 c3 HC SC
    (repeat (first | (refine Step.go ?_; intros) | refine iteB_t (by decide) ?_ | refine iteB_f (by decide) ?_ | (refine Duo.mk (by first | omega | exact rfl | decide) ?_; intros)))
    have SE := ‹Sat _ (_ :: _)›
    refine done p3 c3 _ ⟨true, 0, none, 0, 0, none, 0, 0⟩ (SE.to ?_)
    iterate 2 (apply Ent.pick; (focus (repeat (first | exact Sel.here | apply Sel.there))))
    exact tailE
  · (repeat (first | (refine Step.go ?_; intros) | refine iteB_t (by decide) ?_ | refine iteB_f (by decide) ?_ | (refine Duo.mk (by first | omega | exact rfl | decide) ?_; intros)))
    have SX0 := ‹Sat _ (_ :: _)›
    refine ap0 SX0 (by (repeat (first | exact Sel.here | apply Sel.there))) (by simp) hi.le hlen (by omega) ?_
    intro p1 c1 HA SA
    (repeat (first | (refine Step.go ?_; intros) | refine iteB_t (by decide) ?_ | refine iteB_f (by decide) ?_ | (refine Duo.mk (by first | omega | exact rfl | decide) ?_; intros)))
    have SX1 := ‹Sat _ (_ :: _)›
    refine ap1 SX1 (by (repeat (first | exact Sel.here | apply Sel.there))) (by (repeat (first | exact Sel.here | apply Sel.there))) (by omega) ?_
    intro p2 c2 HB SB
    (repeat (first | (refine Step.go ?_; intros) | refine iteB_t (by decide) ?_ | refine iteB_f (by decide) ?_ | (refine Duo.mk (by first | omega | exact rfl | decide) ?_; intros)))
    have SX2 := ‹Sat _ (_ :: _)›
    refine ap2 SX2 (by (repeat (first | exact Sel.here | apply Sel.there))) (by simp) hi.le hlen (by omega) ?_
    intro p3 c3 HC SC
    (repeat (first | (refine Step.go ?_; intros) | refine iteB_t (by decide) ?_ | refine iteB_f (by decide) ?_ | (refine Duo.mk (by first | omega | exact rfl | decide) ?_; intros)))
    have SE := ‹Sat _ (_ :: _)›
    refine done p3 c3 _ ⟨true, 0, none, 0, 0, none, 0, 0⟩ (SE.to ?_)
    iterate 2 (apply Ent.pick; (focus (repeat (first | exact Sel.here | apply Sel.there))))
    exact tailE
  · (repeat (first | (refine Step.go ?_; intros) | refine iteB_t (by decide) ?_ | refine iteB_f (by decide) ?_ | (refine Duo.mk (by first | omega | exact rfl | decide) ?_; intros)))
    have SX0 := ‹Sat _ (_ :: _)›
    refine ap0 SX0 (by (repeat (first | exact Sel.here | apply Sel.there))) (by simp) hi.le hlen (by omega) ?_
    intro p1 c1 HA SA
    (repeat (first | (refine Step.go ?_; intros) | refine iteB_t (by decide) ?_ | refine iteB_f (by decide) ?_ | (refine Duo.mk (by first | omega | exact rfl | decide) ?_; intros)))
    have SX1 := ‹Sat _ (_ :: _)›
    refine ap1 SX1 (by (repeat (first | exact Sel.here | apply Sel.there))) (by (repeat (first | exact Sel.here | apply Sel.there))) (by omega) ?_
    intro p2 c2 HB SB
    (repeat (first | (refine Step.go ?_; intros) | refine iteB_t (by decide) ?_ | refine iteB_f (by decide) ?_ | (refine Duo.mk (by first | omega | exact rfl | decide) ?_; intros)))
    have SX2 := ‹Sat _ (_ :: _)›
    refine ap2 SX2 (by (repeat (first | exact Sel.here | apply Sel.there))) (by simp) hi.le hlen (by omega) ?_
    intro p3 c3 HC SC
    (repeat (first | (refine Step.go ?_; intros) | refine iteB_t (by decide) ?_ | refine iteB_f (by decide) ?_ | (refine Duo.mk (by first | omega | exact rfl | decide) ?_; intros)))
    have SE := ‹Sat _ (_ :: _)›
    refine done p3 c3 _ ⟨true, 0, none, 0, 0, none, 0, 0⟩ (SE.to ?_)
    iterate 2 (apply Ent.pick; (focus (repeat (first | exact Sel.here | apply Sel.there))))
    exact tailE
  · (repeat (first | (refine Step.go ?_; intros) | refine iteB_t (by decide) ?_ | refine iteB_f (by decide) ?_ | (refine Duo.mk (by first | omega | exact rfl | decide) ?_; intros)))
    have SX0 := ‹Sat _ (_ :: _)›
    refine ap0 SX0 (by (repeat (first | exact Sel.here | apply Sel.there))) (by simp) hi.le hlen (by omega) ?_
    intro p1 c1 HA SA
    (repeat (first | (refine Step.go ?_; intros) | refine iteB_t (by decide) ?_ | refine iteB_f (by decide) ?_ | (refine Duo.mk (by first | omega | exact rfl | decide) ?_; intros)))
    have SX1 := ‹Sat _ (_ :: _)›
    refine ap1 SX1 (by (repeat (first | exact Sel.here | apply Sel.there))) (by (repeat (first | exact Sel.here | apply Sel.there))) (by omega) ?_
    intro p2 c2 HB SB
    (repeat (first | (refine Step.go ?_; intros) | refine iteB_t (by decide) ?_ | refine iteB_f (by decide) ?_ | (refine Duo.mk (by first | omega | exact rfl | decide) ?_; intros)))
    have SX2 := ‹Sat _ (_ :: _)›
    refine ap2 SX2 (by (repeat (first | exact Sel.here | apply Sel.there))) (by simp) hi.le hlen (by omega) ?_
    intro p3 c3 HC SC
    (repeat (first | (refine Step.go ?_; intros) | refine iteB_t (by decide) ?_ | refine iteB_f (by decide) ?_ | (refine Duo.mk (by first | omega | exact rfl | decide) ?_; intros)))
    have SE := ‹Sat _ (_ :: _)›
    refine done p3 c3 _ ⟨true, 0, none, 0, 0, none, 0, 0⟩ (SE.to ?_)
    iterate 2 (apply Ent.pick; (focus (repeat (first | exact Sel.here | apply Sel.there))))
    exact tailE
  · (repeat (first | (refine Step.go ?_; intros) | refine iteB_t (by decide) ?_ | refine iteB_f (by decide) ?_ | (refine Duo.mk (by first | omega | exact rfl | decide) ?_; intros)))
    have SX0 := ‹Sat _ (_ :: _)›
    refine ap0 SX0 (by (repeat (first | exact Sel.here | apply Sel.there))) (by simp) hi.le hlen (by omega) ?_
    intro p1 c1 HA SA
    (repeat (first | (refine Step.go ?_; intros) | refine iteB_t (by decide) ?_ | refine iteB_f (by decide) ?_ | (refine Duo.mk (by first | omega | exact rfl | decide) ?_; intros)))
    have SX1 := ‹Sat _ (_ :: _)›
    refine ap1 SX1 (by (repeat (first | exact Sel.here | apply Sel.there))) (by (repeat (first | exact Sel.here | apply Sel.there))) (by omega) ?_
    intro p2 c2 HB SB
    (repeat (first | (refine Step.go ?_; intros) | refine iteB_t (by decide) ?_ | refine iteB_f (by decide) ?_ | (refine Duo.mk (by first | omega | exact rfl | decide) ?_; intros)))
    have SX2 := ‹Sat _ (_ :: _)›
    refine ap2 SX2 (by (repeat (first | exact Sel.here | apply Sel.there))) (by simp) hi.le hlen (by omega) ?_
    intro p3 c3 HC SC
    (repeat (first | (refine Step.go ?_; intros) | refine iteB_t (by decide) ?_ | refine iteB_f (by decide) ?_ | (refine Duo.mk (by first | omega | exact rfl | decide) ?_; intros)))
    have SE := ‹Sat _ (_ :: _)›
    refine done p3 c3 _ ⟨true, 0, none, 0, 0, none, 0, 0⟩ (SE.to ?_)
    iterate 2 (apply Ent.pick; (focus (repeat (first | exact Sel.here | apply Sel.there))))
    exact tailE
  · (repeat (first | (refine Step.go ?_; intros) | refine iteB_t (by decide) ?_ | refine iteB_f (by decide) ?_ | (refine Duo.mk (by first | omega | exact rfl | decide) ?_; intros)))
    have SX0 := ‹Sat _ (_ :: _)›
    refine ap0 SX0 (by (repeat (first | exact Sel.here | apply Sel.there))) (by simp) hi.le hlen (by omega) ?_
    intro p1 c1 HA SA
    (repeat (first | (refine Step.go ?_; intros) | refine iteB_t (by decide) ?_ | refine iteB_f (by decide) ?_ | (refine Duo.mk (by first | omega | exact rfl | decide) ?_; intros)))
    have SX1 := ‹Sat _ (_ :: _)›
    refine ap1 SX1 (by (repeat (first | exact Sel.here | apply Sel.there))) (by (repeat (first | exact Sel.here | apply Sel.there))) (by omega) ?_
    intro p2 c2 HB SB
    (repeat (first | (refine Step.go ?_; intros) | refine iteB_t (by decide) ?_ | refine iteB_f (by decide) ?_ | (refine Duo.mk (by first | omega | exact rfl | decide) ?_; intros)))
    have SX2 := ‹Sat _ (_ :: _)›
    refine ap2 SX2 (by (repeat (first | exact Sel.here | apply Sel.there))) (by simp) hi.le hlen (by omega) ?_
    intro p3 c3 HC SC
    (repeat (first | (refine Step.go ?_; intros) | refine iteB_t (by decide) ?_ | refine iteB_f (by decide) ?_ | (refine Duo.mk (by first | omega | exact rfl | decide) ?_; intros)))
    have SE := ‹Sat _ (_ :: _)›
    refine done p3 c3 _ ⟨true, 0, none, 0, 0, none, 0, 0⟩ (SE.to ?_)
    iterate 2 (apply Ent.pick; (focus (repeat (first | exact Sel.here | apply Sel.there))))
    exact tailE
  · (repeat (first | (refine Step.go ?_; intros) | refine iteB_t (by decide) ?_ | refine iteB_f (by decide) ?_ | (refine Duo.mk (by first | omega | exact rfl | decide) ?_; intros)))
    have SX0 := ‹Sat _ (_ :: _)›
    refine ap0 SX0 (by (repeat (first | exact Sel.here | apply Sel.there))) (by simp) hi.le hlen (by omega) ?_
    intro p1 c1 HA SA
    (repeat (first | (refine Step.go ?_; intros) | refine iteB_t (by decide) ?_ | refine iteB_f (by decide) ?_ | (refine Duo.mk (by first | omega | exact rfl | decide) ?_; intros)))
    have SX1 := ‹Sat _ (_ :: _)›
    refine ap1 SX1 (by (repeat (first | exact Sel.here | apply Sel.there))) (by (repeat (first | exact Sel.here | apply Sel.there))) (by omega) ?_
    intro p2 c2 HB SB
    (repeat (first | (refine Step.go ?_; intros) | refine iteB_t (by decide) ?_ | refine iteB_f (by decide) ?_ | (refine Duo.mk (by first | omega | exact rfl | decide) ?_; intros)))
    have SX2 := ‹Sat _ (_ :: _)›
    refine ap2 SX2 (by (repeat (first | exact Sel.here | apply Sel.there))) (by simp) hi.le hlen (by omega) ?_
    intro p3 c3 HC SC
    (repeat (first | (refine Step.go ?_; intros) | refine iteB_t (by decide) ?_ | refine iteB_f (by decide) ?_ | (refine Duo.mk (by first | omega | exact rfl | decide) ?_; intros)))
    have SE := ‹Sat _ (_ :: _)›
    refine done p3 c3 _ ⟨true, 0, none, 0, 0, none, 0, 0⟩ (SE.to ?_)
    iterate 2 (apply Ent.pick; (focus (repeat (first | exact Sel.here | apply Sel.there))))
    exact tailE
  · (repeat (first | (refine Step.go ?_; intros) | refine iteB_t (by decide) ?_ | refine iteB_f (by decide) ?_ | (refine Duo.mk (by first | omega | exact rfl | decide) ?_; intros)))
    have SX0 := ‹Sat _ (_ :: _)›
    refine ap0 SX0 (by (repeat (first | exact Sel.here | apply Sel.there))) (by simp) hi.le hlen (by omega) ?_
    intro p1 c1 HA SA
    (repeat (first | (refine Step.go ?_; intros) | refine iteB_t (by decide) ?_ | refine iteB_f (by decide) ?_ | (refine Duo.mk (by first | omega | exact rfl | decide) ?_; intros)))
    have SX1 := ‹Sat _ (_ :: _)›
    refine ap1 SX1 (by (repeat (first | exact Sel.here | apply Sel.there))) (by (repeat (first | exact Sel.here | apply Sel.there))) (by omega) ?_
    intro p2 c2 HB SB
    (repeat (first | (refine Step.go ?_; intros) | refine iteB_t (by decide) ?_ | refine iteB_f (by decide) ?_ | (refine Duo.mk (by first | omega | exact rfl | decide) ?_; intros)))
    have SX2 := ‹Sat _ (_ :: _)›
    refine ap2 SX2 (by (repeat (first | exact Sel.here | apply Sel.there))) (by simp) hi.le hlen (by omega) ?_
    intro p3 c3 HC SC
    (repeat (first | (refine Step.go ?_; intros) | refine iteB_t (by decide) ?_ | refine iteB_f (by decide) ?_ | (refine Duo.mk (by first | omega | exact rfl | decide) ?_; intros)))
    have SE := ‹Sat _ (_ :: _)›
    refine done p3 c3 _ ⟨true, 0, none, 0, 0, none, 0, 0⟩ (SE.to ?_)
    iterate 2 (apply Ent.pick; (focus (repeat (first | exact Sel.here | apply Sel.there))))
    exact tailE
  · (repeat (first | (refine Step.go ?_; intros) | refine iteB_t (by decide) ?_ | refine iteB_f (by decide) ?_ | (refine Duo.mk (by first | omega | exact rfl | decide) ?_; intros)))
    have SX0 := ‹Sat _ (_ :: _)›
    refine ap0 SX0 (by (repeat (first | exact Sel.here | apply Sel.there))) (by simp) hi.le hlen (by omega) ?_
    intro p1 c1 HA SA
    (repeat (first | (refine Step.go ?_; intros) | refine iteB_t (by decide) ?_ | refine iteB_f (by decide) ?_ | (refine Duo.mk (by first | omega | exact rfl | decide) ?_; intros)))
    have SX1 := ‹Sat _ (_ :: _)›
    refine ap1 SX1 (by (repeat (first | exact Sel.here | apply Sel.there))) (by (repeat (first | exact Sel.here | apply Sel.there))) (by omega) ?_
    intro p2 c2 HB SB
    (repeat (first | (refine Step.go ?_; intros) | refine iteB_t (by decide) ?_ | refine iteB_f (by decide) ?_ | (refine Duo.mk (by first | omega | exact rfl | decide) ?_; intros)))
    have SX2 := ‹Sat _ (_ :: _)›
    refine ap2 SX2 (by (repeat (first | exact Sel.here | apply Sel.there))) (by simp) hi.le hlen (by omega) ?_
    intro p3 c3 HC SC
    (repeat (first | (refine Step.go ?_; intros) | refine iteB_t (by decide) ?_ | refine iteB_f (by decide) ?_ | (refine Duo.mk (by first | omega | exact rfl | decide) ?_; intros)))
    have SE := ‹Sat _ (_ :: _)›
    refine done p3 c3 _ ⟨true, 0, none, 0, 0, none, 0, 0⟩ (SE.to ?_)
    iterate 2 (apply Ent.pick; (focus (repeat (first | exact Sel.here | apply Sel.there))))
    exact tailE
  · (repeat (first | (refine Step.go ?_; intros) | refine iteB_t (by decide) ?_ | refine iteB_f (by decide) ?_ | (refine Duo.mk (by first | omega | exact rfl | decide) ?_; intros)))
    have SX0 := ‹Sat _ (_ :: _)›
    refine ap0 SX0 (by (repeat (first | exact Sel.here | apply Sel.there))) (by simp) hi.le hlen (by omega) ?_
    intro p1 c1 HA SA
    (repeat (first | (refine Step.go ?_; intros) | refine iteB_t (by decide) ?_ | refine iteB_f (by decide) ?_ | (refine Duo.mk (by first | omega | exact rfl | decide) ?_; intros)))
    have SX1 := ‹Sat _ (_ :: _)›
    refine ap1 SX1 (by (repeat (first | exact Sel.here | apply Sel.there))) (by (repeat (first | exact Sel.here | apply Sel.there))) (by omega) ?_
    intro p2 c2 HB SB
    (repeat (first | (refine Step.go ?_; intros) | refine iteB_t (by decide) ?_ | refine iteB_f (by decide) ?_ | (refine Duo.mk (by first | omega | exact rfl | decide) ?_; intros)))
    have SX2 := ‹Sat _ (_ :: _)›
    refine ap2 SX2 (by (repeat (first | exact Sel.here | apply Sel.there))) (by simp) hi.le hlen (by omega) ?_
    intro p3 c3 HC SC
    (repeat (first | (refine Step.go ?_; intros) | refine iteB_t (by decide) ?_ | refine iteB_f (by decide) ?_ | (refine Duo.mk (by first | omega | exact rfl | decide) ?_; intros)))
    have SE := ‹Sat _ (_ :: _)›
    refine done p3 c3 _ ⟨true, 0, none, 0, 0, none, 0, 0⟩ (SE.to ?_)
    iterate 2 (apply Ent.pick; (focus (repeat (first | exact Sel.here | apply Sel.there))))
    exact tailE

end
end Go.Proofs.YtobolifgehagfaaGreat
