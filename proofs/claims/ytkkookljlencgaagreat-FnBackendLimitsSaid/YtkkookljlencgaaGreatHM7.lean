/- What functions of this seat do, each proved by a walk; no condition. -/
import Derived.Test.YtkkookljlencgaaGreatHM6
set_option linter.unusedVariables false
set_option linter.unusedSimpArgs false
set_option linter.unnecessarySimpa false
set_option maxRecDepth 100000
namespace Go.Proofs.YtkkookljlencgaaGreat
open Go Go.Den Go.Proofs
/-! What is asked with: whether it fits; the operations that write it. -/
structure KVr where
  k : ByteArray
  v : ByteArray
  a : Int
  b : Int
  c : Int
  d : Int
abbrev KVr.cells (x : KVr) : List Value := [.string x.k, .string x.v, .int .i64 x.a, .int .i64 x.b, .int .i64 x.c, .int .i64 x.d]
abbrev KVr.t (x : KVr) : Txt := (x.k, x.v)
def FitsX (x : KVr) : Prop := x.k.size ≤ 2147483647 ∧ x.v.size ≤ 2147483647
/-- Keys rise, and are not empty; there are at most so many. -/
def OkAt (L : List KVr) (i : Nat) : Prop := ∀ x, L[i]? = some x → i < 300 ∧ x.k.size ≠ 0 ∧ ∀ y, 0 < i → L[i - 1]? = some y → ltS y.k x.k = true
def OkW (L : List KVr) : Prop := ∀ i, OkAt L i
section
variable {H H0 : Heap} {l m : List HP} {g : PH}
theorem fit14 {x : KVr} : CallsH Tryz.prog 10 ⟨[.agg ⟨x.cells⟩]⟩ H0 (fun e H1 => ExtH H0 H1 ∧ ∃ r, e = .returned (.bool r) ∧ (r = true → FitsX x)) := by
  refine F10.calls ?_
  unfold F10.go
  refine newX (Sat.start H0) fun r H1 E1 S1 => ?_
  (repeat (first | (refine Step.go ?_; intros) | refine iteB_t (by decide) ?_ | refine iteB_f (by decide) ?_ | (refine Duo.mk (by first | omega | exact rfl | decide) ?_; intros) | (refine Duo.mk (Clo.mk (by kernel_rfl)) ?_; intros)))
  refine iteB_i (fun h => ?_) (fun h => ?_)
  · exact ⟨E1, false, rfl, fun h => by cases h⟩
  have h1 := of_decide_eq_false h
  (repeat (first | (refine Step.go ?_; intros) | refine iteB_t (by decide) ?_ | refine iteB_f (by decide) ?_ | (refine Duo.mk (by first | omega | exact rfl | decide) ?_; intros) | (refine Duo.mk (Clo.mk (by kernel_rfl)) ?_; intros)))
  refine iteB_i (fun h => ?_) (fun h => ?_)
  · exact ⟨E1, false, rfl, fun h => by cases h⟩
  have h2 := of_decide_eq_false h
  exact ⟨E1, true, rfl, fun _ => ⟨by omega, by omega⟩⟩
theorem fit13 {L : List KVr} {p : Option Addr} {n c : Nat} (hR : RowsAt KVr.cells 6 H0 p L) (hn : L.length = n) : CallsH Tryz.prog 4 ⟨[.slice p n c]⟩ H0 (fun e H1 => ExtH H0 H1 ∧ ∃ r, e = .returned (.bool r) ∧ (r = true → n ≤ 2147483647 ∧ ∀ x ∈ L, FitsX x)) := by
  refine F4.calls ?_
  unfold F4.go
  have R0 : RowsC H0 p KVr.cells 6 L := ⟨hR⟩
  refine iteB_i (fun h => ?_) (fun h => ?_)
  · exact ⟨ExtH.refl H0, false, rfl, fun h => by cases h⟩
  have hn2 : n ≤ 2147483647 := by have := of_decide_eq_false h; omega
  have loop : ∀ (j i : Nat) (H : Heap), i + j = n → Sat H [old H0] → (∀ k x, k < i → L[k]? = some x → FitsX x) → F4.L0 p n c (n : Int) (i : Int) H (fun e H1 => ExtH H0 H1 ∧ ∃ r, e = .returned (.bool r) ∧ (r = true → n ≤ 2147483647 ∧ ∀ x ∈ L, FitsX x)) := by
    intro j
    induction j with
    | zero =>
      intro i H hi S hk
      refine F4.L0_step ?_
      unfold F4.L0n
      refine iteB_f (decide_eq_false (by omega)) ?_
      refine ⟨S.old (by simp), true, rfl, fun _ => ⟨hn2, fun x hx => ?_⟩⟩
      obtain ⟨k, hk1⟩ := List.getElem?_of_mem hx
      exact hk k x (by have := lt_of hk1; omega) hk1
    | succ j ih =>
      intro i H hi S hk
      obtain ⟨x, hx⟩ : ∃ x, L[i]? = some x := get_of (by omega)
      have hI := HasI.nat hx
      refine F4.L0_step ?_
      unfold F4.L0n
      refine iteB_t (decide_eq_true (by omega)) ?_
      refine R0.idx hn ⟨by omega, by omega, ?_⟩
      intro a ha
      subst ha
      (repeat (first | (refine Step.go ?_; intros) | refine iteB_t (by decide) ?_ | refine iteB_f (by decide) ?_ | (refine Duo.mk (by first | omega | exact rfl | decide) ?_; intros) | (refine Duo.mk (Clo.mk (by kernel_rfl)) ?_; intros)))
      have SD := ‹Sat _ (_ :: _)›
      refine call_of fit14 ?_
      rintro e H9 ⟨E9, r, rfl, hr⟩
      refine ⟨_, rfl, ?_⟩
      have S9 : Sat H9 [old H0] := (SD.ext E9).to (Ent.drop .refl)
      refine iteB_i (fun h => ?_) (fun h => ?_)
      · exact ⟨S9.old (by simp), false, rfl, fun h => by cases h⟩
      have hrt : r = true := by simpa using h
      rw [wr64 (by omega) (by omega), show ((i : Nat) : Int) + 1 = ((i + 1 : Nat) : Int) by omega]
      refine ih (i + 1) H9 (by omega) S9 fun k y hk1 hy => ?_
      rcases Nat.lt_or_ge k i with h | h
      · exact hk k y h hy
      · have : k = i := by omega
        subst this
        rw [hx] at hy; cases hy
        exact hr hrt
  exact loop n 0 H0 (by omega) (Sat.start H0) fun k x h => by omega
theorem cell_op {X : List BOp} : ∀ v ∈ X.flatMap BOp.cells, isCell v = true := by
  intro v hv
  obtain ⟨a, _, h⟩ := List.mem_flatMap.1 hv
  simp only [List.mem_cons, List.not_mem_nil, or_false] at h
  rcases h with rfl | rfl | rfl | rfl | rfl | rfl | rfl <;> rfl
def opsOf (L : List KVr) : List BOp := L.map fun x => putOp 2 x.t
theorem writes_ok {L : List KVr} {p : Option Addr} {n c : Nat} (hR : RowsAt KVr.cells 6 H0 p L) (hn : L.length = n) (hn2 : n ≤ 2147483647) : CallsH Tryz.prog 5 ⟨[.slice p n c]⟩ H0 (fun e H1 => (OkW L ∧ ∃ (q : Option Addr) (d : Nat), e = .returned (.tuple ⟨[.slice q n d, .bool true]⟩) ∧ Sat H1 [sl BOp.cells 29 7 q n d (opsOf L), old H0]) ∨ (¬ OkW L ∧ e = .returned (.tuple ⟨[.slice none 0 0, .bool false]⟩) ∧ Sat H1 [old H0])) := by
  refine F5.calls ?_
  unfold F5.go
  have R0 : RowsC H0 p KVr.cells 6 L := ⟨hR⟩
  have loop : ∀ (j i : Nat) (q : Option Addr) (d : Nat) (H : Heap), i + j = n → (∀ k, k < i → OkAt L k) → Sat H (sl BOp.cells 29 7 q i d (opsOf (L.take i)) :: [old H0]) → F5.L0 p n c q i d p n c (n : Int) (i : Int) H (fun e H1 => (OkW L ∧ ∃ (q : Option Addr) (d : Nat), e = .returned (.tuple ⟨[.slice q n d, .bool true]⟩) ∧ Sat H1 [sl BOp.cells 29 7 q n d (opsOf L), old H0]) ∨ (¬ OkW L ∧ e = .returned (.tuple ⟨[.slice none 0 0, .bool false]⟩) ∧ Sat H1 [old H0])) := by
    intro j
    induction j with
    | zero =>
      intro i q d H hi hk S
      obtain rfl : i = n := by omega
      refine F5.L0_step ?_
      unfold F5.L0n
      refine iteB_f (decide_eq_false (by omega)) ?_
      rw [List.take_of_length_le (by omega)] at S
      refine .inl ⟨fun k => ?_, q, d, rfl, S⟩
      rcases Nat.lt_or_ge k i with h | h
      · exact hk k h
      · intro x hx
        have := lt_of hx
        omega
    | succ j ih =>
      intro i q d H hi hk S
      obtain ⟨x, hx⟩ : ∃ x, L[i]? = some x := get_of (by omega)
      have hI := HasI.nat hx
      refine F5.L0_step ?_
      unfold F5.L0n
      refine iteB_t (decide_eq_true (by omega)) ?_
      refine R0.idx hn ⟨by omega, by omega, ?_⟩
      intro a ha
      subst ha
      (repeat (first | (refine Step.go ?_; intros) | refine iteB_t (by decide) ?_ | refine iteB_f (by decide) ?_ | (refine Duo.mk (by first | omega | exact rfl | decide) ?_; intros) | (refine Duo.mk (Clo.mk (by kernel_rfl)) ?_; intros)))
      have SD := ‹Sat _ (_ :: _)›
      rename_i r H1 S1 H2 S2 H3 S3 H4 S4 H5 S5 H6 S6 H7 S7
      clear S S1 S2 S3 S4 S5 S6 SD
      have bad : ¬ OkAt L i → (OkW L ∧ ∃ (q : Option Addr) (d : Nat), (Ending.returned (.tuple ⟨[.slice none 0 0, .bool false]⟩)) = .returned (.tuple ⟨[.slice q n d, .bool true]⟩) ∧ Sat H7 [sl BOp.cells 29 7 q n d (opsOf L), old H0]) ∨ (¬ OkW L ∧ (Ending.returned (.tuple ⟨[.slice none 0 0, .bool false]⟩)) = .returned (.tuple ⟨[.slice none 0 0, .bool false]⟩) ∧ Sat H7 [old H0]) := fun hb => .inr ⟨fun h => hb (h i), rfl, S7.to (Ent.drop (Ent.drop .refl))⟩
      have good : OkAt L i → F5.L1 (some a) n c q i d r (some a) n c (n : Int) (i : Int) H7 (fun e H1 => (OkW L ∧ ∃ (q : Option Addr) (d : Nat), e = .returned (.tuple ⟨[.slice q n d, .bool true]⟩) ∧ Sat H1 [sl BOp.cells 29 7 q n d (opsOf L), old H0]) ∨ (¬ OkW L ∧ e = .returned (.tuple ⟨[.slice none 0 0, .bool false]⟩) ∧ Sat H1 [old H0])) := by
        intro hok
        have h300 := (hok x hx).1
        refine F5.L1_step ?_
        unfold F5.L1n
        (repeat (first | (refine Step.go ?_; intros) | refine iteB_t (by decide) ?_ | refine iteB_f (by decide) ?_ | (refine Duo.mk (by first | omega | exact rfl | decide) ?_; intros) | (refine Duo.mk (Clo.mk (by kernel_rfl)) ?_; intros)))
        rename_i r2 H8 S8
        refine (S8.to (m := sl BOp.cells 29 7 q i d (opsOf (L.take i)) :: pt r2 (.cells ⟨(putOp 2 x.t).cells⟩ 29) :: [old H0]) ?_).slApp (ys := [putOp 2 x.t]) (q := some ⟨r2, 0, none⟩) (d := 1) ?_ rfl (fun _ _ => rfl) cell_op rfl (by decide) (by omega) fun q2 c2 H9 S9 => ?_
        · iterate 2 (apply Ent.pick; (focus (repeat (first | exact Sel.here | apply Sel.there))))
          exact Ent.drop .refl
        · simp only [List.flatMap_cons, List.flatMap_nil, List.append_nil]
          exact cellsAt_one (S8.at_ (List.mem_cons_self ..))
        rw [wr64 (by omega) (by omega), show ((i : Nat) : Int) + 1 = ((i + 1 : Nat) : Int) by omega]
        have et : opsOf (L.take i) ++ [putOp 2 x.t] = opsOf (L.take (i + 1)) := by
          unfold opsOf
          rw [List.take_add_one, hx, List.map_append]; rfl
        rw [et] at S9
        refine ih (i + 1) q2 c2 H9 (by omega) (fun k hk1 => ?_) (S9.to (Ent.cons (Ent.drop .refl)))
        rcases Nat.lt_or_ge k i with h | h
        · exact hk k h
        · have : k = i := by omega
          subst this; exact hok
      refine iteB_i (fun h => ?_) (fun h => ?_)
      · have h := of_decide_eq_true h
        exact bad fun hb => by have := (hb x hx).1; omega
      have h300 : i < 300 := by have := of_decide_eq_false h; omega
      (repeat (first | (refine Step.go ?_; intros) | refine iteB_t (by decide) ?_ | refine iteB_f (by decide) ?_ | (refine Duo.mk (by first | omega | exact rfl | decide) ?_; intros) | (refine Duo.mk (Clo.mk (by kernel_rfl)) ?_; intros)))
      refine iteB_i (fun h => ?_) (fun h => ?_)
      · rw [eqS_nil] at h
        have h := of_decide_eq_true h
        exact bad fun hb => (hb x hx).2.1 h
      have hnz : x.k.size ≠ 0 := by rw [eqS_nil] at h; exact of_decide_eq_false h
      refine iteB_i (fun h => ?_) (fun h => ?_)
      · have hi0 : 0 < i := by have := of_decide_eq_true h; omega
        obtain ⟨y, hy⟩ : ∃ y, L[i - 1]? = some y := get_of (by omega)
        have hI2 := HasI.nat hy
        have ew : IntKind.wrap .i64 ((i : Int) - 1) = ((i - 1 : Nat) : Int) := by rw [wr64 (by omega) (by omega)]; omega
        rw [ew]
        refine R0.idx hn ⟨by omega, by omega, ?_⟩
        intro a' ha'
        cases ha'
        (repeat (first | (refine Step.go ?_; intros) | refine iteB_t (by decide) ?_ | refine iteB_f (by decide) ?_ | (refine Duo.mk (by first | omega | exact rfl | decide) ?_; intros) | (refine Duo.mk (Clo.mk (by kernel_rfl)) ?_; intros)))
        have hf := ltS_flip x.k y.k
        refine iteB_i (fun h2 => ?_) (fun h2 => ?_)
        · refine bad fun hb => ?_
          have := (hb x hx).2.2 y hi0 hy
          rw [h2] at hf
          rw [← hf] at this
          cases this
        · refine good fun x' hx' => ?_
          rw [hx] at hx'; cases hx'
          refine ⟨h300, hnz, fun y' _ hy' => ?_⟩
          rw [hy] at hy'; cases hy'
          rw [h2] at hf
          exact hf.symm
      · have hi0 : ¬ 0 < i := by have := of_decide_eq_false h; omega
        refine good fun x' hx' => ?_
        rw [hx] at hx'; cases hx'
        exact ⟨h300, hnz, fun y' h0 _ => absurd h0 hi0⟩
  exact loop n 0 none 0 H0 (by omega) (fun k h => by omega) ((Sat.start H0).to (Ent.slNil .refl))
end
end Go.Proofs.YtkkookljlencgaaGreat

set_option linter.unusedVariables false
set_option linter.unusedSimpArgs false
set_option linter.unnecessarySimpa false
set_option maxRecDepth 100000
namespace Go.Proofs.YtkkookljlencgaaGreat
open Go Go.Den Go.Proofs
/-! Answers are compared; the short run. -/
section
variable {H H0 : Heap} {l m : List HP} {g : PH}
theorem sameT_ok {p p' : Option Addr} {n c c' : Nat} {X : List ByteArray} (hX : X.length = n) (hn : n ≤ 100000) (hm1 : sl strC 9 1 p n c X ∈ l) (hm2 : sl strC 9 1 p' n c' X ∈ l) (S : Sat H l) :
    CallsH Tryz.prog 22 ⟨[.slice p n c, .slice p' n c']⟩ H (Gives (.bool true) H) := by
  have r1 := S.rowsAt hm1
  have r2 := S.rowsAt hm2
  refine F22.calls ?_
  unfold F22.go
  refine iteB_f (by simp) ?_
  have loop : ∀ (j i : Nat), i + j = n → F22.L0 p n c p' n c' (n : Int) (i : Int) H (Gives (.bool true) H) := by
    intro j
    induction j with
    | zero =>
      intro i hi
      refine F22.L0_step ?_
      unfold F22.L0n
      refine iteB_f (decide_eq_false (by omega)) ?_
      exact ⟨rfl, ExtH.refl H⟩
    | succ j ih =>
      intro i hi
      obtain ⟨x, hx⟩ : ∃ x, X[i]? = some x := get_of (by omega)
      refine F22.L0_step ?_
      unfold F22.L0n
      refine iteB_t (decide_eq_true (by omega)) ?_
      rcases r1 with r1 | ⟨a, rfl, r1⟩
      · rw [r1] at hx; simp at hx
      rcases r2 with r2 | ⟨a', rfl, r2⟩
      · rw [r2] at hx; simp at hx
      refine ⟨by omega, by omega, by omega, by omega, ?_⟩
      refine ⟨x, by rw [Int.toNat_natCast]; exact r1 i x hx 0 (.string x) rfl, ?_⟩
      refine ⟨x, by rw [Int.toNat_natCast]; exact r2 i x hx 0 (.string x) rfl, ?_⟩
      refine iteB_f (by rw [eqS_eq]; simp) ?_
      rw [wr64 (by omega) (by omega), show ((i : Nat) : Int) + 1 = ((i + 1 : Nat) : Int) by omega]
      exact ih (i + 1) (by omega)
  exact loop n 0 (by omega)
theorem same_ok {T : List Txt} {p q p' q' : Option Addr} {c d c' d' : Nat} (hT : T.length ≤ 100000) (h1 : sl strC 9 1 p T.length c (T.map (·.1)) ∈ l) (h2 : sl strC 9 1 q T.length d (T.map (·.2)) ∈ l) (h3 : sl strC 9 1 p' T.length c' (T.map (·.1)) ∈ l) (h4 : sl strC 9 1 q' T.length d' (T.map (·.2)) ∈ l) (S : Sat H l) :
    CallsH Tryz.prog 9 ⟨[.agg ⟨(anR T p c q d).cells⟩, .agg ⟨(anR T p' c' q' d').cells⟩]⟩ H (Gives (.bool true) H) := by
  refine F9.calls ?_
  unfold F9.go
  refine newX S fun r H1 E1 S1 => ?_
  refine newX S1 fun r1 H2 E2 S2 => ?_
  dsimp only [anR] at S2 ⊢
  (repeat (first | (refine Step.go ?_; intros) | refine iteB_t (by decide) ?_ | refine iteB_f (by decide) ?_ | (refine Duo.mk (by first | omega | exact rfl | decide) ?_; intros) | (refine Duo.mk (Clo.mk (by kernel_rfl)) ?_; intros)))
  refine iteB_t (beq_self_eq_true _) ?_
  (repeat (first | (refine Step.go ?_; intros) | refine iteB_t (by decide) ?_ | refine iteB_f (by decide) ?_ | (refine Duo.mk (by first | omega | exact rfl | decide) ?_; intros) | (refine Duo.mk (Clo.mk (by kernel_rfl)) ?_; intros)))
  refine gives_i S2 (sameT_ok (List.length_map ..) hT (List.mem_cons_of_mem _ (List.mem_cons_of_mem _ h1)) (List.mem_cons_of_mem _ (List.mem_cons_of_mem _ h3)) S2) fun H3 E3 S3 => ?_
  clear S2
  (repeat (first | (refine Step.go ?_; intros) | refine iteB_t (by decide) ?_ | refine iteB_f (by decide) ?_ | (refine Duo.mk (by first | omega | exact rfl | decide) ?_; intros) | (refine Duo.mk (Clo.mk (by kernel_rfl)) ?_; intros)))
  refine gives_i S3 (sameT_ok (List.length_map ..) hT (List.mem_cons_of_mem _ (List.mem_cons_of_mem _ h2)) (List.mem_cons_of_mem _ (List.mem_cons_of_mem _ h4)) S3) fun H4 E4 S4 => ?_
  (repeat (first | (refine Step.go ?_; intros) | refine iteB_t (by decide) ?_ | refine iteB_f (by decide) ?_ | (refine Duo.mk (by first | omega | exact rfl | decide) ?_; intros) | (refine Duo.mk (Clo.mk (by kernel_rfl)) ?_; intros)))
  exact ⟨rfl, E1.trans (E2.trans (E3.trans E4))⟩
theorem bkLive_ok : CallsH Tryz.prog 6 ⟨[]⟩ H0 (Gives (.bool true) H0) := by
  refine F6.calls ?_
  unfold F6.go
  refine newX (Sat.start H0) fun r H1 E1 S1 => ?_
  have S2 : Sat H1 (sl BOp.cells 29 7 (some ⟨r, 0, none⟩) 3 3 liveOps :: [old H0]) := S1.to (Ent.slClose (xs := liveOps) (pre := []) (sp := []) (f := BOp.cells) (z := 7) (n := 3) (c := 3) (o := 0) rfl (fun _ _ => rfl) (Nat.le_refl _) rfl (by simp))
  clear S1
  refine call_of (live_ok S2) ?_
  rintro e H2 ⟨q, a, a', d, b, b', rfl, S3⟩
  clear S2
  have hI : HasI (List.replicate (3 - 1) an0 ++ [anR [(tA, tB)] a b a' b']) (2 : Int) (anR [(tA, tB)] a b a' b') := ⟨rfl⟩
  have hI0 : HasI ([(tA, tB)].map (·.2)) (0 : Int) tB := ⟨rfl⟩
  refine ⟨_, _, _, rfl, ?_⟩
  refine iteB_t rfl ?_
  obtain ⟨rq, oq, rfl⟩ := S3.slSome (f := BAn.cells) (E := 46) (z := 4) (p := q) (n := 3) (c := d) (xs := List.replicate (3 - 1) an0 ++ [anR [(tA, tB)] a b a' b']) (by simp) (by omega)
  refine Sat.idx (f := BAn.cells) (E := 46) (z := 4) (xs := List.replicate (3 - 1) an0 ++ [anR [(tA, tB)] a b a' b']) (n := 3) (c := d) S3 ⟨by omega, by omega, fun r0 o0 hr0 => ?_⟩
  cases hr0
  (repeat (first | (refine Step.go ?_; intros) | refine iteB_t (by decide) ?_ | refine iteB_f (by decide) ?_ | (refine Duo.mk (by first | omega | exact rfl | decide) ?_; intros) | (refine Duo.mk (Clo.mk (by kernel_rfl)) ?_; intros)))
  refine iteB_t rfl ?_
  refine Sat.idx (f := BAn.cells) (E := 46) (z := 4) (xs := List.replicate (3 - 1) an0 ++ [anR [(tA, tB)] a b a' b']) (n := 3) (c := d) S3 ⟨by omega, by omega, fun r0 o0 hr0 => ?_⟩
  cases hr0
  (repeat (first | (refine Step.go ?_; intros) | refine iteB_t (by decide) ?_ | refine iteB_f (by decide) ?_ | (refine Duo.mk (by first | omega | exact rfl | decide) ?_; intros) | (refine Duo.mk (Clo.mk (by kernel_rfl)) ?_; intros)))
  have e1 : (anR [(tA, tB)] a b a' b').n2 = 1 := rfl
  have e2 : (anR [(tA, tB)] a b a' b').q2 = a' := rfl
  rw [e1, e2]
  obtain ⟨r2, o2, rfl⟩ := S3.slSome (f := strC) (E := 9) (z := 1) (p := a') (n := 1) (c := b') (xs := [(tA, tB)].map (·.2)) (by simp) (by omega)
  refine Sat.idx (f := strC) (E := 9) (z := 1) (xs := [(tA, tB)].map (·.2)) (n := 1) (c := b') S3 ⟨by omega, by omega, fun r3 o3 hr3 => ?_⟩
  cases hr3
  (repeat (first | (refine Step.go ?_; intros) | refine iteB_t (by decide) ?_ | refine iteB_f (by decide) ?_ | (refine Duo.mk (by first | omega | exact rfl | decide) ?_; intros) | (refine Duo.mk (Clo.mk (by kernel_rfl)) ?_; intros)))
  exact ⟨by rw [eqS_eq]; rfl, S3.old (by simp)⟩
end
end Go.Proofs.YtkkookljlencgaaGreat

set_option linter.unusedVariables false
set_option linter.unusedSimpArgs false
set_option linter.unnecessarySimpa false
set_option maxRecDepth 100000
namespace Go.Proofs.YtkkookljlencgaaGreat
open Go Go.Den Go.Proofs
/-! The plain law: both tell the same rows, as many as the limit lets through. -/
theorem fromT_all {k e : ByteArray} {n : Nat} {X : List Txt} (h : ∀ x ∈ X, inT k e x = true) : fromT k e n X = X.take n := by
  unfold fromT
  have h1 : X.dropWhile (fun x => ltS x.1 k) = X := by
    cases X with
    | nil => rfl
    | cons x X =>
      have hx := h x (List.mem_cons_self ..)
      unfold inT at hx
      rw [List.dropWhile_cons, if_neg]
      intro hh
      rw [hh] at hx; simp at hx
  rw [h1]
  congr 1
  have : ∀ Y : List Txt, (∀ x ∈ Y, ltS x.1 e = true) → Y.takeWhile (fun x => ltS x.1 e) = Y := by
    intro Y
    induction Y with
    | nil => intro _; rfl
    | cons y Y ih =>
      intro hy
      rw [List.takeWhile_cons, if_pos (hy y (List.mem_cons_self ..)), ih fun z hz => hy z (List.mem_cons_of_mem _ hz)]
  refine this X fun x hx => ?_
  have := h x hx
  unfold inT at this
  simp at this
  exact this.2
theorem fromS_all {k e : ByteArray} {m : Int} {X : List Txt} (h : ∀ x ∈ X, inT k e x = true) : fromS k e m X = if m ≤ 0 then X else X.take m.toNat := by
  unfold fromS
  have key : ∀ (Y T : List Txt), (∀ x ∈ Y, inT k e x = true) → (m ≤ 0 ∨ T.length ≤ m.toNat) → Y.foldl (stepT k e m) T = if m ≤ 0 then T ++ Y else (T ++ Y).take m.toNat := by
    intro Y
    induction Y with
    | nil =>
      intro T _ hT
      rw [List.foldl_nil, List.append_nil]
      split
      · rfl
      · rename_i hm
        rcases hT with hT | hT
        · omega
        · rw [List.take_of_length_le hT]
    | cons y Y ih =>
      intro T hy hT
      rw [List.foldl_cons]
      have hy1 := hy y (List.mem_cons_self ..)
      have hy2 : ∀ x ∈ Y, inT k e x = true := fun x hx => hy x (List.mem_cons_of_mem _ hx)
      by_cases hm : m ≤ 0
      · have e1 : stepT k e m T y = T ++ [y] := by unfold stepT; rw [hy1, decide_eq_true hm]; rfl
        rw [e1, if_pos hm, ih _ hy2 (.inl hm), if_pos hm, List.append_assoc]
        rfl
      · rw [if_neg hm]
        rcases hT with hT | hT
        · omega
        by_cases hl : (T.length : Int) < m
        · have e1 : stepT k e m T y = T ++ [y] := by unfold stepT; rw [hy1, decide_eq_true hl, Bool.or_true]; rfl
          rw [e1, ih _ hy2 (.inr (by rw [List.length_append]; simp; omega)), if_neg hm, List.append_assoc]
          rfl
        · have e1 : stepT k e m T y = T := by unfold stepT; rw [hy1, decide_eq_false hm, decide_eq_false hl]; rfl
          rw [e1, ih _ hy2 (.inr hT), if_neg hm]
          rw [List.take_append_of_le_length (by omega), List.take_append_of_le_length (by omega)]
  have := key X [] h (.inr (Nat.zero_le _))
  rw [List.nil_append] at this
  exact this
/-- Both read the same. -/
theorem read_same {k e : ByteArray} {m : Int} {T1 T2 : List Txt} (h1 : ∀ x ∈ T1, inT k e x = true) (h2 : ∀ x ∈ T2, inT k e x = true) (hl : T1.length + T2.length < 2 ^ 62) (hm : m < 2 ^ 63) :
    readT k e (limN m) T1 T2 = readSp k e m T1 T2 ∧ (readSp k e m T1 T2).length = if 0 < m ∧ m < (T1.length : Int) + T2.length then m.toNat else T1.length + T2.length := by
  unfold readT readSp restS
  rw [fromT_all h2, fromT_all h1, fromS_all h2]
  unfold limN
  by_cases hm0 : m ≤ 0
  · rw [if_pos hm0, if_pos hm0]
    have e1 : T2.take 9223372036854775807 = T2 := List.take_of_length_le (by omega)
    rw [e1, if_neg (by omega : ¬ T2.length = 9223372036854775807), if_neg (by omega : ¬ (m > 0 ∧ (T2.length : Int) = m)), if_neg (by omega : ¬ m > 0), fromS_all h1, if_pos hm0]
    have e2 : T1.take (9223372036854775807 - T2.length) = T1 := List.take_of_length_le (by omega)
    rw [e2]
    refine ⟨rfl, ?_⟩
    rw [if_neg (by omega), List.length_append]
  · rw [if_neg hm0, if_neg hm0]
    have hmp : m > 0 := by omega
    by_cases hb : m.toNat ≤ T2.length
    · have el : (T2.take m.toNat).length = m.toNat := by rw [List.length_take]; omega
      rw [el, if_pos rfl, if_pos ⟨hmp, by omega⟩]
      refine ⟨rfl, ?_⟩
      rw [el]
      split
      · rfl
      · omega
    · have el : T2.take m.toNat = T2 := List.take_of_length_le (by omega)
      rw [el, if_neg (by omega), if_neg (by omega), if_pos hmp, fromS_all h1, if_neg (by omega : ¬ (m - (T2.length : Int) ≤ 0))]
      have e3 : (m - (T2.length : Int)).toNat = m.toNat - T2.length := by omega
      rw [e3]
      refine ⟨rfl, ?_⟩
      rw [List.length_append, List.length_take]
      split <;> omega
/-! Keys that rise. -/
theorem rises {L : List KVr} (h : OkW L) : ∀ (j i : Nat) (x y : KVr), i < j → L[i]? = some x → L[j]? = some y → ltS x.k y.k = true := by
  intro j
  induction j with
  | zero => intro i x y hi; omega
  | succ j ih =>
    intro i x y hi hx hy
    have hj : j + 1 < L.length := lt_of hy
    obtain ⟨z, hz⟩ : ∃ z, L[j]? = some z := get_of (by omega)
    have h1 : ltS z.k y.k = true := (h (j + 1) y hy).2.2 z (by omega) (by simpa using hz)
    rcases Nat.lt_or_ge i j with hij | hij
    · exact ltS_trans (ih i x z hij hx hz) (ltS_asymm h1)
    · have : i = j := by omega
      subst this
      rw [hz] at hx; cases hx
      exact h1
theorem srt_of {L : List KVr} (h : OkW L) : SrtT (L.map KVr.t) := by
  unfold SrtT
  rw [List.pairwise_map, List.pairwise_iff_getElem]
  intro i j hi hj hij
  exact rises h j i _ _ hij (List.getElem?_eq_getElem hi) (List.getElem?_eq_getElem hj)
/-- Bytes behind a text make it greater. -/
theorem bl_snoc : ∀ (a : List UInt8) (b : UInt8), Op.bytesLess a (a ++ [b]) = true
  | [], b => by simp [Op.bytesLess]
  | x :: a, b => by
    have ih := bl_snoc a b
    show Op.bytesLess (x :: a) (x :: (a ++ [b])) = true
    unfold Op.bytesLess
    simp [ih]
theorem lt_snoc (a : ByteArray) : ltS a (a ++ ⟨#[0]⟩) = true := by
  unfold ltS
  rw [ByteArray.toList_eq, ByteArray.toList_eq]
  have : (a ++ (⟨#[0]⟩ : ByteArray)).data.toList = a.data.toList ++ [0] := by simp
  rw [this]
  exact bl_snoc _ _
/-- All rows lie between the first key and what follows the last one. -/
theorem all_in {L : List KVr} (h : OkW L) {x y : KVr} (hx : L[0]? = some x) (hy : L[L.length - 1]? = some y) : ∀ t ∈ L.map KVr.t, inT x.k (y.k ++ ⟨#[0]⟩) t = true := by
  intro t ht
  obtain ⟨z, hz, rfl⟩ := List.mem_map.1 ht
  obtain ⟨i, hi⟩ := List.getElem?_of_mem hz
  have hil := lt_of hi
  unfold inT
  have h1 : ltS z.k x.k = false := by
    rcases Nat.eq_zero_or_pos i with h0 | h0
    · subst h0
      rw [hx] at hi; cases hi
      exact ltS_irr _
    · exact ltS_asymm (rises h i 0 x z h0 hx hi)
  have h2 : ltS z.k (y.k ++ ⟨#[0]⟩) = true := by
    have hs := lt_snoc y.k
    rcases Nat.lt_or_ge i (L.length - 1) with h0 | h0
    · exact ltS_trans (rises h (L.length - 1) i z y h0 hi hy) (ltS_asymm hs)
    · have : i = L.length - 1 := by omega
      subst this
      rw [hy] at hi; cases hi
      exact hs
  show (!ltS z.k x.k && ltS z.k (y.k ++ ⟨#[0]⟩)) = true
  rw [h1, h2]; rfl
end Go.Proofs.YtkkookljlencgaaGreat

set_option linter.unusedVariables false
set_option linter.unusedSimpArgs false
set_option linter.unnecessarySimpa false
set_option maxRecDepth 100000
namespace Go.Proofs.YtkkookljlencgaaGreat
open Go Go.Den Go.Proofs
/-! The reference plays all operations. -/
abbrev waO (a : BAn) : Obj := .cells ⟨a.cells⟩ 46
section
variable {H H0 : Heap} {l : List HP} {g : PH}
variable {s0 : Option Addr} {s0n s0c : Nat} {s2 : Int} {p : Option Addr} {n c : Nat} {s11 : Option Addr} {s11n s11c : Nat} {s12 s13 : Nat} {OPS : List BOp} {R : Ending → Heap → Prop}
theorem specStep {i : Nat} {op : BOp} {w : BAn} {α : Type} {φ : α → Prop} {an : α → BAn} {m : List HP} {m' : α → List HP} (hi : OPS[i]? = some op) (hn : OPS.length = n) (hnb : n ≤ 1000)
    (S : Sat H (pt s13 (waO w) :: sl BOp.cells 29 7 p n c OPS :: m))
    (h8 : ∀ H1, Sat H1 (pt s13 (waO w) :: sl BOp.cells 29 7 p n c OPS :: m) → CallsH Tryz.prog 8 ⟨[pv s12, .agg ⟨op.cells⟩]⟩ H1 (fun en H2 => ∃ a : α, en = .returned (.agg ⟨(an a).cells⟩) ∧ φ a ∧ Sat H2 (pt s13 (waO w) :: sl BOp.cells 29 7 p n c OPS :: m' a)))
    (k : ∀ (a : α) (H1 : Heap), φ a → Sat H1 (pt s13 (waO (an a)) :: sl BOp.cells 29 7 p n c OPS :: m' a) → F3.L1 s0 s0n s0c s2 p n c s11 s11n s11c s12 s13 p n c (n : Int) ((i + 1 : Nat) : Int) H1 R) :
    F3.L1 s0 s0n s0c s2 p n c s11 s11n s11c s12 s13 p n c (n : Int) (i : Int) H R := by
  have hlt := lt_of hi
  have hI := HasI.nat hi
  refine F3.L1_step ?_
  unfold F3.L1n
  refine iteB_t (decide_eq_true (by omega)) ?_
  refine Sat.idx (f := BOp.cells) (E := 29) (z := 7) (p := p) (xs := OPS) (n := n) (c := c) S ⟨by omega, by omega, fun r0 o0 hr0 => ?_⟩
  subst hr0
  (repeat (first | (refine Step.go ?_; intros) | refine iteB_t (by decide) ?_ | refine iteB_f (by decide) ?_ | (refine Duo.mk (by first | omega | exact rfl | decide) ?_; intros) | (refine Duo.mk (Clo.mk (by kernel_rfl)) ?_; intros)))
  have SD := ‹Sat _ (_ :: _)›
  refine call_of (h8 _ (SD.to (Ent.drop .refl))) ?_
  rintro en H9 ⟨a, rfl, hφ, S9⟩
  refine ⟨_, rfl, _, _, rfl, _, rfl, _, _, rfl, _, rfl, _, _, rfl, _, _, _, rfl, _, _, rfl, _, _, _, rfl, rfl, ?_⟩
  clear S SD
  (repeat (first | (refine Step.go ?_; intros) | refine iteB_t (by decide) ?_ | refine iteB_f (by decide) ?_ | (refine Duo.mk (by first | omega | exact rfl | decide) ?_; intros) | (refine Duo.mk (Clo.mk (by kernel_rfl)) ?_; intros)))
  have SE := ‹Sat _ (_ :: _)›
  rw [wr64 (by omega) (by omega), show ((i : Nat) : Int) + 1 = ((i + 1 : Nat) : Int) by omega]
  exact k a _ hφ SE
/-- Rows are put into the tables. -/
theorem specPuts (hn : OPS.length = n) (hnb : n ≤ 1000) {A0 : List Txt} {D : Rw} {w : BAn} {T0 : Nat} : ∀ (T T1 : List Txt) (i pend : Nat) (A O : Rw) (g : PH) (w : BAn) (H : Heap), (∀ j t, T[j]? = some t → OPS[i + j]? = some (putOp 2 t)) → SrtT (A0 ++ T1 ++ T) → (A0 ++ T1 ++ T).length ≤ 800 → pend + T.length ≤ 900 →
    A.xs = A0 ++ T1 → O.xs = T1 → RwG g A → RwG g O →
    Sat H (pt s13 (waO w) :: sl BOp.cells 29 7 p n c OPS :: pt s12 (bgO 10000 A O D rw0 pend) :: has g :: l) →
    (∀ (A O : Rw) (g' : PH) (w : BAn) (H1 : Heap), PH.sub g g' → A.xs = A0 ++ T1 ++ T → O.xs = T1 ++ T → RwG g' A → RwG g' O → Sat H1 (pt s13 (waO w) :: sl BOp.cells 29 7 p n c OPS :: pt s12 (bgO 10000 A O D rw0 (pend + T.length)) :: has g' :: l) → F3.L1 s0 s0n s0c s2 p n c s11 s11n s11c s12 s13 p n c (n : Int) ((i + T.length : Nat) : Int) H1 R) →
    F3.L1 s0 s0n s0c s2 p n c s11 s11n s11c s12 s13 p n c (n : Int) (i : Int) H R := by
  intro T
  induction T with
  | nil =>
    intro T1 i pend A O g w H _ _ _ _ hA hO gA gO S k
    exact k A O g w H PH.sub.refl (by rw [List.append_nil]; exact hA) (by rw [List.append_nil]; exact hO) gA gO S
  | cons t T ih =>
    intro T1 i pend A O g w H hops hs hl hp hA hO gA gO S k
    have e1 : ∀ X : List Txt, X ++ T1 ++ t :: T = X ++ (T1 ++ [t]) ++ T := by intro X; simp
    have e2 : T1 ++ t :: T = (T1 ++ [t]) ++ T := by simp
    have hs1 : SrtT ((A0 ++ T1) ++ t :: T) := hs
    have hlt : ∀ y ∈ A0 ++ T1, ltS y.1 t.1 = true := fun y hy => (List.pairwise_append.1 hs1).2.2 y hy t (List.mem_cons_self ..)
    have hl2 := hl
    rw [List.length_append, List.length_append, List.length_cons] at hl2
    rw [List.length_cons] at hp
    refine specStep (op := putOp 2 t) (w := w) (α := PH × Rw × Rw) (φ := fun a => PH.sub g a.1 ∧ RwG a.1 a.2.1 ∧ RwG a.1 a.2.2 ∧ a.2.1.xs = A.xs ++ [t] ∧ a.2.2.xs = O.xs ++ [t]) (an := fun _ => an0) (m := pt s12 (bgO 10000 A O D rw0 pend) :: has g :: l) (m' := fun a => pt s12 (bgO 10000 a.2.1 a.2.2 D rw0 (pend + 1)) :: has a.1 :: l) (by simpa using hops 0 t rfl) hn hnb S ?_ ?_
    · intro H1 S1
      refine CallsH.mono (sdo_put (key := t.1) (val := t.2) (e := ByteArray.mk #[]) (n := 0) gA gO (by rw [hA, List.length_append]; omega) (by rw [hO]; omega) (by rw [hA]; exact hlt) (by rw [hO]; exact fun y hy => hlt y (List.mem_append_right _ hy)) (by omega) (S1.to (m := pt s12 (bgO 10000 A O D rw0 pend) :: has g :: pt s13 (waO w) :: sl BOp.cells 29 7 p n c OPS :: l) (by
        iterate 4 (apply Ent.pick; (focus (repeat (first | exact Sel.here | apply Sel.there))))
        exact .refl))) ?_
      rintro en H2 ⟨rfl, g', A', O', s1, gA', gO', eA, eO, S2⟩
      refine ⟨⟨g', A', O'⟩, rfl, ⟨s1, gA', gO', eA, eO⟩, S2.to ?_⟩
      iterate 4 (apply Ent.pick; (focus (repeat (first | exact Sel.here | apply Sel.there))))
      exact .refl
    · rintro ⟨g', A', O'⟩ H1 ⟨s1, gA', gO', eA, eO⟩ S1
      dsimp only at *
      refine ih (T1 ++ [t]) (i + 1) (pend + 1) A' O' g' an0 H1 (fun j y hy => by rw [show i + 1 + j = i + (j + 1) by omega]; exact hops (j + 1) y (by simpa using hy)) (by rw [← e1]; exact hs) (by rw [← e1]; exact hl) (by omega) (by rw [eA, hA, List.append_assoc]) (by rw [eO, hO]) gA' gO' S1 ?_
      intro A2 O2 g2 w2 H2 s2 hA2 hO2 gA2 gO2 S2
      rw [show i + 1 + T.length = i + (t :: T).length by rw [List.length_cons]; omega]
      refine k A2 O2 g2 w2 H2 (s1.trans s2) (by rw [e1]; exact hA2) (by rw [e2]; exact hO2) gA2 gO2 ?_
      rw [show pend + (t :: T).length = pend + 1 + T.length by rw [List.length_cons]; omega]
      exact S2
end
end Go.Proofs.YtkkookljlencgaaGreat

set_option linter.unusedVariables false
set_option linter.unusedSimpArgs false
set_option linter.unnecessarySimpa false
set_option maxRecDepth 100000
namespace Go.Proofs.YtkkookljlencgaaGreat
open Go Go.Den Go.Proofs
/-! The reference's run. -/
theorem run_len {T1 T2 : List Txt} {k e : ByteArray} {m : Int} : (runOps T1 T2 k e m).length = T1.length + T2.length + 3 := by unfold runOps; simp; omega
section
variable {T1 T2 : List Txt} {k e : ByteArray} {m : Int}
theorem run_1 : ∀ j t, T1[j]? = some t → (runOps T1 T2 k e m)[0 + j]? = some (putOp 2 t) := by
  intro j t hj
  rw [Nat.zero_add]
  unfold runOps
  rw [List.getElem?_append_left (by rw [List.length_map]; exact lt_of hj), List.getElem?_map, hj]
  rfl
theorem run_2 : (runOps T1 T2 k e m)[T1.length]? = some comOp := by
  unfold runOps
  rw [List.getElem?_append_right (by rw [List.length_map]; exact Nat.le_refl _), List.length_map, Nat.sub_self]
  rfl
theorem run_3 : ∀ j t, T2[j]? = some t → (runOps T1 T2 k e m)[T1.length + 1 + j]? = some (putOp 2 t) := by
  intro j t hj
  unfold runOps
  rw [List.getElem?_append_right (by rw [List.length_map]; omega), List.length_map, show T1.length + 1 + j - T1.length = j + 1 by omega, List.getElem?_cons_succ, List.getElem?_append_left (by rw [List.length_map]; exact lt_of hj), List.getElem?_map, hj]
  rfl
theorem run_4 : (runOps T1 T2 k e m)[T1.length + 1 + T2.length]? = some unlOp := by
  unfold runOps
  rw [List.getElem?_append_right (by rw [List.length_map]; omega), List.length_map, show T1.length + 1 + T2.length - T1.length = T2.length + 1 by omega, List.getElem?_cons_succ, List.getElem?_append_right (by rw [List.length_map]; exact Nat.le_refl _), List.length_map, Nat.sub_self]
  rfl
theorem run_5 : (runOps T1 T2 k e m)[T1.length + 1 + T2.length + 1]? = some (rdOp k e m) := by
  unfold runOps
  rw [List.getElem?_append_right (by rw [List.length_map]; omega), List.length_map, show T1.length + 1 + T2.length + 1 - T1.length = T2.length + 1 + 1 by omega, List.getElem?_cons_succ, List.getElem?_append_right (by rw [List.length_map]; omega), List.length_map, show T2.length + 1 - T2.length = 1 by omega]
  rfl
end
section
variable {H H0 : Heap} {l : List HP} {g : PH}
variable {s0 : Option Addr} {s0n s0c : Nat} {s2 : Int} {p : Option Addr} {n c : Nat} {s11 : Option Addr} {s11n s11c : Nat} {s12 s13 : Nat} {R : Ending → Heap → Prop}
theorem specRun {T1 T2 : List Txt} {k e : ByteArray} {m : Int} (hs : SrtT (T1 ++ T2)) (hl : (T1 ++ T2).length ≤ 400) (he0 : e.size ≠ 0) (hm : -9223372036854775808 ≤ m ∧ m < 9223372036854775808) (hn : (runOps T1 T2 k e m).length = n)
    (S : Sat H (pt s13 (waO an0) :: sl BOp.cells 29 7 p n c (runOps T1 T2 k e m) :: pt s12 (bgO 10000 rw0 rw0 rw0 rw0 0) :: l))
    (fin : ∀ (q1 q2 : Option Addr) (d1 d2 : Nat) (H1 : Heap), Sat H1 (pt s13 (waO (anR (readSp k e m T1 T2) q1 d1 q2 d2)) :: sl BOp.cells 29 7 p n c (runOps T1 T2 k e m) :: sl strC 9 1 q1 (readSp k e m T1 T2).length d1 ((readSp k e m T1 T2).map (·.1)) :: sl strC 9 1 q2 (readSp k e m T1 T2).length d2 ((readSp k e m T1 T2).map (·.2)) :: l) → F3.L1 s0 s0n s0c s2 p n c s11 s11n s11c s12 s13 p n c (n : Int) (n : Int) H1 R) :
    F3.L1 s0 s0n s0c s2 p n c s11 s11n s11c s12 s13 p n c (n : Int) (0 : Int) H R := by
  have hnl := run_len (T1 := T1) (T2 := T2) (k := k) (e := e) (m := m)
  have hl2 := hl
  rw [List.length_append] at hl2
  have hnb : n ≤ 1000 := by omega
  obtain ⟨hs1, hs2⟩ := srt_app hs
  refine specPuts (A0 := []) (D := rw0) (T0 := 0) (w := an0) (l := l) hn hnb T1 [] 0 0 rw0 rw0 (fun _ => none) an0 H run_1 (by simpa using hs1) (by simp; omega) (by omega) rfl rfl rw0_G rw0_G ((has_nil S).to (by
    iterate 3 (apply Ent.pick; (focus (repeat (first | exact Sel.here | apply Sel.there))))
    exact .refl)) ?_
  intro A1 O1 g1 w1 H1 s1 hA1 hO1 gA1 gO1 S1
  simp only [List.nil_append, Nat.zero_add] at hA1 hO1 S1 ⊢
  refine specStep (op := comOp) (w := w1) (α := PH) (φ := fun a => PH.sub g1 a) (an := fun _ => an0) (m := pt s12 (bgO 10000 A1 O1 rw0 rw0 T1.length) :: has g1 :: l) (m' := fun a => pt s12 (bgO 10000 A1 rw0 A1 rw0 0) :: has a :: l) run_2 hn hnb S1 ?_ ?_
  · intro H2 S2
    refine CallsH.mono (sdo_commit (key := e0) (val := e0) (e := e0) (n := 0) gO1 (by rw [hO1]; omega) (by rw [hO1]; exact hs1) (by omega) (S2.to (m := pt s12 (bgO 10000 A1 O1 rw0 rw0 T1.length) :: has g1 :: pt s13 (waO w1) :: sl BOp.cells 29 7 p n c (runOps T1 T2 k e m) :: l) (by
      iterate 4 (apply Ent.pick; (focus (repeat (first | exact Sel.here | apply Sel.there))))
      exact .refl))) ?_
    rintro en H3 ⟨rfl, g', t1, S3⟩
    refine ⟨g', rfl, t1, S3.to ?_⟩
    iterate 4 (apply Ent.pick; (focus (repeat (first | exact Sel.here | apply Sel.there))))
    exact .refl
  intro g2 H2 t2 S2
  refine specPuts (A0 := T1) (D := A1) (T0 := 0) (w := an0) (l := l) hn hnb T2 [] (T1.length + 1) 0 A1 rw0 g2 an0 H2 run_3 (by simpa using hs) (by simp; omega) (by omega) (by rw [hA1, List.append_nil]) rfl (gA1.mono t2) rw0_G S2 ?_
  intro A3 O3 g3 w3 H3 s3 hA3 hO3 gA3 gO3 S3
  simp only [List.append_nil, List.nil_append, Nat.zero_add] at hA3 hO3 S3 ⊢
  refine specStep (op := unlOp) (w := w3) (α := PH × Rw) (φ := fun a => PH.sub g3 a.1 ∧ RwG a.1 a.2 ∧ a.2.xs = O3.xs) (an := fun _ => an0) (m := pt s12 (bgO 10000 A3 O3 A1 rw0 T2.length) :: has g3 :: l) (m' := fun a => pt s12 (bgO 10000 A3 rw0 A1 a.2 T2.length) :: has a.1 :: l) run_4 hn hnb S3 ?_ ?_
  · intro H4 S4
    refine CallsH.mono (sdo_unlock (key := e0) (val := e0) (e := e0) (n := 0) gO3 (by rw [hO3]; omega) (by rw [hO3]; exact hs2) (by omega) (S4.to (m := pt s12 (bgO 10000 A3 O3 A1 rw0 T2.length) :: has g3 :: pt s13 (waO w3) :: sl BOp.cells 29 7 p n c (runOps T1 T2 k e m) :: l) (by
      iterate 4 (apply Ent.pick; (focus (repeat (first | exact Sel.here | apply Sel.there))))
      exact .refl))) ?_
    rintro en H5 ⟨rfl, g', N, t1, gN, eN, S5⟩
    refine ⟨⟨g', N⟩, rfl, ⟨t1, gN, eN⟩, S5.to ?_⟩
    iterate 4 (apply Ent.pick; (focus (repeat (first | exact Sel.here | apply Sel.there))))
    exact .refl
  rintro ⟨g4, N⟩ H4 ⟨t4, gN, eN⟩ S4
  dsimp only at *
  have eN2 : N.xs = T2 := by rw [eN, hO3]
  refine specStep (op := rdOp k e m) (w := an0) (α := (Option Addr × Nat) × (Option Addr × Nat)) (φ := fun _ => True) (an := fun x => anR (readSp k e m T1 T2) x.1.1 x.1.2 x.2.1 x.2.2) (m := pt s12 (bgO 10000 A3 rw0 A1 N T2.length) :: has g4 :: l) (m' := fun x => sl strC 9 1 x.1.1 (readSp k e m T1 T2).length x.1.2 ((readSp k e m T1 T2).map (·.1)) :: sl strC 9 1 x.2.1 (readSp k e m T1 T2).length x.2.2 ((readSp k e m T1 T2).map (·.2)) :: l) run_5 hn hnb S4 ?_ ?_
  · intro H5 S5
    have h := sdo_read (s := s12) (pend := T2.length) (b := 10000) (n := m) (A := A3) (O := rw0) (D := A1) (N := N) (key := k) (val := e0) (e := e) (g := g4) (l := pt s13 (waO an0) :: sl BOp.cells 29 7 p n c (runOps T1 T2 k e m) :: l) he0 (gA1.mono (t2.trans (s3.trans t4))) gN (by rw [hA1]; omega) (by rw [eN2]; omega) hm (S5.to (by
      iterate 4 (apply Ent.pick; (focus (repeat (first | exact Sel.here | apply Sel.there))))
      exact .refl))
    rw [hA1, eN2] at h
    refine CallsH.mono h ?_
    rintro en H6 ⟨x, rfl, S6⟩
    refine ⟨x, rfl, trivial, S6.to ?_⟩
    apply Ent.pick
    · exact .there (.there .here)
    apply Ent.pick
    · exact .there (.there .here)
    exact .refl
  rintro ⟨⟨q1, d1⟩, ⟨q2, d2⟩⟩ H6 _ S6
  dsimp only at *
  have en : T1.length + 1 + T2.length + 1 + 1 = n := by omega
  rw [en]
  exact fin q1 q2 d1 d2 H6 S6
end
end Go.Proofs.YtkkookljlencgaaGreat

set_option linter.unusedVariables false
set_option linter.unusedSimpArgs false
set_option linter.unnecessarySimpa false
set_option maxRecDepth 100000
namespace Go.Proofs.YtkkookljlencgaaGreat
open Go Go.Den Go.Proofs
/-! The law: the end. -/
section
variable {H H0 : Heap} {l : List HP} {g : PH}
theorem emptyOps {r : Nat} : Ent (pt r (.cells ⟨[]⟩ 29) :: l) (sl BOp.cells 29 7 (some ⟨r, 0, none⟩) 0 0 [] :: l) :=
  Ent.slClose (xs := []) (pre := []) (sp := []) (f := BOp.cells) (z := 7) (n := 0) (c := 0) (o := 0) rfl (fun _ h => by cases h) (Nat.le_refl _) rfl (by simp)
theorem rows_take {α : Type} {f : α → List Value} {z : Nat} {q : Option Addr} {xs : List α} {k : Nat} (h : RowsAt f z H q xs) : RowsAt f z H q (xs.take k) := by
  rcases h with h | ⟨a, h1, h2⟩
  · left; rw [h]; simp
  · exact .inr ⟨a, h1, fun i x hx => h2 i x (take_get hx).1⟩
theorem lawL3 {n N c d : Nat} {p q : Option Addr} {s13 : Nat} {s16 : Int} {T : List Txt} {a a' q1 q2 : Option Addr} {b b' d1 d2 : Nat} {OPS : List BOp} (hN : 0 < N) (hNb : N ≤ 1000) (hT : T.length ≤ 1000) (hs : s16 = (T.length : Int))
    (S : Sat H (pt s13 (waO (anR T q1 d1 q2 d2)) :: sl strC 9 1 q1 T.length d1 (T.map (·.1)) :: sl strC 9 1 q2 T.length d2 (T.map (·.2)) :: sl strC 9 1 a T.length b (T.map (·.1)) :: sl strC 9 1 a' T.length b' (T.map (·.2)) :: sl BAn.cells 46 4 q N d (List.replicate (N - 1) an0 ++ [anR T a b a' b']) :: [old H0])) :
    F3.L3 p N c q N d s13 s16 H (Gives (.bool true) H0) := by
  refine F3.L3_step ?_
  unfold F3.L3n
  have ew : IntKind.wrap .i64 ((N : Int) - 1) = ((N - 1 : Nat) : Int) := by rw [wr64 (by omega) (by omega)]; omega
  rw [ew]
  have hI : HasI (List.replicate (N - 1) an0 ++ [anR T a b a' b']) ((N - 1 : Nat) : Int) (anR T a b a' b') := HasI.nat (by
    rw [List.getElem?_append_right (by rw [List.length_replicate]; exact Nat.le_refl _), List.length_replicate, Nat.sub_self]
    rfl)
  refine Sat.idx (f := BAn.cells) (E := 46) (z := 4) (xs := List.replicate (N - 1) an0 ++ [anR T a b a' b']) (n := N) (c := d) S ⟨by omega, by omega, fun r0 o0 hr0 => ?_⟩
  subst hr0
  (repeat (first | (refine Step.go ?_; intros) | refine iteB_t (by decide) ?_ | refine iteB_f (by decide) ?_ | (refine Duo.mk (by first | omega | exact rfl | decide) ?_; intros) | (refine Duo.mk (Clo.mk (by kernel_rfl)) ?_; intros)))
  refine gives_i S (same_ok (T := T) (p := a) (c := b) (q := a') (d := b') (p' := q1) (c' := d1) (q' := q2) (d' := d2) (by omega) (by simp) (by simp) (by simp) (by simp) S) fun H1 E1 S1 => ?_
  clear S
  refine ⟨_, rfl, ?_⟩
  refine iteB_t rfl ?_
  (repeat (first | (refine Step.go ?_; intros) | refine iteB_t (by decide) ?_ | refine iteB_f (by decide) ?_ | (refine Duo.mk (by first | omega | exact rfl | decide) ?_; intros) | (refine Duo.mk (Clo.mk (by kernel_rfl)) ?_; intros)))
  refine iteB_t (by rw [hs]; exact beq_self_eq_true _) ?_
  refine gives_i S1 bkLive_ok fun H2 E2 S2 => ?_
  exact ⟨_, rfl, rfl, S2.old (by simp)⟩
end
end Go.Proofs.YtkkookljlencgaaGreat

set_option linter.unusedVariables false
set_option linter.unusedSimpArgs false
set_option linter.unnecessarySimpa false
set_option maxRecDepth 100000
namespace Go.Proofs.YtkkookljlencgaaGreat
open Go Go.Den Go.Proofs
/-! The law. -/
section
variable {H H0 : Heap} {l : List HP} {g : PH}
theorem okw_len {L : List KVr} (h : OkW L) : L.length ≤ 300 := by
  rcases Nat.eq_zero_or_pos L.length with h0 | h0
  · omega
  · obtain ⟨x, hx⟩ : ∃ x, L[L.length - 1]? = some x := get_of (by omega)
    have := (h _ x hx).1
    omega
theorem lawL0 {L : List KVr} {p q : Option Addr} {n c d k : Nat} {m : Int} (hR : RowsAt KVr.cells 6 H0 p L) (hn : L.length = n) (hn0 : 0 < n) (hok : OkW L) (hf : ∀ x ∈ L, FitsX x) (hk : k ≤ n) (hm : -9223372036854775808 ≤ m ∧ m < 9223372036854775808)
    (S : Sat H [sl BOp.cells 29 7 q n d (opsOf L), old H0]) :
    F3.L0 p n c (k : Int) m q n d H (Gives (.bool true) H0) := by
  have hn300 := okw_len hok
  have hcap := (Sat.slLen S (List.mem_cons_self ..)).2
  have R0 : RowsC H0 p KVr.cells 6 L := ⟨hR⟩
  obtain ⟨x, hx⟩ : ∃ x, L[0]? = some x := get_of (by omega)
  obtain ⟨y, hy⟩ : ∃ y, L[n - 1]? = some y := get_of (by omega)
  have hx' : L[L.length - L.length]? = some x := by rw [Nat.sub_self]; exact hx
  refine F3.L0_step ?_
  unfold F3.L0n
  refine newX S fun r H1 E1 S1 => ?_
  clear S
  refine ⟨by omega, by omega, ?_⟩
  rw [slP_0, Int.toNat_natCast]
  have S2 := S1.to emptyOps
  clear S1
  have hq2 := rows_take (k := k) (S2.rowsAt (f := BOp.cells) (E := 29) (z := 7) (n := n) (k := d) (p := q) (xs := opsOf L) (by simp))
  refine S2.slApp (ys := (opsOf L).take k) (d := k) (hq2.cells (fun _ => rfl)) (by unfold opsOf; rw [List.length_take, List.length_map]; omega) (fun _ _ => rfl) cell_op rfl (by decide) (by omega) fun q1 c1 H2 S3 => ?_
  clear S2 hq2
  refine newX S3 fun r1 H3 E3 S4 => ?_
  clear S3
  refine (S4.to ent_swp).slApp (ys := [comOp]) (q := some ⟨r1, 0, none⟩) (d := 1) ?_ rfl (fun _ _ => rfl) cell_op rfl (by decide) (by omega) fun q2 c2 H4 S5 => ?_
  · simp only [List.flatMap_cons, List.flatMap_nil, List.append_nil]
    exact cellsAt_one (S4.at_ (List.mem_cons_self ..))
  clear S4
  refine ⟨by omega, by omega, ?_⟩
  rw [Int.toNat_natCast]
  refine S5.slApp (ys := (opsOf L).drop k) (d := n - k) (slCells_of (f := BOp.cells) (E := 29) (z := 7) (n := n) (c := d) (p := q) (xs := opsOf L) S5 (by simp) hk) (by unfold opsOf; rw [List.length_drop, List.length_map]; omega) (fun _ _ => rfl) cell_op rfl (by decide) (by omega) fun q3 c3 H5 S6 => ?_
  clear S5
  refine newX S6 fun r2 H6 E6 S7 => ?_
  clear S6
  refine (S7.to ent_swp).slApp (ys := [unlOp]) (q := some ⟨r2, 0, none⟩) (d := 1) ?_ rfl (fun _ _ => rfl) cell_op rfl (by decide) (by omega) fun q4 c4 H7 S8 => ?_
  · simp only [List.flatMap_cons, List.flatMap_nil, List.append_nil]
    exact cellsAt_one (S7.at_ (List.mem_cons_self ..))
  clear S7
  have hIx : HasI L (0 : Int) x := ⟨by simpa using hx⟩
  have hIy : HasI L ((n - 1 : Nat) : Int) y := HasI.nat hy
  have ew : IntKind.wrap .i64 ((n : Int) - 1) = ((n - 1 : Nat) : Int) := by rw [wr64 (by omega) (by omega)]; omega
  rw [ew]
  refine R0.idx hn ⟨by omega, by omega, ?_⟩
  intro a ha
  subst ha
  refine R0.idx hn ⟨by omega, by omega, ?_⟩
  intro a2 ha2
  cases ha2
  (repeat (first | (refine Step.go ?_; intros) | refine iteB_t (by decide) ?_ | refine iteB_f (by decide) ?_ | (refine Duo.mk (by first | omega | exact rfl | decide) ?_; intros) | (refine Duo.mk (Clo.mk (by kernel_rfl)) ?_; intros)))
  have hyf := hf y (List.mem_of_getElem? hy)
  have hxf := hf x (List.mem_of_getElem? hx)
  have hys : (y.k ++ (⟨#[0]⟩ : ByteArray)).size = y.k.size + 1 := by rw [ByteArray.size_append]; rfl
  refine ⟨by show ((y.k.size + 1 : Nat) : Int) ≤ 9223372036854775807; have := hyf.1; omega, ?_⟩
  refine newX S8 fun r3 H8 E8 S9 => ?_
  clear S8
  (repeat (first | (refine Step.go ?_; intros) | refine iteB_t (by decide) ?_ | refine iteB_f (by decide) ?_ | (refine Duo.mk (by first | omega | exact rfl | decide) ?_; intros) | (refine Duo.mk (Clo.mk (by kernel_rfl)) ?_; intros)))
  have SD := ‹Sat _ (_ :: _)›
  rename_i HA SA HB SB HC SC HD SDD HE SE HF SF HG SG r4 HH SH
  clear SD S9 SA SB SC SDD SE SF SG
  have hops : opsOf (L.take k) ++ [comOp] ++ opsOf (L.drop k) ++ [unlOp] ++ [rdOp x.k (y.k ++ ⟨#[0]⟩) m] = runOps ((L.take k).map KVr.t) ((L.drop k).map KVr.t) x.k (y.k ++ ⟨#[0]⟩) m := by
    unfold runOps opsOf
    rw [List.map_map, List.map_map]
    simp [Function.comp_def]
  have hN : ((0 + k + 1 + (n - k) + 1) + 1) = (runOps ((L.take k).map KVr.t) ((L.drop k).map KVr.t) x.k (y.k ++ ⟨#[0]⟩) m).length := by
    rw [run_len, List.length_map, List.length_map, List.length_take, List.length_drop]; omega
  refine (SH.to (m := sl BOp.cells 29 7 q4 (0 + k + 1 + (n - k) + 1) c4 ([] ++ (opsOf L).take k ++ [comOp] ++ (opsOf L).drop k ++ [unlOp]) :: pt r4 (.cells ⟨(rdOp x.k (y.k ++ ⟨#[0]⟩) m).cells⟩ 29) :: [old H0]) ?_).slApp (ys := [rdOp x.k (y.k ++ ⟨#[0]⟩) m]) (q := some ⟨r4, 0, none⟩) (d := 1) ?_ rfl (fun _ _ => rfl) cell_op rfl (by decide) (by omega) fun q5 c5 HI SI => ?_
  · iterate 2 (apply Ent.pick; (focus (repeat (first | exact Sel.here | apply Sel.there))))
    repeat (first | exact Ent.refl | apply Ent.drop)
  · simp only [List.flatMap_cons, List.flatMap_nil, List.append_nil]
    exact cellsAt_one (SH.at_ (List.mem_cons_self ..))
  clear SH
  have hts : ∀ t : List KVr, (opsOf L).take k = opsOf (L.take k) := fun _ => by unfold opsOf; rw [List.map_take]
  have htd : (opsOf L).drop k = opsOf (L.drop k) := by unfold opsOf; rw [List.map_drop]
  rw [List.nil_append, hts [], htd, hops, hN] at SI
  rw [hN]
  generalize hT1 : (L.take k).map KVr.t = T1 at *
  generalize hT2 : (L.drop k).map KVr.t = T2 at *
  generalize hkk : x.k = kk at *
  generalize hee : y.k ++ (⟨#[0]⟩ : ByteArray) = ee at *
  have hTT : T1 ++ T2 = L.map KVr.t := by rw [← hT1, ← hT2, ← List.map_append, List.take_append_drop]
  have hTl : T1.length + T2.length = n := by rw [← List.length_append, hTT, List.length_map, hn]
  have hsrt : SrtT (T1 ++ T2) := by rw [hTT]; exact srt_of hok
  have hfine : ∀ t ∈ T1 ++ T2, Fine t := by
    rw [hTT]
    intro t ht
    obtain ⟨z, hz, rfl⟩ := List.mem_map.1 ht
    obtain ⟨i, hi⟩ := List.getElem?_of_mem hz
    exact ⟨(hok i z hi).2.1, (hf z hz).1, (hf z hz).2⟩
  have hall : ∀ t ∈ T1 ++ T2, inT kk ee t = true := by
    rw [hTT, ← hkk, ← hee]
    exact all_in hok hx (by rw [hn]; exact hy)
  have hes : ee.size = y.k.size + 1 := hys
  obtain ⟨hsame, hcount⟩ := read_same (k := kk) (e := ee) (m := m) (T1 := T1) (T2 := T2) (fun t ht => hall t (List.mem_append_left _ ht)) (fun t ht => hall t (List.mem_append_right _ ht)) (by omega) (by omega)
  have hNl := run_len (T1 := T1) (T2 := T2) (k := kk) (e := ee) (m := m)
  generalize hNN : (runOps T1 T2 kk ee m).length = N at *
  refine call_of (back_ok (lim := 10000) (n := N) (c := c5) (p := q5) (T1 := T1) (T2 := T2) (k := kk) (e := ee) (m := m) (by decide) (by decide) hsrt hfine (by rw [List.length_append]; omega) (by rw [← hkk]; exact hxf.1) (by have := hyf.1; omega) (by omega) (by omega) hNN.symm SI) ?_
  rintro en HJ ⟨qg, a3, a4, dg, b3, b4, rfl, SJ⟩
  clear SI
  rw [hsame] at SJ
  refine ⟨_, _, _, rfl, ?_⟩
  refine iteB_f (by simp) ?_
  refine newX SJ fun s12 HK EK SK => ?_
  clear SJ
  refine newX SK fun s13 HL EL SL => ?_
  clear SK
  generalize hTT2 : readSp kk ee m T1 T2 = T at *
  refine specRun (T1 := T1) (T2 := T2) (k := kk) (e := ee) (m := m) hsrt (by rw [List.length_append]; omega) (by omega) hm hNN (l := sl strC 9 1 a3 T.length b3 (T.map (·.1)) :: sl strC 9 1 a4 T.length b4 (T.map (·.2)) :: sl BAn.cells 46 4 qg N dg (List.replicate (N - 1) an0 ++ [anR T a3 b3 a4 b4]) :: [old H0]) (SL.to ?_) ?_
  · iterate 3 (apply Ent.pick; (focus (repeat (first | exact Sel.here | apply Sel.there))))
    exact Ent.cons (Ent.cons (Ent.cons (Ent.drop .refl)))
  intro q6 q7 d6 d7 HM SM
  clear SL
  rw [hTT2] at SM
  have fin : ∀ s16 : Int, s16 = (T.length : Int) → F3.L3 q5 N c5 qg N dg s13 s16 HM (Gives (.bool true) H0) := by
    intro s16 hs16
    refine lawL3 (T := T) (a := a3) (a' := a4) (b := b3) (b' := b4) (q1 := q6) (q2 := q7) (d1 := d6) (d2 := d7) (OPS := []) (n := 0) (by omega) (by omega) (by
      rw [hcount]
      split <;> omega) hs16 (SM.to ?_)
    apply Ent.pick
    · exact .here
    refine Ent.drop ?_
    exact .refl
  refine F3.L1_step ?_
  unfold F3.L1n
  refine iteB_f (decide_eq_false (by omega)) ?_
  refine iteB_i (fun h => ?_) (fun h => ?_)
  · have h := of_decide_eq_true h
    refine iteB_i (fun h2 => ?_) (fun h2 => ?_)
    · have h2 := of_decide_eq_true h2
      refine F3.L2_step ?_
      unfold F3.L2n
      refine fin m ?_
      rw [hcount, if_pos ⟨h, by omega⟩]; omega
    · have h2 := of_decide_eq_false h2
      refine fin _ ?_
      rw [hcount, if_neg (by omega)]; omega
  · have h := of_decide_eq_false h
    refine fin _ ?_
    rw [hcount, if_neg (by omega)]; omega
end
end Go.Proofs.YtkkookljlencgaaGreat

set_option linter.unusedVariables false
set_option linter.unusedSimpArgs false
set_option linter.unnecessarySimpa false
set_option maxRecDepth 100000
namespace Go.Proofs.YtkkookljlencgaaGreat
open Go Go.Den Go.Proofs
section
variable {H H0 : Heap} {l : List HP} {g : PH}
theorem law_ok {L : List KVr} {p : Option Addr} {n c : Nat} {k m : Int} (hR : RowsAt KVr.cells 6 H0 p L) (hn : L.length = n) (hm : -9223372036854775808 ≤ m ∧ m < 9223372036854775808) :
    CallsH Tryz.prog 3 ⟨[.slice p n c, .int .i64 k, .int .i64 m]⟩ H0 (Gives (.bool true) H0) := by
  refine F3.calls ?_
  unfold F3.go
  refine call_of (fit13 hR hn) ?_
  rintro e H1 ⟨E1, r, rfl, hr⟩
  refine ⟨_, rfl, ?_⟩
  refine iteB_i (fun h => ?_) (fun h => ?_)
  · exact ⟨rfl, E1⟩
  have hrt : r = true := by simpa using h
  obtain ⟨hn2, hf⟩ := hr hrt
  refine call_of (writes_ok (hR.ext E1) hn hn2) ?_
  rintro e H2 hw
  have live : ∀ H2, ExtH H1 H2 → callD Tryz.prog 6 [] H2 (panK (Gives (.bool true) H0)) fun v2 H3 => tBool v2 fun b2 => Gives (.bool true) H0 (.returned (.bool b2)) H3 := by
    intro H2 E2
    refine g_i bkLive_ok fun H3 E3 => ?_
    exact ⟨_, rfl, rfl, E1.trans (E2.trans E3)⟩
  rcases hw with ⟨hok, q, d, rfl, S2⟩ | ⟨hno, rfl, S2⟩
  · have E2 := S2.old (H0 := H1) (by simp)
    refine ⟨_, rfl, _, _, rfl, _, _, _, rfl, _, _, rfl, _, rfl, rfl, ?_⟩
    refine iteB_f rfl ?_
    refine iteB_i (fun h0 => ?_) (fun h0 => ?_)
    · exact live H2 E2
    have hn0 : 0 < n := by
      have : ((n : Nat) : Int) ≠ 0 := by simpa using h0
      omega
    refine iteB_i (fun h1 => ?_) (fun h1 => ?_)
    · exact live H2 E2
    have h1 := of_decide_eq_false h1
    refine iteB_i (fun h2 => ?_) (fun h2 => ?_)
    · exact live H2 E2
    have h2 := of_decide_eq_false h2
    have hk : k = ((k.toNat : Nat) : Int) := by omega
    rw [hk]
    refine GoL.mono (lawL0 (H0 := H1) (hR.ext E1) hn hn0 hok hf (by omega) hm S2) ?_
    rintro en H3 ⟨rfl, E3⟩
    exact ⟨rfl, E1.trans E3⟩
  · have E2 := S2.old (H0 := H1) (by simp)
    refine ⟨_, rfl, _, _, rfl, _, _, _, rfl, _, _, rfl, _, rfl, rfl, ?_⟩
    refine iteB_t rfl ?_
    exact live H2 E2
end
end Go.Proofs.YtkkookljlencgaaGreat
