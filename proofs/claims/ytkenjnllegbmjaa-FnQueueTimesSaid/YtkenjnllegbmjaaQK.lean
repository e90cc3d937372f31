/- What functions of this seat do, each proved by a walk; no condition. -/
import Derived.Test.YtkenjnllegbmjaaQJ
set_option linter.unusedVariables false
namespace Go.Proofs.Ytkenjnllegbmjaa
open Go Go.Den Go.Proofs
structure QOp where
  k : Int
  id : Int
  a : Int
abbrev QOp.cells (o : QOp) : List Value := [.int .i64 o.k, .int .i64 o.id, .int .i64 o.a]
structure QAn where
  ok : Bool
  id : Int
  a : Int
  n : Int
abbrev QAn.cells (o : QAn) : List Value := [.bool o.ok, .int .i64 o.id, .int .i64 o.a, .int .i64 o.n]
instance {a : Bool} {b c d : Int} : Enc QAn.cells [.bool a, .int .i64 b, .int .i64 c, .int .i64 d] ⟨a, b, c, d⟩ := ⟨rfl⟩
/-- The first one is told. -/
def Told (L : List (Int × Int)) (a : QAn) : Prop := (L = [] ∧ a.ok = false) ∨ (L ≠ [] ∧ a.ok = true ∧ (a.id, a.a) ∈ L ∧ ∀ y ∈ L, a.a ≤ y.2)
/-- What a call does, said of the leases and their times. -/
structure QStep (L : List (Int × Int)) (o : QOp) (a : QAn) (L' : List (Int × Int)) : Prop where
  reg : o.k = 1 → L'.Perm (L.filter (fun q => q.1 != o.id) ++ [(o.id, o.a)])
  peek : o.k = 2 → L' = L ∧ Told L a
  pop : o.k = 3 → Told L a ∧ (L = [] → L' = []) ∧ (L ≠ [] → L.Perm ((a.id, a.a) :: L'))
  len : o.k = 4 → L' = L ∧ a.n = L.length
/-- All calls, one behind the other. -/
structure QRun (ops : List QOp) (ans : List QAn) (Ls : Nat → List (Int × Int)) (n : Nat) : Prop where
  start : Ls 0 = []
  len : ans.length = n
  nd : ∀ i, i ≤ n → ((Ls i).map (·.1)).Nodup
  step : ∀ i o a, i < n → ops[i]? = some o → ans[i]? = some a → QStep (Ls i) o a (Ls (i + 1))
theorem QRun.snoc {ops : List QOp} {ans : List QAn} {Ls : Nat → List (Int × Int)} {n : Nat} {o : QOp} {a : QAn} {L' : List (Int × Int)} (r : QRun ops ans Ls n) (ho : ops[n]? = some o) (h : QStep (Ls n) o a L') (hn : (L'.map (·.1)).Nodup) :
    QRun ops (ans ++ [a]) (fun i => if i = n + 1 then L' else Ls i) (n + 1) := by
  refine ⟨by simp [r.start], by simp [r.len], fun i hi => ?_, fun i o' a' hi ho' ha' => ?_⟩
  · by_cases h1 : i = n + 1
    · simpa [h1] using hn
    · simpa [h1] using r.nd i (by omega)
  · rw [if_neg (by omega)]
    by_cases h1 : i = n
    · subst h1
      rw [ho] at ho'
      cases ho'
      rw [List.getElem?_append_right (by rw [r.len]; exact Nat.le_refl _), r.len] at ha'
      simp at ha'
      subst ha'
      rw [if_pos rfl]; exact h
    · rw [if_neg (by omega)]
      rw [List.getElem?_append_left (by rw [r.len]; omega)] at ha'
      exact r.step i o' a' (by omega) ho' ha'
theorem hp_least {its : List It} {n : Nat} {x : It} (h : HpN its n) (hl : its.length = n) (hx : its[0]? = some x) : ∀ y ∈ its, x.t ≤ y.t := by
  have key : ∀ i, i < n → tm its 0 ≤ tm its i := by
    intro i
    induction i using Nat.strongRecOn with
    | ind i ih =>
      intro hi
      rcases Nat.eq_zero_or_pos i with h0 | h0
      · subst h0; exact Int.le_refl _
      · have pi := par_lt h0
        have := ih (par i) pi (by omega)
        have := h i h0 hi
        omega
  intro y hy
  obtain ⟨i, hi⟩ := List.getElem?_of_mem hy
  have := key i (by have := lt_of hi; omega)
  rw [tm_of hx, tm_of hi] at this
  exact this
theorem kt_fst (its : List It) : (its.map kt).map (·.1) = its.map (·.id) := by simp [kt, Function.comp_def]
/-- What is there in the loop. -/
structure QIn (ops : List QOp) (ans : List QAn) (i n : Nat) (its : List It) (m : List (Int × Nat)) (l : List HP) (H : Heap) (mq mb : Nat) (p : Option Addr) (c : Nat) (q : Option Addr) (qc : Nat) : Prop where
  inv : Inv its m n
  small : n ≤ i
  times : ∀ x ∈ its, 0 ≤ x.t ∧ x.t ≤ 1152921504606846976
  run : ∃ Ls, QRun ops ans Ls i ∧ Ls i = its.map kt
  sat : Sat H (sl QAn.cells 29 4 q i qc ans :: nqs mq mb p n c its m l)
def QueueR (ops : List QOp) (l : List HP) : Ending → Heap → Prop := fun e H1 => ∃ q qc ans Ls, e = .returned (.slice q ops.length qc) ∧ QRun ops ans Ls ops.length ∧ Sat H1 (sl QAn.cells 29 4 q ops.length qc ans :: l)
theorem queue_loop {H0 : Heap} {l : List HP} [O : OldAt l H0] {s : Option Addr} {sc : Nat} {ops : List QOp} [R : RowsC H0 s QOp.cells 3 ops] (h200 : ops.length ≤ 200) (hg : ∀ o ∈ ops, o.k = 1 → 0 ≤ o.a ∧ o.a ≤ 1152921504606846976) {mq mb : Nat} :
    ∀ (d i : Nat) (ans : List QAn) (n : Nat) (its : List It) (m : List (Int × Nat)) (H : Heap) (p : Option Addr) (c : Nat) (q : Option Addr) (qc : Nat), i + d = ops.length → QIn ops ans i n its m l H mq mb p c q qc →
      F5.L0 s ops.length sc (some ⟨mq, 0, none⟩) q i qc (i : Int) H (QueueR ops l) := by
  intro d
  induction d with
  | zero =>
    intro i ans n its m H p c q qc hi I
    refine F5.L0_step ?_
    unfold F5.L0n
    refine iteB_f (by simp; omega) ?_
    obtain ⟨Ls, hr, _⟩ := I.run
    have hi' : i = ops.length := by omega
    subst hi'
    exact ⟨q, qc, ans, Ls, rfl, hr, I.sat.done⟩
  | succ d ih =>
    intro i ans n its m H p c q qc hi I
    have S := I.sat
    have hsm := I.small
    obtain ⟨Ls, hr, hL⟩ := I.run
    obtain ⟨o, ho⟩ := get_of (l := ops) (i := i) (by omega)
    have go := hg o (List.mem_of_getElem? ho)
    refine F5.L0_step ?_
    unfold F5.L0n
    refine iteB_t (by simp; omega) ?_
    refine R.idx rfl ⟨by omega, by omega, ?_⟩
    rintro ad rfl
    have X := HasI.nat ho
    (repeat (first | (refine Step.go ?_; intros) | refine iteB_t (by decide) ?_ | refine iteB_f (by decide) ?_ | (refine Duo.mk (by first | omega | exact rfl | decide) ?_; intros) | (refine Duo.mk (Clo.mk (by kernel_rfl)) ?_; intros)))
    rename_i r H1 S1 H2 S2 H3 S3 H4 S4 r1 H5 S5 H6 S6 H7 S7 H8 S8 H9 S9
    have ts := I.times
    have I0 := I.inv
    -- the answer is put behind the others
    have fin : ∀ (a : QAn) (n' : Nat) (its' : List It) (m' : List (Int × Nat)) (H' : Heap) (p' : Option Addr) (c' : Nat), Sat H' (pt r1 (.cells ⟨a.cells⟩ 29) :: sl QAn.cells 29 4 q i qc ans :: nqs mq mb p' n' c' its' m' l) → Inv its' m' n' → n' ≤ n + 1 →
        (∀ x ∈ its', 0 ≤ x.t ∧ x.t ≤ 1152921504606846976) → QStep (its.map kt) o a (its'.map kt) → F5.L5 (some ad) ops.length sc (some ⟨mq, 0, none⟩) q i qc (i : Int) r1 H' (QueueR ops l) := by
      intro a n' its' m' H' p' c' S' I' hn' ht hs
      refine F5.L5_step ?_
      unfold F5.L5n
      (repeat (first | (refine Step.go ?_; intros) | refine iteB_t (by decide) ?_ | refine iteB_f (by decide) ?_ | (refine Duo.mk (by first | omega | exact rfl | decide) ?_; intros) | (refine Duo.mk (Clo.mk (by kernel_rfl)) ?_; intros)))
      rw [wr_succ (by omega)]
      exact ih (i + 1) (ans ++ [a]) n' its' m' _ p' c' _ _ (by omega) ⟨I', by omega, ht, ⟨_, hr.snoc ho (hL ▸ hs) (by rw [kt_fst]; exact I'.nd), by simp⟩, Sat.fin⟩
    have other : o.k ≠ 1 → o.k ≠ 2 → o.k ≠ 3 → o.k ≠ 4 → ∀ a, QStep (its.map kt) o a (its.map kt) := fun h1 h2 h3 h4 a => ⟨fun h => absurd h h1, fun h => absurd h h2, fun h => absurd h h3, fun h => absurd h h4⟩
    refine iteB_i (fun h => ?_) (fun h => ?_)
    · simp at h
      have hgo := go h
      (repeat (first | (refine Step.go ?_; intros) | refine iteB_t (by decide) ?_ | refine iteB_f (by decide) ?_ | (refine Duo.mk (by first | omega | exact rfl | decide) ?_; intros) | (refine Duo.mk (Clo.mk (by kernel_rfl)) ?_; intros)))
      refine gives_i S9 (at_ok o.a hgo.1 hgo.2 _) ?_
      intro H10 E10 S10
      (repeat (first | (refine Step.go ?_; intros) | refine iteB_t (by decide) ?_ | refine iteB_f (by decide) ?_ | (refine Duo.mk (by first | omega | exact rfl | decide) ?_; intros) | (refine Duo.mk (Clo.mk (by kernel_rfl)) ?_; intros)))
      refine call_of (item_ok o.id o.a _ _ S10) ?_
      rintro e H11 ⟨b, rfl, S11⟩
      (repeat (first | (refine Step.go ?_; intros) | refine iteB_t (by decide) ?_ | refine iteB_f (by decide) ?_ | (refine Duo.mk (by first | omega | exact rfl | decide) ?_; intros) | (refine Duo.mk (Clo.mk (by kernel_rfl)) ?_; intros)))
      refine call_of (reg_ok (b := b) (id := o.id) (t := o.a) (by omega) I0 (by (refine Sat.to (by assumption) ?_; apply Ent.pick; (focus (repeat (first | exact Sel.here | apply Sel.there))); apply Ent.pick; (focus (repeat (first | exact Sel.here | apply Sel.there))); apply Ent.pick; (focus (repeat (first | exact Sel.here | apply Sel.there))); apply Ent.pick; (focus (repeat (first | exact Sel.here | apply Sel.there))); apply Ent.pick; (focus (repeat (first | exact Sel.here | apply Sel.there))); exact Ent.refl))) ?_
      rintro e H12 ⟨p', n', c', its', m', rfl, I', hn', hpm, S12⟩
      (repeat (first | (refine Step.go ?_; intros) | refine iteB_t (by decide) ?_ | refine iteB_f (by decide) ?_ | (refine Duo.mk (by first | omega | exact rfl | decide) ?_; intros) | (refine Duo.mk (Clo.mk (by kernel_rfl)) ?_; intros)))
      refine fin ⟨true, 0, 0, 0⟩ n' its' m' _ p' c' Sat.fin I' hn' ?_ ⟨fun _ => hpm, fun h => by omega, fun h => by omega, fun h => by omega⟩
      intro x hx
      have : kt x ∈ its'.map kt := List.mem_map_of_mem hx
      rcases List.mem_append.1 (hpm.mem_iff.1 this) with h1 | h1
      · obtain ⟨y, hy, he⟩ := List.mem_map.1 (List.mem_filter.1 h1).1
        have := ts y hy
        simp only [kt, Prod.mk.injEq] at he
        rw [he.2] at this
        exact this
      · simp [kt] at h1
        rw [h1.2]; exact hgo
    · simp at h
      -- nothing is done
      have none_ : o.k ≠ 4 → ∀ H', Sat H' (pt r (.cells ⟨o.cells⟩ 27) :: pt r1 (.cells ⟨[.bool false, .int .i64 0, .int .i64 0, .int .i64 0]⟩ 29) :: sl QAn.cells 29 4 q i qc ans :: nqs mq mb p n c its m l) → QStep (its.map kt) o ⟨false, 0, 0, 0⟩ (its.map kt) →
          F5.L2 (some ad) ops.length sc (some ⟨mq, 0, none⟩) q i qc (i : Int) r r1 H' (QueueR ops l) := by
        intro h4 H' S' hs
        refine F5.L2_step ?_
        unfold F5.L2n
        (repeat (first | (refine Step.go ?_; intros) | refine iteB_t (by decide) ?_ | refine iteB_f (by decide) ?_ | (refine Duo.mk (by first | omega | exact rfl | decide) ?_; intros) | (refine Duo.mk (Clo.mk (by kernel_rfl)) ?_; intros)))
        refine iteB_f (by simp; exact h4) ?_
        exact fin ⟨false, 0, 0, 0⟩ n its m _ p c Sat.fin I0 (by omega) ts hs
      have none1 : o.k ≠ 3 → o.k ≠ 4 → ∀ H', Sat H' (pt r (.cells ⟨o.cells⟩ 27) :: pt r1 (.cells ⟨[.bool false, .int .i64 0, .int .i64 0, .int .i64 0]⟩ 29) :: sl QAn.cells 29 4 q i qc ans :: nqs mq mb p n c its m l) → QStep (its.map kt) o ⟨false, 0, 0, 0⟩ (its.map kt) →
          F5.L1 (some ad) ops.length sc (some ⟨mq, 0, none⟩) q i qc (i : Int) r r1 H' (QueueR ops l) := by
        intro h3 h4 H' S' hs
        refine F5.L1_step ?_
        unfold F5.L1n
        (repeat (first | (refine Step.go ?_; intros) | refine iteB_t (by decide) ?_ | refine iteB_f (by decide) ?_ | (refine Duo.mk (by first | omega | exact rfl | decide) ?_; intros) | (refine Duo.mk (Clo.mk (by kernel_rfl)) ?_; intros)))
        refine iteB_f (by simp; exact h3) ?_
        exact none_ h4 H' S' hs
      have hlen := (qs_len (l := mp (Value.int .i64) pv mb m :: sl QAn.cells 29 4 q i qc ans :: l) (mq := mq) (mb := mb) (p := p) (n := n) (c := c) (its := its) S.done).1
      (repeat (first | (refine Step.go ?_; intros) | refine iteB_t (by decide) ?_ | refine iteB_f (by decide) ?_ | (refine Duo.mk (by first | omega | exact rfl | decide) ?_; intros) | (refine Duo.mk (Clo.mk (by kernel_rfl)) ?_; intros)))
      refine iteB_i (fun h2 => ?_) (fun h2 => ?_)
      · simp at h2
        refine call_of (peek_ok I0 (by (refine Sat.to (by assumption) ?_; apply Ent.pick; (focus (repeat (first | exact Sel.here | apply Sel.there))); apply Ent.pick; (focus (repeat (first | exact Sel.here | apply Sel.there))); apply Ent.pick; (focus (repeat (first | exact Sel.here | apply Sel.there))); apply Ent.pick; (focus (repeat (first | exact Sel.here | apply Sel.there))); exact Ent.refl))) ?_
        rintro e H10 ⟨rfl, S10⟩
        cases hx : its[0]? with
        | none =>
          have h0 : its = [] := by cases its with
            | nil => rfl
            | cons a l => simp at hx
          (repeat (first | (refine Step.go ?_; intros) | refine iteB_t (by decide) ?_ | refine iteB_f (by decide) ?_ | (refine Duo.mk (by first | omega | exact rfl | decide) ?_; intros) | (refine Duo.mk (Clo.mk (by kernel_rfl)) ?_; intros)))
          refine none1 (by omega) (by omega) _ Sat.fin ⟨fun h => by omega, fun _ => ⟨rfl, .inl ⟨by simp [h0], rfl⟩⟩, fun h => by omega, fun h => by omega⟩
        | some x =>
          have A := atIt hx
          have tx := ts x (List.mem_of_getElem? hx)
          (repeat (first | (refine Step.go ?_; intros) | refine iteB_t (by decide) ?_ | refine iteB_f (by decide) ?_ | (refine Duo.mk (by first | omega | exact rfl | decide) ?_; intros) | (refine Duo.mk (Clo.mk (by kernel_rfl)) ?_; intros)))
          refine F5.L4_step ?_
          unfold F5.L4n
          refine call_of (peek_ok I0 (by (refine Sat.to (by assumption) ?_; apply Ent.pick; (focus (repeat (first | exact Sel.here | apply Sel.there))); apply Ent.pick; (focus (repeat (first | exact Sel.here | apply Sel.there))); apply Ent.pick; (focus (repeat (first | exact Sel.here | apply Sel.there))); apply Ent.pick; (focus (repeat (first | exact Sel.here | apply Sel.there))); exact Ent.refl))) ?_
          rintro e H11 ⟨rfl, S11⟩
          rw [hx]
          (repeat (first | (refine Step.go ?_; intros) | refine iteB_t (by decide) ?_ | refine iteB_f (by decide) ?_ | (refine Duo.mk (by first | omega | exact rfl | decide) ?_; intros) | (refine Duo.mk (Clo.mk (by kernel_rfl)) ?_; intros)))
          refine gives_i S11 (of_ok x (0 : Nat) _ ((inferInstance : At x.b _ _).get S11)) ?_
          intro H12 _ S12
          (repeat (first | (refine Step.go ?_; intros) | refine iteB_t (by decide) ?_ | refine iteB_f (by decide) ?_ | (refine Duo.mk (by first | omega | exact rfl | decide) ?_; intros) | (refine Duo.mk (Clo.mk (by kernel_rfl)) ?_; intros)))
          refine gives_i ‹_› (nanos_ok x.t tx.1 tx.2 _) ?_
          intro H13 _ S13
          (repeat (first | (refine Step.go ?_; intros) | refine iteB_t (by decide) ?_ | refine iteB_f (by decide) ?_ | (refine Duo.mk (by first | omega | exact rfl | decide) ?_; intros) | (refine Duo.mk (Clo.mk (by kernel_rfl)) ?_; intros)))
          refine fin ⟨true, x.id, x.t, 0⟩ n its m _ p c Sat.fin I0 (by omega) ts ⟨fun h => by omega, fun _ => ⟨rfl, .inr ⟨?_, rfl, List.mem_map_of_mem (f := kt) (List.mem_of_getElem? hx), ?_⟩⟩, fun h => by omega, fun h => by omega⟩
          · intro hh; simp at hh; subst hh; simp at hx
          · intro y hy
            obtain ⟨z, hz, rfl⟩ := List.mem_map.1 hy
            exact hp_least I0.hp hlen hx z hz
      · simp at h2
        by_cases h3 : o.k = 3
        · refine F5.L1_step ?_
          unfold F5.L1n
          (repeat (first | (refine Step.go ?_; intros) | refine iteB_t (by decide) ?_ | refine iteB_f (by decide) ?_ | (refine Duo.mk (by first | omega | exact rfl | decide) ?_; intros) | (refine Duo.mk (Clo.mk (by kernel_rfl)) ?_; intros)))
          refine iteB_t (by simp; exact h3) ?_
          refine call_of (len_ok I0 (by (refine Sat.to (by assumption) ?_; apply Ent.pick; (focus (repeat (first | exact Sel.here | apply Sel.there))); apply Ent.pick; (focus (repeat (first | exact Sel.here | apply Sel.there))); apply Ent.pick; (focus (repeat (first | exact Sel.here | apply Sel.there))); apply Ent.pick; (focus (repeat (first | exact Sel.here | apply Sel.there))); exact Ent.refl))) ?_
          rintro e H10 ⟨rfl, S10⟩
          (repeat (first | (refine Step.go ?_; intros) | refine iteB_t (by decide) ?_ | refine iteB_f (by decide) ?_ | (refine Duo.mk (by first | omega | exact rfl | decide) ?_; intros) | (refine Duo.mk (Clo.mk (by kernel_rfl)) ?_; intros)))
          refine iteB_i (fun h4 => ?_) (fun h4 => ?_)
          · simp at h4
            obtain ⟨n', rfl⟩ : ∃ n', n = n' + 1 := ⟨n - 1, by omega⟩
            refine F5.L3_step ?_
            unfold F5.L3n
            refine call_of (unreg_ok (by omega) I0 (by (refine Sat.to (by assumption) ?_; apply Ent.pick; (focus (repeat (first | exact Sel.here | apply Sel.there))); apply Ent.pick; (focus (repeat (first | exact Sel.here | apply Sel.there))); apply Ent.pick; (focus (repeat (first | exact Sel.here | apply Sel.there))); apply Ent.pick; (focus (repeat (first | exact Sel.here | apply Sel.there))); exact Ent.refl))) ?_
            rintro e H11 ⟨x, its', m', rfl, hx, hpm, I', S11⟩
            have tx := ts x (List.mem_of_getElem? hx)
            (repeat (first | (refine Step.go ?_; intros) | refine iteB_t (by decide) ?_ | refine iteB_f (by decide) ?_ | (refine Duo.mk (by first | omega | exact rfl | decide) ?_; intros) | (refine Duo.mk (Clo.mk (by kernel_rfl)) ?_; intros)))
            refine gives_i S11 (of_ok x (-1) _ ((inferInstance : At x.b _ _).get S11)) ?_
            intro H12 _ S12
            (repeat (first | (refine Step.go ?_; intros) | refine iteB_t (by decide) ?_ | refine iteB_f (by decide) ?_ | (refine Duo.mk (by first | omega | exact rfl | decide) ?_; intros) | (refine Duo.mk (Clo.mk (by kernel_rfl)) ?_; intros)))
            refine gives_i ‹_› (nanos_ok x.t tx.1 tx.2 _) ?_
            intro H13 _ S13
            (repeat (first | (refine Step.go ?_; intros) | refine iteB_t (by decide) ?_ | refine iteB_f (by decide) ?_ | (refine Duo.mk (by first | omega | exact rfl | decide) ?_; intros) | (refine Duo.mk (Clo.mk (by kernel_rfl)) ?_; intros)))
            refine fin ⟨true, x.id, x.t, 0⟩ n' its' m' _ p c Sat.fin I' (by omega) (fun y hy => ts y (hpm.mem_iff.2 (List.mem_cons_of_mem _ hy))) ⟨fun h => by omega, fun h => by omega, fun _ => ⟨.inr ⟨?_, rfl, List.mem_map_of_mem (f := kt) (List.mem_of_getElem? hx), ?_⟩, fun hh => ?_, fun _ => ?_⟩, fun h => by omega⟩
            · intro hh; simp at hh; subst hh; simp at hx
            · intro y hy
              obtain ⟨z, hz, rfl⟩ := List.mem_map.1 hy
              exact hp_least I0.hp hlen hx z hz
            · simp at hh; subst hh; simp at hx
            · have := hpm.map kt
              simpa [kt] using this
          · have h0 : its = [] := List.eq_nil_of_length_eq_zero (by simp at h4; omega)
            refine none_ (by omega) _ Sat.fin ⟨fun h => by omega, fun h => by omega, fun _ => ⟨.inl ⟨by simp [h0], rfl⟩, fun _ => by simp [h0], fun hh => absurd (by simp [h0]) hh⟩, fun h => by omega⟩
        · by_cases h4 : o.k = 4
          · refine F5.L1_step ?_
            unfold F5.L1n
            (repeat (first | (refine Step.go ?_; intros) | refine iteB_t (by decide) ?_ | refine iteB_f (by decide) ?_ | (refine Duo.mk (by first | omega | exact rfl | decide) ?_; intros) | (refine Duo.mk (Clo.mk (by kernel_rfl)) ?_; intros)))
            refine iteB_f (by simp; exact h3) ?_
            refine F5.L2_step ?_
            unfold F5.L2n
            (repeat (first | (refine Step.go ?_; intros) | refine iteB_t (by decide) ?_ | refine iteB_f (by decide) ?_ | (refine Duo.mk (by first | omega | exact rfl | decide) ?_; intros) | (refine Duo.mk (Clo.mk (by kernel_rfl)) ?_; intros)))
            refine iteB_t (by simp; exact h4) ?_
            refine call_of (len_ok I0 (by (refine Sat.to (by assumption) ?_; apply Ent.pick; (focus (repeat (first | exact Sel.here | apply Sel.there))); apply Ent.pick; (focus (repeat (first | exact Sel.here | apply Sel.there))); apply Ent.pick; (focus (repeat (first | exact Sel.here | apply Sel.there))); apply Ent.pick; (focus (repeat (first | exact Sel.here | apply Sel.there))); exact Ent.refl))) ?_
            rintro e H10 ⟨rfl, S10⟩
            (repeat (first | (refine Step.go ?_; intros) | refine iteB_t (by decide) ?_ | refine iteB_f (by decide) ?_ | (refine Duo.mk (by first | omega | exact rfl | decide) ?_; intros) | (refine Duo.mk (Clo.mk (by kernel_rfl)) ?_; intros)))
            exact fin ⟨true, 0, 0, n⟩ n its m _ p c Sat.fin I0 (by omega) ts ⟨fun h => by omega, fun h => by omega, fun h => by omega, fun _ => ⟨rfl, by simp [hlen]⟩⟩
          · exact none1 h3 h4 _ Sat.fin (other h h2 h3 h4 _)
/-- All calls of a new queue. -/
theorem queue_ok {H0 : Heap} {l : List HP} [O : OldAt l H0] {s : Option Addr} {sc : Nat} {ops : List QOp} [R : RowsC H0 s QOp.cells 3 ops] (h200 : ops.length ≤ 200) (hg : ∀ o ∈ ops, o.k = 1 → 0 ≤ o.a ∧ o.a ≤ 1152921504606846976) (H : Heap) (S : Sat H l) :
    CallsH Try.prog 5 ⟨[.slice s ops.length sc]⟩ H (QueueR ops l) := by
  refine F5.calls ?_
  unfold F5.go
  refine call_of (new_ok H l S) ?_
  rintro e H1 ⟨mq, mb, p, rfl, I, S1⟩
  (repeat (first | (refine Step.go ?_; intros) | refine iteB_t (by decide) ?_ | refine iteB_f (by decide) ?_ | (refine Duo.mk (by first | omega | exact rfl | decide) ?_; intros) | (refine Duo.mk (Clo.mk (by kernel_rfl)) ?_; intros)))
  exact queue_loop h200 hg ops.length 0 [] 0 [] [] _ p 0 none 0 (by omega) ⟨I, by omega, by simp, ⟨fun _ => [], ⟨rfl, rfl, fun i hi => by simp, fun i o a hi => by omega⟩, rfl⟩, S1.to (.slNil .refl)⟩
end Go.Proofs.Ytkenjnllegbmjaa
