/- What functions of this seat do, each proved by a walk; no condition. -/
import Derived.Test.YtpankppliidaoaaT26
set_option linter.unusedVariables false
set_option linter.unusedSimpArgs false
namespace Go.Proofs.Ytpankppliidaoaa
open Go Go.Den Go.Proofs
def strCell (w : By) : List Value := [.string ⟨⟨w⟩⟩]
/-- What is told of the operations. -/
def PagesOut (B : Nat) (H : Heap) (ops : List PgOp) : Ending → Heap → Prop := fun e H1 => ∃ (out : Option Addr) (oc : Nat) (al : List (Ans × List By)) (bs : By), e = .returned (.slice out ops.length oc) ∧ ExtH H H1 ∧ RowsAt Ans.cells 2 H1 out (al.map (·.1)) ∧
  (∀ y ∈ al, RowsAt strCell 1 H1 y.1.p y.2) ∧ Steps B ops al bs
theorem pages_ok (P B : Nat) (po : Int) (hP : 0 < P) (hP1 : P ≤ 65536) (hPB : P ≤ B) (hB : B ≤ 1048576) (h0 : 0 ≤ po) (h1 : po ≤ 1073741824) (s3 : Option Addr) (s3n s3c : Nat) (ops : List PgOp) (hn : s3n = ops.length) (h1000 : s3n ≤ 1000) (ht : ∀ o ∈ ops, o.text.length ≤ 1048576) (H : Heap) (hR : RowsAt PgOp.cells 2 H s3 ops) :
    CallsH Try.prog 22 ⟨[.int .i64 B, .int .i64 P, .int .i64 po, .slice s3 s3n s3c]⟩ H (PagesOut B H ops) := by
  refine F22.calls ?_
  unfold F22.go
  refine iteB_i (fun h => by simp at h; omega) (fun _ => ?_)
  refine iteB_i (fun h => by simp at h; omega) (fun _ => ?_)
  refine iteB_i (fun h => by simp at h; omega) (fun _ => ?_)
  refine iteB_i (fun h => by simp at h; omega) (fun _ => ?_)
  refine F22.L0_step ?_
  unfold F22.L0n
  refine St.new (St.start H) ?_
  intro b H1 L
  refine callD_i (newPW_ok b P B po hP hP1 hB H1) ?_
  rintro e H2 ⟨pw, rb, l, rfl, L2⟩
  refine tPtr_i ?_
  have hb := L.lt (i := 0) rfl
  have c0 := L2.own 0 _ _ rfl
  have c1 := L2.own 1 _ _ rfl
  have n0 : H1.size ≤ rb := c0.1.resolve_left id
  have n1 : H1.size ≤ pw := c1.1.resolve_left id
  have hne := L2.ne (i := 0) (j := 1) rfl rfl (by decide)
  have s0 := L.chg.size
  have L3 := L.extend L2.ext
  have L4 := L3.take (r := pw) (.inr (by omega)) c1.2 (by
    intro i r' o' hi
    match i with
    | 0 => simp at hi; omega
    | i + 1 => simp at hi)
  have L5 := L4.take (r := rb) (.inr (by omega)) c0.2 (by
    intro i r' o' hi
    match i with
    | 0 => simp at hi; omega
    | 1 => simp at hi; omega
    | i + 2 => simp at hi)
  have L6 := L5.pick [1, 2, 0] (by decide) (l' := pws pw b rb po P B 0 none 0 0 (List.replicate (B + P) (.int .u8 0)) []) rfl rfl
  have gd : Good po P B [] (List.replicate (B + P) (.int .u8 0)) := ⟨h0, h1, hP, hP1, hPB, hB, by simp, by simp [bytesOf], by simp⟩
  have inv : PgInv H H2 pw b rb P B none 0 0 ops [] [] := ⟨⟨po, none, 0, 0, _, gd, .inl (by simp), .nil L6⟩, by simp, .nil⟩
  refine GoL.mono (pg_loop s3 s3n s3c H pw b rb P B ops hn h1000 ht hR s3n 0 none 0 [] [] H2 (by omega) inv) ?_
  rintro e H3 ⟨out, oc, al, bs, rfl, ⟨po', wp, wn, wc, buf, _, _, g⟩, ok, st⟩
  rw [hn, List.take_length] at st
  refine ⟨out, oc, al, bs, by rw [hn], g.st.ext, (g.rows (fun x => rfl) (by decide)).1, ?_, st⟩
  intro y hy
  rcases ok y hy with h | ⟨r, sp, h1, _, h2⟩
  · exact .inl h
  · rw [h1]
    refine RowsAt.of_block h2 ?_
    intro i w hi j v hj
    cases j with
    | zero =>
      simp [strCell] at hj
      subst hj
      rw [Nat.mul_one, Nat.add_zero, List.getElem?_append_left (by
        simp only [strs, List.length_map]
        rcases Nat.lt_or_ge i y.2.length with h | h
        · exact h
        · rw [List.getElem?_eq_none h] at hi; cases hi)]
      simp [strs, hi]
    | succ j => simp [strCell] at hj
theorem eqS_refl (a : ByteArray) : eqS a a = true := by simp [eqS]
theorem steps_len {B : Nat} {ops : List PgOp} {al : List (Ans × List By)} {bs : By} (h : Steps B ops al bs) : al.length = ops.length := by
  induction h with
  | nil => rfl
  | snoc _ _ _ ih => simp [ih]
def texts (ops : List PgOp) : By := (ops.map fun o => if o.flush then [] else o.text).flatten
def outs (al : List (Ans × List By)) : By := (al.map fun y => y.2.flatten).flatten
theorem fl_flat (bs : By) : (fl bs).flatten = bs := by unfold fl; split <;> simp_all
theorem steps_sum {B : Nat} {ops : List PgOp} {al : List (Ans × List By)} {bs : By} (h : Steps B ops al bs) : outs al ++ bs = texts ops := by
  induction h with
  | nil => rfl
  | @snoc ops al bs o a ws bs' _ st _ ih =>
    unfold outs texts at ih ⊢
    simp only [List.map_append, List.flatten_append, List.map_cons, List.map_nil, List.flatten_cons, List.flatten_nil, List.append_nil]
    rw [← ih]
    unfold StepOk at st
    replace st := st.2
    split at st
    · rename_i hf
      obtain ⟨_, rfl, rfl⟩ := st
      rw [if_pos hf, fl_flat]
    · rename_i hf
      rw [if_neg hf, List.append_assoc, st.2.1]; simp
theorem steps_at {B : Nat} {ops : List PgOp} {al : List (Ans × List By)} {bs : By} (h : Steps B ops al bs) : ∀ (i : Nat) (o : PgOp) (y : Ans × List By), ops[i]? = some o → al[i]? = some y → y.1.n = y.2.length ∧ (o.flush = false → y.1.N = o.text.length) := by
  induction h with
  | nil => intro i o y h; simp at h
  | @snoc ops al bs o a ws bs' hs st hn ih =>
    intro i o' y ho hy
    have hl := steps_len hs
    rcases Nat.lt_trichotomy i ops.length with h | h | h
    · rw [List.getElem?_append_left h] at ho
      rw [List.getElem?_append_left (by omega)] at hy
      exact ih i o' y ho hy
    · subst h
      rw [List.getElem?_append_right (Nat.le_refl _)] at ho
      rw [List.getElem?_append_right (by omega)] at hy
      simp [hl] at ho hy
      subst ho; subst hy
      refine ⟨hn, fun hf => ?_⟩
      unfold StepOk at st
      replace st := st.2
      rw [if_neg (by rw [hf]; simp)] at st
      exact st.1
    · rw [List.getElem?_eq_none (by simp; omega)] at ho; cases ho
theorem steps_cnt {B : Nat} {ops : List PgOp} {al : List (Ans × List By)} {bs : By} (h : Steps B ops al bs) : ∀ y ∈ al, y.2.length ≤ 2 := by
  induction h with
  | nil => intro y h; cases h
  | snoc _ st _ ih =>
    intro y hy
    rcases List.mem_append.1 hy with hy | hy
    · exact ih y hy
    · simp at hy; subst hy; exact st.1
theorem steps_last {B : Nat} {ops : List PgOp} {o : PgOp} {al : List (Ans × List By)} {bs : By} (h : Steps B (ops ++ [o]) al bs) (hf : o.flush = true) : bs = [] := by
  generalize ho : ops ++ [o] = os at h
  cases h with
  | nil => simp at ho
  | @snoc ops' al bs1 o' a ws bs' hs st hn =>
    obtain ⟨_, h2⟩ := List.append_inj' ho rfl
    simp at h2
    subst h2
    unfold StepOk at st
    replace st := st.2
    rw [if_pos hf] at st
    exact st.2.2
end Go.Proofs.Ytpankppliidaoaa
