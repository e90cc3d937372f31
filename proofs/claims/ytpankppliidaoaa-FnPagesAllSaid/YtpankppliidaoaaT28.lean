/- What functions of this seat do, each proved by a walk; no condition. -/
import Derived.Test.YtpankppliidaoaaT27
set_option linter.unusedVariables false
set_option linter.unusedSimpArgs false
namespace Go.Proofs.Ytpankppliidaoaa
open Go Go.Den Go.Proofs
theorem live_steps {al : List (Ans × List By)} {bs : By} (h : Steps 64 [⟨[97, 98, 99], false⟩, ⟨[], true⟩] al bs) : ∃ a0 a1, al = [(a0, []), (a1, [[97, 98, 99]])] ∧ a0.N = 3 ∧ a0.n = 0 ∧ a1.n = 1 := by
  generalize ho : ([⟨[97, 98, 99], false⟩, ⟨[], true⟩] : List PgOp) = os at h
  cases h with
  | nil => cases ho
  | @snoc ops al bs1 o a1 ws bs' hs st hn =>
    obtain ⟨h1, h2⟩ := List.append_inj' (show [(⟨[97, 98, 99], false⟩ : PgOp)] ++ [⟨[], true⟩] = ops ++ [o] from ho) rfl
    subst h1
    simp at h2
    subst h2
    generalize ho1 : ([⟨[97, 98, 99], false⟩] : List PgOp) = os1 at hs
    cases hs with
    | nil => cases ho1
    | @snoc ops0 al0 bs0 o0 a0 ws0 bs0' hs0 st0 hn0 =>
      obtain ⟨h1, h2⟩ := List.append_inj' (show ([] : List PgOp) ++ [(⟨[97, 98, 99], false⟩ : PgOp)] = ops0 ++ [o0] from ho1) rfl
      subst h1
      simp at h2
      subst h2
      generalize ho2 : ([] : List PgOp) = os2 at hs0
      cases hs0 with
      | nil =>
        obtain ⟨_, e1, _, e3⟩ := st0
        obtain ⟨rfl, rfl⟩ := e3 (by simp)
        obtain ⟨_, _, rfl, rfl⟩ := st
        refine ⟨a0, a1, rfl, e1, hn0, hn⟩
      | snoc => simp at ho2
theorem pgLive_ok (H : Heap) : CallsH Try.prog 21 ⟨[]⟩ H (Gives (.bool true) H) := by
  refine F21.calls ?_
  unfold F21.go
  refine St.new (St.start H) ?_
  intro r H1 L
  have hb := (L.own 0 _ _ rfl).2
  refine callD_i (pages_ok 8 64 0 (by decide) (by decide) (by decide) (by decide) (by decide) (by decide) (some ⟨r, 0, none⟩) 2 2 [⟨[97, 98, 99], false⟩, ⟨[], true⟩] rfl (by decide) (by intro o ho; simp at ho; rcases ho with rfl | rfl <;> decide) H1 (RowsAt.of_block hb ?_)) ?_
  · intro i x hi j v hj
    match i with
    | 0 => simp at hi; subst hi; match j with
      | 0 => exact hj
      | 1 => exact hj
      | j + 2 => simp [PgOp.cells] at hj
    | 1 => simp at hi; subst hi; match j with
      | 0 => exact hj
      | 1 => exact hj
      | j + 2 => simp [PgOp.cells] at hj
    | i + 2 => simp at hi
  rintro e H2 ⟨out, oc, al, bs, rfl, E, hR, hw, st⟩
  refine tSl_i ?_
  obtain ⟨a0, a1, rfl, e1, e2, e3⟩ := live_steps st
  have w1 := hw (a1, [[97, 98, 99]]) (by simp)
  refine iteB_i (fun _ => ?_) (fun h => by simp at h)
  refine hR.idx rfl (by decide) (by decide) ?_
  intro a x hx hc
  have hx0 : x = a0 := by simpa using hx.symm
  subst hx0
  refine ⟨_, at_zero hc rfl, ?_⟩
  rw [e1]
  refine iteB_i (fun _ => ?_) (fun h => by simp at h)
  refine hR.idx rfl (by decide) (by decide) ?_
  intro a x' hx2 hc2
  have hx0 : x' = x := by simpa using hx2.symm
  subst hx0
  refine ⟨_, _, _, hc2 1 _ rfl, ?_⟩
  rw [e2]
  refine iteB_i (fun _ => ?_) (fun h => by simp at h)
  refine hR.idx rfl (by decide) (by decide) ?_
  intro a y hy3 hc3
  have hy0 : y = a1 := by simpa using hy3.symm
  subst hy0
  refine ⟨_, _, _, hc3 1 _ rfl, ?_⟩
  rw [e3]
  refine iteB_i (fun _ => ?_) (fun h => by simp at h)
  refine hR.idx rfl (by decide) (by decide) ?_
  intro a y' hy4 hc4
  have hy0 : y' = y := by simpa using hy4.symm
  subst hy0
  refine ⟨_, _, _, hc4 1 _ rfl, ?_⟩
  rw [e3]
  refine w1.idx rfl (by decide) (by decide) ?_
  intro a s hs5 hc5
  have hs0 : s = [97, 98, 99] := by simpa using hs5.symm
  subst hs0
  refine ⟨_, at_zero hc5 rfl, ?_⟩
  exact ⟨by rw [eqS_refl], L.ext.trans E⟩
/-! What fits. -/
theorem fits45 (o : PgOp) (H : Heap) : CallsH Try.prog 45 ⟨[.agg ⟨o.cells⟩]⟩ H (fun e H1 => (∃ b, e = .returned (.bool b) ∧ (b = true → o.text.length ≤ 2147483647)) ∧ ExtH H H1) := by
  refine F45.calls ?_
  unfold F45.go
  have L := St.start H
  repeat (first
    | (refine St.new L ?_; intro _r _H L)
    | refine St.int L 0 rfl rfl ?_
    | refine St.bool L 0 rfl rfl ?_
    | refine St.str L 0 rfl rfl ?_
    | refine St.ptr L 0 rfl rfl ?_
    | refine St.sl L 0 rfl rfl ?_
    | refine St.map L 0 rfl rfl ?_
    | refine St.ifmk L 0 rfl rfl ?_
    | refine St.ifnil L 0 rfl rfl ?_
    | refine St.ifv L 0 rfl rfl ?_
    | refine St.fnmk L 0 rfl rfl ?_
    | refine St.fnv L 0 rfl rfl ?_
    | (refine St.st L 0 rfl rfl (by first | rfl | exact isCell_IV _ | exact isCell_FV _) ?_; intro _H L)
    | refine tInt_i ?_
    | refine tBool_i ?_
    | refine tStr_i ?_
    | refine tPtr_i ?_
    | refine tSl_i ?_
    | refine tMap_i ?_
    | refine tIf_nil ?_
    | refine tIf_mk ?_
    | refine tIf_i ?_
    | refine tFn_mk ?_
    | refine tFn_i ?_
    | refine tAgg_i ?_
    | refine tTup_i ?_
    | refine tCons_i ?_
    | refine tNil_i ?_
    | refine andD_i (by assumption) ?_
    | refine nilD_i ?_)
  refine iteB_i (fun _ => ⟨⟨_, rfl, fun h => by cases h⟩, L.ext⟩) (fun h => ⟨⟨_, rfl, fun _ => ?_⟩, L.ext⟩)
  have e : (ByteArray.mk ⟨o.text⟩).size = o.text.length := rfl
  rw [e] at h
  simp at h
  omega
theorem fits19_loop (p : Option Addr) (n c : Nat) (l : List PgOp) (hn : n = l.length) (hm : n ≤ 2147483647) (H0 : Heap) (hR : RowsAt PgOp.cells 2 H0 p l) :
    ∀ (d i : Nat) (H : Heap), i + d = n → ExtH H0 H → (∀ o ∈ l.take i, o.text.length ≤ 2147483647) → F19.L0 p n c (n : Int) (i : Int) H (fun e H1 => (∃ b, e = .returned (.bool b) ∧ (b = true → ∀ o ∈ l, o.text.length ≤ 2147483647)) ∧ ExtH H0 H1) := by
  intro d
  induction d with
  | zero =>
    intro i H hi E hk
    refine F19.L0_step ?_
    unfold F19.L0n
    refine iteB_i (fun h => by simp at h; omega) (fun _ => ⟨⟨_, rfl, fun _ => ?_⟩, E⟩)
    rwa [List.take_of_length_le (by omega)] at hk
  | succ d ih =>
    intro i H hi E hk
    refine F19.L0_step ?_
    unfold F19.L0n
    refine iteB_i (fun _ => ?_) (fun h => by simp at h; omega)
    refine (hR.ext E).idx hn (by omega) (by omega) ?_
    intro a x hx hc
    refine ⟨_, at_zero hc rfl, _, hc 1 _ rfl, ?_⟩
    have L := St.start H
    repeat (first
    | (refine St.new L ?_; intro _r _H L)
    | refine St.int L 0 rfl rfl ?_
    | refine St.bool L 0 rfl rfl ?_
    | refine St.str L 0 rfl rfl ?_
    | refine St.ptr L 0 rfl rfl ?_
    | refine St.sl L 0 rfl rfl ?_
    | refine St.map L 0 rfl rfl ?_
    | refine St.ifmk L 0 rfl rfl ?_
    | refine St.ifnil L 0 rfl rfl ?_
    | refine St.ifv L 0 rfl rfl ?_
    | refine St.fnmk L 0 rfl rfl ?_
    | refine St.fnv L 0 rfl rfl ?_
    | (refine St.st L 0 rfl rfl (by first | rfl | exact isCell_IV _ | exact isCell_FV _) ?_; intro _H L)
    | refine tInt_i ?_
    | refine tBool_i ?_
    | refine tStr_i ?_
    | refine tPtr_i ?_
    | refine tSl_i ?_
    | refine tMap_i ?_
    | refine tIf_nil ?_
    | refine tIf_mk ?_
    | refine tIf_i ?_
    | refine tFn_mk ?_
    | refine tFn_i ?_
    | refine tAgg_i ?_
    | refine tTup_i ?_
    | refine tCons_i ?_
    | refine tNil_i ?_
    | refine andD_i (by assumption) ?_
    | refine nilD_i ?_)
    refine callD_i (fits45 x _) ?_
    rintro e H4 ⟨⟨b, rfl, hb⟩, E4⟩
    refine tBool_i ?_
    refine iteB_i (fun _ => ⟨⟨_, rfl, fun h => by cases h⟩, E.trans (L.ext.trans E4)⟩) (fun hbt => ?_)
    have e1 : IntKind.wrap .i64 ((i : Int) + (1 : Int)) = ((i + 1 : Nat) : Int) := by rw [wrap64_small (by omega) (by omega)]; rfl
    rw [e1]
    refine ih (i + 1) _ (by omega) (E.trans (L.ext.trans E4)) ?_
    have hx' : l[i]? = some x := hx
    rw [List.take_add_one, hx']
    intro o ho
    rcases List.mem_append.1 ho with ho | ho
    · exact hk o ho
    · simp at ho; subst ho; exact hb (by simpa using hbt)
theorem fits19 (p : Option Addr) (n c : Nat) (l : List PgOp) (hn : n = l.length) (H0 : Heap) (hR : RowsAt PgOp.cells 2 H0 p l) : CallsH Try.prog 19 ⟨[.slice p n c]⟩ H0 (fun e H1 => (∃ b, e = .returned (.bool b) ∧ (b = true → ∀ o ∈ l, o.text.length ≤ 2147483647)) ∧ ExtH H0 H1) := by
  refine F19.calls ?_
  unfold F19.go
  refine iteB_i (fun _ => ⟨⟨_, rfl, fun h => by cases h⟩, ExtH.refl _⟩) (fun h => ?_)
  simp at h
  exact fits19_loop p n c l hn (by omega) H0 hR n 0 H0 (by omega) (ExtH.refl _) (by simp)
def sumT (l : List PgOp) : Nat := (l.map fun o => o.text.length).sum
theorem good_loop (p : Option Addr) (n c : Nat) (l : List PgOp) (hn : n = l.length) (hm : n ≤ 300) (hf : ∀ o ∈ l, o.text.length ≤ 2147483647) (H0 : Heap) (hR : RowsAt PgOp.cells 2 H0 p l) :
    ∀ (d i : Nat) (H : Heap), i + d = n → ExtH H0 H → sumT (l.take i) ≤ 1048576 → F20.L1 (sumT (l.take i) : Int) p n c (n : Int) (i : Int) H (fun e H1 => (∃ b, e = .returned (.bool b) ∧ (b = true → sumT l ≤ 1048576)) ∧ ExtH H0 H1) := by
  intro d
  induction d with
  | zero =>
    intro i H hi E hk
    refine F20.L1_step ?_
    unfold F20.L1n
    refine iteB_i (fun h => by simp at h; omega) (fun _ => ⟨⟨_, rfl, fun _ => ?_⟩, E⟩)
    rwa [List.take_of_length_le (by omega)] at hk
  | succ d ih =>
    intro i H hi E hk
    refine F20.L1_step ?_
    unfold F20.L1n
    refine iteB_i (fun _ => ?_) (fun h => by simp at h; omega)
    refine (hR.ext E).idx hn (by omega) (by omega) ?_
    intro a x hx hc
    refine ⟨_, at_zero hc rfl, _, hc 1 _ rfl, ?_⟩
    have L := St.start H
    repeat (first
    | (refine St.new L ?_; intro _r _H L)
    | refine St.int L 0 rfl rfl ?_
    | refine St.bool L 0 rfl rfl ?_
    | refine St.str L 0 rfl rfl ?_
    | refine St.ptr L 0 rfl rfl ?_
    | refine St.sl L 0 rfl rfl ?_
    | refine St.map L 0 rfl rfl ?_
    | refine St.ifmk L 0 rfl rfl ?_
    | refine St.ifnil L 0 rfl rfl ?_
    | refine St.ifv L 0 rfl rfl ?_
    | refine St.fnmk L 0 rfl rfl ?_
    | refine St.fnv L 0 rfl rfl ?_
    | (refine St.st L 0 rfl rfl (by first | rfl | exact isCell_IV _ | exact isCell_FV _) ?_; intro _H L)
    | refine tInt_i ?_
    | refine tBool_i ?_
    | refine tStr_i ?_
    | refine tPtr_i ?_
    | refine tSl_i ?_
    | refine tMap_i ?_
    | refine tIf_nil ?_
    | refine tIf_mk ?_
    | refine tIf_i ?_
    | refine tFn_mk ?_
    | refine tFn_i ?_
    | refine tAgg_i ?_
    | refine tTup_i ?_
    | refine tCons_i ?_
    | refine tNil_i ?_
    | refine andD_i (by assumption) ?_
    | refine nilD_i ?_)
    have hx' : l[i]? = some x := hx
    have hxf := hf x (List.mem_of_getElem? hx')
    have hs : sumT (l.take (i + 1)) = sumT (l.take i) + x.text.length := by
      unfold sumT; rw [List.take_add_one, hx']; simp
    have e0 : IntKind.wrap .i64 ((sumT (l.take i) : Int) + (((ByteArray.mk ⟨x.text⟩).size : Nat) : Int)) = ((sumT (l.take (i + 1)) : Nat) : Int) := by
      have e : (ByteArray.mk ⟨x.text⟩).size = x.text.length := rfl
      rw [e, wrap64_small (by omega) (by omega), hs]; simp
    rw [e0]
    refine iteB_i (fun _ => ⟨⟨_, rfl, fun h => by cases h⟩, E.trans L.ext⟩) (fun hle => ?_)
    simp at hle
    have e1 : IntKind.wrap .i64 ((i : Int) + (1 : Int)) = ((i + 1 : Nat) : Int) := by rw [wrap64_small (by omega) (by omega)]; rfl
    rw [e1]
    exact ih (i + 1) _ (by omega) (E.trans L.ext) (by omega)
theorem good_ok (s0 s1 s2 : Int) (p : Option Addr) (n c : Nat) (l : List PgOp) (hn : n = l.length) (hf : ∀ o ∈ l, o.text.length ≤ 2147483647) (H : Heap) (hR : RowsAt PgOp.cells 2 H p l) :
    CallsH Try.prog 20 ⟨[.int .i64 s0, .int .i64 s1, .int .i64 s2, .slice p n c]⟩ H (fun e H1 => (∃ b, e = .returned (.bool b) ∧ (b = true → 1 ≤ s1 ∧ s1 ≤ 65536 ∧ s1 ≤ s0 ∧ s0 ≤ 1048576 ∧ 0 ≤ s2 ∧ s2 ≤ 1073741824 ∧ n ≤ 300 ∧ sumT l ≤ 1048576)) ∧ ExtH H H1) := by
  refine F20.calls ?_
  unfold F20.go
  have no : (∃ b, (Ending.returned (.bool false)) = .returned (.bool b) ∧ (b = true → 1 ≤ s1 ∧ s1 ≤ 65536 ∧ s1 ≤ s0 ∧ s0 ≤ 1048576 ∧ 0 ≤ s2 ∧ s2 ≤ 1073741824 ∧ n ≤ 300 ∧ sumT l ≤ 1048576)) ∧ ExtH H H := ⟨⟨false, rfl, fun h => by cases h⟩, ExtH.refl _⟩
  refine iteB_i (fun _ => no) (fun h1 => ?_)
  refine iteB_i (fun _ => no) (fun h2 => ?_)
  refine iteB_i (fun _ => no) (fun h3 => ?_)
  refine iteB_i (fun _ => no) (fun h4 => ?_)
  refine iteB_i (fun _ => no) (fun h5 => ?_)
  refine iteB_i (fun _ => no) (fun h6 => ?_)
  refine iteB_i (fun _ => no) (fun h7 => ?_)
  simp at h1 h2 h3 h4 h5 h6 h7
  refine F20.L0_step ?_
  unfold F20.L0n
  refine GoL.mono (good_loop p n c l hn (by omega) hf H hR n 0 H (by omega) (ExtH.refl _) (by simp [sumT])) ?_
  rintro e H1 ⟨⟨b, rfl, hb⟩, E⟩
  exact ⟨⟨b, rfl, fun h => ⟨by omega, by omega, by omega, by omega, by omega, by omega, by omega, hb h⟩⟩, E⟩
end Go.Proofs.Ytpankppliidaoaa
