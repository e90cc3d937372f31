/- What functions of this seat do, each proved by a walk; no condition. -/
import Derived.Test.YtpankppliidaoaaT4
import Derived.Test.YtpankppliidaoaaT5
set_option linter.unusedVariables false
namespace Go.Proofs.Ytpankppliidaoaa
open Go Go.Den Go.Proofs

/-- The seventeen bytes of a revision. -/
def encB (m s : Int) : List Value := be (IntKind.wrap .u64 m) ++ [.int .u8 95] ++ be (IntKind.wrap .u64 s)
theorem encB_length (m s : Int) : (encB m s).length = 17 := by simp [encB, be_length]
theorem enc_steps (m s : Int) (cs : List Value) (hc : cs.length = 18) :
    let c1 := cs.take 0 ++ be (IntKind.wrap .u64 m) ++ cs.drop (0 + 8)
    let c2 := c1.set 8 (.int .u8 95)
    c2.take 9 ++ be (IntKind.wrap .u64 s) ++ c2.drop (9 + 8) = encB m s ++ cs.drop 17 := by
  intro c1 c2
  have h1 : (be (IntKind.wrap .u64 m)).length = 8 := be_length _
  have e1 : c2 = be (IntKind.wrap .u64 m) ++ ((.int .u8 95) :: cs.drop 9) := by
    show (cs.take 0 ++ be (IntKind.wrap .u64 m) ++ cs.drop (0 + 8)).set 8 (.int .u8 95) = _
    simp only [List.take_zero, List.nil_append, Nat.zero_add]
    rw [List.set_append_right _ _ (by omega), h1, List.drop_eq_getElem_cons (show 8 < cs.length by omega)]
    rfl
  rw [e1]
  have e2 : (be (IntKind.wrap .u64 m) ++ ((.int .u8 95) :: cs.drop 9)).take 9 = be (IntKind.wrap .u64 m) ++ [.int .u8 95] := by
    rw [List.take_append, h1, List.take_of_length_le (by omega)]
    rfl
  have e3 : (be (IntKind.wrap .u64 m) ++ ((.int .u8 95) :: cs.drop 9)).drop (9 + 8) = cs.drop 17 := by
    rw [List.drop_append, h1, List.drop_of_length_le (by omega)]
    simp
  rw [e2, e3]
  simp [encB]
theorem last_one (cs : List Value) (hc : cs.length = 18) : cs.drop 17 = [cs[17]'(by omega)] := by
  rw [List.drop_eq_getElem_cons (show 17 < cs.length by omega), List.drop_of_length_le (by omega)]
theorem bkToBytes_ok (m s : Int) (t : Bool) (r n : Nat) (cs : List Value) (hc : cs.length = 18) (hn : n = 17 ∨ n = 18) (H : Heap) (hH : H[r]? = some (.cells ⟨cs⟩ 5)) :
    CallsH Try.prog 42 ⟨[.agg ⟨[.int .i64 m, .int .i64 s, .bool t]⟩, .slice (some ⟨r, 0, none⟩) n 18]⟩ H
      (fun e H1 => e = .returned (.slice (some ⟨r, 0, none⟩) (if t then 18 else n) 18) ∧ Upd r (.cells ⟨encB m s ++ [if t then .int .u8 116 else cs[17]'(by omega)]⟩ 5) H H1) := by
  refine F42.calls ?_
  unfold F42.go
  refine Loc.new (Loc.start H) ?_
  intro r0 H1 L
  refine Loc.int L 0 rfl rfl ?_
  have hr0 := L.cell 0 _ _ _ rfl
  have hlt := block_lt hH
  have hne : r0 ≠ r := by omega
  refine callD_i (putUint64_ok (IntKind.wrap .u64 m) r 0 n 18 cs 5 (by omega) (by omega) H1 (L.ext.block_some hH)) ?_
  rintro e H2 ⟨rfl, u2⟩
  refine tTup_i (tNil_i ?_)
  refine idxD_i (by omega) (by omega) ?_
  have b2 : H2[r0]? = some _ := (u2.same r0 (block_lt hr0.2) hne).trans hr0.2
  simp only [add_mk]
  refine st1_of (r := r) (j := 0 + Int.toNat 8 * 1) u2.at_ (u := (cs.take 0 ++ be (IntKind.wrap .u64 m) ++ cs.drop (0 + 8))[8]'(by simp [be_length, hc])) ?_ rfl ?_
  · exact List.getElem?_eq_getElem _
  intro H3 u3
  have b3 : H3[r0]? = some _ := (u3.same r0 (block_lt b2) hne).trans b2
  refine bndD_i (by omega) (by omega) ?_
  refine ⟨_, hcell_of b3 rfl, ?_⟩
  have hsl : slP (some ⟨r, 0, none⟩) (9 : Int).toNat 18 1 = some ⟨r, 9, none⟩ := by rw [slP_mk (by decide)]; rfl
  rw [hsl]
  have hl3 : ((cs.take 0 ++ be (IntKind.wrap .u64 m) ++ cs.drop (0 + 8)).set (0 + Int.toNat 8 * 1) (.int .u8 95)).length = 18 := by simp [be_length, hc]
  refine callD_i (putUint64_ok (IntKind.wrap .u64 s) r 9 _ _ _ 5 (by have : (9 : Int).toNat = 9 := rfl; omega) (by rw [hl3]; omega) H3 u3.at_) ?_
  rintro e H4 ⟨rfl, u4⟩
  refine tTup_i (tNil_i ?_)
  have b4 : H4[r0]? = some _ := (u4.same r0 (block_lt b3) hne).trans b3
  refine ⟨_, hcell_of b4 rfl, ?_⟩
  have es := enc_steps m s cs hc
  simp only at es
  have hU : Upd r (.cells ⟨encB m s ++ cs.drop 17⟩ 5) H H4 := by
    have u := (u2.trans u3).trans u4
    have e : (0 + Int.toNat 8 * 1) = 8 := rfl
    rw [e, es] at u
    exact Upd.of_ext L.ext u (.inl hlt)
  have hlast := last_one cs hc
  cases t with
  | false =>
    refine iteB_i (fun h => by cases h) (fun _ => ?_)
    refine ⟨rfl, ?_⟩
    rw [hlast] at hU
    exact hU
  | true =>
    refine iteB_i (fun _ => ?_) (fun h => by cases h)
    rcases hn with rfl | rfl
    · refine iteB_i (fun _ => ?_) (fun h => by simp at h)
      refine Loc.new (Loc.start H4) ?_
      intro r5 H5 L5
      have h5 := L5.cell 0 _ _ _ rfl
      refine ⟨[.int .u8 116], rfl, ?_, ?_, ?_⟩
      · intro j v hj
        cases j with
        | zero => simp at hj; subst hj; exact ⟨_, rfl, by rw [add_mk]; exact hcell_of h5.2 rfl⟩
        | succ j => simp at hj
      · intro _
        show stCs _ _ _ _ _
        simp only [stCs, add_mk]
        have hat : H5[r]? = some (.cells ⟨encB m s ++ cs.drop 17⟩ 5) := L5.ext.block_some hU.at_
        refine st1_of (r := r) hat (u := cs[17]'(by omega)) ?_ rfl ?_
        · rw [hlast]; rfl
        intro H6 u6
        refine ⟨rfl, ?_⟩
        have := (hU.ext L5.ext).trans u6
        rw [hlast] at this
        have e : (encB m s ++ [cs[17]'(by omega)]).set (0 + 17 * 1 + 0) (.int .u8 116) = encB m s ++ [.int .u8 116] := by
          rw [List.set_append_right _ _ (by rw [encB_length]; omega), encB_length]; rfl
        rw [e] at this
        exact this
      · intro h; omega
    · refine iteB_i (fun h => by simp at h) (fun _ => ?_)
      refine iteB_i (fun _ => ?_) (fun h => by simp at h)
      refine idxD_i (by omega) (by omega) ?_
      simp only [add_mk]
      refine st1_of (r := r) hU.at_ (u := cs[17]'(by omega)) ?_ rfl ?_
      · rw [hlast]; rfl
      intro H6 u6
      refine ⟨rfl, ?_⟩
      have := hU.trans u6
      rw [hlast] at this
      have e : (encB m s ++ [cs[17]'(by omega)]).set (0 + Int.toNat 17 * 1) (.int .u8 116) = encB m s ++ [.int .u8 116] := by
        rw [List.set_append_right _ _ (by rw [encB_length]; decide), encB_length]; rfl
      rw [e] at this
      exact this
end Go.Proofs.Ytpankppliidaoaa
