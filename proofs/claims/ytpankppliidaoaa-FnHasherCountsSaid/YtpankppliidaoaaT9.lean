/- What functions of this seat do, each proved by a walk; no condition. -/
import Derived.Test.YtpankppliidaoaaT8
set_option linter.unusedVariables false
namespace Go.Proofs.Ytpankppliidaoaa
open Go Go.Den Go.Proofs
theorem revToBytes_ok (m s : Int) (r n : Nat) (cs : List Value) (hc : cs.length = 18) (hn : n = 17 ∨ n = 18) (H : Heap) (hH : H[r]? = some (.cells ⟨cs⟩ 5)) :
    CallsH Try.prog 38 ⟨[.agg ⟨[.int .i64 m, .int .i64 s]⟩, .slice (some ⟨r, 0, none⟩) n 18]⟩ H
      (fun e H1 => e = .returned (.slice (some ⟨r, 0, none⟩) n 18) ∧ ∃ x, Upd r (.cells ⟨encB m s ++ [x]⟩ 5) H H1) := by
  refine F38.calls ?_
  unfold F38.go
  have L := Loc.start H
  repeat (first
    | (refine Loc.call L (newBucketKey_ok _ _ _ _) ?_; intro _H E L)
    | (refine Loc.new L ?_; intro _r _H L)
    | refine Loc.int L 0 rfl rfl ?_
    | refine Loc.bool L 0 rfl rfl ?_
    | refine Loc.str L 0 rfl rfl ?_
    | refine Loc.ptr L 0 rfl rfl ?_
    | refine Loc.sl L 0 rfl rfl ?_
    | refine Loc.map L 0 rfl rfl ?_
    | refine Loc.ifmk L 0 rfl rfl ?_
    | refine Loc.ifnil L 0 rfl rfl ?_
    | refine Loc.ifv L 0 rfl rfl ?_
    | refine Loc.fnmk L 0 rfl rfl ?_
    | refine Loc.fnv L 0 rfl rfl ?_
    | (refine Loc.st L 0 rfl rfl (by first | rfl | exact isCell_IV _ | exact isCell_FV _) ?_; intro _H L)
    | refine Loc.int L 1 rfl rfl ?_
    | refine Loc.bool L 1 rfl rfl ?_
    | refine Loc.str L 1 rfl rfl ?_
    | refine Loc.ptr L 1 rfl rfl ?_
    | refine Loc.sl L 1 rfl rfl ?_
    | refine Loc.map L 1 rfl rfl ?_
    | refine Loc.ifmk L 1 rfl rfl ?_
    | refine Loc.ifnil L 1 rfl rfl ?_
    | refine Loc.ifv L 1 rfl rfl ?_
    | refine Loc.fnmk L 1 rfl rfl ?_
    | refine Loc.fnv L 1 rfl rfl ?_
    | (refine Loc.st L 1 rfl rfl (by first | rfl | exact isCell_IV _ | exact isCell_FV _) ?_; intro _H L)
    | refine Loc.int L 2 rfl rfl ?_
    | refine Loc.bool L 2 rfl rfl ?_
    | refine Loc.str L 2 rfl rfl ?_
    | refine Loc.ptr L 2 rfl rfl ?_
    | refine Loc.sl L 2 rfl rfl ?_
    | refine Loc.map L 2 rfl rfl ?_
    | refine Loc.ifmk L 2 rfl rfl ?_
    | refine Loc.ifnil L 2 rfl rfl ?_
    | refine Loc.ifv L 2 rfl rfl ?_
    | refine Loc.fnmk L 2 rfl rfl ?_
    | refine Loc.fnv L 2 rfl rfl ?_
    | (refine Loc.st L 2 rfl rfl (by first | rfl | exact isCell_IV _ | exact isCell_FV _) ?_; intro _H L)
    | refine Loc.int L 3 rfl rfl ?_
    | refine Loc.bool L 3 rfl rfl ?_
    | refine Loc.str L 3 rfl rfl ?_
    | refine Loc.ptr L 3 rfl rfl ?_
    | refine Loc.sl L 3 rfl rfl ?_
    | refine Loc.map L 3 rfl rfl ?_
    | refine Loc.ifmk L 3 rfl rfl ?_
    | refine Loc.ifnil L 3 rfl rfl ?_
    | refine Loc.ifv L 3 rfl rfl ?_
    | refine Loc.fnmk L 3 rfl rfl ?_
    | refine Loc.fnv L 3 rfl rfl ?_
    | (refine Loc.st L 3 rfl rfl (by first | rfl | exact isCell_IV _ | exact isCell_FV _) ?_; intro _H L)
    | refine tInt_i ?_
    | refine tBool_i ?_
    | refine tStr_i ?_
    | refine tPtr_i ?_
    | refine tSl_i ?_
    | refine tMap_i ?_
    | refine tIf_nil ?_
    | refine tIf_mk ?_
    | refine tIf_i ?_
    | refine tFn_mk ?_
    | refine tFn_i ?_
    | refine tAgg_i ?_
    | refine tTup_i ?_
    | refine tCons_i ?_
    | refine tNil_i ?_
    | refine andD_i (by assumption) ?_
    | refine nilD_i ?_)
  refine callD_i (bkToBytes_ok m s false r n cs hc hn _ (L.ext.block_some hH)) ?_
  rintro e H3 ⟨rfl, u⟩
  refine tSl_i ⟨rfl, _, Upd.of_ext L.ext u (.inl (block_lt hH))⟩
theorem newRevBytes_ok (H : Heap) : CallsH Try.prog 40 ⟨[]⟩ H (fun e H1 => ∃ r, e = .returned (.slice (some ⟨r, 0, none⟩) 17 18) ∧ ExtH H H1 ∧ H.size ≤ r ∧ H1[r]? = some (.cells ⟨List.replicate 18 (.int .u8 0)⟩ 5)) := by
  refine F40.calls ?_
  unfold F40.go
  refine Loc.make (Loc.start H) (by decide) (by decide) (by decide) (by decide) ?_
  intro r H1 E L
  have h := L.cell 0 _ _ _ rfl
  rw [repZ_one] at h
  exact ⟨r, rfl, E, h.1, h.2⟩
theorem revBytes_ok (m s : Int) (H : Heap) : CallsH Try.prog 15 ⟨[.agg ⟨[.int .i64 m, .int .i64 s]⟩]⟩ H
    (fun e H1 => ∃ r x, e = .returned (.slice (some ⟨r, 0, none⟩) 17 18) ∧ ExtH H H1 ∧ H.size ≤ r ∧ H1[r]? = some (.cells ⟨encB m s ++ [x]⟩ 5)) := by
  refine F15.calls ?_
  unfold F15.go
  have L := Loc.start H
  repeat (first
    | (refine Loc.call L (revIn_ok _ _ _) ?_; intro _H E L)
    | (refine Loc.new L ?_; intro _r _H L)
    | refine Loc.int L 0 rfl rfl ?_
    | refine Loc.bool L 0 rfl rfl ?_
    | refine Loc.str L 0 rfl rfl ?_
    | refine Loc.ptr L 0 rfl rfl ?_
    | refine Loc.sl L 0 rfl rfl ?_
    | refine Loc.map L 0 rfl rfl ?_
    | refine Loc.ifmk L 0 rfl rfl ?_
    | refine Loc.ifnil L 0 rfl rfl ?_
    | refine Loc.ifv L 0 rfl rfl ?_
    | refine Loc.fnmk L 0 rfl rfl ?_
    | refine Loc.fnv L 0 rfl rfl ?_
    | (refine Loc.st L 0 rfl rfl (by first | rfl | exact isCell_IV _ | exact isCell_FV _) ?_; intro _H L)
    | refine Loc.int L 1 rfl rfl ?_
    | refine Loc.bool L 1 rfl rfl ?_
    | refine Loc.str L 1 rfl rfl ?_
    | refine Loc.ptr L 1 rfl rfl ?_
    | refine Loc.sl L 1 rfl rfl ?_
    | refine Loc.map L 1 rfl rfl ?_
    | refine Loc.ifmk L 1 rfl rfl ?_
    | refine Loc.ifnil L 1 rfl rfl ?_
    | refine Loc.ifv L 1 rfl rfl ?_
    | refine Loc.fnmk L 1 rfl rfl ?_
    | refine Loc.fnv L 1 rfl rfl ?_
    | (refine Loc.st L 1 rfl rfl (by first | rfl | exact isCell_IV _ | exact isCell_FV _) ?_; intro _H L)
    | refine Loc.int L 2 rfl rfl ?_
    | refine Loc.bool L 2 rfl rfl ?_
    | refine Loc.str L 2 rfl rfl ?_
    | refine Loc.ptr L 2 rfl rfl ?_
    | refine Loc.sl L 2 rfl rfl ?_
    | refine Loc.map L 2 rfl rfl ?_
    | refine Loc.ifmk L 2 rfl rfl ?_
    | refine Loc.ifnil L 2 rfl rfl ?_
    | refine Loc.ifv L 2 rfl rfl ?_
    | refine Loc.fnmk L 2 rfl rfl ?_
    | refine Loc.fnv L 2 rfl rfl ?_
    | (refine Loc.st L 2 rfl rfl (by first | rfl | exact isCell_IV _ | exact isCell_FV _) ?_; intro _H L)
    | refine Loc.int L 3 rfl rfl ?_
    | refine Loc.bool L 3 rfl rfl ?_
    | refine Loc.str L 3 rfl rfl ?_
    | refine Loc.ptr L 3 rfl rfl ?_
    | refine Loc.sl L 3 rfl rfl ?_
    | refine Loc.map L 3 rfl rfl ?_
    | refine Loc.ifmk L 3 rfl rfl ?_
    | refine Loc.ifnil L 3 rfl rfl ?_
    | refine Loc.ifv L 3 rfl rfl ?_
    | refine Loc.fnmk L 3 rfl rfl ?_
    | refine Loc.fnv L 3 rfl rfl ?_
    | (refine Loc.st L 3 rfl rfl (by first | rfl | exact isCell_IV _ | exact isCell_FV _) ?_; intro _H L)
    | refine tInt_i ?_
    | refine tBool_i ?_
    | refine tStr_i ?_
    | refine tPtr_i ?_
    | refine tSl_i ?_
    | refine tMap_i ?_
    | refine tIf_nil ?_
    | refine tIf_mk ?_
    | refine tIf_i ?_
    | refine tFn_mk ?_
    | refine tFn_i ?_
    | refine tAgg_i ?_
    | refine tTup_i ?_
    | refine tCons_i ?_
    | refine tNil_i ?_
    | refine andD_i (by assumption) ?_
    | refine nilD_i ?_)
  refine callD_i (newRevBytes_ok _) ?_
  rintro e H3 ⟨r, rfl, E3, hr, hb⟩
  refine tSl_i ?_
  refine callD_i (revToBytes_ok m s r 17 _ (by simp) (.inl rfl) _ hb) ?_
  rintro e H4 ⟨rfl, x, u⟩
  refine tSl_i ⟨r, x, rfl, ?_, ?_, u.at_⟩
  · exact (L.ext.trans E3).upd u (Nat.le_trans L.ext.size hr)
  · exact Nat.le_trans L.ext.size hr
theorem bytesToRev_ok (m s : Int) (hm0 : 0 ≤ m) (hm1 : m < 9223372036854775808) (hs0 : 0 ≤ s) (hs1 : s < 9223372036854775808) (r : Nat) (x : Value) (H : Heap) (hH : H[r]? = some (.cells ⟨encB m s ++ [x]⟩ 5)) :
    CallsH Try.prog 37 ⟨[.slice (some ⟨r, 0, none⟩) 17 18]⟩ H (Gives (.agg ⟨[.int .i64 m, .int .i64 s]⟩) H) := by
  refine F37.calls ?_
  unfold F37.go
  refine Loc.new (Loc.start H) ?_
  intro r0 H1 L
  have hb := L.ext.block_some hH
  refine Loc.call L (bytesToBk_ok m s hm0 hm1 hs0 hs1 r 17 18 (.inl rfl) (by omega) [x] 0 H1 (fun k v hk hv => hcell_of hb hv) (fun h => by omega)) ?_
  intro H2 E L
  repeat (first
    | (refine Loc.new L ?_; intro _r _H L)
    | refine Loc.int L 0 rfl rfl ?_
    | refine Loc.bool L 0 rfl rfl ?_
    | refine Loc.str L 0 rfl rfl ?_
    | refine Loc.ptr L 0 rfl rfl ?_
    | refine Loc.sl L 0 rfl rfl ?_
    | refine Loc.map L 0 rfl rfl ?_
    | refine Loc.ifmk L 0 rfl rfl ?_
    | refine Loc.ifnil L 0 rfl rfl ?_
    | refine Loc.ifv L 0 rfl rfl ?_
    | refine Loc.fnmk L 0 rfl rfl ?_
    | refine Loc.fnv L 0 rfl rfl ?_
    | (refine Loc.st L 0 rfl rfl (by first | rfl | exact isCell_IV _ | exact isCell_FV _) ?_; intro _H L)
    | refine Loc.int L 1 rfl rfl ?_
    | refine Loc.bool L 1 rfl rfl ?_
    | refine Loc.str L 1 rfl rfl ?_
    | refine Loc.ptr L 1 rfl rfl ?_
    | refine Loc.sl L 1 rfl rfl ?_
    | refine Loc.map L 1 rfl rfl ?_
    | refine Loc.ifmk L 1 rfl rfl ?_
    | refine Loc.ifnil L 1 rfl rfl ?_
    | refine Loc.ifv L 1 rfl rfl ?_
    | refine Loc.fnmk L 1 rfl rfl ?_
    | refine Loc.fnv L 1 rfl rfl ?_
    | (refine Loc.st L 1 rfl rfl (by first | rfl | exact isCell_IV _ | exact isCell_FV _) ?_; intro _H L)
    | refine Loc.int L 2 rfl rfl ?_
    | refine Loc.bool L 2 rfl rfl ?_
    | refine Loc.str L 2 rfl rfl ?_
    | refine Loc.ptr L 2 rfl rfl ?_
    | refine Loc.sl L 2 rfl rfl ?_
    | refine Loc.map L 2 rfl rfl ?_
    | refine Loc.ifmk L 2 rfl rfl ?_
    | refine Loc.ifnil L 2 rfl rfl ?_
    | refine Loc.ifv L 2 rfl rfl ?_
    | refine Loc.fnmk L 2 rfl rfl ?_
    | refine Loc.fnv L 2 rfl rfl ?_
    | (refine Loc.st L 2 rfl rfl (by first | rfl | exact isCell_IV _ | exact isCell_FV _) ?_; intro _H L)
    | refine Loc.int L 3 rfl rfl ?_
    | refine Loc.bool L 3 rfl rfl ?_
    | refine Loc.str L 3 rfl rfl ?_
    | refine Loc.ptr L 3 rfl rfl ?_
    | refine Loc.sl L 3 rfl rfl ?_
    | refine Loc.map L 3 rfl rfl ?_
    | refine Loc.ifmk L 3 rfl rfl ?_
    | refine Loc.ifnil L 3 rfl rfl ?_
    | refine Loc.ifv L 3 rfl rfl ?_
    | refine Loc.fnmk L 3 rfl rfl ?_
    | refine Loc.fnv L 3 rfl rfl ?_
    | (refine Loc.st L 3 rfl rfl (by first | rfl | exact isCell_IV _ | exact isCell_FV _) ?_; intro _H L)
    | refine tInt_i ?_
    | refine tBool_i ?_
    | refine tStr_i ?_
    | refine tPtr_i ?_
    | refine tSl_i ?_
    | refine tMap_i ?_
    | refine tIf_nil ?_
    | refine tIf_mk ?_
    | refine tIf_i ?_
    | refine tFn_mk ?_
    | refine tFn_i ?_
    | refine tAgg_i ?_
    | refine tTup_i ?_
    | refine tCons_i ?_
    | refine tNil_i ?_
    | refine andD_i (by assumption) ?_
    | refine nilD_i ?_)
  exact ⟨rfl, L.ext⟩
theorem fnOk35 : fnOk Try.prog 35 = true := by kernel_rfl
theorem bytesRev_ok (m s : Int) (hm0 : 0 ≤ m) (hm1 : m < 9223372036854775808) (hs0 : 0 ≤ s) (hs1 : s < 9223372036854775808) (r : Nat) (x : Value) (H : Heap) (hH : H[r]? = some (.cells ⟨encB m s ++ [x]⟩ 5)) :
    CallsH Try.prog 14 ⟨[.slice (some ⟨r, 0, none⟩) 17 18]⟩ H (Gives (.tuple ⟨[.agg ⟨[.int .i64 m, .int .i64 s]⟩, .bool true]⟩) H) := by
  refine F14.calls ?_
  unfold F14.go
  refine Loc.new (Loc.start H) ?_
  intro ra H1 L
  refine Loc.new L ?_
  intro rb H2 L
  refine Loc.new L ?_
  intro rc H3 L
  refine Loc.st L 0 rfl rfl rfl ?_
  intro H4 L
  refine Loc.st L 0 rfl rfl rfl ?_
  intro H5 L
  refine callD_i (fine_ok 35 [] [.pointer (some ⟨ra, 0, none⟩), .pointer (some ⟨rc, 0, none⟩)] H5 (fun e H' => e = .returned (.bool true) ∧ Den.Loc H H' [(rc, [.int .i64 m, .int .i64 s], 35), (rb, [.int .i64 0, .int .i64 0], 35), (ra, [.slice (some ⟨r, 0, none⟩) 17 18], 39)]) ?_ fnOk35) ?_
  · rintro rd H6 rfl rfl
    refine F35.calls ?_
    unfold F35.go
    have L := L.push [.bool false] 4
    refine Loc.sl L 3 rfl rfl ?_
    refine Loc.call L (bytesToRev_ok m s hm0 hm1 hs0 hs1 r x _ (L.ext.block_some hH)) ?_
    intro H7 E L
    repeat (first
    | (refine Loc.call L (revOut_ok _ _ _) ?_; intro _H E L)
    | (refine Loc.new L ?_; intro _r _H L)
    | refine Loc.int L 0 rfl rfl ?_
    | refine Loc.bool L 0 rfl rfl ?_
    | refine Loc.str L 0 rfl rfl ?_
    | refine Loc.ptr L 0 rfl rfl ?_
    | refine Loc.sl L 0 rfl rfl ?_
    | refine Loc.map L 0 rfl rfl ?_
    | refine Loc.ifmk L 0 rfl rfl ?_
    | refine Loc.ifnil L 0 rfl rfl ?_
    | refine Loc.ifv L 0 rfl rfl ?_
    | refine Loc.fnmk L 0 rfl rfl ?_
    | refine Loc.fnv L 0 rfl rfl ?_
    | (refine Loc.st L 0 rfl rfl (by first | rfl | exact isCell_IV _ | exact isCell_FV _) ?_; intro _H L)
    | refine Loc.int L 1 rfl rfl ?_
    | refine Loc.bool L 1 rfl rfl ?_
    | refine Loc.str L 1 rfl rfl ?_
    | refine Loc.ptr L 1 rfl rfl ?_
    | refine Loc.sl L 1 rfl rfl ?_
    | refine Loc.map L 1 rfl rfl ?_
    | refine Loc.ifmk L 1 rfl rfl ?_
    | refine Loc.ifnil L 1 rfl rfl ?_
    | refine Loc.ifv L 1 rfl rfl ?_
    | refine Loc.fnmk L 1 rfl rfl ?_
    | refine Loc.fnv L 1 rfl rfl ?_
    | (refine Loc.st L 1 rfl rfl (by first | rfl | exact isCell_IV _ | exact isCell_FV _) ?_; intro _H L)
    | refine tInt_i ?_
    | refine tBool_i ?_
    | refine tStr_i ?_
    | refine tPtr_i ?_
    | refine tSl_i ?_
    | refine tMap_i ?_
    | refine tIf_nil ?_
    | refine tIf_mk ?_
    | refine tIf_i ?_
    | refine tFn_mk ?_
    | refine tFn_i ?_
    | refine tAgg_i ?_
    | refine tTup_i ?_
    | refine tCons_i ?_
    | refine tNil_i ?_
    | refine andD_i (by assumption) ?_
    | refine nilD_i ?_)
    have hd := L.cell 0 _ _ _ rfl
    refine ⟨hd.2, fun H9 u => ⟨rfl, ?_⟩⟩
    exact (L.upd 0 rfl u).tail
  rintro e H6 ⟨rfl, L⟩
  refine tBool_i ?_
  repeat (first
    | (refine Loc.new L ?_; intro _r _H L)
    | refine Loc.int L 0 rfl rfl ?_
    | refine Loc.bool L 0 rfl rfl ?_
    | refine Loc.str L 0 rfl rfl ?_
    | refine Loc.ptr L 0 rfl rfl ?_
    | refine Loc.sl L 0 rfl rfl ?_
    | refine Loc.map L 0 rfl rfl ?_
    | refine Loc.ifmk L 0 rfl rfl ?_
    | refine Loc.ifnil L 0 rfl rfl ?_
    | refine Loc.ifv L 0 rfl rfl ?_
    | refine Loc.fnmk L 0 rfl rfl ?_
    | refine Loc.fnv L 0 rfl rfl ?_
    | (refine Loc.st L 0 rfl rfl (by first | rfl | exact isCell_IV _ | exact isCell_FV _) ?_; intro _H L)
    | refine Loc.int L 1 rfl rfl ?_
    | refine Loc.bool L 1 rfl rfl ?_
    | refine Loc.str L 1 rfl rfl ?_
    | refine Loc.ptr L 1 rfl rfl ?_
    | refine Loc.sl L 1 rfl rfl ?_
    | refine Loc.map L 1 rfl rfl ?_
    | refine Loc.ifmk L 1 rfl rfl ?_
    | refine Loc.ifnil L 1 rfl rfl ?_
    | refine Loc.ifv L 1 rfl rfl ?_
    | refine Loc.fnmk L 1 rfl rfl ?_
    | refine Loc.fnv L 1 rfl rfl ?_
    | (refine Loc.st L 1 rfl rfl (by first | rfl | exact isCell_IV _ | exact isCell_FV _) ?_; intro _H L)
    | refine Loc.int L 2 rfl rfl ?_
    | refine Loc.bool L 2 rfl rfl ?_
    | refine Loc.str L 2 rfl rfl ?_
    | refine Loc.ptr L 2 rfl rfl ?_
    | refine Loc.sl L 2 rfl rfl ?_
    | refine Loc.map L 2 rfl rfl ?_
    | refine Loc.ifmk L 2 rfl rfl ?_
    | refine Loc.ifnil L 2 rfl rfl ?_
    | refine Loc.ifv L 2 rfl rfl ?_
    | refine Loc.fnmk L 2 rfl rfl ?_
    | refine Loc.fnv L 2 rfl rfl ?_
    | (refine Loc.st L 2 rfl rfl (by first | rfl | exact isCell_IV _ | exact isCell_FV _) ?_; intro _H L)
    | refine tInt_i ?_
    | refine tBool_i ?_
    | refine tStr_i ?_
    | refine tPtr_i ?_
    | refine tSl_i ?_
    | refine tMap_i ?_
    | refine tIf_nil ?_
    | refine tIf_mk ?_
    | refine tIf_i ?_
    | refine tFn_mk ?_
    | refine tFn_i ?_
    | refine tAgg_i ?_
    | refine tTup_i ?_
    | refine tCons_i ?_
    | refine tNil_i ?_
    | refine andD_i (by assumption) ?_
    | refine nilD_i ?_)
  exact ⟨rfl, L.ext⟩
end Go.Proofs.Ytpankppliidaoaa
