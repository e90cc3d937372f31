/- What functions of this seat do, each proved by a walk; no condition. -/
import Derived.Test.YtpankppliidaoaaT9
import Derived.Test.YtpankppliidaoaaDenY
set_option linter.unusedVariables false
namespace Go.Proofs.Ytpankppliidaoaa
open Go Go.Den Go.Proofs
theorem u2 : Try.prog.underlying 2 = some (.int .i64) := by kernel_rfl
theorem a2 : aggT Try.prog 2 = false := by kernel_rfl
theorem rev_eq {op : BinOp} {a b c d : Int} {k : Bool → Prop} (h : k (a == c && b == d)) : rawB Try.prog op 35 (.agg ⟨[.int .i64 a, .int .i64 b]⟩) (.agg ⟨[.int .i64 c, .int .i64 d]⟩) k := by
  refine rawB_struct (P := Try.prog) (fs := #[{ name := "Main", type := 2, offset := 0, embedded := false, tag := "", pkgPath := "", byteOffset := 0 }, { name := "Sub", type := 2, offset := 1, embedded := false, tag := "", pkgPath := "", byteOffset := 8 }])
    (bs := [a == c, b == d]) (by kernel_rfl) (by kernel_rfl) (by kernel_rfl) ?_ (by simpa using h)
  refine .cons (by decide) (part_leaf u2 a2 rfl) (part_leaf u2 a2 rfl) (equalIn_int u2) ?_
  refine .cons (by decide) (part_leaf u2 a2 rfl) (part_leaf u2 a2 rfl) (equalIn_int u2) .nil
theorem rvLive_ok (H : Heap) : CallsH Try.prog 13 ⟨[]⟩ H (Gives (.bool true) H) := by
  refine F13.calls ?_
  unfold F13.go
  refine callD_i (revBytes_ok 1 2 H) ?_
  rintro e H1 ⟨r, x, rfl, E1, hr, hb⟩
  refine tSl_i ?_
  have L := Loc.start H1
  refine Loc.call L (bytesRev_ok 1 2 (by omega) (by omega) (by omega) (by omega) r x H1 hb) ?_
  intro H2 E L
  repeat (first
    | (refine Loc.new L ?_; intro _r _H L)
    | refine Loc.int L 0 rfl rfl ?_
    | refine Loc.bool L 0 rfl rfl ?_
    | refine Loc.str L 0 rfl rfl ?_
    | refine Loc.ptr L 0 rfl rfl ?_
    | refine Loc.sl L 0 rfl rfl ?_
    | refine Loc.map L 0 rfl rfl ?_
    | refine Loc.ifmk L 0 rfl rfl ?_
    | refine Loc.ifnil L 0 rfl rfl ?_
    | refine Loc.ifv L 0 rfl rfl ?_
    | refine Loc.fnmk L 0 rfl rfl ?_
    | refine Loc.fnv L 0 rfl rfl ?_
    | (refine Loc.st L 0 rfl rfl (by first | rfl | exact isCell_IV _ | exact isCell_FV _) ?_; intro _H L)
    | refine Loc.int L 1 rfl rfl ?_
    | refine Loc.bool L 1 rfl rfl ?_
    | refine Loc.str L 1 rfl rfl ?_
    | refine Loc.ptr L 1 rfl rfl ?_
    | refine Loc.sl L 1 rfl rfl ?_
    | refine Loc.map L 1 rfl rfl ?_
    | refine Loc.ifmk L 1 rfl rfl ?_
    | refine Loc.ifnil L 1 rfl rfl ?_
    | refine Loc.ifv L 1 rfl rfl ?_
    | refine Loc.fnmk L 1 rfl rfl ?_
    | refine Loc.fnv L 1 rfl rfl ?_
    | (refine Loc.st L 1 rfl rfl (by first | rfl | exact isCell_IV _ | exact isCell_FV _) ?_; intro _H L)
    | refine Loc.int L 2 rfl rfl ?_
    | refine Loc.bool L 2 rfl rfl ?_
    | refine Loc.str L 2 rfl rfl ?_
    | refine Loc.ptr L 2 rfl rfl ?_
    | refine Loc.sl L 2 rfl rfl ?_
    | refine Loc.map L 2 rfl rfl ?_
    | refine Loc.ifmk L 2 rfl rfl ?_
    | refine Loc.ifnil L 2 rfl rfl ?_
    | refine Loc.ifv L 2 rfl rfl ?_
    | refine Loc.fnmk L 2 rfl rfl ?_
    | refine Loc.fnv L 2 rfl rfl ?_
    | (refine Loc.st L 2 rfl rfl (by first | rfl | exact isCell_IV _ | exact isCell_FV _) ?_; intro _H L)
    | refine tInt_i ?_
    | refine tBool_i ?_
    | refine tStr_i ?_
    | refine tPtr_i ?_
    | refine tSl_i ?_
    | refine tMap_i ?_
    | refine tIf_nil ?_
    | refine tIf_mk ?_
    | refine tIf_i ?_
    | refine tFn_mk ?_
    | refine tFn_i ?_
    | refine tAgg_i ?_
    | refine tTup_i ?_
    | refine tCons_i ?_
    | refine tNil_i ?_
    | refine andD_i (by assumption) ?_
    | refine nilD_i ?_)
  refine rev_eq ?_
  exact ⟨rfl, E1.trans L.ext⟩
theorem revBack_ok (m s : Int) (hm : m < 9223372036854775808) (hs : s < 9223372036854775808) (H : Heap) : CallsH Try.prog 4 ⟨[.agg ⟨[.int .i64 m, .int .i64 s]⟩]⟩ H (Gives (.bool true) H) := by
  refine F4.calls ?_
  unfold F4.go
  have L := Loc.start H
  repeat (first
    | (refine Loc.new L ?_; intro _r _H L)
    | refine Loc.int L 0 rfl rfl ?_
    | refine Loc.bool L 0 rfl rfl ?_
    | refine Loc.str L 0 rfl rfl ?_
    | refine Loc.ptr L 0 rfl rfl ?_
    | refine Loc.sl L 0 rfl rfl ?_
    | refine Loc.map L 0 rfl rfl ?_
    | refine Loc.ifmk L 0 rfl rfl ?_
    | refine Loc.ifnil L 0 rfl rfl ?_
    | refine Loc.ifv L 0 rfl rfl ?_
    | refine Loc.fnmk L 0 rfl rfl ?_
    | refine Loc.fnv L 0 rfl rfl ?_
    | (refine Loc.st L 0 rfl rfl (by first | rfl | exact isCell_IV _ | exact isCell_FV _) ?_; intro _H L)
    | refine Loc.int L 1 rfl rfl ?_
    | refine Loc.bool L 1 rfl rfl ?_
    | refine Loc.str L 1 rfl rfl ?_
    | refine Loc.ptr L 1 rfl rfl ?_
    | refine Loc.sl L 1 rfl rfl ?_
    | refine Loc.map L 1 rfl rfl ?_
    | refine Loc.ifmk L 1 rfl rfl ?_
    | refine Loc.ifnil L 1 rfl rfl ?_
    | refine Loc.ifv L 1 rfl rfl ?_
    | refine Loc.fnmk L 1 rfl rfl ?_
    | refine Loc.fnv L 1 rfl rfl ?_
    | (refine Loc.st L 1 rfl rfl (by first | rfl | exact isCell_IV _ | exact isCell_FV _) ?_; intro _H L)
    | refine Loc.int L 2 rfl rfl ?_
    | refine Loc.bool L 2 rfl rfl ?_
    | refine Loc.str L 2 rfl rfl ?_
    | refine Loc.ptr L 2 rfl rfl ?_
    | refine Loc.sl L 2 rfl rfl ?_
    | refine Loc.map L 2 rfl rfl ?_
    | refine Loc.ifmk L 2 rfl rfl ?_
    | refine Loc.ifnil L 2 rfl rfl ?_
    | refine Loc.ifv L 2 rfl rfl ?_
    | refine Loc.fnmk L 2 rfl rfl ?_
    | refine Loc.fnv L 2 rfl rfl ?_
    | (refine Loc.st L 2 rfl rfl (by first | rfl | exact isCell_IV _ | exact isCell_FV _) ?_; intro _H L)
    | refine tInt_i ?_
    | refine tBool_i ?_
    | refine tStr_i ?_
    | refine tPtr_i ?_
    | refine tSl_i ?_
    | refine tMap_i ?_
    | refine tIf_nil ?_
    | refine tIf_mk ?_
    | refine tIf_i ?_
    | refine tFn_mk ?_
    | refine tFn_i ?_
    | refine tAgg_i ?_
    | refine tTup_i ?_
    | refine tCons_i ?_
    | refine tNil_i ?_
    | refine andD_i (by assumption) ?_
    | refine nilD_i ?_)
  refine iteB_i (fun _ => ?_) (fun h => ?_)
  · repeat (first
    | (refine Loc.call L (rvLive_ok _) ?_; intro _H E L)
    | (refine Loc.new L ?_; intro _r _H L)
    | refine Loc.int L 0 rfl rfl ?_
    | refine Loc.bool L 0 rfl rfl ?_
    | refine Loc.str L 0 rfl rfl ?_
    | refine Loc.ptr L 0 rfl rfl ?_
    | refine Loc.sl L 0 rfl rfl ?_
    | refine Loc.map L 0 rfl rfl ?_
    | refine Loc.ifmk L 0 rfl rfl ?_
    | refine Loc.ifnil L 0 rfl rfl ?_
    | refine Loc.ifv L 0 rfl rfl ?_
    | refine Loc.fnmk L 0 rfl rfl ?_
    | refine Loc.fnv L 0 rfl rfl ?_
    | (refine Loc.st L 0 rfl rfl (by first | rfl | exact isCell_IV _ | exact isCell_FV _) ?_; intro _H L)
    | refine Loc.int L 1 rfl rfl ?_
    | refine Loc.bool L 1 rfl rfl ?_
    | refine Loc.str L 1 rfl rfl ?_
    | refine Loc.ptr L 1 rfl rfl ?_
    | refine Loc.sl L 1 rfl rfl ?_
    | refine Loc.map L 1 rfl rfl ?_
    | refine Loc.ifmk L 1 rfl rfl ?_
    | refine Loc.ifnil L 1 rfl rfl ?_
    | refine Loc.ifv L 1 rfl rfl ?_
    | refine Loc.fnmk L 1 rfl rfl ?_
    | refine Loc.fnv L 1 rfl rfl ?_
    | (refine Loc.st L 1 rfl rfl (by first | rfl | exact isCell_IV _ | exact isCell_FV _) ?_; intro _H L)
    | refine Loc.int L 2 rfl rfl ?_
    | refine Loc.bool L 2 rfl rfl ?_
    | refine Loc.str L 2 rfl rfl ?_
    | refine Loc.ptr L 2 rfl rfl ?_
    | refine Loc.sl L 2 rfl rfl ?_
    | refine Loc.map L 2 rfl rfl ?_
    | refine Loc.ifmk L 2 rfl rfl ?_
    | refine Loc.ifnil L 2 rfl rfl ?_
    | refine Loc.ifv L 2 rfl rfl ?_
    | refine Loc.fnmk L 2 rfl rfl ?_
    | refine Loc.fnv L 2 rfl rfl ?_
    | (refine Loc.st L 2 rfl rfl (by first | rfl | exact isCell_IV _ | exact isCell_FV _) ?_; intro _H L)
    | refine tInt_i ?_
    | refine tBool_i ?_
    | refine tStr_i ?_
    | refine tPtr_i ?_
    | refine tSl_i ?_
    | refine tMap_i ?_
    | refine tIf_nil ?_
    | refine tIf_mk ?_
    | refine tIf_i ?_
    | refine tFn_mk ?_
    | refine tFn_i ?_
    | refine tAgg_i ?_
    | refine tTup_i ?_
    | refine tCons_i ?_
    | refine tNil_i ?_
    | refine andD_i (by assumption) ?_
    | refine nilD_i ?_)
    exact ⟨rfl, L.ext⟩
  · have h0 : 0 ≤ m ∧ 0 ≤ s := by simp at h; split at h <;> omega
    repeat (first
    | (refine Loc.new L ?_; intro _r _H L)
    | refine Loc.int L 0 rfl rfl ?_
    | refine Loc.bool L 0 rfl rfl ?_
    | refine Loc.str L 0 rfl rfl ?_
    | refine Loc.ptr L 0 rfl rfl ?_
    | refine Loc.sl L 0 rfl rfl ?_
    | refine Loc.map L 0 rfl rfl ?_
    | refine Loc.ifmk L 0 rfl rfl ?_
    | refine Loc.ifnil L 0 rfl rfl ?_
    | refine Loc.ifv L 0 rfl rfl ?_
    | refine Loc.fnmk L 0 rfl rfl ?_
    | refine Loc.fnv L 0 rfl rfl ?_
    | (refine Loc.st L 0 rfl rfl (by first | rfl | exact isCell_IV _ | exact isCell_FV _) ?_; intro _H L)
    | refine Loc.int L 1 rfl rfl ?_
    | refine Loc.bool L 1 rfl rfl ?_
    | refine Loc.str L 1 rfl rfl ?_
    | refine Loc.ptr L 1 rfl rfl ?_
    | refine Loc.sl L 1 rfl rfl ?_
    | refine Loc.map L 1 rfl rfl ?_
    | refine Loc.ifmk L 1 rfl rfl ?_
    | refine Loc.ifnil L 1 rfl rfl ?_
    | refine Loc.ifv L 1 rfl rfl ?_
    | refine Loc.fnmk L 1 rfl rfl ?_
    | refine Loc.fnv L 1 rfl rfl ?_
    | (refine Loc.st L 1 rfl rfl (by first | rfl | exact isCell_IV _ | exact isCell_FV _) ?_; intro _H L)
    | refine Loc.int L 2 rfl rfl ?_
    | refine Loc.bool L 2 rfl rfl ?_
    | refine Loc.str L 2 rfl rfl ?_
    | refine Loc.ptr L 2 rfl rfl ?_
    | refine Loc.sl L 2 rfl rfl ?_
    | refine Loc.map L 2 rfl rfl ?_
    | refine Loc.ifmk L 2 rfl rfl ?_
    | refine Loc.ifnil L 2 rfl rfl ?_
    | refine Loc.ifv L 2 rfl rfl ?_
    | refine Loc.fnmk L 2 rfl rfl ?_
    | refine Loc.fnv L 2 rfl rfl ?_
    | (refine Loc.st L 2 rfl rfl (by first | rfl | exact isCell_IV _ | exact isCell_FV _) ?_; intro _H L)
    | refine tInt_i ?_
    | refine tBool_i ?_
    | refine tStr_i ?_
    | refine tPtr_i ?_
    | refine tSl_i ?_
    | refine tMap_i ?_
    | refine tIf_nil ?_
    | refine tIf_mk ?_
    | refine tIf_i ?_
    | refine tFn_mk ?_
    | refine tFn_i ?_
    | refine tAgg_i ?_
    | refine tTup_i ?_
    | refine tCons_i ?_
    | refine tNil_i ?_
    | refine andD_i (by assumption) ?_
    | refine nilD_i ?_)
    refine callD_i (revBytes_ok m s _) ?_
    rintro e H1 ⟨r, x, rfl, E1, hr, hb⟩
    refine tSl_i ?_
    have L := L.extend E1
    refine Loc.call L (bytesRev_ok m s h0.1 hm h0.2 hs r x H1 hb) ?_
    intro H2 E L
    repeat (first
    | (refine Loc.new L ?_; intro _r _H L)
    | refine Loc.int L 0 rfl rfl ?_
    | refine Loc.bool L 0 rfl rfl ?_
    | refine Loc.str L 0 rfl rfl ?_
    | refine Loc.ptr L 0 rfl rfl ?_
    | refine Loc.sl L 0 rfl rfl ?_
    | refine Loc.map L 0 rfl rfl ?_
    | refine Loc.ifmk L 0 rfl rfl ?_
    | refine Loc.ifnil L 0 rfl rfl ?_
    | refine Loc.ifv L 0 rfl rfl ?_
    | refine Loc.fnmk L 0 rfl rfl ?_
    | refine Loc.fnv L 0 rfl rfl ?_
    | (refine Loc.st L 0 rfl rfl (by first | rfl | exact isCell_IV _ | exact isCell_FV _) ?_; intro _H L)
    | refine Loc.int L 1 rfl rfl ?_
    | refine Loc.bool L 1 rfl rfl ?_
    | refine Loc.str L 1 rfl rfl ?_
    | refine Loc.ptr L 1 rfl rfl ?_
    | refine Loc.sl L 1 rfl rfl ?_
    | refine Loc.map L 1 rfl rfl ?_
    | refine Loc.ifmk L 1 rfl rfl ?_
    | refine Loc.ifnil L 1 rfl rfl ?_
    | refine Loc.ifv L 1 rfl rfl ?_
    | refine Loc.fnmk L 1 rfl rfl ?_
    | refine Loc.fnv L 1 rfl rfl ?_
    | (refine Loc.st L 1 rfl rfl (by first | rfl | exact isCell_IV _ | exact isCell_FV _) ?_; intro _H L)
    | refine Loc.int L 2 rfl rfl ?_
    | refine Loc.bool L 2 rfl rfl ?_
    | refine Loc.str L 2 rfl rfl ?_
    | refine Loc.ptr L 2 rfl rfl ?_
    | refine Loc.sl L 2 rfl rfl ?_
    | refine Loc.map L 2 rfl rfl ?_
    | refine Loc.ifmk L 2 rfl rfl ?_
    | refine Loc.ifnil L 2 rfl rfl ?_
    | refine Loc.ifv L 2 rfl rfl ?_
    | refine Loc.fnmk L 2 rfl rfl ?_
    | refine Loc.fnv L 2 rfl rfl ?_
    | (refine Loc.st L 2 rfl rfl (by first | rfl | exact isCell_IV _ | exact isCell_FV _) ?_; intro _H L)
    | refine tInt_i ?_
    | refine tBool_i ?_
    | refine tStr_i ?_
    | refine tPtr_i ?_
    | refine tSl_i ?_
    | refine tMap_i ?_
    | refine tIf_nil ?_
    | refine tIf_mk ?_
    | refine tIf_i ?_
    | refine tFn_mk ?_
    | refine tFn_i ?_
    | refine tAgg_i ?_
    | refine tTup_i ?_
    | refine tCons_i ?_
    | refine tNil_i ?_
    | refine andD_i (by assumption) ?_
    | refine nilD_i ?_)
    refine rev_eq ?_
    refine iteB_i (fun _ => ?_) (fun h => by simp at h)
    repeat (first
    | (refine Loc.call L (rvLive_ok _) ?_; intro _H E L)
    | (refine Loc.new L ?_; intro _r _H L)
    | refine Loc.int L 0 rfl rfl ?_
    | refine Loc.bool L 0 rfl rfl ?_
    | refine Loc.str L 0 rfl rfl ?_
    | refine Loc.ptr L 0 rfl rfl ?_
    | refine Loc.sl L 0 rfl rfl ?_
    | refine Loc.map L 0 rfl rfl ?_
    | refine Loc.ifmk L 0 rfl rfl ?_
    | refine Loc.ifnil L 0 rfl rfl ?_
    | refine Loc.ifv L 0 rfl rfl ?_
    | refine Loc.fnmk L 0 rfl rfl ?_
    | refine Loc.fnv L 0 rfl rfl ?_
    | (refine Loc.st L 0 rfl rfl (by first | rfl | exact isCell_IV _ | exact isCell_FV _) ?_; intro _H L)
    | refine Loc.int L 1 rfl rfl ?_
    | refine Loc.bool L 1 rfl rfl ?_
    | refine Loc.str L 1 rfl rfl ?_
    | refine Loc.ptr L 1 rfl rfl ?_
    | refine Loc.sl L 1 rfl rfl ?_
    | refine Loc.map L 1 rfl rfl ?_
    | refine Loc.ifmk L 1 rfl rfl ?_
    | refine Loc.ifnil L 1 rfl rfl ?_
    | refine Loc.ifv L 1 rfl rfl ?_
    | refine Loc.fnmk L 1 rfl rfl ?_
    | refine Loc.fnv L 1 rfl rfl ?_
    | (refine Loc.st L 1 rfl rfl (by first | rfl | exact isCell_IV _ | exact isCell_FV _) ?_; intro _H L)
    | refine Loc.int L 2 rfl rfl ?_
    | refine Loc.bool L 2 rfl rfl ?_
    | refine Loc.str L 2 rfl rfl ?_
    | refine Loc.ptr L 2 rfl rfl ?_
    | refine Loc.sl L 2 rfl rfl ?_
    | refine Loc.map L 2 rfl rfl ?_
    | refine Loc.ifmk L 2 rfl rfl ?_
    | refine Loc.ifnil L 2 rfl rfl ?_
    | refine Loc.ifv L 2 rfl rfl ?_
    | refine Loc.fnmk L 2 rfl rfl ?_
    | refine Loc.fnv L 2 rfl rfl ?_
    | (refine Loc.st L 2 rfl rfl (by first | rfl | exact isCell_IV _ | exact isCell_FV _) ?_; intro _H L)
    | refine tInt_i ?_
    | refine tBool_i ?_
    | refine tStr_i ?_
    | refine tPtr_i ?_
    | refine tSl_i ?_
    | refine tMap_i ?_
    | refine tIf_nil ?_
    | refine tIf_mk ?_
    | refine tIf_i ?_
    | refine tFn_mk ?_
    | refine tFn_i ?_
    | refine tAgg_i ?_
    | refine tTup_i ?_
    | refine tCons_i ?_
    | refine tNil_i ?_
    | refine andD_i (by assumption) ?_
    | refine nilD_i ?_)
    exact ⟨rfl, L.ext⟩
theorem gt_asym {a b c d : Int} : (gtB a b c d && gtB c d a b) = false := by
  simp only [gtB, Bool.and_eq_false_iff, Bool.or_eq_false_iff, Bool.and_eq_false_iff, decide_eq_false_iff_not]; omega
theorem revGreater_ok (a b c d x y : Int) (H : Heap) : CallsH Try.prog 5 ⟨[.agg ⟨[.int .i64 a, .int .i64 b]⟩, .agg ⟨[.int .i64 c, .int .i64 d]⟩, .agg ⟨[.int .i64 x, .int .i64 y]⟩]⟩ H (Gives (.bool true) H) := by
  refine F5.calls ?_
  unfold F5.go
  have L := Loc.start H
  repeat (first
    | (refine Loc.call L (greater_ok _ _ _ _ _) ?_; intro _H E L)
    | (refine Loc.new L ?_; intro _r _H L)
    | refine Loc.int L 0 rfl rfl ?_
    | refine Loc.bool L 0 rfl rfl ?_
    | refine Loc.str L 0 rfl rfl ?_
    | refine Loc.ptr L 0 rfl rfl ?_
    | refine Loc.sl L 0 rfl rfl ?_
    | refine Loc.map L 0 rfl rfl ?_
    | refine Loc.ifmk L 0 rfl rfl ?_
    | refine Loc.ifnil L 0 rfl rfl ?_
    | refine Loc.ifv L 0 rfl rfl ?_
    | refine Loc.fnmk L 0 rfl rfl ?_
    | refine Loc.fnv L 0 rfl rfl ?_
    | (refine Loc.st L 0 rfl rfl (by first | rfl | exact isCell_IV _ | exact isCell_FV _) ?_; intro _H L)
    | refine Loc.int L 1 rfl rfl ?_
    | refine Loc.bool L 1 rfl rfl ?_
    | refine Loc.str L 1 rfl rfl ?_
    | refine Loc.ptr L 1 rfl rfl ?_
    | refine Loc.sl L 1 rfl rfl ?_
    | refine Loc.map L 1 rfl rfl ?_
    | refine Loc.ifmk L 1 rfl rfl ?_
    | refine Loc.ifnil L 1 rfl rfl ?_
    | refine Loc.ifv L 1 rfl rfl ?_
    | refine Loc.fnmk L 1 rfl rfl ?_
    | refine Loc.fnv L 1 rfl rfl ?_
    | (refine Loc.st L 1 rfl rfl (by first | rfl | exact isCell_IV _ | exact isCell_FV _) ?_; intro _H L)
    | refine Loc.int L 2 rfl rfl ?_
    | refine Loc.bool L 2 rfl rfl ?_
    | refine Loc.str L 2 rfl rfl ?_
    | refine Loc.ptr L 2 rfl rfl ?_
    | refine Loc.sl L 2 rfl rfl ?_
    | refine Loc.map L 2 rfl rfl ?_
    | refine Loc.ifmk L 2 rfl rfl ?_
    | refine Loc.ifnil L 2 rfl rfl ?_
    | refine Loc.ifv L 2 rfl rfl ?_
    | refine Loc.fnmk L 2 rfl rfl ?_
    | refine Loc.fnv L 2 rfl rfl ?_
    | (refine Loc.st L 2 rfl rfl (by first | rfl | exact isCell_IV _ | exact isCell_FV _) ?_; intro _H L)
    | refine tInt_i ?_
    | refine tBool_i ?_
    | refine tStr_i ?_
    | refine tPtr_i ?_
    | refine tSl_i ?_
    | refine tMap_i ?_
    | refine tIf_nil ?_
    | refine tIf_mk ?_
    | refine tIf_i ?_
    | refine tFn_mk ?_
    | refine tFn_i ?_
    | refine tAgg_i ?_
    | refine tTup_i ?_
    | refine tCons_i ?_
    | refine tNil_i ?_
    | refine andD_i (by assumption) ?_
    | refine nilD_i ?_)
  -- what stands behind the first test
  have rest : ∀ (r1 r2 r3 : Nat) (H1 : Heap), Den.Loc H H1 [(r3, [.int .i64 x, .int .i64 y], 35), (r2, [.int .i64 c, .int .i64 d], 35), (r1, [.int .i64 a, .int .i64 b], 35)] → F5.L0 r1 r2 r3 (gtB a b c d) H1 (Gives (.bool true) H) := by
    intro r1 r2 r3 H1 L
    refine F5.L0_step ?_
    unfold F5.L0n
    refine iteB_i (fun _ => ?_) (fun h1 => ?_)
    · repeat (first
    | (refine Loc.call L (rvLive_ok _) ?_; intro _H E L)
    | (refine Loc.new L ?_; intro _r _H L)
    | refine Loc.int L 0 rfl rfl ?_
    | refine Loc.bool L 0 rfl rfl ?_
    | refine Loc.str L 0 rfl rfl ?_
    | refine Loc.ptr L 0 rfl rfl ?_
    | refine Loc.sl L 0 rfl rfl ?_
    | refine Loc.map L 0 rfl rfl ?_
    | refine Loc.ifmk L 0 rfl rfl ?_
    | refine Loc.ifnil L 0 rfl rfl ?_
    | refine Loc.ifv L 0 rfl rfl ?_
    | refine Loc.fnmk L 0 rfl rfl ?_
    | refine Loc.fnv L 0 rfl rfl ?_
    | (refine Loc.st L 0 rfl rfl (by first | rfl | exact isCell_IV _ | exact isCell_FV _) ?_; intro _H L)
    | refine Loc.int L 1 rfl rfl ?_
    | refine Loc.bool L 1 rfl rfl ?_
    | refine Loc.str L 1 rfl rfl ?_
    | refine Loc.ptr L 1 rfl rfl ?_
    | refine Loc.sl L 1 rfl rfl ?_
    | refine Loc.map L 1 rfl rfl ?_
    | refine Loc.ifmk L 1 rfl rfl ?_
    | refine Loc.ifnil L 1 rfl rfl ?_
    | refine Loc.ifv L 1 rfl rfl ?_
    | refine Loc.fnmk L 1 rfl rfl ?_
    | refine Loc.fnv L 1 rfl rfl ?_
    | (refine Loc.st L 1 rfl rfl (by first | rfl | exact isCell_IV _ | exact isCell_FV _) ?_; intro _H L)
    | refine Loc.int L 2 rfl rfl ?_
    | refine Loc.bool L 2 rfl rfl ?_
    | refine Loc.str L 2 rfl rfl ?_
    | refine Loc.ptr L 2 rfl rfl ?_
    | refine Loc.sl L 2 rfl rfl ?_
    | refine Loc.map L 2 rfl rfl ?_
    | refine Loc.ifmk L 2 rfl rfl ?_
    | refine Loc.ifnil L 2 rfl rfl ?_
    | refine Loc.ifv L 2 rfl rfl ?_
    | refine Loc.fnmk L 2 rfl rfl ?_
    | refine Loc.fnv L 2 rfl rfl ?_
    | (refine Loc.st L 2 rfl rfl (by first | rfl | exact isCell_IV _ | exact isCell_FV _) ?_; intro _H L)
    | refine tInt_i ?_
    | refine tBool_i ?_
    | refine tStr_i ?_
    | refine tPtr_i ?_
    | refine tSl_i ?_
    | refine tMap_i ?_
    | refine tIf_nil ?_
    | refine tIf_mk ?_
    | refine tIf_i ?_
    | refine tFn_mk ?_
    | refine tFn_i ?_
    | refine tAgg_i ?_
    | refine tTup_i ?_
    | refine tCons_i ?_
    | refine tNil_i ?_
    | refine andD_i (by assumption) ?_
    | refine nilD_i ?_)
      exact ⟨rfl, L.ext⟩
    · repeat (first
    | (refine Loc.call L (greater_ok _ _ _ _ _) ?_; intro _H E L)
    | (refine Loc.new L ?_; intro _r _H L)
    | refine Loc.int L 0 rfl rfl ?_
    | refine Loc.bool L 0 rfl rfl ?_
    | refine Loc.str L 0 rfl rfl ?_
    | refine Loc.ptr L 0 rfl rfl ?_
    | refine Loc.sl L 0 rfl rfl ?_
    | refine Loc.map L 0 rfl rfl ?_
    | refine Loc.ifmk L 0 rfl rfl ?_
    | refine Loc.ifnil L 0 rfl rfl ?_
    | refine Loc.ifv L 0 rfl rfl ?_
    | refine Loc.fnmk L 0 rfl rfl ?_
    | refine Loc.fnv L 0 rfl rfl ?_
    | (refine Loc.st L 0 rfl rfl (by first | rfl | exact isCell_IV _ | exact isCell_FV _) ?_; intro _H L)
    | refine Loc.int L 1 rfl rfl ?_
    | refine Loc.bool L 1 rfl rfl ?_
    | refine Loc.str L 1 rfl rfl ?_
    | refine Loc.ptr L 1 rfl rfl ?_
    | refine Loc.sl L 1 rfl rfl ?_
    | refine Loc.map L 1 rfl rfl ?_
    | refine Loc.ifmk L 1 rfl rfl ?_
    | refine Loc.ifnil L 1 rfl rfl ?_
    | refine Loc.ifv L 1 rfl rfl ?_
    | refine Loc.fnmk L 1 rfl rfl ?_
    | refine Loc.fnv L 1 rfl rfl ?_
    | (refine Loc.st L 1 rfl rfl (by first | rfl | exact isCell_IV _ | exact isCell_FV _) ?_; intro _H L)
    | refine Loc.int L 2 rfl rfl ?_
    | refine Loc.bool L 2 rfl rfl ?_
    | refine Loc.str L 2 rfl rfl ?_
    | refine Loc.ptr L 2 rfl rfl ?_
    | refine Loc.sl L 2 rfl rfl ?_
    | refine Loc.map L 2 rfl rfl ?_
    | refine Loc.ifmk L 2 rfl rfl ?_
    | refine Loc.ifnil L 2 rfl rfl ?_
    | refine Loc.ifv L 2 rfl rfl ?_
    | refine Loc.fnmk L 2 rfl rfl ?_
    | refine Loc.fnv L 2 rfl rfl ?_
    | (refine Loc.st L 2 rfl rfl (by first | rfl | exact isCell_IV _ | exact isCell_FV _) ?_; intro _H L)
    | refine tInt_i ?_
    | refine tBool_i ?_
    | refine tStr_i ?_
    | refine tPtr_i ?_
    | refine tSl_i ?_
    | refine tMap_i ?_
    | refine tIf_nil ?_
    | refine tIf_mk ?_
    | refine tIf_i ?_
    | refine tFn_mk ?_
    | refine tFn_i ?_
    | refine tAgg_i ?_
    | refine tTup_i ?_
    | refine tCons_i ?_
    | refine tNil_i ?_
    | refine andD_i (by assumption) ?_
    | refine nilD_i ?_)
      refine iteB_i (fun _ => ?_) (fun h2 => ?_)
      · repeat (first
    | (refine Loc.call L (rvLive_ok _) ?_; intro _H E L)
    | (refine Loc.new L ?_; intro _r _H L)
    | refine Loc.int L 0 rfl rfl ?_
    | refine Loc.bool L 0 rfl rfl ?_
    | refine Loc.str L 0 rfl rfl ?_
    | refine Loc.ptr L 0 rfl rfl ?_
    | refine Loc.sl L 0 rfl rfl ?_
    | refine Loc.map L 0 rfl rfl ?_
    | refine Loc.ifmk L 0 rfl rfl ?_
    | refine Loc.ifnil L 0 rfl rfl ?_
    | refine Loc.ifv L 0 rfl rfl ?_
    | refine Loc.fnmk L 0 rfl rfl ?_
    | refine Loc.fnv L 0 rfl rfl ?_
    | (refine Loc.st L 0 rfl rfl (by first | rfl | exact isCell_IV _ | exact isCell_FV _) ?_; intro _H L)
    | refine Loc.int L 1 rfl rfl ?_
    | refine Loc.bool L 1 rfl rfl ?_
    | refine Loc.str L 1 rfl rfl ?_
    | refine Loc.ptr L 1 rfl rfl ?_
    | refine Loc.sl L 1 rfl rfl ?_
    | refine Loc.map L 1 rfl rfl ?_
    | refine Loc.ifmk L 1 rfl rfl ?_
    | refine Loc.ifnil L 1 rfl rfl ?_
    | refine Loc.ifv L 1 rfl rfl ?_
    | refine Loc.fnmk L 1 rfl rfl ?_
    | refine Loc.fnv L 1 rfl rfl ?_
    | (refine Loc.st L 1 rfl rfl (by first | rfl | exact isCell_IV _ | exact isCell_FV _) ?_; intro _H L)
    | refine Loc.int L 2 rfl rfl ?_
    | refine Loc.bool L 2 rfl rfl ?_
    | refine Loc.str L 2 rfl rfl ?_
    | refine Loc.ptr L 2 rfl rfl ?_
    | refine Loc.sl L 2 rfl rfl ?_
    | refine Loc.map L 2 rfl rfl ?_
    | refine Loc.ifmk L 2 rfl rfl ?_
    | refine Loc.ifnil L 2 rfl rfl ?_
    | refine Loc.ifv L 2 rfl rfl ?_
    | refine Loc.fnmk L 2 rfl rfl ?_
    | refine Loc.fnv L 2 rfl rfl ?_
    | (refine Loc.st L 2 rfl rfl (by first | rfl | exact isCell_IV _ | exact isCell_FV _) ?_; intro _H L)
    | refine tInt_i ?_
    | refine tBool_i ?_
    | refine tStr_i ?_
    | refine tPtr_i ?_
    | refine tSl_i ?_
    | refine tMap_i ?_
    | refine tIf_nil ?_
    | refine tIf_mk ?_
    | refine tIf_i ?_
    | refine tFn_mk ?_
    | refine tFn_i ?_
    | refine tAgg_i ?_
    | refine tTup_i ?_
    | refine tCons_i ?_
    | refine tNil_i ?_
    | refine andD_i (by assumption) ?_
    | refine nilD_i ?_)
        exact ⟨rfl, L.ext⟩
      · repeat (first
    | (refine Loc.call L (greater_ok _ _ _ _ _) ?_; intro _H E L)
    | (refine Loc.new L ?_; intro _r _H L)
    | refine Loc.int L 0 rfl rfl ?_
    | refine Loc.bool L 0 rfl rfl ?_
    | refine Loc.str L 0 rfl rfl ?_
    | refine Loc.ptr L 0 rfl rfl ?_
    | refine Loc.sl L 0 rfl rfl ?_
    | refine Loc.map L 0 rfl rfl ?_
    | refine Loc.ifmk L 0 rfl rfl ?_
    | refine Loc.ifnil L 0 rfl rfl ?_
    | refine Loc.ifv L 0 rfl rfl ?_
    | refine Loc.fnmk L 0 rfl rfl ?_
    | refine Loc.fnv L 0 rfl rfl ?_
    | (refine Loc.st L 0 rfl rfl (by first | rfl | exact isCell_IV _ | exact isCell_FV _) ?_; intro _H L)
    | refine Loc.int L 1 rfl rfl ?_
    | refine Loc.bool L 1 rfl rfl ?_
    | refine Loc.str L 1 rfl rfl ?_
    | refine Loc.ptr L 1 rfl rfl ?_
    | refine Loc.sl L 1 rfl rfl ?_
    | refine Loc.map L 1 rfl rfl ?_
    | refine Loc.ifmk L 1 rfl rfl ?_
    | refine Loc.ifnil L 1 rfl rfl ?_
    | refine Loc.ifv L 1 rfl rfl ?_
    | refine Loc.fnmk L 1 rfl rfl ?_
    | refine Loc.fnv L 1 rfl rfl ?_
    | (refine Loc.st L 1 rfl rfl (by first | rfl | exact isCell_IV _ | exact isCell_FV _) ?_; intro _H L)
    | refine Loc.int L 2 rfl rfl ?_
    | refine Loc.bool L 2 rfl rfl ?_
    | refine Loc.str L 2 rfl rfl ?_
    | refine Loc.ptr L 2 rfl rfl ?_
    | refine Loc.sl L 2 rfl rfl ?_
    | refine Loc.map L 2 rfl rfl ?_
    | refine Loc.ifmk L 2 rfl rfl ?_
    | refine Loc.ifnil L 2 rfl rfl ?_
    | refine Loc.ifv L 2 rfl rfl ?_
    | refine Loc.fnmk L 2 rfl rfl ?_
    | refine Loc.fnv L 2 rfl rfl ?_
    | (refine Loc.st L 2 rfl rfl (by first | rfl | exact isCell_IV _ | exact isCell_FV _) ?_; intro _H L)
    | refine tInt_i ?_
    | refine tBool_i ?_
    | refine tStr_i ?_
    | refine tPtr_i ?_
    | refine tSl_i ?_
    | refine tMap_i ?_
    | refine tIf_nil ?_
    | refine tIf_mk ?_
    | refine tIf_i ?_
    | refine tFn_mk ?_
    | refine tFn_i ?_
    | refine tAgg_i ?_
    | refine tTup_i ?_
    | refine tCons_i ?_
    | refine tNil_i ?_
    | refine andD_i (by assumption) ?_
    | refine nilD_i ?_)
        refine iteB_i (fun _ => ?_) (fun h3 => ?_)
        · repeat (first
    | (refine Loc.call L (rvLive_ok _) ?_; intro _H E L)
    | (refine Loc.new L ?_; intro _r _H L)
    | refine Loc.int L 0 rfl rfl ?_
    | refine Loc.bool L 0 rfl rfl ?_
    | refine Loc.str L 0 rfl rfl ?_
    | refine Loc.ptr L 0 rfl rfl ?_
    | refine Loc.sl L 0 rfl rfl ?_
    | refine Loc.map L 0 rfl rfl ?_
    | refine Loc.ifmk L 0 rfl rfl ?_
    | refine Loc.ifnil L 0 rfl rfl ?_
    | refine Loc.ifv L 0 rfl rfl ?_
    | refine Loc.fnmk L 0 rfl rfl ?_
    | refine Loc.fnv L 0 rfl rfl ?_
    | (refine Loc.st L 0 rfl rfl (by first | rfl | exact isCell_IV _ | exact isCell_FV _) ?_; intro _H L)
    | refine Loc.int L 1 rfl rfl ?_
    | refine Loc.bool L 1 rfl rfl ?_
    | refine Loc.str L 1 rfl rfl ?_
    | refine Loc.ptr L 1 rfl rfl ?_
    | refine Loc.sl L 1 rfl rfl ?_
    | refine Loc.map L 1 rfl rfl ?_
    | refine Loc.ifmk L 1 rfl rfl ?_
    | refine Loc.ifnil L 1 rfl rfl ?_
    | refine Loc.ifv L 1 rfl rfl ?_
    | refine Loc.fnmk L 1 rfl rfl ?_
    | refine Loc.fnv L 1 rfl rfl ?_
    | (refine Loc.st L 1 rfl rfl (by first | rfl | exact isCell_IV _ | exact isCell_FV _) ?_; intro _H L)
    | refine Loc.int L 2 rfl rfl ?_
    | refine Loc.bool L 2 rfl rfl ?_
    | refine Loc.str L 2 rfl rfl ?_
    | refine Loc.ptr L 2 rfl rfl ?_
    | refine Loc.sl L 2 rfl rfl ?_
    | refine Loc.map L 2 rfl rfl ?_
    | refine Loc.ifmk L 2 rfl rfl ?_
    | refine Loc.ifnil L 2 rfl rfl ?_
    | refine Loc.ifv L 2 rfl rfl ?_
    | refine Loc.fnmk L 2 rfl rfl ?_
    | refine Loc.fnv L 2 rfl rfl ?_
    | (refine Loc.st L 2 rfl rfl (by first | rfl | exact isCell_IV _ | exact isCell_FV _) ?_; intro _H L)
    | refine tInt_i ?_
    | refine tBool_i ?_
    | refine tStr_i ?_
    | refine tPtr_i ?_
    | refine tSl_i ?_
    | refine tMap_i ?_
    | refine tIf_nil ?_
    | refine tIf_mk ?_
    | refine tIf_i ?_
    | refine tFn_mk ?_
    | refine tFn_i ?_
    | refine tAgg_i ?_
    | refine tTup_i ?_
    | refine tCons_i ?_
    | refine tNil_i ?_
    | refine andD_i (by assumption) ?_
    | refine nilD_i ?_)
          exact ⟨rfl, L.ext⟩
        · exfalso
          simp [gtB] at h1 h2 h3
          omega
  have asym := gt_asym (a := a) (b := b) (c := c) (d := d)
  refine iteB_i (fun h1 => ?_) (fun h1 => ?_)
  · refine iteB_i (fun h2 => by rw [h1, h2] at asym; cases asym) (fun h2 => ?_)
    repeat (first
    | (refine Loc.new L ?_; intro _r _H L)
    | refine Loc.int L 0 rfl rfl ?_
    | refine Loc.bool L 0 rfl rfl ?_
    | refine Loc.str L 0 rfl rfl ?_
    | refine Loc.ptr L 0 rfl rfl ?_
    | refine Loc.sl L 0 rfl rfl ?_
    | refine Loc.map L 0 rfl rfl ?_
    | refine Loc.ifmk L 0 rfl rfl ?_
    | refine Loc.ifnil L 0 rfl rfl ?_
    | refine Loc.ifv L 0 rfl rfl ?_
    | refine Loc.fnmk L 0 rfl rfl ?_
    | refine Loc.fnv L 0 rfl rfl ?_
    | (refine Loc.st L 0 rfl rfl (by first | rfl | exact isCell_IV _ | exact isCell_FV _) ?_; intro _H L)
    | refine Loc.int L 1 rfl rfl ?_
    | refine Loc.bool L 1 rfl rfl ?_
    | refine Loc.str L 1 rfl rfl ?_
    | refine Loc.ptr L 1 rfl rfl ?_
    | refine Loc.sl L 1 rfl rfl ?_
    | refine Loc.map L 1 rfl rfl ?_
    | refine Loc.ifmk L 1 rfl rfl ?_
    | refine Loc.ifnil L 1 rfl rfl ?_
    | refine Loc.ifv L 1 rfl rfl ?_
    | refine Loc.fnmk L 1 rfl rfl ?_
    | refine Loc.fnv L 1 rfl rfl ?_
    | (refine Loc.st L 1 rfl rfl (by first | rfl | exact isCell_IV _ | exact isCell_FV _) ?_; intro _H L)
    | refine Loc.int L 2 rfl rfl ?_
    | refine Loc.bool L 2 rfl rfl ?_
    | refine Loc.str L 2 rfl rfl ?_
    | refine Loc.ptr L 2 rfl rfl ?_
    | refine Loc.sl L 2 rfl rfl ?_
    | refine Loc.map L 2 rfl rfl ?_
    | refine Loc.ifmk L 2 rfl rfl ?_
    | refine Loc.ifnil L 2 rfl rfl ?_
    | refine Loc.ifv L 2 rfl rfl ?_
    | refine Loc.fnmk L 2 rfl rfl ?_
    | refine Loc.fnv L 2 rfl rfl ?_
    | (refine Loc.st L 2 rfl rfl (by first | rfl | exact isCell_IV _ | exact isCell_FV _) ?_; intro _H L)
    | refine tInt_i ?_
    | refine tBool_i ?_
    | refine tStr_i ?_
    | refine tPtr_i ?_
    | refine tSl_i ?_
    | refine tMap_i ?_
    | refine tIf_nil ?_
    | refine tIf_mk ?_
    | refine tIf_i ?_
    | refine tFn_mk ?_
    | refine tFn_i ?_
    | refine tAgg_i ?_
    | refine tTup_i ?_
    | refine tCons_i ?_
    | refine tNil_i ?_
    | refine andD_i (by assumption) ?_
    | refine nilD_i ?_)
    refine rev_eq ?_
    have he : (a == c && b == d) = false := by
      simp [gtB] at h1 ⊢; omega
    rw [he, h1, h2]
    refine iteB_i (fun h => by cases h) (fun _ => ?_)
    refine iteB_i (fun h => by cases h) (fun _ => ?_)
    have := rest _ _ _ _ L
    rw [h1] at this
    exact this
  · repeat (first
    | (refine Loc.new L ?_; intro _r _H L)
    | refine Loc.int L 0 rfl rfl ?_
    | refine Loc.bool L 0 rfl rfl ?_
    | refine Loc.str L 0 rfl rfl ?_
    | refine Loc.ptr L 0 rfl rfl ?_
    | refine Loc.sl L 0 rfl rfl ?_
    | refine Loc.map L 0 rfl rfl ?_
    | refine Loc.ifmk L 0 rfl rfl ?_
    | refine Loc.ifnil L 0 rfl rfl ?_
    | refine Loc.ifv L 0 rfl rfl ?_
    | refine Loc.fnmk L 0 rfl rfl ?_
    | refine Loc.fnv L 0 rfl rfl ?_
    | (refine Loc.st L 0 rfl rfl (by first | rfl | exact isCell_IV _ | exact isCell_FV _) ?_; intro _H L)
    | refine Loc.int L 1 rfl rfl ?_
    | refine Loc.bool L 1 rfl rfl ?_
    | refine Loc.str L 1 rfl rfl ?_
    | refine Loc.ptr L 1 rfl rfl ?_
    | refine Loc.sl L 1 rfl rfl ?_
    | refine Loc.map L 1 rfl rfl ?_
    | refine Loc.ifmk L 1 rfl rfl ?_
    | refine Loc.ifnil L 1 rfl rfl ?_
    | refine Loc.ifv L 1 rfl rfl ?_
    | refine Loc.fnmk L 1 rfl rfl ?_
    | refine Loc.fnv L 1 rfl rfl ?_
    | (refine Loc.st L 1 rfl rfl (by first | rfl | exact isCell_IV _ | exact isCell_FV _) ?_; intro _H L)
    | refine Loc.int L 2 rfl rfl ?_
    | refine Loc.bool L 2 rfl rfl ?_
    | refine Loc.str L 2 rfl rfl ?_
    | refine Loc.ptr L 2 rfl rfl ?_
    | refine Loc.sl L 2 rfl rfl ?_
    | refine Loc.map L 2 rfl rfl ?_
    | refine Loc.ifmk L 2 rfl rfl ?_
    | refine Loc.ifnil L 2 rfl rfl ?_
    | refine Loc.ifv L 2 rfl rfl ?_
    | refine Loc.fnmk L 2 rfl rfl ?_
    | refine Loc.fnv L 2 rfl rfl ?_
    | (refine Loc.st L 2 rfl rfl (by first | rfl | exact isCell_IV _ | exact isCell_FV _) ?_; intro _H L)
    | refine tInt_i ?_
    | refine tBool_i ?_
    | refine tStr_i ?_
    | refine tPtr_i ?_
    | refine tSl_i ?_
    | refine tMap_i ?_
    | refine tIf_nil ?_
    | refine tIf_mk ?_
    | refine tIf_i ?_
    | refine tFn_mk ?_
    | refine tFn_i ?_
    | refine tAgg_i ?_
    | refine tTup_i ?_
    | refine tCons_i ?_
    | refine tNil_i ?_
    | refine andD_i (by assumption) ?_
    | refine nilD_i ?_)
    refine rev_eq ?_
    rw [h1]
    refine iteB_i (fun _ => ?_) (fun h => by cases h)
    have he : (a == c && b == d) = !(gtB c d a b) := by
      rw [Bool.eq_iff_iff]
      simp [gtB] at h1 ⊢
      omega
    rw [he]
    refine iteB_i (fun h => by simp at h) (fun _ => ?_)
    have := rest _ _ _ _ L
    rw [h1] at this
    exact this
end Go.Proofs.Ytpankppliidaoaa
