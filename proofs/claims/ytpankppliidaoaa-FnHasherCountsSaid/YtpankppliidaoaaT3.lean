/- What functions of this seat do, each proved by a walk; no condition. -/
import Derived.Test.YtpankppliidaoaaT2
import Derived.Test.YtpankppliidaoaaDenX
set_option linter.unusedVariables false
namespace Go.Proofs.Ytpankppliidaoaa
open Go Go.Den Go.Proofs
theorem revIn_ok (a b : Int) (H : Heap) : CallsH Try.prog 39 ⟨[.agg ⟨[.int .i64 a, .int .i64 b]⟩]⟩ H (Gives (.agg ⟨[.int .i64 a, .int .i64 b]⟩) H) := by
  refine F39.calls ?_
  unfold F39.go
  have L := Loc.start H
  repeat (first
    | (refine Loc.new L ?_; intro _r _H L)
    | refine Loc.int L 0 rfl rfl ?_
    | refine Loc.bool L 0 rfl rfl ?_
    | refine Loc.str L 0 rfl rfl ?_
    | refine Loc.ptr L 0 rfl rfl ?_
    | refine Loc.sl L 0 rfl rfl ?_
    | refine Loc.map L 0 rfl rfl ?_
    | refine Loc.ifmk L 0 rfl rfl ?_
    | refine Loc.ifnil L 0 rfl rfl ?_
    | refine Loc.ifv L 0 rfl rfl ?_
    | refine Loc.fnmk L 0 rfl rfl ?_
    | refine Loc.fnv L 0 rfl rfl ?_
    | (refine Loc.st L 0 rfl rfl (by first | rfl | exact isCell_IV _ | exact isCell_FV _) ?_; intro _H L)
    | refine Loc.int L 1 rfl rfl ?_
    | refine Loc.bool L 1 rfl rfl ?_
    | refine Loc.str L 1 rfl rfl ?_
    | refine Loc.ptr L 1 rfl rfl ?_
    | refine Loc.sl L 1 rfl rfl ?_
    | refine Loc.map L 1 rfl rfl ?_
    | refine Loc.ifmk L 1 rfl rfl ?_
    | refine Loc.ifnil L 1 rfl rfl ?_
    | refine Loc.ifv L 1 rfl rfl ?_
    | refine Loc.fnmk L 1 rfl rfl ?_
    | refine Loc.fnv L 1 rfl rfl ?_
    | (refine Loc.st L 1 rfl rfl (by first | rfl | exact isCell_IV _ | exact isCell_FV _) ?_; intro _H L)
    | refine Loc.int L 2 rfl rfl ?_
    | refine Loc.bool L 2 rfl rfl ?_
    | refine Loc.str L 2 rfl rfl ?_
    | refine Loc.ptr L 2 rfl rfl ?_
    | refine Loc.sl L 2 rfl rfl ?_
    | refine Loc.map L 2 rfl rfl ?_
    | refine Loc.ifmk L 2 rfl rfl ?_
    | refine Loc.ifnil L 2 rfl rfl ?_
    | refine Loc.ifv L 2 rfl rfl ?_
    | refine Loc.fnmk L 2 rfl rfl ?_
    | refine Loc.fnv L 2 rfl rfl ?_
    | (refine Loc.st L 2 rfl rfl (by first | rfl | exact isCell_IV _ | exact isCell_FV _) ?_; intro _H L)
    | refine Loc.int L 3 rfl rfl ?_
    | refine Loc.bool L 3 rfl rfl ?_
    | refine Loc.str L 3 rfl rfl ?_
    | refine Loc.ptr L 3 rfl rfl ?_
    | refine Loc.sl L 3 rfl rfl ?_
    | refine Loc.map L 3 rfl rfl ?_
    | refine Loc.ifmk L 3 rfl rfl ?_
    | refine Loc.ifnil L 3 rfl rfl ?_
    | refine Loc.ifv L 3 rfl rfl ?_
    | refine Loc.fnmk L 3 rfl rfl ?_
    | refine Loc.fnv L 3 rfl rfl ?_
    | (refine Loc.st L 3 rfl rfl (by first | rfl | exact isCell_IV _ | exact isCell_FV _) ?_; intro _H L)
    | refine tInt_i ?_
    | refine tBool_i ?_
    | refine tStr_i ?_
    | refine tPtr_i ?_
    | refine tSl_i ?_
    | refine tMap_i ?_
    | refine tIf_nil ?_
    | refine tIf_mk ?_
    | refine tIf_i ?_
    | refine tFn_mk ?_
    | refine tFn_i ?_
    | refine tAgg_i ?_
    | refine tTup_i ?_
    | refine tCons_i ?_
    | refine tNil_i ?_
    | refine andD_i (by assumption) ?_
    | refine nilD_i ?_)
  exact ⟨rfl, L.ext⟩
theorem revOut_ok (a b : Int) (H : Heap) : CallsH Try.prog 36 ⟨[.agg ⟨[.int .i64 a, .int .i64 b]⟩]⟩ H (Gives (.agg ⟨[.int .i64 a, .int .i64 b]⟩) H) := by
  refine F36.calls ?_
  unfold F36.go
  have L := Loc.start H
  repeat (first
    | (refine Loc.new L ?_; intro _r _H L)
    | refine Loc.int L 0 rfl rfl ?_
    | refine Loc.bool L 0 rfl rfl ?_
    | refine Loc.str L 0 rfl rfl ?_
    | refine Loc.ptr L 0 rfl rfl ?_
    | refine Loc.sl L 0 rfl rfl ?_
    | refine Loc.map L 0 rfl rfl ?_
    | refine Loc.ifmk L 0 rfl rfl ?_
    | refine Loc.ifnil L 0 rfl rfl ?_
    | refine Loc.ifv L 0 rfl rfl ?_
    | refine Loc.fnmk L 0 rfl rfl ?_
    | refine Loc.fnv L 0 rfl rfl ?_
    | (refine Loc.st L 0 rfl rfl (by first | rfl | exact isCell_IV _ | exact isCell_FV _) ?_; intro _H L)
    | refine Loc.int L 1 rfl rfl ?_
    | refine Loc.bool L 1 rfl rfl ?_
    | refine Loc.str L 1 rfl rfl ?_
    | refine Loc.ptr L 1 rfl rfl ?_
    | refine Loc.sl L 1 rfl rfl ?_
    | refine Loc.map L 1 rfl rfl ?_
    | refine Loc.ifmk L 1 rfl rfl ?_
    | refine Loc.ifnil L 1 rfl rfl ?_
    | refine Loc.ifv L 1 rfl rfl ?_
    | refine Loc.fnmk L 1 rfl rfl ?_
    | refine Loc.fnv L 1 rfl rfl ?_
    | (refine Loc.st L 1 rfl rfl (by first | rfl | exact isCell_IV _ | exact isCell_FV _) ?_; intro _H L)
    | refine Loc.int L 2 rfl rfl ?_
    | refine Loc.bool L 2 rfl rfl ?_
    | refine Loc.str L 2 rfl rfl ?_
    | refine Loc.ptr L 2 rfl rfl ?_
    | refine Loc.sl L 2 rfl rfl ?_
    | refine Loc.map L 2 rfl rfl ?_
    | refine Loc.ifmk L 2 rfl rfl ?_
    | refine Loc.ifnil L 2 rfl rfl ?_
    | refine Loc.ifv L 2 rfl rfl ?_
    | refine Loc.fnmk L 2 rfl rfl ?_
    | refine Loc.fnv L 2 rfl rfl ?_
    | (refine Loc.st L 2 rfl rfl (by first | rfl | exact isCell_IV _ | exact isCell_FV _) ?_; intro _H L)
    | refine Loc.int L 3 rfl rfl ?_
    | refine Loc.bool L 3 rfl rfl ?_
    | refine Loc.str L 3 rfl rfl ?_
    | refine Loc.ptr L 3 rfl rfl ?_
    | refine Loc.sl L 3 rfl rfl ?_
    | refine Loc.map L 3 rfl rfl ?_
    | refine Loc.ifmk L 3 rfl rfl ?_
    | refine Loc.ifnil L 3 rfl rfl ?_
    | refine Loc.ifv L 3 rfl rfl ?_
    | refine Loc.fnmk L 3 rfl rfl ?_
    | refine Loc.fnv L 3 rfl rfl ?_
    | (refine Loc.st L 3 rfl rfl (by first | rfl | exact isCell_IV _ | exact isCell_FV _) ?_; intro _H L)
    | refine tInt_i ?_
    | refine tBool_i ?_
    | refine tStr_i ?_
    | refine tPtr_i ?_
    | refine tSl_i ?_
    | refine tMap_i ?_
    | refine tIf_nil ?_
    | refine tIf_mk ?_
    | refine tIf_i ?_
    | refine tFn_mk ?_
    | refine tFn_i ?_
    | refine tAgg_i ?_
    | refine tTup_i ?_
    | refine tCons_i ?_
    | refine tNil_i ?_
    | refine andD_i (by assumption) ?_
    | refine nilD_i ?_)
  exact ⟨rfl, L.ext⟩
theorem newBucketKey_ok (a b : Int) (t : Bool) (H : Heap) : CallsH Try.prog 62 ⟨[.int .i64 a, .int .i64 b, .bool t]⟩ H (Gives (.agg ⟨[.int .i64 a, .int .i64 b, .bool t]⟩) H) := by
  refine F62.calls ?_
  unfold F62.go
  have L := Loc.start H
  repeat (first
    | (refine Loc.new L ?_; intro _r _H L)
    | refine Loc.int L 0 rfl rfl ?_
    | refine Loc.bool L 0 rfl rfl ?_
    | refine Loc.str L 0 rfl rfl ?_
    | refine Loc.ptr L 0 rfl rfl ?_
    | refine Loc.sl L 0 rfl rfl ?_
    | refine Loc.map L 0 rfl rfl ?_
    | refine Loc.ifmk L 0 rfl rfl ?_
    | refine Loc.ifnil L 0 rfl rfl ?_
    | refine Loc.ifv L 0 rfl rfl ?_
    | refine Loc.fnmk L 0 rfl rfl ?_
    | refine Loc.fnv L 0 rfl rfl ?_
    | (refine Loc.st L 0 rfl rfl (by first | rfl | exact isCell_IV _ | exact isCell_FV _) ?_; intro _H L)
    | refine Loc.int L 1 rfl rfl ?_
    | refine Loc.bool L 1 rfl rfl ?_
    | refine Loc.str L 1 rfl rfl ?_
    | refine Loc.ptr L 1 rfl rfl ?_
    | refine Loc.sl L 1 rfl rfl ?_
    | refine Loc.map L 1 rfl rfl ?_
    | refine Loc.ifmk L 1 rfl rfl ?_
    | refine Loc.ifnil L 1 rfl rfl ?_
    | refine Loc.ifv L 1 rfl rfl ?_
    | refine Loc.fnmk L 1 rfl rfl ?_
    | refine Loc.fnv L 1 rfl rfl ?_
    | (refine Loc.st L 1 rfl rfl (by first | rfl | exact isCell_IV _ | exact isCell_FV _) ?_; intro _H L)
    | refine Loc.int L 2 rfl rfl ?_
    | refine Loc.bool L 2 rfl rfl ?_
    | refine Loc.str L 2 rfl rfl ?_
    | refine Loc.ptr L 2 rfl rfl ?_
    | refine Loc.sl L 2 rfl rfl ?_
    | refine Loc.map L 2 rfl rfl ?_
    | refine Loc.ifmk L 2 rfl rfl ?_
    | refine Loc.ifnil L 2 rfl rfl ?_
    | refine Loc.ifv L 2 rfl rfl ?_
    | refine Loc.fnmk L 2 rfl rfl ?_
    | refine Loc.fnv L 2 rfl rfl ?_
    | (refine Loc.st L 2 rfl rfl (by first | rfl | exact isCell_IV _ | exact isCell_FV _) ?_; intro _H L)
    | refine Loc.int L 3 rfl rfl ?_
    | refine Loc.bool L 3 rfl rfl ?_
    | refine Loc.str L 3 rfl rfl ?_
    | refine Loc.ptr L 3 rfl rfl ?_
    | refine Loc.sl L 3 rfl rfl ?_
    | refine Loc.map L 3 rfl rfl ?_
    | refine Loc.ifmk L 3 rfl rfl ?_
    | refine Loc.ifnil L 3 rfl rfl ?_
    | refine Loc.ifv L 3 rfl rfl ?_
    | refine Loc.fnmk L 3 rfl rfl ?_
    | refine Loc.fnv L 3 rfl rfl ?_
    | (refine Loc.st L 3 rfl rfl (by first | rfl | exact isCell_IV _ | exact isCell_FV _) ?_; intro _H L)
    | refine tInt_i ?_
    | refine tBool_i ?_
    | refine tStr_i ?_
    | refine tPtr_i ?_
    | refine tSl_i ?_
    | refine tMap_i ?_
    | refine tIf_nil ?_
    | refine tIf_mk ?_
    | refine tIf_i ?_
    | refine tFn_mk ?_
    | refine tFn_i ?_
    | refine tAgg_i ?_
    | refine tTup_i ?_
    | refine tCons_i ?_
    | refine tNil_i ?_
    | refine andD_i (by assumption) ?_
    | refine nilD_i ?_)
  exact ⟨rfl, L.ext⟩
theorem zzBucketKey_ok (a b : Int) (t : Bool) (H : Heap) : CallsH Try.prog 43 ⟨[.agg ⟨[.int .i64 a, .int .i64 b]⟩, .bool t]⟩ H (Gives (.agg ⟨[.int .i64 a, .int .i64 b, .bool t]⟩) H) := by
  refine F43.calls ?_
  unfold F43.go
  have L := Loc.start H
  repeat (first
    | (refine Loc.call L (newBucketKey_ok _ _ _ _) ?_; intro _H E L)
    | (refine Loc.new L ?_; intro _r _H L)
    | refine Loc.int L 0 rfl rfl ?_
    | refine Loc.bool L 0 rfl rfl ?_
    | refine Loc.str L 0 rfl rfl ?_
    | refine Loc.ptr L 0 rfl rfl ?_
    | refine Loc.sl L 0 rfl rfl ?_
    | refine Loc.map L 0 rfl rfl ?_
    | refine Loc.ifmk L 0 rfl rfl ?_
    | refine Loc.ifnil L 0 rfl rfl ?_
    | refine Loc.ifv L 0 rfl rfl ?_
    | refine Loc.fnmk L 0 rfl rfl ?_
    | refine Loc.fnv L 0 rfl rfl ?_
    | (refine Loc.st L 0 rfl rfl (by first | rfl | exact isCell_IV _ | exact isCell_FV _) ?_; intro _H L)
    | refine Loc.int L 1 rfl rfl ?_
    | refine Loc.bool L 1 rfl rfl ?_
    | refine Loc.str L 1 rfl rfl ?_
    | refine Loc.ptr L 1 rfl rfl ?_
    | refine Loc.sl L 1 rfl rfl ?_
    | refine Loc.map L 1 rfl rfl ?_
    | refine Loc.ifmk L 1 rfl rfl ?_
    | refine Loc.ifnil L 1 rfl rfl ?_
    | refine Loc.ifv L 1 rfl rfl ?_
    | refine Loc.fnmk L 1 rfl rfl ?_
    | refine Loc.fnv L 1 rfl rfl ?_
    | (refine Loc.st L 1 rfl rfl (by first | rfl | exact isCell_IV _ | exact isCell_FV _) ?_; intro _H L)
    | refine Loc.int L 2 rfl rfl ?_
    | refine Loc.bool L 2 rfl rfl ?_
    | refine Loc.str L 2 rfl rfl ?_
    | refine Loc.ptr L 2 rfl rfl ?_
    | refine Loc.sl L 2 rfl rfl ?_
    | refine Loc.map L 2 rfl rfl ?_
    | refine Loc.ifmk L 2 rfl rfl ?_
    | refine Loc.ifnil L 2 rfl rfl ?_
    | refine Loc.ifv L 2 rfl rfl ?_
    | refine Loc.fnmk L 2 rfl rfl ?_
    | refine Loc.fnv L 2 rfl rfl ?_
    | (refine Loc.st L 2 rfl rfl (by first | rfl | exact isCell_IV _ | exact isCell_FV _) ?_; intro _H L)
    | refine Loc.int L 3 rfl rfl ?_
    | refine Loc.bool L 3 rfl rfl ?_
    | refine Loc.str L 3 rfl rfl ?_
    | refine Loc.ptr L 3 rfl rfl ?_
    | refine Loc.sl L 3 rfl rfl ?_
    | refine Loc.map L 3 rfl rfl ?_
    | refine Loc.ifmk L 3 rfl rfl ?_
    | refine Loc.ifnil L 3 rfl rfl ?_
    | refine Loc.ifv L 3 rfl rfl ?_
    | refine Loc.fnmk L 3 rfl rfl ?_
    | refine Loc.fnv L 3 rfl rfl ?_
    | (refine Loc.st L 3 rfl rfl (by first | rfl | exact isCell_IV _ | exact isCell_FV _) ?_; intro _H L)
    | refine tInt_i ?_
    | refine tBool_i ?_
    | refine tStr_i ?_
    | refine tPtr_i ?_
    | refine tSl_i ?_
    | refine tMap_i ?_
    | refine tIf_nil ?_
    | refine tIf_mk ?_
    | refine tIf_i ?_
    | refine tFn_mk ?_
    | refine tFn_i ?_
    | refine tAgg_i ?_
    | refine tTup_i ?_
    | refine tCons_i ?_
    | refine tNil_i ?_
    | refine andD_i (by assumption) ?_
    | refine nilD_i ?_)
  exact ⟨rfl, L.ext⟩
def gtB (a b c d : Int) : Bool := decide (a > c) || (decide (a = c) && decide (b > d))
theorem greaterThan_ok (a b c d : Int) (H : Heap) : CallsH Try.prog 41 ⟨[.agg ⟨[.int .i64 a, .int .i64 b]⟩, .agg ⟨[.int .i64 c, .int .i64 d]⟩]⟩ H (Gives (.bool (gtB a b c d)) H) := by
  refine F41.calls ?_
  unfold F41.go
  have L := Loc.start H
  repeat (first
    | (refine Loc.new L ?_; intro _r _H L)
    | refine Loc.int L 0 rfl rfl ?_
    | refine Loc.bool L 0 rfl rfl ?_
    | refine Loc.str L 0 rfl rfl ?_
    | refine Loc.ptr L 0 rfl rfl ?_
    | refine Loc.sl L 0 rfl rfl ?_
    | refine Loc.map L 0 rfl rfl ?_
    | refine Loc.ifmk L 0 rfl rfl ?_
    | refine Loc.ifnil L 0 rfl rfl ?_
    | refine Loc.ifv L 0 rfl rfl ?_
    | refine Loc.fnmk L 0 rfl rfl ?_
    | refine Loc.fnv L 0 rfl rfl ?_
    | (refine Loc.st L 0 rfl rfl (by first | rfl | exact isCell_IV _ | exact isCell_FV _) ?_; intro _H L)
    | refine Loc.int L 1 rfl rfl ?_
    | refine Loc.bool L 1 rfl rfl ?_
    | refine Loc.str L 1 rfl rfl ?_
    | refine Loc.ptr L 1 rfl rfl ?_
    | refine Loc.sl L 1 rfl rfl ?_
    | refine Loc.map L 1 rfl rfl ?_
    | refine Loc.ifmk L 1 rfl rfl ?_
    | refine Loc.ifnil L 1 rfl rfl ?_
    | refine Loc.ifv L 1 rfl rfl ?_
    | refine Loc.fnmk L 1 rfl rfl ?_
    | refine Loc.fnv L 1 rfl rfl ?_
    | (refine Loc.st L 1 rfl rfl (by first | rfl | exact isCell_IV _ | exact isCell_FV _) ?_; intro _H L)
    | refine Loc.int L 2 rfl rfl ?_
    | refine Loc.bool L 2 rfl rfl ?_
    | refine Loc.str L 2 rfl rfl ?_
    | refine Loc.ptr L 2 rfl rfl ?_
    | refine Loc.sl L 2 rfl rfl ?_
    | refine Loc.map L 2 rfl rfl ?_
    | refine Loc.ifmk L 2 rfl rfl ?_
    | refine Loc.ifnil L 2 rfl rfl ?_
    | refine Loc.ifv L 2 rfl rfl ?_
    | refine Loc.fnmk L 2 rfl rfl ?_
    | refine Loc.fnv L 2 rfl rfl ?_
    | (refine Loc.st L 2 rfl rfl (by first | rfl | exact isCell_IV _ | exact isCell_FV _) ?_; intro _H L)
    | refine Loc.int L 3 rfl rfl ?_
    | refine Loc.bool L 3 rfl rfl ?_
    | refine Loc.str L 3 rfl rfl ?_
    | refine Loc.ptr L 3 rfl rfl ?_
    | refine Loc.sl L 3 rfl rfl ?_
    | refine Loc.map L 3 rfl rfl ?_
    | refine Loc.ifmk L 3 rfl rfl ?_
    | refine Loc.ifnil L 3 rfl rfl ?_
    | refine Loc.ifv L 3 rfl rfl ?_
    | refine Loc.fnmk L 3 rfl rfl ?_
    | refine Loc.fnv L 3 rfl rfl ?_
    | (refine Loc.st L 3 rfl rfl (by first | rfl | exact isCell_IV _ | exact isCell_FV _) ?_; intro _H L)
    | refine tInt_i ?_
    | refine tBool_i ?_
    | refine tStr_i ?_
    | refine tPtr_i ?_
    | refine tSl_i ?_
    | refine tMap_i ?_
    | refine tIf_nil ?_
    | refine tIf_mk ?_
    | refine tIf_i ?_
    | refine tFn_mk ?_
    | refine tFn_i ?_
    | refine tAgg_i ?_
    | refine tTup_i ?_
    | refine tCons_i ?_
    | refine tNil_i ?_
    | refine andD_i (by assumption) ?_
    | refine nilD_i ?_)
  refine iteB_i (fun h => ?_) (fun h => ?_)
  · exact ⟨by simp at h; simp [gtB, h], L.ext⟩
  repeat (first
    | (refine Loc.new L ?_; intro _r _H L)
    | refine Loc.int L 0 rfl rfl ?_
    | refine Loc.bool L 0 rfl rfl ?_
    | refine Loc.str L 0 rfl rfl ?_
    | refine Loc.ptr L 0 rfl rfl ?_
    | refine Loc.sl L 0 rfl rfl ?_
    | refine Loc.map L 0 rfl rfl ?_
    | refine Loc.ifmk L 0 rfl rfl ?_
    | refine Loc.ifnil L 0 rfl rfl ?_
    | refine Loc.ifv L 0 rfl rfl ?_
    | refine Loc.fnmk L 0 rfl rfl ?_
    | refine Loc.fnv L 0 rfl rfl ?_
    | (refine Loc.st L 0 rfl rfl (by first | rfl | exact isCell_IV _ | exact isCell_FV _) ?_; intro _H L)
    | refine Loc.int L 1 rfl rfl ?_
    | refine Loc.bool L 1 rfl rfl ?_
    | refine Loc.str L 1 rfl rfl ?_
    | refine Loc.ptr L 1 rfl rfl ?_
    | refine Loc.sl L 1 rfl rfl ?_
    | refine Loc.map L 1 rfl rfl ?_
    | refine Loc.ifmk L 1 rfl rfl ?_
    | refine Loc.ifnil L 1 rfl rfl ?_
    | refine Loc.ifv L 1 rfl rfl ?_
    | refine Loc.fnmk L 1 rfl rfl ?_
    | refine Loc.fnv L 1 rfl rfl ?_
    | (refine Loc.st L 1 rfl rfl (by first | rfl | exact isCell_IV _ | exact isCell_FV _) ?_; intro _H L)
    | refine Loc.int L 2 rfl rfl ?_
    | refine Loc.bool L 2 rfl rfl ?_
    | refine Loc.str L 2 rfl rfl ?_
    | refine Loc.ptr L 2 rfl rfl ?_
    | refine Loc.sl L 2 rfl rfl ?_
    | refine Loc.map L 2 rfl rfl ?_
    | refine Loc.ifmk L 2 rfl rfl ?_
    | refine Loc.ifnil L 2 rfl rfl ?_
    | refine Loc.ifv L 2 rfl rfl ?_
    | refine Loc.fnmk L 2 rfl rfl ?_
    | refine Loc.fnv L 2 rfl rfl ?_
    | (refine Loc.st L 2 rfl rfl (by first | rfl | exact isCell_IV _ | exact isCell_FV _) ?_; intro _H L)
    | refine Loc.int L 3 rfl rfl ?_
    | refine Loc.bool L 3 rfl rfl ?_
    | refine Loc.str L 3 rfl rfl ?_
    | refine Loc.ptr L 3 rfl rfl ?_
    | refine Loc.sl L 3 rfl rfl ?_
    | refine Loc.map L 3 rfl rfl ?_
    | refine Loc.ifmk L 3 rfl rfl ?_
    | refine Loc.ifnil L 3 rfl rfl ?_
    | refine Loc.ifv L 3 rfl rfl ?_
    | refine Loc.fnmk L 3 rfl rfl ?_
    | refine Loc.fnv L 3 rfl rfl ?_
    | (refine Loc.st L 3 rfl rfl (by first | rfl | exact isCell_IV _ | exact isCell_FV _) ?_; intro _H L)
    | refine tInt_i ?_
    | refine tBool_i ?_
    | refine tStr_i ?_
    | refine tPtr_i ?_
    | refine tSl_i ?_
    | refine tMap_i ?_
    | refine tIf_nil ?_
    | refine tIf_mk ?_
    | refine tIf_i ?_
    | refine tFn_mk ?_
    | refine tFn_i ?_
    | refine tAgg_i ?_
    | refine tTup_i ?_
    | refine tCons_i ?_
    | refine tNil_i ?_
    | refine andD_i (by assumption) ?_
    | refine nilD_i ?_)
  refine iteB_i (fun h2 => ?_) (fun h2 => ?_)
  · exact ⟨by simp at h h2; simp [gtB]; omega, L.ext⟩
  repeat (first
    | (refine Loc.new L ?_; intro _r _H L)
    | refine Loc.int L 0 rfl rfl ?_
    | refine Loc.bool L 0 rfl rfl ?_
    | refine Loc.str L 0 rfl rfl ?_
    | refine Loc.ptr L 0 rfl rfl ?_
    | refine Loc.sl L 0 rfl rfl ?_
    | refine Loc.map L 0 rfl rfl ?_
    | refine Loc.ifmk L 0 rfl rfl ?_
    | refine Loc.ifnil L 0 rfl rfl ?_
    | refine Loc.ifv L 0 rfl rfl ?_
    | refine Loc.fnmk L 0 rfl rfl ?_
    | refine Loc.fnv L 0 rfl rfl ?_
    | (refine Loc.st L 0 rfl rfl (by first | rfl | exact isCell_IV _ | exact isCell_FV _) ?_; intro _H L)
    | refine Loc.int L 1 rfl rfl ?_
    | refine Loc.bool L 1 rfl rfl ?_
    | refine Loc.str L 1 rfl rfl ?_
    | refine Loc.ptr L 1 rfl rfl ?_
    | refine Loc.sl L 1 rfl rfl ?_
    | refine Loc.map L 1 rfl rfl ?_
    | refine Loc.ifmk L 1 rfl rfl ?_
    | refine Loc.ifnil L 1 rfl rfl ?_
    | refine Loc.ifv L 1 rfl rfl ?_
    | refine Loc.fnmk L 1 rfl rfl ?_
    | refine Loc.fnv L 1 rfl rfl ?_
    | (refine Loc.st L 1 rfl rfl (by first | rfl | exact isCell_IV _ | exact isCell_FV _) ?_; intro _H L)
    | refine Loc.int L 2 rfl rfl ?_
    | refine Loc.bool L 2 rfl rfl ?_
    | refine Loc.str L 2 rfl rfl ?_
    | refine Loc.ptr L 2 rfl rfl ?_
    | refine Loc.sl L 2 rfl rfl ?_
    | refine Loc.map L 2 rfl rfl ?_
    | refine Loc.ifmk L 2 rfl rfl ?_
    | refine Loc.ifnil L 2 rfl rfl ?_
    | refine Loc.ifv L 2 rfl rfl ?_
    | refine Loc.fnmk L 2 rfl rfl ?_
    | refine Loc.fnv L 2 rfl rfl ?_
    | (refine Loc.st L 2 rfl rfl (by first | rfl | exact isCell_IV _ | exact isCell_FV _) ?_; intro _H L)
    | refine Loc.int L 3 rfl rfl ?_
    | refine Loc.bool L 3 rfl rfl ?_
    | refine Loc.str L 3 rfl rfl ?_
    | refine Loc.ptr L 3 rfl rfl ?_
    | refine Loc.sl L 3 rfl rfl ?_
    | refine Loc.map L 3 rfl rfl ?_
    | refine Loc.ifmk L 3 rfl rfl ?_
    | refine Loc.ifnil L 3 rfl rfl ?_
    | refine Loc.ifv L 3 rfl rfl ?_
    | refine Loc.fnmk L 3 rfl rfl ?_
    | refine Loc.fnv L 3 rfl rfl ?_
    | (refine Loc.st L 3 rfl rfl (by first | rfl | exact isCell_IV _ | exact isCell_FV _) ?_; intro _H L)
    | refine tInt_i ?_
    | refine tBool_i ?_
    | refine tStr_i ?_
    | refine tPtr_i ?_
    | refine tSl_i ?_
    | refine tMap_i ?_
    | refine tIf_nil ?_
    | refine tIf_mk ?_
    | refine tIf_i ?_
    | refine tFn_mk ?_
    | refine tFn_i ?_
    | refine tAgg_i ?_
    | refine tTup_i ?_
    | refine tCons_i ?_
    | refine tNil_i ?_
    | refine andD_i (by assumption) ?_
    | refine nilD_i ?_)
  refine ⟨?_, L.ext⟩
  simp at h h2
  have : a = c := by omega
  simp [gtB, this]
theorem greater_ok (a b c d : Int) (H : Heap) : CallsH Try.prog 16 ⟨[.agg ⟨[.int .i64 a, .int .i64 b]⟩, .agg ⟨[.int .i64 c, .int .i64 d]⟩]⟩ H (Gives (.bool (gtB a b c d)) H) := by
  refine F16.calls ?_
  unfold F16.go
  have L := Loc.start H
  repeat (first
    | (refine Loc.call L (revIn_ok _ _ _) ?_; intro _H E L)
    | (refine Loc.call L (greaterThan_ok _ _ _ _ _) ?_; intro _H E L)
    | (refine Loc.new L ?_; intro _r _H L)
    | refine Loc.int L 0 rfl rfl ?_
    | refine Loc.bool L 0 rfl rfl ?_
    | refine Loc.str L 0 rfl rfl ?_
    | refine Loc.ptr L 0 rfl rfl ?_
    | refine Loc.sl L 0 rfl rfl ?_
    | refine Loc.map L 0 rfl rfl ?_
    | refine Loc.ifmk L 0 rfl rfl ?_
    | refine Loc.ifnil L 0 rfl rfl ?_
    | refine Loc.ifv L 0 rfl rfl ?_
    | refine Loc.fnmk L 0 rfl rfl ?_
    | refine Loc.fnv L 0 rfl rfl ?_
    | (refine Loc.st L 0 rfl rfl (by first | rfl | exact isCell_IV _ | exact isCell_FV _) ?_; intro _H L)
    | refine Loc.int L 1 rfl rfl ?_
    | refine Loc.bool L 1 rfl rfl ?_
    | refine Loc.str L 1 rfl rfl ?_
    | refine Loc.ptr L 1 rfl rfl ?_
    | refine Loc.sl L 1 rfl rfl ?_
    | refine Loc.map L 1 rfl rfl ?_
    | refine Loc.ifmk L 1 rfl rfl ?_
    | refine Loc.ifnil L 1 rfl rfl ?_
    | refine Loc.ifv L 1 rfl rfl ?_
    | refine Loc.fnmk L 1 rfl rfl ?_
    | refine Loc.fnv L 1 rfl rfl ?_
    | (refine Loc.st L 1 rfl rfl (by first | rfl | exact isCell_IV _ | exact isCell_FV _) ?_; intro _H L)
    | refine Loc.int L 2 rfl rfl ?_
    | refine Loc.bool L 2 rfl rfl ?_
    | refine Loc.str L 2 rfl rfl ?_
    | refine Loc.ptr L 2 rfl rfl ?_
    | refine Loc.sl L 2 rfl rfl ?_
    | refine Loc.map L 2 rfl rfl ?_
    | refine Loc.ifmk L 2 rfl rfl ?_
    | refine Loc.ifnil L 2 rfl rfl ?_
    | refine Loc.ifv L 2 rfl rfl ?_
    | refine Loc.fnmk L 2 rfl rfl ?_
    | refine Loc.fnv L 2 rfl rfl ?_
    | (refine Loc.st L 2 rfl rfl (by first | rfl | exact isCell_IV _ | exact isCell_FV _) ?_; intro _H L)
    | refine Loc.int L 3 rfl rfl ?_
    | refine Loc.bool L 3 rfl rfl ?_
    | refine Loc.str L 3 rfl rfl ?_
    | refine Loc.ptr L 3 rfl rfl ?_
    | refine Loc.sl L 3 rfl rfl ?_
    | refine Loc.map L 3 rfl rfl ?_
    | refine Loc.ifmk L 3 rfl rfl ?_
    | refine Loc.ifnil L 3 rfl rfl ?_
    | refine Loc.ifv L 3 rfl rfl ?_
    | refine Loc.fnmk L 3 rfl rfl ?_
    | refine Loc.fnv L 3 rfl rfl ?_
    | (refine Loc.st L 3 rfl rfl (by first | rfl | exact isCell_IV _ | exact isCell_FV _) ?_; intro _H L)
    | refine tInt_i ?_
    | refine tBool_i ?_
    | refine tStr_i ?_
    | refine tPtr_i ?_
    | refine tSl_i ?_
    | refine tMap_i ?_
    | refine tIf_nil ?_
    | refine tIf_mk ?_
    | refine tIf_i ?_
    | refine tFn_mk ?_
    | refine tFn_i ?_
    | refine tAgg_i ?_
    | refine tTup_i ?_
    | refine tCons_i ?_
    | refine tNil_i ?_
    | refine andD_i (by assumption) ?_
    | refine nilD_i ?_)
  exact ⟨rfl, L.ext⟩
end Go.Proofs.Ytpankppliidaoaa
