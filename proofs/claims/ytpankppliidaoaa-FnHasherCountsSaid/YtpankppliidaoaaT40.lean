/- What functions of this seat do, each proved by a walk; no condition. -/
import Derived.Test.YtpankppliidaoaaT39
set_option linter.unusedVariables false
set_option linter.unusedSimpArgs false
namespace Go.Proofs.Ytpankppliidaoaa
open Go Go.Den Go.Proofs
/-- A key's bytes as numbers. -/
def encI (m s : Int) : List Int := (List.range 8).map (bexp (IntKind.wrap .u64 m)) ++ [95] ++ (List.range 8).map (bexp (IntKind.wrap .u64 s))
theorem u8v_encI (m s : Int) : u8v (encI m s) = encB m s := by simp [u8v, encI, encB, be, Function.comp_def]
def keyI (x : RowR) : List Int := encI x.rev.1 x.rev.2 ++ (if x.gone then [116] else [])
theorem keyI_len (x : RowR) : (keyI x).length = keyN x := by unfold keyI keyN encI; cases x.gone <;> simp
theorem bytesToRev_any (m s : Int) (hm0 : 0 ≤ m) (hm1 : m < 9223372036854775808) (hs0 : 0 ≤ s) (hs1 : s < 9223372036854775808) (r n : Nat) (hn : n = 17 ∨ n = 18) (last : Int) (H : Heap) (hH : H[r]? = some (.cells ⟨encB m s ++ [.int .u8 last]⟩ 5)) :
    CallsH Try.prog 37 ⟨[.slice (some ⟨r, 0, none⟩) n 18]⟩ H (Gives (.agg ⟨[.int .i64 m, .int .i64 s]⟩) H) := by
  refine F37.calls ?_
  unfold F37.go
  refine Loc.new (Loc.start H) ?_
  intro r0 H1 L
  have hb := L.ext.block_some hH
  refine Loc.call L (bytesToBk_ok m s hm0 hm1 hs0 hs1 r n 18 hn (by omega) [.int .u8 last] last H1 (fun k v hk hv => hcell_of hb hv) (fun h => rfl)) ?_
  intro H2 E L
  repeat (first
    | (refine Loc.new L ?_; intro _r _H L)
    | refine Loc.int L 0 rfl rfl ?_
    | refine Loc.bool L 0 rfl rfl ?_
    | refine Loc.str L 0 rfl rfl ?_
    | refine Loc.ptr L 0 rfl rfl ?_
    | refine Loc.sl L 0 rfl rfl ?_
    | refine Loc.map L 0 rfl rfl ?_
    | refine Loc.ifmk L 0 rfl rfl ?_
    | refine Loc.ifnil L 0 rfl rfl ?_
    | refine Loc.ifv L 0 rfl rfl ?_
    | refine Loc.fnmk L 0 rfl rfl ?_
    | refine Loc.fnv L 0 rfl rfl ?_
    | (refine Loc.st L 0 rfl rfl (by first | rfl | exact isCell_IV _ | exact isCell_FV _) ?_; intro _H L)
    | refine Loc.int L 1 rfl rfl ?_
    | refine Loc.bool L 1 rfl rfl ?_
    | refine Loc.str L 1 rfl rfl ?_
    | refine Loc.ptr L 1 rfl rfl ?_
    | refine Loc.sl L 1 rfl rfl ?_
    | refine Loc.map L 1 rfl rfl ?_
    | refine Loc.ifmk L 1 rfl rfl ?_
    | refine Loc.ifnil L 1 rfl rfl ?_
    | refine Loc.ifv L 1 rfl rfl ?_
    | refine Loc.fnmk L 1 rfl rfl ?_
    | refine Loc.fnv L 1 rfl rfl ?_
    | (refine Loc.st L 1 rfl rfl (by first | rfl | exact isCell_IV _ | exact isCell_FV _) ?_; intro _H L)
    | refine Loc.int L 2 rfl rfl ?_
    | refine Loc.bool L 2 rfl rfl ?_
    | refine Loc.str L 2 rfl rfl ?_
    | refine Loc.ptr L 2 rfl rfl ?_
    | refine Loc.sl L 2 rfl rfl ?_
    | refine Loc.map L 2 rfl rfl ?_
    | refine Loc.ifmk L 2 rfl rfl ?_
    | refine Loc.ifnil L 2 rfl rfl ?_
    | refine Loc.ifv L 2 rfl rfl ?_
    | refine Loc.fnmk L 2 rfl rfl ?_
    | refine Loc.fnv L 2 rfl rfl ?_
    | (refine Loc.st L 2 rfl rfl (by first | rfl | exact isCell_IV _ | exact isCell_FV _) ?_; intro _H L)
    | refine Loc.int L 3 rfl rfl ?_
    | refine Loc.bool L 3 rfl rfl ?_
    | refine Loc.str L 3 rfl rfl ?_
    | refine Loc.ptr L 3 rfl rfl ?_
    | refine Loc.sl L 3 rfl rfl ?_
    | refine Loc.map L 3 rfl rfl ?_
    | refine Loc.ifmk L 3 rfl rfl ?_
    | refine Loc.ifnil L 3 rfl rfl ?_
    | refine Loc.ifv L 3 rfl rfl ?_
    | refine Loc.fnmk L 3 rfl rfl ?_
    | refine Loc.fnv L 3 rfl rfl ?_
    | (refine Loc.st L 3 rfl rfl (by first | rfl | exact isCell_IV _ | exact isCell_FV _) ?_; intro _H L)
    | refine tInt_i ?_
    | refine tBool_i ?_
    | refine tStr_i ?_
    | refine tPtr_i ?_
    | refine tSl_i ?_
    | refine tMap_i ?_
    | refine tIf_nil ?_
    | refine tIf_mk ?_
    | refine tIf_i ?_
    | refine tFn_mk ?_
    | refine tFn_i ?_
    | refine tAgg_i ?_
    | refine tTup_i ?_
    | refine tCons_i ?_
    | refine tNil_i ?_
    | refine andD_i (by assumption) ?_
    | refine nilD_i ?_)
  exact ⟨rfl, L.ext⟩
end Go.Proofs.Ytpankppliidaoaa
