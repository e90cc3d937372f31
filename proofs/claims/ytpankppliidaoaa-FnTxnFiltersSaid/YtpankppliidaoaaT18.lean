/- What functions of this seat do, each proved by a walk; no condition. -/
import Derived.Test.YtpankppliidaoaaT17
import Derived.Test.YtpankppliidaoaaT20
set_option linter.unusedVariables false
set_option linter.unusedSimpArgs false
namespace Go.Proofs.Ytpankppliidaoaa
open Go Go.Den Go.Proofs
theorem eu9 : Try.prog.underlying 9 = some .string := by kernel_rfl
theorem ea9 : aggT Try.prog 9 = false := by kernel_rfl
theorem eu2 : Try.prog.underlying 2 = some (.int .i64) := by kernel_rfl
theorem ea2 : aggT Try.prog 2 = false := by kernel_rfl
theorem eqT32 {op : BinOp} {a0 b0 : ByteArray} {a1 b1 : ByteArray} {a2 b2 : Int} {a3 b3 : Int} {a4 b4 : Int} {a5 b5 : Int} {k : Bool → Prop} (h : k ([a0 == b0, a1 == b1, a2 == b2, a3 == b3, a4 == b4, a5 == b5].all id)) : rawB Try.prog op 32 (.agg ⟨[.string a0, .string a1, .int .i64 a2, .int .i64 a3, .int .i64 a4, .int .i64 a5]⟩) (.agg ⟨[.string b0, .string b1, .int .i64 b2, .int .i64 b3, .int .i64 b4, .int .i64 b5]⟩) k := by
  refine rawB_struct (P := Try.prog) (fs := #[{ name := "Key", type := 9, offset := 0, embedded := false, tag := "", pkgPath := "", byteOffset := 0 }, { name := "Value", type := 9, offset := 1, embedded := false, tag := "", pkgPath := "", byteOffset := 16 }, { name := "Create", type := 2, offset := 2, embedded := false, tag := "", pkgPath := "", byteOffset := 32 }, { name := "Mod", type := 2, offset := 3, embedded := false, tag := "", pkgPath := "", byteOffset := 40 }, { name := "Version", type := 2, offset := 4, embedded := false, tag := "", pkgPath := "", byteOffset := 48 }, { name := "Lease", type := 2, offset := 5, embedded := false, tag := "", pkgPath := "", byteOffset := 56 }])
    (bs := [a0 == b0, a1 == b1, a2 == b2, a3 == b3, a4 == b4, a5 == b5]) (by kernel_rfl) (by kernel_rfl) (by kernel_rfl) ?_ h
  refine .cons (by decide) (part_leaf eu9 ea9 rfl) (part_leaf eu9 ea9 rfl) (equalIn_string eu9) ?_
  refine .cons (by decide) (part_leaf eu9 ea9 rfl) (part_leaf eu9 ea9 rfl) (equalIn_string eu9) ?_
  refine .cons (by decide) (part_leaf eu2 ea2 rfl) (part_leaf eu2 ea2 rfl) (equalIn_int eu2) ?_
  refine .cons (by decide) (part_leaf eu2 ea2 rfl) (part_leaf eu2 ea2 rfl) (equalIn_int eu2) ?_
  refine .cons (by decide) (part_leaf eu2 ea2 rfl) (part_leaf eu2 ea2 rfl) (equalIn_int eu2) ?_
  refine .cons (by decide) (part_leaf eu2 ea2 rfl) (part_leaf eu2 ea2 rfl) (equalIn_int eu2) .nil
theorem bytes_beq (s : ByteArray) : (s == s) = true := by
  cases s with | mk d =>
  show (d == d) = true
  simp
theorem txnKVs_loop (p q : Option Addr) (n c c' : Nat) (l : List KVr) (hn : n = l.length) (h1000 : n ≤ 1000) (H : Heap) (h1 : RowsAt KVr.cells 6 H p l) (h2 : RowsAt KVr.cells 6 H q l) :
    ∀ (d i : Nat), i + d = n → F12.L0 p n c q n c' (n : Int) (i : Int) H (fun e H1 => e = .returned (.bool true) ∧ H1 = H) := by
  intro d
  induction d with
  | zero =>
    intro i hi
    refine F12.L0_step ?_
    unfold F12.L0n
    exact iteB_i (fun h => by simp at h; omega) (fun _ => ⟨rfl, rfl⟩)
  | succ d ih =>
    intro i hi
    refine F12.L0_step ?_
    unfold F12.L0n
    refine iteB_i (fun _ => ?_) (fun h => by simp at h; omega)
    refine h1.idx hn (by omega) (by omega) ?_
    intro a x hx hc
    refine h2.idx hn (by omega) (by omega) ?_
    intro b y hy hc'
    rw [hx] at hy
    cases hy
    refine ⟨_, at_zero hc rfl, _, hc 1 _ rfl, _, hc 2 _ rfl, _, hc 3 _ rfl, _, hc 4 _ rfl, _, hc 5 _ rfl, ?_⟩
    refine ⟨_, at_zero hc' rfl, _, hc' 1 _ rfl, _, hc' 2 _ rfl, _, hc' 3 _ rfl, _, hc' 4 _ rfl, _, hc' 5 _ rfl, ?_⟩
    refine eqT32 ?_
    refine iteB_i (fun h => by simp [bytes_beq] at h) (fun _ => ?_)
    have e1 : IntKind.wrap .i64 ((i : Int) + (1 : Int)) = ((i + 1 : Nat) : Int) := by rw [wrap_i64 (by omega) (by omega)]; rfl
    rw [e1]
    exact ih (i + 1) (by omega)
theorem txnKVs_ok (p q : Option Addr) (n c c' : Nat) (l : List KVr) (hn : n = l.length) (h1000 : n ≤ 1000) (H : Heap) (h1 : RowsAt KVr.cells 6 H p l) (h2 : RowsAt KVr.cells 6 H q l) :
    CallsH Try.prog 12 ⟨[.slice p n c, .slice q n c']⟩ H (fun e H1 => e = .returned (.bool true) ∧ H1 = H) := by
  refine F12.calls ?_
  unfold F12.go
  refine iteB_i (fun h => by simp at h) (fun _ => ?_)
  exact txnKVs_loop p q n c c' l hn h1000 H h1 h2 n 0 (by omega)
/-! What fits. -/
theorem fits28 (x : KVr) (H : Heap) : CallsH Try.prog 28 ⟨[.agg ⟨x.cells⟩]⟩ H (Tells H) := by
  refine F28.calls ?_
  unfold F28.go
  have L := St.start H
  repeat (first
    | (refine St.new L ?_; intro _r _H L)
    | refine St.int L 0 rfl rfl ?_
    | refine St.bool L 0 rfl rfl ?_
    | refine St.str L 0 rfl rfl ?_
    | refine St.ptr L 0 rfl rfl ?_
    | refine St.sl L 0 rfl rfl ?_
    | refine St.map L 0 rfl rfl ?_
    | refine St.ifmk L 0 rfl rfl ?_
    | refine St.ifnil L 0 rfl rfl ?_
    | refine St.ifv L 0 rfl rfl ?_
    | refine St.fnmk L 0 rfl rfl ?_
    | refine St.fnv L 0 rfl rfl ?_
    | (refine St.st L 0 rfl rfl (by first | rfl | exact isCell_IV _ | exact isCell_FV _) ?_; intro _H L)
    | refine tInt_i ?_
    | refine tBool_i ?_
    | refine tStr_i ?_
    | refine tPtr_i ?_
    | refine tSl_i ?_
    | refine tMap_i ?_
    | refine tIf_nil ?_
    | refine tIf_mk ?_
    | refine tIf_i ?_
    | refine tFn_mk ?_
    | refine tFn_i ?_
    | refine tAgg_i ?_
    | refine tTup_i ?_
    | refine tCons_i ?_
    | refine tNil_i ?_
    | refine andD_i (by assumption) ?_
    | refine nilD_i ?_)
  refine iteB_i (fun _ => ⟨⟨_, rfl⟩, L.ext⟩) (fun _ => ?_)
  repeat (first
    | (refine St.new L ?_; intro _r _H L)
    | refine St.int L 0 rfl rfl ?_
    | refine St.bool L 0 rfl rfl ?_
    | refine St.str L 0 rfl rfl ?_
    | refine St.ptr L 0 rfl rfl ?_
    | refine St.sl L 0 rfl rfl ?_
    | refine St.map L 0 rfl rfl ?_
    | refine St.ifmk L 0 rfl rfl ?_
    | refine St.ifnil L 0 rfl rfl ?_
    | refine St.ifv L 0 rfl rfl ?_
    | refine St.fnmk L 0 rfl rfl ?_
    | refine St.fnv L 0 rfl rfl ?_
    | (refine St.st L 0 rfl rfl (by first | rfl | exact isCell_IV _ | exact isCell_FV _) ?_; intro _H L)
    | refine tInt_i ?_
    | refine tBool_i ?_
    | refine tStr_i ?_
    | refine tPtr_i ?_
    | refine tSl_i ?_
    | refine tMap_i ?_
    | refine tIf_nil ?_
    | refine tIf_mk ?_
    | refine tIf_i ?_
    | refine tFn_mk ?_
    | refine tFn_i ?_
    | refine tAgg_i ?_
    | refine tTup_i ?_
    | refine tCons_i ?_
    | refine tNil_i ?_
    | refine andD_i (by assumption) ?_
    | refine nilD_i ?_)
  exact iteB_i (fun _ => ⟨⟨_, rfl⟩, L.ext⟩) (fun _ => ⟨⟨_, rfl⟩, L.ext⟩)
theorem fits9_loop (p : Option Addr) (n c : Nat) (l : List KVr) (hn : n = l.length) (hm : n ≤ 2147483647) (H0 : Heap) (hR : RowsAt KVr.cells 6 H0 p l) :
    ∀ (d i : Nat) (H : Heap), i + d = n → ExtH H0 H → F9.L0 p n c (n : Int) (i : Int) H (Tells H0) := by
  intro d
  induction d with
  | zero =>
    intro i H hi E
    refine F9.L0_step ?_
    unfold F9.L0n
    exact iteB_i (fun h => by simp at h; omega) (fun _ => ⟨⟨_, rfl⟩, E⟩)
  | succ d ih =>
    intro i H hi E
    refine F9.L0_step ?_
    unfold F9.L0n
    refine iteB_i (fun _ => ?_) (fun h => by simp at h; omega)
    refine (hR.ext E).idx hn (by omega) (by omega) ?_
    intro a x hx hc
    refine ⟨_, at_zero hc rfl, _, hc 1 _ rfl, _, hc 2 _ rfl, _, hc 3 _ rfl, _, hc 4 _ rfl, _, hc 5 _ rfl, ?_⟩
    have L := St.start H
    repeat (first
    | (refine St.tells L (fits28 x _) ?_; intro _b _H _E L)
    | (refine St.new L ?_; intro _r _H L)
    | refine St.int L 0 rfl rfl ?_
    | refine St.bool L 0 rfl rfl ?_
    | refine St.str L 0 rfl rfl ?_
    | refine St.ptr L 0 rfl rfl ?_
    | refine St.sl L 0 rfl rfl ?_
    | refine St.map L 0 rfl rfl ?_
    | refine St.ifmk L 0 rfl rfl ?_
    | refine St.ifnil L 0 rfl rfl ?_
    | refine St.ifv L 0 rfl rfl ?_
    | refine St.fnmk L 0 rfl rfl ?_
    | refine St.fnv L 0 rfl rfl ?_
    | (refine St.st L 0 rfl rfl (by first | rfl | exact isCell_IV _ | exact isCell_FV _) ?_; intro _H L)
    | refine tInt_i ?_
    | refine tBool_i ?_
    | refine tStr_i ?_
    | refine tPtr_i ?_
    | refine tSl_i ?_
    | refine tMap_i ?_
    | refine tIf_nil ?_
    | refine tIf_mk ?_
    | refine tIf_i ?_
    | refine tFn_mk ?_
    | refine tFn_i ?_
    | refine tAgg_i ?_
    | refine tTup_i ?_
    | refine tCons_i ?_
    | refine tNil_i ?_
    | refine andD_i (by assumption) ?_
    | refine nilD_i ?_)
    refine iteB_i (fun _ => ⟨⟨_, rfl⟩, E.trans L.ext⟩) (fun _ => ?_)
    have e1 : IntKind.wrap .i64 ((i : Int) + (1 : Int)) = ((i + 1 : Nat) : Int) := by rw [wrap_i64 (by omega) (by omega)]; rfl
    rw [e1]
    exact ih (i + 1) _ (by omega) (E.trans L.ext)
theorem fits9 (p : Option Addr) (n c : Nat) (l : List KVr) (hn : n = l.length) (H0 : Heap) (hR : RowsAt KVr.cells 6 H0 p l) : CallsH Try.prog 9 ⟨[.slice p n c]⟩ H0 (Tells H0) := by
  refine F9.calls ?_
  unfold F9.go
  refine iteB_i (fun _ => ⟨⟨_, rfl⟩, ExtH.refl _⟩) (fun h => ?_)
  simp at h
  exact fits9_loop p n c l hn (by omega) H0 hR n 0 H0 (by omega) (ExtH.refl _)
structure CmpR where
  a0 : Int
  a1 : Int
  a2 : ByteArray
  a3 : ByteArray
  a4 : Int
  a5 : ByteArray
  a6 : Bool
def CmpR.cells (x : CmpR) : List Value := [.int .i64 x.a0, .int .i64 x.a1, .string x.a2, .string x.a3, .int .i64 x.a4, .string x.a5, .bool x.a6]
theorem fits54 (x : CmpR) (H : Heap) : CallsH Try.prog 54 ⟨[.agg ⟨x.cells⟩]⟩ H (Tells H) := by
  refine F54.calls ?_
  unfold F54.go
  have L := St.start H
  repeat (first
    | (refine St.new L ?_; intro _r _H L)
    | refine St.int L 0 rfl rfl ?_
    | refine St.bool L 0 rfl rfl ?_
    | refine St.str L 0 rfl rfl ?_
    | refine St.ptr L 0 rfl rfl ?_
    | refine St.sl L 0 rfl rfl ?_
    | refine St.map L 0 rfl rfl ?_
    | refine St.ifmk L 0 rfl rfl ?_
    | refine St.ifnil L 0 rfl rfl ?_
    | refine St.ifv L 0 rfl rfl ?_
    | refine St.fnmk L 0 rfl rfl ?_
    | refine St.fnv L 0 rfl rfl ?_
    | (refine St.st L 0 rfl rfl (by first | rfl | exact isCell_IV _ | exact isCell_FV _) ?_; intro _H L)
    | refine tInt_i ?_
    | refine tBool_i ?_
    | refine tStr_i ?_
    | refine tPtr_i ?_
    | refine tSl_i ?_
    | refine tMap_i ?_
    | refine tIf_nil ?_
    | refine tIf_mk ?_
    | refine tIf_i ?_
    | refine tFn_mk ?_
    | refine tFn_i ?_
    | refine tAgg_i ?_
    | refine tTup_i ?_
    | refine tCons_i ?_
    | refine tNil_i ?_
    | refine andD_i (by assumption) ?_
    | refine nilD_i ?_)
  refine iteB_i (fun _ => ⟨⟨_, rfl⟩, L.ext⟩) (fun _ => ?_)
  repeat (first
    | (refine St.new L ?_; intro _r _H L)
    | refine St.int L 0 rfl rfl ?_
    | refine St.bool L 0 rfl rfl ?_
    | refine St.str L 0 rfl rfl ?_
    | refine St.ptr L 0 rfl rfl ?_
    | refine St.sl L 0 rfl rfl ?_
    | refine St.map L 0 rfl rfl ?_
    | refine St.ifmk L 0 rfl rfl ?_
    | refine St.ifnil L 0 rfl rfl ?_
    | refine St.ifv L 0 rfl rfl ?_
    | refine St.fnmk L 0 rfl rfl ?_
    | refine St.fnv L 0 rfl rfl ?_
    | (refine St.st L 0 rfl rfl (by first | rfl | exact isCell_IV _ | exact isCell_FV _) ?_; intro _H L)
    | refine tInt_i ?_
    | refine tBool_i ?_
    | refine tStr_i ?_
    | refine tPtr_i ?_
    | refine tSl_i ?_
    | refine tMap_i ?_
    | refine tIf_nil ?_
    | refine tIf_mk ?_
    | refine tIf_i ?_
    | refine tFn_mk ?_
    | refine tFn_i ?_
    | refine tAgg_i ?_
    | refine tTup_i ?_
    | refine tCons_i ?_
    | refine tNil_i ?_
    | refine andD_i (by assumption) ?_
    | refine nilD_i ?_)
  refine iteB_i (fun _ => ⟨⟨_, rfl⟩, L.ext⟩) (fun _ => ?_)
  repeat (first
    | (refine St.new L ?_; intro _r _H L)
    | refine St.int L 0 rfl rfl ?_
    | refine St.bool L 0 rfl rfl ?_
    | refine St.str L 0 rfl rfl ?_
    | refine St.ptr L 0 rfl rfl ?_
    | refine St.sl L 0 rfl rfl ?_
    | refine St.map L 0 rfl rfl ?_
    | refine St.ifmk L 0 rfl rfl ?_
    | refine St.ifnil L 0 rfl rfl ?_
    | refine St.ifv L 0 rfl rfl ?_
    | refine St.fnmk L 0 rfl rfl ?_
    | refine St.fnv L 0 rfl rfl ?_
    | (refine St.st L 0 rfl rfl (by first | rfl | exact isCell_IV _ | exact isCell_FV _) ?_; intro _H L)
    | refine tInt_i ?_
    | refine tBool_i ?_
    | refine tStr_i ?_
    | refine tPtr_i ?_
    | refine tSl_i ?_
    | refine tMap_i ?_
    | refine tIf_nil ?_
    | refine tIf_mk ?_
    | refine tIf_i ?_
    | refine tFn_mk ?_
    | refine tFn_i ?_
    | refine tAgg_i ?_
    | refine tTup_i ?_
    | refine tCons_i ?_
    | refine tNil_i ?_
    | refine andD_i (by assumption) ?_
    | refine nilD_i ?_)
  exact iteB_i (fun _ => ⟨⟨_, rfl⟩, L.ext⟩) (fun _ => ⟨⟨_, rfl⟩, L.ext⟩)
theorem fits29_loop (p : Option Addr) (n c : Nat) (l : List CmpR) (hn : n = l.length) (hm : n ≤ 2147483647) (H0 : Heap) (hR : RowsAt CmpR.cells 7 H0 p l) :
    ∀ (d i : Nat) (H : Heap), i + d = n → ExtH H0 H → F29.L0 p n c (n : Int) (i : Int) H (Tells H0) := by
  intro d
  induction d with
  | zero =>
    intro i H hi E
    refine F29.L0_step ?_
    unfold F29.L0n
    exact iteB_i (fun h => by simp at h; omega) (fun _ => ⟨⟨_, rfl⟩, E⟩)
  | succ d ih =>
    intro i H hi E
    refine F29.L0_step ?_
    unfold F29.L0n
    refine iteB_i (fun _ => ?_) (fun h => by simp at h; omega)
    refine (hR.ext E).idx hn (by omega) (by omega) ?_
    intro a x hx hc
    refine ⟨_, at_zero hc rfl, _, hc 1 _ rfl, _, hc 2 _ rfl, _, hc 3 _ rfl, _, hc 4 _ rfl, _, hc 5 _ rfl, _, hc 6 _ rfl, ?_⟩
    have L := St.start H
    repeat (first
    | (refine St.tells L (fits54 x _) ?_; intro _b _H _E L)
    | (refine St.new L ?_; intro _r _H L)
    | refine St.int L 0 rfl rfl ?_
    | refine St.bool L 0 rfl rfl ?_
    | refine St.str L 0 rfl rfl ?_
    | refine St.ptr L 0 rfl rfl ?_
    | refine St.sl L 0 rfl rfl ?_
    | refine St.map L 0 rfl rfl ?_
    | refine St.ifmk L 0 rfl rfl ?_
    | refine St.ifnil L 0 rfl rfl ?_
    | refine St.ifv L 0 rfl rfl ?_
    | refine St.fnmk L 0 rfl rfl ?_
    | refine St.fnv L 0 rfl rfl ?_
    | (refine St.st L 0 rfl rfl (by first | rfl | exact isCell_IV _ | exact isCell_FV _) ?_; intro _H L)
    | refine tInt_i ?_
    | refine tBool_i ?_
    | refine tStr_i ?_
    | refine tPtr_i ?_
    | refine tSl_i ?_
    | refine tMap_i ?_
    | refine tIf_nil ?_
    | refine tIf_mk ?_
    | refine tIf_i ?_
    | refine tFn_mk ?_
    | refine tFn_i ?_
    | refine tAgg_i ?_
    | refine tTup_i ?_
    | refine tCons_i ?_
    | refine tNil_i ?_
    | refine andD_i (by assumption) ?_
    | refine nilD_i ?_)
    refine iteB_i (fun _ => ⟨⟨_, rfl⟩, E.trans L.ext⟩) (fun _ => ?_)
    have e1 : IntKind.wrap .i64 ((i : Int) + (1 : Int)) = ((i + 1 : Nat) : Int) := by rw [wrap_i64 (by omega) (by omega)]; rfl
    rw [e1]
    exact ih (i + 1) _ (by omega) (E.trans L.ext)
theorem fits29 (p : Option Addr) (n c : Nat) (l : List CmpR) (hn : n = l.length) (H0 : Heap) (hR : RowsAt CmpR.cells 7 H0 p l) : CallsH Try.prog 29 ⟨[.slice p n c]⟩ H0 (Tells H0) := by
  refine F29.calls ?_
  unfold F29.go
  refine iteB_i (fun _ => ⟨⟨_, rfl⟩, ExtH.refl _⟩) (fun h => ?_)
  simp at h
  exact fits29_loop p n c l hn (by omega) H0 hR n 0 H0 (by omega) (ExtH.refl _)
theorem fits10 (r0 : Int) (r1 r2 r3 : ByteArray) (r4 r5 r6 r7 r8 mm xm mc xc : Int) (b13 b14 b15 b16 b17 : Bool) (p18 : Option Addr) (n18 c18 : Nat) (p19 : Option Addr) (n19 c19 : Nat) (p20 : Option Addr) (n20 c20 : Nat) (l : List CmpR) (hn : n18 = l.length) (H : Heap) (hR : RowsAt CmpR.cells 7 H p18 l) :
    CallsH Try.prog 10 ⟨[.agg ⟨[.int .i64 r0, .string r1, .string r2, .string r3, .int .i64 r4, .int .i64 r5, .int .i64 r6, .int .i64 r7, .int .i64 r8, .int .i64 mm, .int .i64 xm, .int .i64 mc, .int .i64 xc, .bool b13, .bool b14, .bool b15, .bool b16, .bool b17, .slice p18 n18 c18, .slice p19 n19 c19, .slice p20 n20 c20]⟩]⟩ H (Tells H) := by
  refine F10.calls ?_
  unfold F10.go
  have L := St.start H
  repeat (first
    | (refine St.new L ?_; intro _r _H L)
    | refine St.int L 0 rfl rfl ?_
    | refine St.bool L 0 rfl rfl ?_
    | refine St.str L 0 rfl rfl ?_
    | refine St.ptr L 0 rfl rfl ?_
    | refine St.sl L 0 rfl rfl ?_
    | refine St.map L 0 rfl rfl ?_
    | refine St.ifmk L 0 rfl rfl ?_
    | refine St.ifnil L 0 rfl rfl ?_
    | refine St.ifv L 0 rfl rfl ?_
    | refine St.fnmk L 0 rfl rfl ?_
    | refine St.fnv L 0 rfl rfl ?_
    | (refine St.st L 0 rfl rfl (by first | rfl | exact isCell_IV _ | exact isCell_FV _) ?_; intro _H L)
    | refine tInt_i ?_
    | refine tBool_i ?_
    | refine tStr_i ?_
    | refine tPtr_i ?_
    | refine tSl_i ?_
    | refine tMap_i ?_
    | refine tIf_nil ?_
    | refine tIf_mk ?_
    | refine tIf_i ?_
    | refine tFn_mk ?_
    | refine tFn_i ?_
    | refine tAgg_i ?_
    | refine tTup_i ?_
    | refine tCons_i ?_
    | refine tNil_i ?_
    | refine andD_i (by assumption) ?_
    | refine nilD_i ?_)
  refine iteB_i (fun _ => ⟨⟨_, rfl⟩, L.ext⟩) (fun _ => ?_)
  repeat (first
    | (refine St.new L ?_; intro _r _H L)
    | refine St.int L 0 rfl rfl ?_
    | refine St.bool L 0 rfl rfl ?_
    | refine St.str L 0 rfl rfl ?_
    | refine St.ptr L 0 rfl rfl ?_
    | refine St.sl L 0 rfl rfl ?_
    | refine St.map L 0 rfl rfl ?_
    | refine St.ifmk L 0 rfl rfl ?_
    | refine St.ifnil L 0 rfl rfl ?_
    | refine St.ifv L 0 rfl rfl ?_
    | refine St.fnmk L 0 rfl rfl ?_
    | refine St.fnv L 0 rfl rfl ?_
    | (refine St.st L 0 rfl rfl (by first | rfl | exact isCell_IV _ | exact isCell_FV _) ?_; intro _H L)
    | refine tInt_i ?_
    | refine tBool_i ?_
    | refine tStr_i ?_
    | refine tPtr_i ?_
    | refine tSl_i ?_
    | refine tMap_i ?_
    | refine tIf_nil ?_
    | refine tIf_mk ?_
    | refine tIf_i ?_
    | refine tFn_mk ?_
    | refine tFn_i ?_
    | refine tAgg_i ?_
    | refine tTup_i ?_
    | refine tCons_i ?_
    | refine tNil_i ?_
    | refine andD_i (by assumption) ?_
    | refine nilD_i ?_)
  refine iteB_i (fun _ => ⟨⟨_, rfl⟩, L.ext⟩) (fun _ => ?_)
  repeat (first
    | (refine St.new L ?_; intro _r _H L)
    | refine St.int L 0 rfl rfl ?_
    | refine St.bool L 0 rfl rfl ?_
    | refine St.str L 0 rfl rfl ?_
    | refine St.ptr L 0 rfl rfl ?_
    | refine St.sl L 0 rfl rfl ?_
    | refine St.map L 0 rfl rfl ?_
    | refine St.ifmk L 0 rfl rfl ?_
    | refine St.ifnil L 0 rfl rfl ?_
    | refine St.ifv L 0 rfl rfl ?_
    | refine St.fnmk L 0 rfl rfl ?_
    | refine St.fnv L 0 rfl rfl ?_
    | (refine St.st L 0 rfl rfl (by first | rfl | exact isCell_IV _ | exact isCell_FV _) ?_; intro _H L)
    | refine tInt_i ?_
    | refine tBool_i ?_
    | refine tStr_i ?_
    | refine tPtr_i ?_
    | refine tSl_i ?_
    | refine tMap_i ?_
    | refine tIf_nil ?_
    | refine tIf_mk ?_
    | refine tIf_i ?_
    | refine tFn_mk ?_
    | refine tFn_i ?_
    | refine tAgg_i ?_
    | refine tTup_i ?_
    | refine tCons_i ?_
    | refine tNil_i ?_
    | refine andD_i (by assumption) ?_
    | refine nilD_i ?_)
  refine iteB_i (fun _ => ⟨⟨_, rfl⟩, L.ext⟩) (fun _ => ?_)
  repeat (first
    | (refine St.new L ?_; intro _r _H L)
    | refine St.int L 0 rfl rfl ?_
    | refine St.bool L 0 rfl rfl ?_
    | refine St.str L 0 rfl rfl ?_
    | refine St.ptr L 0 rfl rfl ?_
    | refine St.sl L 0 rfl rfl ?_
    | refine St.map L 0 rfl rfl ?_
    | refine St.ifmk L 0 rfl rfl ?_
    | refine St.ifnil L 0 rfl rfl ?_
    | refine St.ifv L 0 rfl rfl ?_
    | refine St.fnmk L 0 rfl rfl ?_
    | refine St.fnv L 0 rfl rfl ?_
    | (refine St.st L 0 rfl rfl (by first | rfl | exact isCell_IV _ | exact isCell_FV _) ?_; intro _H L)
    | refine tInt_i ?_
    | refine tBool_i ?_
    | refine tStr_i ?_
    | refine tPtr_i ?_
    | refine tSl_i ?_
    | refine tMap_i ?_
    | refine tIf_nil ?_
    | refine tIf_mk ?_
    | refine tIf_i ?_
    | refine tFn_mk ?_
    | refine tFn_i ?_
    | refine tAgg_i ?_
    | refine tTup_i ?_
    | refine tCons_i ?_
    | refine tNil_i ?_
    | refine andD_i (by assumption) ?_
    | refine nilD_i ?_)
  refine St.tells L (fits29 p18 n18 c18 l hn _ (hR.ext L.ext)) ?_
  intro b H1 E1 L
  repeat (first
    | (refine St.new L ?_; intro _r _H L)
    | refine St.int L 0 rfl rfl ?_
    | refine St.bool L 0 rfl rfl ?_
    | refine St.str L 0 rfl rfl ?_
    | refine St.ptr L 0 rfl rfl ?_
    | refine St.sl L 0 rfl rfl ?_
    | refine St.map L 0 rfl rfl ?_
    | refine St.ifmk L 0 rfl rfl ?_
    | refine St.ifnil L 0 rfl rfl ?_
    | refine St.ifv L 0 rfl rfl ?_
    | refine St.fnmk L 0 rfl rfl ?_
    | refine St.fnv L 0 rfl rfl ?_
    | (refine St.st L 0 rfl rfl (by first | rfl | exact isCell_IV _ | exact isCell_FV _) ?_; intro _H L)
    | refine tInt_i ?_
    | refine tBool_i ?_
    | refine tStr_i ?_
    | refine tPtr_i ?_
    | refine tSl_i ?_
    | refine tMap_i ?_
    | refine tIf_nil ?_
    | refine tIf_mk ?_
    | refine tIf_i ?_
    | refine tFn_mk ?_
    | refine tFn_i ?_
    | refine tAgg_i ?_
    | refine tTup_i ?_
    | refine tCons_i ?_
    | refine tNil_i ?_
    | refine andD_i (by assumption) ?_
    | refine nilD_i ?_)
  refine iteB_i (fun _ => ⟨⟨_, rfl⟩, L.ext⟩) (fun _ => ?_)
  repeat (first
    | (refine St.new L ?_; intro _r _H L)
    | refine St.int L 0 rfl rfl ?_
    | refine St.bool L 0 rfl rfl ?_
    | refine St.str L 0 rfl rfl ?_
    | refine St.ptr L 0 rfl rfl ?_
    | refine St.sl L 0 rfl rfl ?_
    | refine St.map L 0 rfl rfl ?_
    | refine St.ifmk L 0 rfl rfl ?_
    | refine St.ifnil L 0 rfl rfl ?_
    | refine St.ifv L 0 rfl rfl ?_
    | refine St.fnmk L 0 rfl rfl ?_
    | refine St.fnv L 0 rfl rfl ?_
    | (refine St.st L 0 rfl rfl (by first | rfl | exact isCell_IV _ | exact isCell_FV _) ?_; intro _H L)
    | refine tInt_i ?_
    | refine tBool_i ?_
    | refine tStr_i ?_
    | refine tPtr_i ?_
    | refine tSl_i ?_
    | refine tMap_i ?_
    | refine tIf_nil ?_
    | refine tIf_mk ?_
    | refine tIf_i ?_
    | refine tFn_mk ?_
    | refine tFn_i ?_
    | refine tAgg_i ?_
    | refine tTup_i ?_
    | refine tCons_i ?_
    | refine tNil_i ?_
    | refine andD_i (by assumption) ?_
    | refine nilD_i ?_)
  refine iteB_i (fun _ => ⟨⟨_, rfl⟩, L.ext⟩) (fun _ => ?_)
  repeat (first
    | (refine St.new L ?_; intro _r _H L)
    | refine St.int L 0 rfl rfl ?_
    | refine St.bool L 0 rfl rfl ?_
    | refine St.str L 0 rfl rfl ?_
    | refine St.ptr L 0 rfl rfl ?_
    | refine St.sl L 0 rfl rfl ?_
    | refine St.map L 0 rfl rfl ?_
    | refine St.ifmk L 0 rfl rfl ?_
    | refine St.ifnil L 0 rfl rfl ?_
    | refine St.ifv L 0 rfl rfl ?_
    | refine St.fnmk L 0 rfl rfl ?_
    | refine St.fnv L 0 rfl rfl ?_
    | (refine St.st L 0 rfl rfl (by first | rfl | exact isCell_IV _ | exact isCell_FV _) ?_; intro _H L)
    | refine tInt_i ?_
    | refine tBool_i ?_
    | refine tStr_i ?_
    | refine tPtr_i ?_
    | refine tSl_i ?_
    | refine tMap_i ?_
    | refine tIf_nil ?_
    | refine tIf_mk ?_
    | refine tIf_i ?_
    | refine tFn_mk ?_
    | refine tFn_i ?_
    | refine tAgg_i ?_
    | refine tTup_i ?_
    | refine tCons_i ?_
    | refine tNil_i ?_
    | refine andD_i (by assumption) ?_
    | refine nilD_i ?_)
  exact iteB_i (fun _ => ⟨⟨_, rfl⟩, L.ext⟩) (fun _ => ⟨⟨_, rfl⟩, L.ext⟩)
end Go.Proofs.Ytpankppliidaoaa
