/- What functions of this seat do, each proved by a walk; no condition. -/
import Derived.Test.YtobolifgehagfaaGreatRE
import Derived.Test.YtobolifgehagfaaGreatDenY
set_option linter.unusedVariables false
set_option linter.unusedSimpArgs false
set_option linter.unnecessarySimpa false
namespace Go.Proofs.YtobolifgehagfaaGreat
open Go Go.Den Go.Proofs
/-! Events held against each other. -/
theorem eu9 : Tryz.prog.underlying 9 = some .string := by kernel_rfl
theorem ea9 : aggT Tryz.prog 9 = false := by kernel_rfl
theorem eu2 : Tryz.prog.underlying 2 = some (.int .i64) := by kernel_rfl
theorem ea2 : aggT Tryz.prog 2 = false := by kernel_rfl
theorem eu4 : Tryz.prog.underlying 4 = some .bool := by kernel_rfl
theorem ea4 : aggT Tryz.prog 4 = false := by kernel_rfl
def fs34 : Array Field := #[{ name := "Key", type := 9, offset := 0, embedded := false, tag := "", pkgPath := "", byteOffset := 0 }, { name := "Value", type := 9, offset := 1, embedded := false, tag := "", pkgPath := "", byteOffset := 16 }, { name := "Create", type := 2, offset := 2, embedded := false, tag := "", pkgPath := "", byteOffset := 32 }, { name := "Mod", type := 2, offset := 3, embedded := false, tag := "", pkgPath := "", byteOffset := 40 }, { name := "Version", type := 2, offset := 4, embedded := false, tag := "", pkgPath := "", byteOffset := 48 }, { name := "Lease", type := 2, offset := 5, embedded := false, tag := "", pkgPath := "", byteOffset := 56 }]
def fs36 : Array Field := #[{ name := "Gone", type := 4, offset := 0, embedded := false, tag := "", pkgPath := "", byteOffset := 0 }, { name := "KV", type := 34, offset := 1, embedded := false, tag := "", pkgPath := "", byteOffset := 8 }]
theorem eu34 : Tryz.prog.underlying 34 = some (.struct fs34) := by kernel_rfl
theorem eqIn34 {a0 b0 : ByteArray} {a1 b1 : ByteArray} {a2 b2 : Int} {a3 b3 : Int} {a4 b4 : Int} {a5 b5 : Int} (w : World) : (Op.equalIn 9999 34 (.agg ⟨[.string a0, .string a1, .int .i64 a2, .int .i64 a3, .int .i64 a4, .int .i64 a5]⟩) (.agg ⟨[.string b0, .string b1, .int .i64 b2, .int .i64 b3, .int .i64 b4, .int .i64 b5]⟩)).run Tryz.prog w = .ok ([a0 == b0, a1 == b1, a2 == b2, a3 == b3, a4 == b4, a5 == b5].all id) w := by
  refine equalIn_struct (fs := fs34) (d := 9998) eu34 (by kernel_rfl) ?_ w
  refine .cons (by decide) (part_leaf eu9 ea9 rfl) (part_leaf eu9 ea9 rfl) (equalIn_string eu9) ?_
  refine .cons (by decide) (part_leaf eu9 ea9 rfl) (part_leaf eu9 ea9 rfl) (equalIn_string eu9) ?_
  refine .cons (by decide) (part_leaf eu2 ea2 rfl) (part_leaf eu2 ea2 rfl) (equalIn_int eu2) ?_
  refine .cons (by decide) (part_leaf eu2 ea2 rfl) (part_leaf eu2 ea2 rfl) (equalIn_int eu2) ?_
  refine .cons (by decide) (part_leaf eu2 ea2 rfl) (part_leaf eu2 ea2 rfl) (equalIn_int eu2) ?_
  refine .cons (by decide) (part_leaf eu2 ea2 rfl) (part_leaf eu2 ea2 rfl) (equalIn_int eu2) .nil
theorem i34 : Tryz.prog.info? 34 = some Tryz.t34 := by kernel_rfl
theorem s34 : Tryz.t34.size = 6 := by kernel_rfl
theorem part34 (x : EV) (w : World) : (part 34 (⟨x.cells⟩ : Array Value) 1).run Tryz.prog w = .ok (.agg ⟨[.string x.key, .string x.val, .int .i64 x.c, .int .i64 x.m, .int .i64 x.v, .int .i64 x.l]⟩) w := by
  rw [part_agg eu34 i34 (by kernel_rfl), s34]
  rfl
theorem eqEv {op : BinOp} {x y : EV} {k : Bool → Prop} (h : k ([x.gone == y.gone, [x.key == y.key, x.val == y.val, x.c == y.c, x.m == y.m, x.v == y.v, x.l == y.l].all id].all id)) : rawB Tryz.prog op 36 (.agg ⟨x.cells⟩) (.agg ⟨y.cells⟩) k := by
  refine rawB_struct (P := Tryz.prog) (fs := fs36) (bs := [x.gone == y.gone, [x.key == y.key, x.val == y.val, x.c == y.c, x.m == y.m, x.v == y.v, x.l == y.l].all id]) (by kernel_rfl) (by kernel_rfl) (by kernel_rfl) ?_ h
  refine .cons (by decide) (part_leaf eu4 ea4 rfl) (part_leaf eu4 ea4 rfl) (equalIn_bool eu4) ?_
  refine .cons (by decide) (part34 x) (part34 y) (fun w => eqIn34 w) .nil
end Go.Proofs.YtobolifgehagfaaGreat
