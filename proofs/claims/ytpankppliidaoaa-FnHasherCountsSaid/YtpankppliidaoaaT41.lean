/- What functions of this seat do, each proved by a walk; no condition. -/
import Derived.Test.YtpankppliidaoaaT40
set_option linter.unusedVariables false
set_option linter.unusedSimpArgs false
namespace Go.Proofs.Ytpankppliidaoaa
open Go Go.Den Go.Proofs
theorem eu2 : Try.prog.underlying 2 = some (.int .i64) := by kernel_rfl
theorem ea2 : aggT Try.prog 2 = false := by kernel_rfl
theorem pkT75 {a0 b0 : Int} {a1 b1 : Int} : pureV Try.prog (Op.equal 75 (.agg ⟨[.int .i64 a0, .int .i64 a1]⟩) (.agg ⟨[.int .i64 b0, .int .i64 b1]⟩)) = some ([a0 == b0, a1 == b1].all id) := by
  rw [eq_one]
  refine pureEq_struct (P := Try.prog) (fs := #[{ name := "Main", type := 2, offset := 0, embedded := false, tag := "", pkgPath := "", byteOffset := 0 }, { name := "Sub", type := 2, offset := 1, embedded := false, tag := "", pkgPath := "", byteOffset := 8 }])
    (bs := [a0 == b0, a1 == b1]) (by kernel_rfl) (by kernel_rfl) ?_
  refine .cons (by decide) (purePart_leaf eu2 ea2 rfl) (purePart_leaf eu2 ea2 rfl) (pureEq_int eu2) ?_
  refine .cons (by decide) (purePart_leaf eu2 ea2 rfl) (purePart_leaf eu2 ea2 rfl) (pureEq_int eu2) .nil
theorem und128 : Try.prog.underlying 128 = some (.map 75 129) := by kernel_rfl
def revV (r : RevR) : Value := .agg ⟨revCells r⟩
/-- A map of revisions: its keys, in the order in which they came. -/
def RevMap (H : Heap) (mb : Nat) (ks : List RevR) : Prop := ∃ (es : Array MapEntry) (clk : Nat), H[mb]? = some (.map es clk) ∧ es.toList.map (·.key) = ks.map revV ∧ ∀ e ∈ es.toList, e.val = .agg ⟨[]⟩
def eqR (r : RevR) (v : Value) : Bool := match v with | .agg ⟨[.int .i64 a, .int .i64 b]⟩ => r.1 == a && r.2 == b | _ => false
theorem eqR_rev (r x : RevR) : eqR r (revV x) = (r == x) := by
  obtain ⟨a, b⟩ := r
  obtain ⟨c, d⟩ := x
  rfl
theorem und75 : Try.prog.underlying 75 = some (.struct #[{ name := "Main", type := 2, offset := 0, embedded := false, tag := "", pkgPath := "", byteOffset := 0 }, { name := "Sub", type := 2, offset := 1, embedded := false, tag := "", pkgPath := "", byteOffset := 8 }]) := by kernel_rfl
theorem revKey (b : Bool) (r : RevR) : pureV Try.prog (Instr.checkKey b 10000 75 (.agg ⟨revCells r⟩)) = some () := by
  refine checkKey_struct und75 ?_
  refine .cons (by decide) (purePart_leaf eu2 ea2 rfl) (checkKey_int eu2) ?_
  exact .cons (by decide) (purePart_leaf eu2 ea2 rfl) (checkKey_int eu2) .nil
theorem zero129 : pureV Try.prog (zeroValue 129) = some (.agg ⟨[]⟩) := by kernel_rfl
theorem fnd_rev (r : RevR) : ∀ (es : List MapEntry) (ks : List RevR) (i : Nat), es.map (·.key) = ks.map revV → (∀ e ∈ es, e.val = .agg ⟨[]⟩) → (∃ j, fnd (eqR r) es i = some (j, .agg ⟨[]⟩) ∧ ks.contains r = true) ∨ (fnd (eqR r) es i = none ∧ ks.contains r = false) := by
  intro es
  induction es with
  | nil =>
    intro ks i h _
    have : ks = [] := by simpa using h.symm
    subst this
    exact .inr ⟨rfl, rfl⟩
  | cons e es ih =>
    intro ks i h hv
    cases ks with
    | nil => simp at h
    | cons x ks =>
      simp only [List.map_cons, List.cons.injEq] at h
      have he : eqR r e.key = (r == x) := by rw [h.1, eqR_rev]
      unfold fnd
      rw [he, List.contains_cons]
      cases hr : (r == x) with
      | true =>
        left
        exact ⟨i, by simp [hv e (List.mem_cons_self ..)], rfl⟩
      | false =>
        simp only [Bool.false_eq_true, if_false, Bool.false_or]
        exact ih ks (i + 1) h.2 (fun e he => hv e (List.mem_cons_of_mem _ he))
theorem findRev {es : List MapEntry} {ks : List RevR} (r : RevR) (h : es.map (·.key) = ks.map revV) : pureV Try.prog (Instr.findKey 75 (.agg ⟨revCells r⟩) es) = some (fnd (eqR r) es 0) := by
  refine findKey_struct und75 fun e he => ?_
  have : e.key ∈ es.map (·.key) := List.mem_map_of_mem he
  rw [h] at this
  obtain ⟨x, _, hx⟩ := List.mem_map.1 this
  rw [← hx, eqR_rev]
  refine (pkT75 (a0 := r.1) (b0 := x.1) (a1 := r.2) (b1 := x.2)).trans ?_
  obtain ⟨a, b⟩ := r
  obtain ⟨c, d⟩ := x
  show some ((a == c) && ((b == d) && true)) = some ((a == c) && (b == d))
  simp
theorem revLookup {H : Heap} {mb : Nat} {ks : List RevR} {es : Array MapEntry} {clk : Nat} (hm : H[mb]? = some (.map es clk)) (hk : es.toList.map (·.key) = ks.map revV) (hv : ∀ e ∈ es.toList, e.val = .agg ⟨[]⟩) (r : RevR) {Q : List PanicEntry → Heap → Prop} {K : Value → Heap → Prop} (k : K (.tuple ⟨[.agg ⟨[]⟩, .bool (ks.contains r)]⟩) H) :
    valD Try.prog (Instr.lookup 128 (.map (some mb)) (.agg ⟨revCells r⟩) true) H Q K := by
  refine lookupD und128 hm (revKey _ r) (findRev r hk) zero129 ?_
  rcases fnd_rev r es.toList ks 0 hk hv with ⟨j, h1, h2⟩ | ⟨h1, h2⟩
  · rw [h1]; rw [h2] at k; exact k
  · rw [h1]; rw [h2] at k; exact k
theorem revLen {H : Heap} {mb : Nat} {ks : List RevR} {es : Array MapEntry} {clk : Nat} (hm : H[mb]? = some (.map es clk)) (hk : es.toList.map (·.key) = ks.map revV) {Q : List PanicEntry → Heap → Prop} {K : Value → Heap → Prop} (k : K (.int .i64 ks.length) H) : valD Try.prog (Builtin.len_ #[128] 3 ⟨[.map (some mb)]⟩) H Q K := by
  refine mapLen (t := 128) rfl und128 hm ?_
  have : es.size = ks.length := by
    have := congrArg List.length hk
    simpa using this
  rw [this]; exact k
end Go.Proofs.Ytpankppliidaoaa
