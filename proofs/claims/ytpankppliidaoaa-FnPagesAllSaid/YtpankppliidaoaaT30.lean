/- What functions of this seat do, each proved by a walk; no condition. -/
import Derived.Test.YtpankppliidaoaaDenE
import Derived.Test.YtpankppliidaoaaT29
import Derived.Test.YtpankppliidaoaaRows
import Derived.WalkKit
import Derived.ProofKit
import Derived.OpenShut
import Derived.ShutString
import Derived.ChangeOld
import Derived.Below
set_option linter.unusedVariables false
namespace Go.Proofs.Ytpankppliidaoaa
open Go Go.Den Go.Proofs
open Go.ChangeShapes Go.WideShapes Go.ChangeAt Go.RowKit
open Go.ChangeMaps (open_string shut_string)
theorem own30 : ownKnob Try.prog.godebug = none := by kernel_rfl
theorem laid30 : laidOutB Try.prog = true := by kernel_rfl
section
variable {H : Heap} {f : Nat} {cs : List Value}
theorem und9 : Try.prog.underlying 9 = some .string := by kernel_rfl
theorem und4 : Try.prog.underlying 4 = some .bool := by kernel_rfl
theorem rdT52 (h : Rd Try.prog H f 52 cs) : ∃ (a0 : ByteArray) (a1 : Bool), cs = [.string a0, .bool a1] ∧ (a0.size ≤ maxLen) ∧ (True) := by
  obtain ⟨g, hl, hp⟩ := rd_struct h (k := 2) (fs := [(9, 0), (4, 1)]) (by kernel_rfl) (by kernel_rfl) (by kernel_rfl)
  obtain ⟨v0, r0, rfl, w0⟩ := cons_of hl
  obtain ⟨v1, r1, rfl, w1⟩ := cons_of w0
  obtain rfl := List.eq_nil_of_length_eq_zero w1
  obtain ⟨h0, h1, _⟩ := hp
  have z4 : Try.prog.cellsOf 4 = 1 := by kernel_rfl
  have z9 : Try.prog.cellsOf 9 = 1 := by kernel_rfl
  simp only [z4, z9, List.drop_zero, List.drop_succ_cons, List.take_succ_cons, List.take_zero] at h0 h1
  obtain ⟨b0, e0, l0⟩ := rd_str h0 und9
  cases e0
  obtain ⟨b1, e1⟩ := rd_bool h1 und4
  cases e1
  exact ⟨b0, b1, rfl, l0, trivial⟩
end
theorem law7 (s0 s1 s2 : Int) (p : Option Addr) (n c : Nat) (ops : List PgOp) (hn : n = ops.length) (H : Heap) (hR : RowsAt PgOp.cells 2 H p ops) :
    CallsH Try.prog 7 ⟨[.int .i64 s0, .int .i64 s1, .int .i64 s2, .slice p n c]⟩ H (Gives (.bool true) H) := by
  refine F7.calls ?_
  unfold F7.go
  refine callD_i (fits19 p n c ops hn H hR) ?_
  rintro e H1 ⟨⟨b, rfl, hb⟩, E1⟩
  refine tBool_i ?_
  refine iteB_i (fun _ => ⟨rfl, E1⟩) (fun hbt => ?_)
  have hfit := hb (by simpa using hbt)
  refine callD_i (good_ok s0 s1 s2 p n c ops hn hfit H1 (hR.ext E1)) ?_
  rintro e H2 ⟨⟨b2, rfl, hb2⟩, E2⟩
  refine tBool_i ?_
  refine iteB_i (fun _ => ?_) (fun hbt2 => ?_)
  · refine St.call ((St.start H).extend (E1.trans E2)) (pgLive_ok H2) ?_
    intro H3 E3 L
    exact tBool_i ⟨rfl, L.ext⟩
  obtain ⟨q1, q2, q3, q4, q5, q6, q7, q8⟩ := hb2 (by simpa using hbt2)
  have L := (St.start H).extend (E1.trans E2)
  refine St.new L ?_
  intro r H4 L
  have g0 : Grow H Nn H4 [] 52 2 (some ⟨r, 0, none⟩) 0 0 [] := .mk (vs := []) (sp := []) L rfl rfl (Nat.le_refl _)
  have hlen : (ops.flatMap PgOp.cells).length = n * 2 := by rw [flat_length (f := PgOp.cells) (z := 2) (fun x => rfl) ops, hn]
  have hcellO : ∀ (l : List PgOp), ∀ v ∈ l.flatMap PgOp.cells, isCell v = true := by
    intro l v hv
    obtain ⟨o, _, ho⟩ := List.mem_flatMap.1 hv
    simp [PgOp.cells] at ho
    rcases ho with rfl | rfl <;> rfl
  refine ⟨ops.flatMap PgOp.cells, hlen, rows_cells (fun x => rfl) (hR.ext L.ext), ?_⟩
  refine app_any g0 rfl (by decide) (by omega) hlen (hcellO ops) ?_
  intro q qc H5 g5
  refine g5.new ?_
  intro r1 H6 hr1 E6 g6
  have hb1 := (g6.st.own 0 _ _ rfl).2
  refine ⟨[.string (ByteArray.mk #[]), .bool true], rfl, fun j v hj => ⟨_, rfl, ?_⟩, ?_⟩
  · rw [add_mk, Nat.zero_add]; exact hcell_of hb1 hj
  refine app_any g6 rfl (by decide) (by omega) rfl (by intro v hv; simp at hv; rcases hv with rfl | rfl <;> rfl) ?_
  intro qq qc1 H7 g7
  have hops : ([] ++ ops.flatMap PgOp.cells ++ [.string (ByteArray.mk #[]), .bool true] : List Value) = (ops ++ [(⟨[], true⟩ : PgOp)]).flatMap PgOp.cells := by simp [PgOp.cells]
  rw [hops] at g7
  obtain ⟨hR7, hl7⟩ := g7.rows (fun x => rfl) (by decide)
  have E7 := g7.st.ext
  obtain ⟨P, hP⟩ := Int.eq_ofNat_of_zero_le (show 0 ≤ s1 by omega)
  obtain ⟨B, hB⟩ := Int.eq_ofNat_of_zero_le (show 0 ≤ s0 by omega)
  have hP' : s1 = (P : Int) := hP
  have hB' : s0 = (B : Int) := hB
  subst hP'; subst hB'
  have n0 : 0 + n + 1 = n + 1 := by omega
  rw [n0] at hl7 ⊢
  refine callD_i (pages_ok P B s2 (by omega) (by omega) (by omega) (by omega) (by omega) (by omega) qq (n + 1) qc1 (ops ++ [⟨[], true⟩]) hl7.symm (by omega) (by
    intro o ho
    rcases List.mem_append.1 ho with ho | ho
    · have := sum_mem ho; omega
    · simp at ho; subst ho; decide) H7 hR7) ?_
  rintro e H8 ⟨out, oc, al, bs, rfl, E8, hA, hw, st⟩
  refine tSl_i ?_
  rw [hl7]
  have e1 : IntKind.wrap .i64 (((n : Nat) : Int) + (1 : Int)) = ((n + 1 : Nat) : Int) := by rw [wrap64_small (by omega) (by omega)]; rfl
  rw [e1]
  refine iteB_i (fun h => by simp at h) (fun _ => ?_)
  have hal := steps_len st
  rw [hl7] at hal
  have hsum := steps_sum st
  have hbs := steps_last st rfl
  subst hbs
  have ht : texts (ops ++ [(⟨[], true⟩ : PgOp)]) = texts ops := by unfold texts; simp
  rw [List.append_nil, ht] at hsum
  have hat : ∀ (i : Nat) (y : Ans × List By), al[i]? = some y → y.1.n = y.2.length := by
    intro i y hy
    have hi : i < (ops ++ [(⟨[], true⟩ : PgOp)]).length := by
      rw [hl7, ← hal]
      rcases Nat.lt_or_ge i al.length with h | h
      · exact h
      · rw [List.getElem?_eq_none h] at hy; cases hy
    exact (steps_at st i _ y (List.getElem?_eq_getElem hi) hy).1
  have hcnt : ∀ y ∈ al, y.2.length < 1000000 := fun y hy => by have := steps_cnt st y hy; omega
  have := outer7 (s3 := p) (n := n) (c := c) (out := out) (oc := oc) (ops := ops) (al := al) (H8 := H8) hn q7 hal (hR.ext (E7.trans E8)) hA hw hat (by
    intro i o y ho hy hf
    refine (steps_at st i o y ?_ hy).2 hf
    rw [List.getElem?_append_left]
    · exact ho
    · rcases Nat.lt_or_ge i ops.length with h | h
      · exact h
      · rw [List.getElem?_eq_none h] at ho; cases ho) q8 hsum hcnt (H0 := H) (E7.trans E8) (n + 1) 0 H8 (by omega) (ExtH.refl _)
  simpa [texts, outs, ba] using this
end Go.Proofs.Ytpankppliidaoaa
