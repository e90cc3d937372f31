/- The law FnWalSees is proved: for every input it returns true, and what came in reads as it did. No condition. -/
import Derived.Test.YtkejocbhmcphiaaDoorX4
import Derived.Test.YtkejocbhmcphiaaDoorDenZC
import Derived.Test.YtkejocbhmcphiaaDoorRows
import Derived.WalkKit
import Derived.ProofKit
import Derived.OpenShut
import Derived.ShutString
import Derived.ChangeOld
import Derived.Below
import Derived.ChangeVars
import Derived.JoinedOf
import Derived.RowKit
import Derived.RowKitTokens
import Derived.LaidLaws
import Derived.Stop.Joined
import Derived.Test.YtkejocbhmcphiaaDoorCards
import Derived.Test.YtkejocbhmcphiaaDoorTie
import Derived.SevenTiedAt
set_option linter.unusedVariables false
namespace Go.Proofs.YtkejocbhmcphiaaDoor
open Go Go.Den Go.Proofs
open Go.ChangeShapes Go.WideShapes Go.ChangeAt Go.RowKit
open Go.ChangeMaps (open_string shut_string)
theorem own9 : ownKnob Tryd.prog.godebug = none := by kernel_rfl
theorem laid9 : laidOutB Tryd.prog = true := by kernel_rfl
section
variable {H : Heap} {f : Nat} {cs : List Value}
theorem und2 : Tryd.prog.underlying 2 = some (.int .i64) := by kernel_rfl
theorem und4 : Tryd.prog.underlying 4 = some .bool := by kernel_rfl
theorem und22 : Tryd.prog.underlying 22 = some (.int .u32) := by kernel_rfl
theorem und9 : Tryd.prog.underlying 9 = some .string := by kernel_rfl
theorem rdT38 (h : Rd Tryd.prog H f 38 cs) : ∃ (a0 : Int) (a1 : Bool) (a2 : Int) (a3 : Bool) (a4 : ByteArray) (a5 : Bool), cs = [.int .i64 a0, .bool a1, .int .u32 a2, .bool a3, .string a4, .bool a5] ∧ (IntKind.min .i64 ≤ a0 ∧ a0 ≤ IntKind.max .i64) ∧ (True) ∧ (IntKind.min .u32 ≤ a2 ∧ a2 ≤ IntKind.max .u32) ∧ (True) ∧ (a4.size ≤ maxLen) ∧ (True) := by
  obtain ⟨g, hl, hp⟩ := rd_struct h (k := 6) (fs := [(2, 0), (4, 1), (22, 2), (4, 3), (9, 4), (4, 5)]) (by kernel_rfl) (by kernel_rfl) (by kernel_rfl)
  obtain ⟨v0, r0, rfl, w0⟩ := cons_of hl
  obtain ⟨v1, r1, rfl, w1⟩ := cons_of w0
  obtain ⟨v2, r2, rfl, w2⟩ := cons_of w1
  obtain ⟨v3, r3, rfl, w3⟩ := cons_of w2
  obtain ⟨v4, r4, rfl, w4⟩ := cons_of w3
  obtain ⟨v5, r5, rfl, w5⟩ := cons_of w4
  obtain rfl := List.eq_nil_of_length_eq_zero w5
  obtain ⟨h0, h1, h2, h3, h4, h5, _⟩ := hp
  have z2 : Tryd.prog.cellsOf 2 = 1 := by kernel_rfl
  have z4 : Tryd.prog.cellsOf 4 = 1 := by kernel_rfl
  have z9 : Tryd.prog.cellsOf 9 = 1 := by kernel_rfl
  have z22 : Tryd.prog.cellsOf 22 = 1 := by kernel_rfl
  simp only [z2, z4, z9, z22, List.drop_zero, List.drop_succ_cons, List.take_succ_cons, List.take_zero] at h0 h1 h2 h3 h4 h5
  obtain ⟨b0, e0, l0, u0⟩ := rd_int h0 und2
  cases e0
  obtain ⟨b1, e1⟩ := rd_bool h1 und4
  cases e1
  obtain ⟨b2, e2, l2, u2⟩ := rd_int h2 und22
  cases e2
  obtain ⟨b3, e3⟩ := rd_bool h3 und4
  cases e3
  obtain ⟨b4, e4, l4⟩ := rd_str h4 und9
  cases e4
  obtain ⟨b5, e5⟩ := rd_bool h5 und4
  cases e5
  exact ⟨b0, b1, b2, b3, b4, b5, rfl, ⟨l0, u0⟩, trivial, ⟨l2, u2⟩, trivial, l4, trivial⟩
end
theorem un23 : Tryd.prog.underlying 23 = some (.slice 38) := by kernel_rfl
theorem recs_of {H : Heap} {f : Nat} {a : Option Addr} {n c : Nat} (h : Rd Tryd.prog H f 23 [.slice a n c]) : ∃ l : List WR, RowsAt WR.cells 6 H a l ∧ l.length = n ∧ ∀ r ∈ l, Rg r := by
  obtain ⟨p, n', c', l, e, hn, _, _, hR, hg⟩ := rd_slice (fl := WR.cells) (z := 6) (good := Rg) h un23 (by kernel_rfl) (by
    intro g es h
    obtain ⟨a0, a1, a2, a3, a4, a5, rfl, hr, _⟩ := rdT38 h
    have h1 : IntKind.min .i64 = -9223372036854775808 := rfl
    have h2 : IntKind.max .i64 = 9223372036854775807 := rfl
    exact ⟨⟨a0, a1, a2, a3, a4, a5⟩, rfl, by rw [h1] at hr; exact hr.1, by rw [h2] at hr; exact Int.lt_add_one_of_le hr.2⟩)
  cases e
  exact ⟨l, hR, hn.symm, hg⟩
theorem prev_of {H : Heap} {f : Nat} {v : Int} (h : Rd Tryd.prog H f 22 [.int .u32 v]) : ∃ s : W32, v = iv s := by
  obtain ⟨b, e, lo, up⟩ := rd_int h und22
  cases e
  have h1 : IntKind.min .u32 = 0 := rfl
  have h2 : IntKind.max .u32 = 4294967295 := rfl
  rw [h1] at lo
  rw [h2] at up
  refine ⟨BitVec.ofNat 32 v.toNat, ?_⟩
  unfold iv
  rw [BitVec.toNat_ofNat]
  omega
theorem und5 : Tryd.prog.underlying 5 = some (.int .u8) := by kernel_rfl
theorem walk_FnWalSees (H : Heap) {e0 e1 : Addr} (hE : ErP (PH.of H) e0 e1) {f0 f1 f2 f3 f4 : Nat} {a : Option Addr} {n c : Nat} {s k m b : Int} (h0 : Rd Tryd.prog H f0 22 [.int .u32 s]) (h1 : Rd Tryd.prog H f1 23 [.slice a n c]) (h2 : Rd Tryd.prog H f2 3 [.int .i64 k]) (h3 : Rd Tryd.prog H f3 3 [.int .i64 m]) (h4 : Rd Tryd.prog H f4 5 [.int .u8 b]) : CallsH Tryd.prog 4 #[.int .u32 s, .slice a n c, .int .i64 k, .int .i64 m, .int .u8 b] H (Gives (.bool true) H) := by
  obtain ⟨l, hR, hn, hg⟩ := recs_of h1
  obtain ⟨w, rfl⟩ := prev_of h0
  obtain ⟨b', e, lo, up⟩ := rd_int h4 und5
  cases e
  have h1 : IntKind.min .u8 = 0 := rfl
  have h2 : IntKind.max .u8 = 255 := rfl
  rw [h1] at lo
  rw [h2] at up
  exact sees_ok lo (by omega) hE hR hn hg
/-! What the variables hold. -/
theorem gEof : Tryd.prog.globalNamed "io.EOF" = some 0 := by kernel_rfl
theorem gUne : Tryd.prog.globalNamed "io.ErrUnexpectedEOF" = some 1 := by kernel_rfl
theorem tEof : (Tryd.prog.globals[0]?).map (·.type) = some 62 := by kernel_rfl
theorem tUne : (Tryd.prog.globals[1]?).map (·.type) = some 62 := by kernel_rfl
theorem c158 : Tryd.prog.cellsOf 158 = 1 := by kernel_rfl
theorem c9 : Tryd.prog.cellsOf 9 = 1 := by kernel_rfl
theorem star9 : "*" ++ "errors.errorString" = "*errors.errorString" := by decide
theorem row122 (u : TypeId) (h : Tryd.prog.typeName? 3 u = some "*errors.errorString") : u = 122 :=
  typeName_ptr_named (nm := "errors.errorString") (by rw [star9]; kernel_rfl) (by kernel_rfl) (by decide) u (by rw [star9]; exact h)
set_option maxRecDepth 100000 in
theorem errs_of_laid {W : World} (h0 : laidMetH Tryd.prog [("io.EOF", Rows.laid_io_EOF), ("io.ErrUnexpectedEOF", Rows.laid_io_ErrUnexpectedEOF)] W) : ∃ e0 e1, ErP (PH.of W.heap) e0 e1 := by
  have h : laidMet Tryd.prog [("io.EOF", Rows.laid_io_EOF), ("io.ErrUnexpectedEOF", Rows.laid_io_ErrUnexpectedEOF)] W := h0
  obtain ⟨ps, ⟨g0, t0, cs0, f0, p0, q0, hg0, ht0, hv0, hd0, ⟨g1, t1, cs1, f1, p1, q1, hg1, ht1, hv1, hd1, hq1, e1⟩, e0⟩, hnd, hrows⟩ := h
  obtain rfl := Option.some.inj (gEof.symm.trans hg0)
  obtain rfl := Option.some.inj (gUne.symm.trans hg1)
  obtain rfl := Option.some.inj (tEof.symm.trans ht0)
  obtain rfl := Option.some.inj (tUne.symm.trans ht1)
  have hq1' : q1 = [] := hq1
  subst hq1'
  subst e1
  subst e0
  obtain ⟨l0⟩ := cs0
  obtain ⟨l1⟩ := cs1
  have ok0 : ∀ u v, l0 = [.iface u v] → Value.okWide Tryd.prog W .any 0 u v := fun u v e => by
    subst e
    exact (hrows 0 0 (by simp [MemPlace.row])).2 u v (by simpa using World.var?_cell hg0 hv0 0)
  have ok1 : ∀ u v, l1 = [.iface u v] → Value.okWide Tryd.prog W .any 0 u v := fun u v e => by
    subst e
    exact (hrows 1 0 (by simp [MemPlace.row])).2 u v (by simpa using World.var?_cell hg1 hv1 0)
  obtain ⟨a0, s0, rfl, hc0, hs0, hz0, rfl⟩ := errorString_of_trod Tryd.underlying62 row122 Tryd.underlying122 Tryd.underlying158 rfl rfl Tryd.underlying9 c158 c9 hd0 ok0
  obtain ⟨a1, s1, rfl, hc1, hs1, hz1, rfl⟩ := errorString_of_trod Tryd.underlying62 row122 Tryd.underlying122 Tryd.underlying158 rfl rfl Tryd.underlying9 c158 c9 hd1 ok1
  obtain ⟨c0, u0, hb0⟩ := (hrows a0.block a0.off (by simp [MemPlace.row])).1
  obtain ⟨c1, u1, hb1⟩ := (hrows a1.block a1.off (by simp [MemPlace.row])).1
  have cell : ∀ (g : Nat) (n : String) (x : Value), Tryd.prog.globalNamed n = some g → W.var? Tryd.prog n = some #[x] → ∃ T fr, W.heap[g]? = some (.cells ⟨[x]⟩ T fr) := by
    intro g n x hg hv
    unfold World.var? at hv
    simp only [hg, Option.bind_some] at hv
    split at hv
    · rename_i cs T fr hb
      cases hv
      exact ⟨T, fr, hb⟩
    · cases hv
  refine ⟨a0, a1, cell 0 _ _ gEof hv0, cell 1 _ _ gUne hv1, ⟨c0, u0, 0, hb0⟩, ⟨c1, u1, 0, hb1⟩, ?_⟩
  rintro rfl
  simp [MemPlace.row] at hnd
abbrev eofS : ByteArray := { data := #[69, 79, 70] }
abbrev uneS : ByteArray := { data := #[117, 110, 101, 120, 112, 101, 99, 116, 101, 100, 32, 69, 79, 70] }
noncomputable def low : Nat := (World.holding Tryd.prog default ⟨#[], #[], []⟩).heap.size
noncomputable def laidWorld (os : Os) : World :=
  let w0 := World.holding Tryd.prog os ⟨#[.cells #[.string eofS] 158, .cells #[.string uneS] 158], #[], []⟩
  { w0 with heap := (w0.heap.modify 0 fun
      | .cells _ t frozen => .cells #[.iface 122 (.pointer (some ⟨low, 0, none⟩))] t frozen
      | o => o).modify 1 fun
      | .cells _ t frozen => .cells #[.iface 122 (.pointer (some ⟨low + 1, 0, none⟩))] t frozen
      | o => o }
theorem laidWorld_met (os : Os) (args : Array Value) : laidMetH Tryd.prog [("io.EOF", Rows.laid_io_EOF), ("io.ErrUnexpectedEOF", Rows.laid_io_ErrUnexpectedEOF)] ((laidWorld os).forCall (fun _ _ => 0) ⟨#[], args, []⟩).memory :=
  laidMet_of_run (ps := [.cell 0 0, .cell low 0, .cell 1 0, .cell (low + 1) 0]) 8 (by kernel_rfl) (by kernel_rfl) (by kernel_rfl)
set_option maxRecDepth 100000 in
theorem lifted_FnWalSees (os : Os) (started : os.Started) (K : Type) (enc : TypeId × Value → K) :
    ReturnsInHanded {} Tryd.checked os 4 .any (fun w args => (Rows.fnWalSeesSpec.pre enc Tryd.prog Tryd.f4 [] false w args ∧ laidMetH Tryd.prog [("io.EOF", Rows.laid_io_EOF), ("io.ErrUnexpectedEOF", Rows.laid_io_ErrUnexpectedEOF)] w) ∧ sizedMet enc Tryd.prog Tryd.f4 (OpenSpec.ofChange Rows.fnWalSeesSpec) false w args) (Rows.fnWalSeesSpec.post enc Tryd.prog Tryd.f4 false true false false) := by
  refine returnsInHanded_of_change_and (C := Tryd.checked) (X := fun w _ => laidMetH Tryd.prog [("io.EOF", Rows.laid_io_EOF), ("io.ErrUnexpectedEOF", Rows.laid_io_ErrUnexpectedEOF)] w) (fun _ _ _ hh h => h.of_heap hh) own9 started (by kernel_rfl) Tryd.func4
    (ChangeSpec.witness_at (enc := enc) (C := Tryd.checked) (os := os) (X := fun w _ => laidMetH Tryd.prog [("io.EOF", Rows.laid_io_EOF), ("io.ErrUnexpectedEOF", Rows.laid_io_ErrUnexpectedEOF)] w) false (laidWorld os) #[.int .u32 0, .slice none 0 0, .int .i64 0, .int .i64 0, .int .u8 0] 8 rfl (by kernel_rfl) (by kernel_rfl) (by kernel_rfl) (by kernel_rfl) (by kernel_rfl) (laidWorld_met os _)) ?_
  intro W base args ds gs before hval0 hW _ _ hL _
  have hval : ∀ (j : Nat) t v, Tryd.f4.params[j]? = some t → args[j]? = some v → Value.okWide Tryd.prog W .any base t v := hval0
  have hW' := hW
  obtain ⟨e0, e1, hE⟩ := errs_of_laid hL
  obtain ⟨p, q, hA0, hV, rfl, hfz, hnd⟩ := hW
  have hA : DataW.TrodAll enc Tryd.prog W 0 (fun _ => true) true Tryd.f4.params.toList args.toList ds p := hA0
  rw [Tryd.params4] at hA hval
  obtain ⟨v0, vs0, d0, ds0, p0, q0, hargs, rfl, rfl, h0, r0⟩ := trodAll_cons hA
  obtain ⟨v1, vs1, d1, ds1, p1, q1, rfl, rfl, rfl, h1, r1⟩ := trodAll_cons r0
  obtain ⟨v2, vs2, d2, ds2, p2, q2, rfl, rfl, rfl, h2, r2⟩ := trodAll_cons r1
  obtain ⟨v3, vs3, d3, ds3, p3, q3, rfl, rfl, rfl, h3, r3⟩ := trodAll_cons r2
  obtain ⟨v4, vs4, d4, ds4, p4, q4, rfl, rfl, rfl, h4, r4⟩ := trodAll_cons r3
  obtain ⟨rfl, rfl, rfl⟩ := trodAll_nil r4
  obtain rfl : args = #[v0, v1, v2, v3, v4] := by cases args; simp_all
  obtain ⟨rfl, rfl⟩ := trodVars_none hV
  obtain ⟨c0, rfl⟩ := okWide_int Tryd.underlying22 (hval 0 22 v0 rfl rfl)
  obtain ⟨a1, l1, m1, rfl⟩ := okWide_slice Tryd.underlying23 (hval 1 23 v1 rfl rfl)
  obtain ⟨c2, rfl⟩ := okWide_int Tryd.underlying3 (hval 2 3 v2 rfl rfl)
  obtain ⟨c3, rfl⟩ := okWide_int Tryd.underlying3 (hval 3 3 v3 rfl rfl)
  obtain ⟨c4, rfl⟩ := okWide_int Tryd.underlying5 (hval 4 5 v4 rfl rfl)
  have k0 := h0
  have lt0 : ∀ x ∈ p0, x.block < W.heap.size := by obtain ⟨m, hm⟩ := k0; exact DataW.trod_lt m _ _ _ hm
  obtain ⟨fu0, hf0⟩ := h0
  have rd0 := rd_of_trod hf0
  have k1 := h1
  have lt1 : ∀ x ∈ p1, x.block < W.heap.size := by obtain ⟨m, hm⟩ := k1; exact DataW.trod_lt m _ _ _ hm
  obtain ⟨fu1, hf1⟩ := h1
  have rd1 := rd_of_trod hf1
  have k2 := h2
  have lt2 : ∀ x ∈ p2, x.block < W.heap.size := by obtain ⟨m, hm⟩ := k2; exact DataW.trod_lt m _ _ _ hm
  obtain ⟨fu2, hf2⟩ := h2
  have rd2 := rd_of_trod hf2
  have k3 := h3
  have lt3 : ∀ x ∈ p3, x.block < W.heap.size := by obtain ⟨m, hm⟩ := k3; exact DataW.trod_lt m _ _ _ hm
  obtain ⟨fu3, hf3⟩ := h3
  have rd3 := rd_of_trod hf3
  have k4 := h4
  have lt4 : ∀ x ∈ p4, x.block < W.heap.size := by obtain ⟨m, hm⟩ := k4; exact DataW.trod_lt m _ _ _ hm
  obtain ⟨fu4, hf4⟩ := h4
  have rd4 := rd_of_trod hf4
  clear hA0 hval0
  refine ((walk_FnWalSees W.heap hE rd0 rd1 rd2 rd3 rd4) W rfl).mono fun e W' ⟨sm, he, ex⟩ => ?_
  subst he
  have bel : Below W.heap.size W W' := ⟨sm.os, sm.tape, sm.output, ex.size, fun b hb => ex.block b hb⟩
  exact ⟨_, rfl, _, _, _, [], _, [], hW', trodAll_mk1 (shut_bool Tryd.underlying4 _), (trodAll_cons_mk (Below.trod laid9 (by kernel_rfl) (of_decide_eq_true (by kernel_rfl)) k0 bel lt0) (trodAll_cons_mk (Below.trod laid9 (by kernel_rfl) (of_decide_eq_true (by kernel_rfl)) k1 bel lt1) (trodAll_cons_mk (Below.trod laid9 (by kernel_rfl) (of_decide_eq_true (by kernel_rfl)) k2 bel lt2) (trodAll_cons_mk (Below.trod laid9 (by kernel_rfl) (of_decide_eq_true (by kernel_rfl)) k3 bel lt3) (trodAll_cons_mk (Below.trod laid9 (by kernel_rfl) (of_decide_eq_true (by kernel_rfl)) k4 bel lt4) trodAll_mk0))))), rfl, bel.frame _, fun h => by cases h⟩
theorem over_FnWalSees : Rows.fnWalSeesRow.holds Tryd.pinned (OpenSpec.ofChange Rows.fnWalSeesSpec) :=
  OpenClaim.holds_of_wide 4 Tryd.f4 rfl rfl rfl rfl rfl rfl rfl ⟨rfl, rfl, rfl, rfl, rfl⟩ rfl rfl rfl rfl rfl (by kernel_rfl) Tryd.func4 (by kernel_rfl)
    (of_decide_eq_true (by kernel_rfl)) (by unfold Func.isWrapper; first | (rw [if_pos (by decide +kernel)]; kernel_rfl) | (rw [if_neg (by decide +kernel)]; exact ⟨rfl, rfl⟩))
    (fun os started K enc _ => lifted_FnWalSees os started K enc)
/-- The given statement. -/
theorem proved_FnWalSees : Rows.FnWalSeesCardSaid :=
  Claim7.holds_tied_plain_at .later [] [.sentinel, .sentinel] true (true, "eecdec652407d44cfd75c62181ecbaea9519e4c3c5b2d649b0210729018f6049") true
    over_FnWalSees (fun _ h => by cases h) (by kernel_rfl) (fun _ h => by cases h) fnWalSees_row_tie rfl ⟨rfl, rfl⟩ (by kernel_rfl) rfl
    (fun f fn hf hfn => by
      obtain rfl : f = 4 := Option.some.inj ((show Tryd.prog.funcNamed "pub-stadtholder/laws.FnWalSees" = some 4 by kernel_rfl).symm.trans hf) |>.symm
      obtain rfl : fn = Tryd.f4 := (Option.some.inj (Tryd.func4.symm.trans hfn)).symm
      refine ⟨by kernel_rfl, fun j t ht => ?_⟩
      rw [Tryd.params4] at ht
      rcases j with _ | j
      · obtain rfl : 22 = t := Option.some.inj ht
        exact (show Tryd.prog.wantsStandIn 22 = false by kernel_rfl)
      rcases j with _ | j
      · obtain rfl : 23 = t := Option.some.inj ht
        exact (show Tryd.prog.wantsStandIn 23 = false by kernel_rfl)
      rcases j with _ | j
      · obtain rfl : 3 = t := Option.some.inj ht
        exact (show Tryd.prog.wantsStandIn 3 = false by kernel_rfl)
      rcases j with _ | j
      · obtain rfl : 3 = t := Option.some.inj ht
        exact (show Tryd.prog.wantsStandIn 3 = false by kernel_rfl)
      rcases j with _ | j
      · obtain rfl : 5 = t := Option.some.inj ht
        exact (show Tryd.prog.wantsStandIn 5 = false by kernel_rfl)
      · simp at ht)
    (by kernel_rfl)
end Go.Proofs.YtkejocbhmcphiaaDoor
