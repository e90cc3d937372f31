/- The law FnTombstoneOne is proved: for every input it returns true, and what came in reads as it did. No condition. -/
import Derived.Test.YtpankppliidaoaaT11
set_option linter.unusedVariables false
namespace Go.Proofs.Ytpankppliidaoaa
open Go Go.Den Go.Proofs
/-- What is known of bytes that came in: nothing, or cells that are bytes. -/
def Bytes (H : Heap) (b : Option Addr) (n : Nat) (xs : List Int) : Prop := xs.length = n ∧ (n = 0 ∨ ∃ a, b = some a ∧ ∀ k, k < n → hcell H (a.add k) = some (.int .u8 (xs.getD k 0)))
theorem Bytes.ext {H H1 : Heap} {b : Option Addr} {n : Nat} {xs : List Int} (h : Bytes H b n xs) (e : ExtH H H1) : Bytes H1 b n xs := by
  obtain ⟨h1, h2⟩ := h
  refine ⟨h1, ?_⟩
  rcases h2 with h2 | ⟨a, rfl, h3⟩
  · exact .inl h2
  · exact .inr ⟨a, rfl, fun k hk => e.cell (h3 k hk)⟩
theorem isTombstone_any (b : Option Addr) (n c : Nat) (xs : List Int) (H : Heap) (hb : Bytes H b n xs) :
    CallsH Try.prog 64 ⟨[.slice b n c]⟩ H (fun e H1 => e = .returned (.bool (n == 18 && xs.getD 17 0 == 116)) ∧ H1 = H) := by
  refine F64.calls ?_
  unfold F64.go
  by_cases h18 : n = 18
  · subst h18
    obtain ⟨h1, h2 | ⟨a, rfl, h3⟩⟩ := hb
    · cases h2
    refine iteB_i (fun _ => ?_) (fun h => by simp at h)
    refine idxD_i (by omega) (by omega) ?_
    exact ⟨_, h3 17 (by omega), by simp, rfl⟩
  · refine iteB_i (fun h => ?_) (fun _ => ?_)
    · simp at h; omega
    · exact ⟨by simp [h18], rfl⟩
theorem zzIsTombstone_any (b : Option Addr) (n c : Nat) (xs : List Int) (H : Heap) (hb : Bytes H b n xs) :
    CallsH Try.prog 44 ⟨[.slice b n c]⟩ H (fun e H1 => e = .returned (.bool (n == 18 && xs.getD 17 0 == 116)) ∧ H1 = H) := by
  refine F44.calls ?_
  unfold F44.go
  refine callD_i (isTombstone_any b n c xs H hb) ?_
  rintro e H1 ⟨rfl, rfl⟩
  exact tBool_i ⟨rfl, rfl⟩
theorem tombstone_any (b : Option Addr) (n c : Nat) (xs : List Int) (H : Heap) (hb : Bytes H b n xs) :
    CallsH Try.prog 18 ⟨[.slice b n c]⟩ H (fun e H1 => e = .returned (.bool (n == 18 && xs.getD 17 0 == 116)) ∧ H1 = H) := by
  refine F18.calls ?_
  unfold F18.go
  refine callD_i (zzIsTombstone_any b n c xs H hb) ?_
  rintro e H1 ⟨rfl, rfl⟩
  exact tBool_i ⟨rfl, rfl⟩
theorem bucketMarked_ok (m s : Int) (H : Heap) : CallsH Try.prog 17 ⟨[.agg ⟨[.int .i64 m, .int .i64 s]⟩, .bool true, .bool true]⟩ H
    (fun e H1 => ∃ r, e = .returned (.slice (some ⟨r, 0, none⟩) 18 18) ∧ ExtH H H1 ∧ H1[r]? = some (.cells ⟨encB m s ++ [.int .u8 116]⟩ 5)) := by
  refine F17.calls ?_
  unfold F17.go
  have L := Loc.start H
  refine Loc.new L ?_
  intro r0 H1 L
  refine callD_i (newRevBytes_ok _) ?_
  rintro e H2 ⟨r1, rfl, E2, _, _⟩
  have L := L.extend E2
  refine tSl_i ?_
  refine iteB_i (fun _ => ?_) (fun h => by cases h)
  refine Loc.make L (by decide) (by decide) (by decide) (by decide) ?_
  intro r H3 E L
  refine F17.L0_step ?_
  unfold F17.L0n
  repeat (first
    | (refine Loc.call L (revIn_ok _ _ _) ?_; intro _H E L)
    | (refine Loc.call L (zzBucketKey_ok _ _ _ _) ?_; intro _H E L)
    | (refine Loc.new L ?_; intro _r _H L)
    | refine Loc.int L 0 rfl rfl ?_
    | refine Loc.bool L 0 rfl rfl ?_
    | refine Loc.str L 0 rfl rfl ?_
    | refine Loc.ptr L 0 rfl rfl ?_
    | refine Loc.sl L 0 rfl rfl ?_
    | refine Loc.map L 0 rfl rfl ?_
    | refine Loc.ifmk L 0 rfl rfl ?_
    | refine Loc.ifnil L 0 rfl rfl ?_
    | refine Loc.ifv L 0 rfl rfl ?_
    | refine Loc.fnmk L 0 rfl rfl ?_
    | refine Loc.fnv L 0 rfl rfl ?_
    | (refine Loc.st L 0 rfl rfl (by first | rfl | exact isCell_IV _ | exact isCell_FV _) ?_; intro _H L)
    | refine Loc.int L 1 rfl rfl ?_
    | refine Loc.bool L 1 rfl rfl ?_
    | refine Loc.str L 1 rfl rfl ?_
    | refine Loc.ptr L 1 rfl rfl ?_
    | refine Loc.sl L 1 rfl rfl ?_
    | refine Loc.map L 1 rfl rfl ?_
    | refine Loc.ifmk L 1 rfl rfl ?_
    | refine Loc.ifnil L 1 rfl rfl ?_
    | refine Loc.ifv L 1 rfl rfl ?_
    | refine Loc.fnmk L 1 rfl rfl ?_
    | refine Loc.fnv L 1 rfl rfl ?_
    | (refine Loc.st L 1 rfl rfl (by first | rfl | exact isCell_IV _ | exact isCell_FV _) ?_; intro _H L)
    | refine Loc.int L 2 rfl rfl ?_
    | refine Loc.bool L 2 rfl rfl ?_
    | refine Loc.str L 2 rfl rfl ?_
    | refine Loc.ptr L 2 rfl rfl ?_
    | refine Loc.sl L 2 rfl rfl ?_
    | refine Loc.map L 2 rfl rfl ?_
    | refine Loc.ifmk L 2 rfl rfl ?_
    | refine Loc.ifnil L 2 rfl rfl ?_
    | refine Loc.ifv L 2 rfl rfl ?_
    | refine Loc.fnmk L 2 rfl rfl ?_
    | refine Loc.fnv L 2 rfl rfl ?_
    | (refine Loc.st L 2 rfl rfl (by first | rfl | exact isCell_IV _ | exact isCell_FV _) ?_; intro _H L)
    | refine tInt_i ?_
    | refine tBool_i ?_
    | refine tStr_i ?_
    | refine tPtr_i ?_
    | refine tSl_i ?_
    | refine tMap_i ?_
    | refine tIf_nil ?_
    | refine tIf_mk ?_
    | refine tIf_i ?_
    | refine tFn_mk ?_
    | refine tFn_i ?_
    | refine tAgg_i ?_
    | refine tTup_i ?_
    | refine tCons_i ?_
    | refine tNil_i ?_
    | refine andD_i (by assumption) ?_
    | refine nilD_i ?_)
  have hr := L.cell 0 _ _ _ rfl
  rw [repZ_one] at hr
  refine callD_i (bkToBytes_ok _ _ true r 18 _ (by simp) (.inr rfl) _ hr.2) ?_
  rintro e H4 ⟨rfl, u⟩
  refine tSl_i ⟨r, rfl, L.ext.upd u hr.1, u.at_⟩
theorem tombstoneOne_ok (b : Option Addr) (n c : Nat) (xs : List Int) (H : Heap) (hb : Bytes H b n xs) :
    CallsH Try.prog 6 ⟨[.slice b n c]⟩ H (Gives (.bool true) H) := by
  refine F6.calls ?_
  unfold F6.go
  refine iteB_i (fun _ => ⟨rfl, ExtH.refl _⟩) (fun _ => ?_)
  refine iteB_i (fun _ => ?_) (fun _ => ?_)
  · refine Loc.call (Loc.start H) (rvLive_ok _) ?_
    intro H1 E L
    exact tBool_i ⟨rfl, L.ext⟩
  refine callD_i (bucketMarked_ok _ _ H) ?_
  rintro e H1 ⟨r, rfl, E1, hr⟩
  refine tSl_i ?_
  refine iteB_i (fun _ => ?_) (fun h => by simp at h)
  refine callD_i (tombstone_any b n c xs H1 (hb.ext E1)) ?_
  rintro e H2 ⟨rfl, rfl⟩
  refine tBool_i ?_
  have L := (Loc.start H).extend E1
  have w17 : IntKind.wrap .i64 (((18 : Nat) : Int) - (1 : Int)) = 17 := by decide
  by_cases h18 : n = 18
  · subst h18
    obtain ⟨h1, h2 | ⟨a, rfl, h3⟩⟩ := hb.ext E1
    · cases h2
    refine iteB_i (fun _ => ?_) (fun h => by simp at h)
    rw [w17]
    refine idxD_i (by omega) (by omega) ?_
    refine idxD_i (by omega) (by omega) ?_
    refine ⟨_, h3 17 (by omega), ?_⟩
    rw [add_mk]
    refine ⟨116, hcell_of hr (by simp [encB_length]), ?_⟩
    refine iteB_i (fun _ => ?_) (fun h => by simp at h)
    refine Loc.call L (rvLive_ok _) ?_
    intro H3 E L
    exact tBool_i ⟨rfl, L.ext⟩
  · refine iteB_i (fun h => by simp at h; omega) (fun _ => ?_)
    have : (n == 18) = false := by simpa using h18
    rw [this]
    refine iteB_i (fun _ => ?_) (fun h => by simp at h)
    refine Loc.call L (rvLive_ok _) ?_
    intro H3 E L
    exact tBool_i ⟨rfl, L.ext⟩
theorem u39 : Try.prog.underlying 39 = some (.slice 5) := by kernel_rfl
theorem u5 : Try.prog.underlying 5 = some (.int .u8) := by kernel_rfl
theorem rd_u8 {H : Heap} {f : Nat} {cs : List Value} (h : Rd Try.prog H f 5 cs) : ∃ n, cs = [.int .u8 n] := by
  cases f with
  | zero => exact h.elim
  | succ f =>
    simp only [Rd, u5] at h
    obtain ⟨n, h, _⟩ := h
    exact ⟨n, h⟩
theorem rd_bytes {H : Heap} {f : Nat} {a : Option Addr} {n c : Nat} (h : Rd Try.prog H f 39 [.slice a n c]) : ∃ xs, Bytes H a n xs := by
  cases f with
  | zero => exact h.elim
  | succ f =>
    have c5 : Try.prog.cellsOf 5 = 1 := by kernel_rfl
    simp only [Rd, u39, c5] at h
    rcases h with h | ⟨a', n', c', h, _, _, he⟩
    · cases h; exact ⟨[], rfl, .inl rfl⟩
    · cases h
      have hx : ∀ i, i < n → ∃ x, hcell H (a'.add i) = some (.int .u8 x) := by
        intro i hi
        obtain ⟨es, h1, h2⟩ := he i hi
        obtain ⟨x, rfl⟩ := rd_u8 h2
        refine ⟨x, ?_⟩
        have := h1.2 0 _ rfl
        have e : (a'.add (i * 1)).add 0 = a'.add i := by
          rw [Nat.mul_one]; unfold Addr.add; simp
        rw [e] at this
        exact this
      refine ⟨(List.range n).map fun i => if h : i < n then (hx i h).choose else 0, by simp, .inr ⟨a', rfl, fun k hk => ?_⟩⟩
      rw [List.getD_eq_getElem?_getD, List.getElem?_map, List.getElem?_range hk]
      simp only [Option.map_some, Option.getD_some, hk, dite_true]
      exact (hx k hk).choose_spec
theorem walk_FnTombstoneOne (H : Heap) {f : Nat} {a : Option Addr} {n c : Nat} (h : Rd Try.prog H f 39 [.slice a n c]) : CallsH Try.prog 6 #[.slice a n c] H (Gives (.bool true) H) := by
  obtain ⟨xs, hb⟩ := rd_bytes h
  exact tombstoneOne_ok a n c xs H hb
open Go.ChangeShapes Go.WideShapes Go.ChangeAt Go.RowKit
set_option maxRecDepth 100000 in
theorem lifted_FnTombstoneOne (os : Os) (started : os.Started) (K : Type) (enc : TypeId × Value → K) :
    ReturnsInHanded {} Try.checked os 6 .any (Rows.fnTombstoneOneSpec.pre6 enc Try.prog Try.f6 Rows.fnTombstoneOneRow.domain false) (Rows.fnTombstoneOneSpec.post enc Try.prog Try.f6 false true false false) := by
  refine returnsInHanded_of_change (C := Try.checked) own started (by kernel_rfl) Try.func6
    (ChangeSpec.witness6 (enc := enc) (C := Try.checked) false ⟨#[], #[.slice none 0 0], []⟩ 8 (by kernel_rfl) (by kernel_rfl) (by kernel_rfl) (by kernel_rfl)) ?_
  intro W base args ds gs before hval0 hW hcnd _
  have hval : ∀ (j : Nat) t v, Try.f6.params[j]? = some t → args[j]? = some v → Value.okWide Try.prog W .any base t v := hval0
  have hW' := hW
  obtain ⟨p, q, hA0, hV, rfl, hfz, hnd⟩ := hW
  have hA : DataW.TrodAll enc Try.prog W 0 (fun _ => true) true Try.f6.params.toList args.toList ds p := hA0
  rw [Try.params6] at hA hval
  obtain ⟨v0, vs0, d0, ds0, p0, q0, hargs, rfl, rfl, h0, r0⟩ := trodAll_cons hA
  obtain ⟨rfl, rfl, rfl⟩ := trodAll_nil r0
  obtain rfl : args = #[v0] := by cases args; simp_all
  obtain ⟨rfl, rfl⟩ := trodVars_none hV
  obtain ⟨a0, l0, m0, rfl⟩ := okWide_slice Try.underlying39 (hval 0 39 v0 rfl rfl)
  have k0 := h0
  have lt0 : ∀ x ∈ p0, x.block < W.heap.size := by obtain ⟨m, hm⟩ := k0; exact DataW.trod_lt m _ _ _ hm
  obtain ⟨fu0, hf0⟩ := h0
  have rd0 := rd_of_trod hf0
  clear hA0 hval0
  refine ((walk_FnTombstoneOne W.heap rd0) W rfl).mono fun e W' ⟨sm, he, ex⟩ => ?_
  subst he
  have bel : Below W.heap.size W W' := ⟨sm.os, sm.tape, sm.output, ex.size, fun b hb => ex.block b hb⟩
  exact ⟨_, rfl, _, _, _, [], _, [], hW', trodAll_mk1 (shut_bool Try.underlying4 _), (trodAll_cons_mk (Below.trod laidOut (by kernel_rfl) (of_decide_eq_true (by kernel_rfl)) k0 bel lt0) trodAll_mk0), rfl, bel.frame _, fun h => by cases h⟩
theorem over_FnTombstoneOne : Rows.fnTombstoneOneRow.holds Try.pinned (OpenSpec.ofChange Rows.fnTombstoneOneSpec) :=
  OpenClaim.holds_of_wide 6 Try.f6 rfl rfl rfl rfl rfl rfl rfl ⟨rfl, rfl, rfl, rfl, rfl⟩ rfl rfl rfl rfl rfl (by kernel_rfl) Try.func6 (by kernel_rfl)
    (of_decide_eq_true (by kernel_rfl)) (by unfold Func.isWrapper; first | (rw [if_pos (by decide +kernel)]; kernel_rfl) | (rw [if_neg (by decide +kernel)]; exact ⟨rfl, rfl⟩))
    (fun os started K enc _ => lifted_FnTombstoneOne os started K enc)
/-- The given statement. -/
theorem proved_FnTombstoneOne : Rows.FnTombstoneOneSaid := over_FnTombstoneOne
end Go.Proofs.Ytpankppliidaoaa
