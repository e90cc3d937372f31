/- What functions of this seat do, each proved by a walk; no condition. -/
import Derived.Test.YtpankppliidaoaaT42
set_option linter.unusedVariables false
set_option linter.unusedSimpArgs false
namespace Go.Proofs.Ytpankppliidaoaa
open Go Go.Den Go.Proofs
abbrev fu (_ : Unit) : Value := .agg ⟨[]⟩
instance {a b : Int} : EncV revV (.agg ⟨[.int .i64 a, .int .i64 b]⟩) (a, b) := ⟨rfl⟩
instance : EncV fu (.agg ⟨[]⟩) () := ⟨rfl⟩
instance {r : RevR} : Nth (revCells r) 0 (.int .i64 r.1) := ⟨rfl⟩
instance {r : RevR} : Nth (revCells r) 1 (.int .i64 r.2) := ⟨rfl⟩
instance : MapT Try.prog 128 revV fu (.agg ⟨[]⟩) := ⟨75, 129, und128, ⟨fun b k => revKey b k, fun k => ⟨eqR k, fun k' => by
    rw [eqR_rev]; exact Bool.eq_iff_iff.2 (by simp), fun es h => by
    refine findKey_struct und75 fun e he => ?_
    obtain ⟨x, hx⟩ := h e he
    rw [hx, eqR_rev]
    refine (pkT75 (a0 := k.1) (b0 := x.1) (a1 := k.2) (b1 := x.2)).trans ?_
    obtain ⟨a, b⟩ := k
    obtain ⟨c, d⟩ := x
    show some ((a == c) && ((b == d) && true)) = some ((a == c) && (b == d))
    simp⟩, fun k => by
    obtain ⟨a, b⟩ := k
    simp [Instr.sameBits, revV, revCells]⟩, zero129⟩
/-- A set of revisions out of a list. -/
def keepSet (l : List RevR) : List (RevR × Unit) := l.foldl (fun m r => mset m r ()) []
theorem mset_mem {m : List (RevR × Unit)} {r x : RevR} : (x ∈ (mset m r ()).map (·.1)) ↔ x = r ∨ x ∈ m.map (·.1) := by
  induction m with
  | nil => simp [mset]
  | cons a m ih =>
    obtain ⟨k, u⟩ := a
    unfold mset
    by_cases h : r = k
    · subst h; simp
    · rw [if_neg h]
      simp only [List.map_cons, List.mem_cons, ih]
      constructor
      · rintro (h1 | h1 | h1)
        · exact .inr (.inl h1)
        · exact .inl h1
        · exact .inr (.inr h1)
      · rintro (h1 | h1 | h1)
        · exact .inr (.inl h1)
        · exact .inl h1
        · exact .inr (.inr h1)
theorem keepSet_mem : ∀ (l : List RevR) (m : List (RevR × Unit)) (x : RevR), x ∈ (l.foldl (fun m r => mset m r ()) m).map (·.1) ↔ x ∈ l ∨ x ∈ m.map (·.1)
  | [], m, x => by simp
  | r :: l, m, x => by
    rw [List.foldl_cons, keepSet_mem l, mset_mem, List.mem_cons]
    constructor
    · rintro (h | h | h)
      · exact .inl (.inr h)
      · exact .inl (.inl h)
      · exact .inr h
    · rintro ((h | h) | h)
      · exact .inr (.inl h)
      · exact .inl h
      · exact .inr (.inr h)
theorem counts_set (compact rev : Int) (l : List RevR) (x : RowR) : countsB compact rev ((keepSet l).map (·.1)) x = countsB compact rev l x := by
  have h1 : ((keepSet l).map (·.1)).contains x.rev = l.contains x.rev := by
    rw [Bool.eq_iff_iff]
    simp only [List.contains_iff_mem]
    rw [keepSet, keepSet_mem]; simp
  have h2 : ((keepSet l).map (·.1)).isEmpty = l.isEmpty := by
    cases l with
    | nil => rfl
    | cons r l =>
      have : r ∈ (keepSet (r :: l)).map (·.1) := by rw [keepSet, keepSet_mem]; simp
      cases hk : (keepSet (r :: l)).map (·.1) with
      | nil => rw [hk] at this; cases this
      | cons a b => rfl
  unfold countsB
  rw [h1, h2]
theorem revMap_of {H : Heap} {l : List HP} {mb : Nat} {m : List (RevR × Unit)} (S : Sat H (mp revV fu mb m :: l)) : RevMap H mb (m.map (·.1)) := by
  obtain ⟨h, ⟨es, clk, hb, he, _, _⟩, hs, _⟩ := S.out
  refine ⟨es, clk, hs _ _ hb, ?_, fun e h1 => ?_⟩
  · have := congrArg (List.map Prod.fst) he
    simpa [Function.comp_def] using this
  · have : (e.key, e.val) ∈ es.toList.map (fun e => (e.key, e.val)) := List.mem_map_of_mem h1
    rw [he] at this
    obtain ⟨x, _, hx⟩ := List.mem_map.1 this
    injection hx with a b
    exact b.symm
theorem keep_loop {H0 : Heap} {compact rev : Int} {xr : Option Addr} {xn xc : Nat} {p : Option Addr} {c : Nat} {ks : List RevR} [R0 : RowsC H0 p revCells 2 ks] (hm : ks.length ≤ 1000000) {mb : Nat} {R : Ending → Heap → Prop}
    (k : ∀ H, Sat H [mp revV fu mb (keepSet ks), old H0] → F51.L0 compact rev xr xn xc mb p ks.length c (ks.length : Int) (ks.length : Int) H R) :
    ∀ (d i : Nat) (H : Heap), i + d = ks.length → Sat H [mp revV fu mb (keepSet (ks.take i)), old H0] → F51.L0 compact rev xr xn xc mb p ks.length c (ks.length : Int) (i : Int) H R := by
  intro d
  induction d with
  | zero =>
    intro i H hi S
    have : i = ks.length := by omega
    subst this
    rw [List.take_length] at S
    exact k H S
  | succ d ih =>
    intro i H hi S
    obtain ⟨r, hr⟩ := get_of (l := ks) (i := i) (by omega)
    have X := HasI.nat hr
    refine F51.L0_step ?_
    unfold F51.L0n
    refine iteB_t (by simp; omega) ?_
    refine R0.idx rfl ⟨by omega, by omega, ?_⟩
    rintro ad rfl
    (repeat (first | (refine Step.go ?_; intros) | refine iteB_t (by decide) ?_ | refine iteB_f (by decide) ?_ | (refine Duo.mk (by first | omega | exact rfl | decide) ?_; intros) | (refine Duo.mk (Clo.mk (by kernel_rfl)) ?_; intros)))
    rw [wrap64_small (by omega) (by omega)]
    have e : keepSet (ks.take (i + 1)) = mset (keepSet (ks.take i)) (r.1, r.2) () := by rw [List.take_add_one, hr]; simp [keepSet]
    refine ih (i + 1) _ (by omega) ?_
    rw [e]
    exact Sat.fin
theorem name_ok (H : Heap) (l : List HP) (S : Sat H l) : CallsH Try.prog 106 ⟨[.agg ⟨[.int .i64 1, .string (ByteArray.mk #[107, 101, 121]), .bool true]⟩]⟩ H (fun e H1 => ∃ r c, e = .returned (.slice (some ⟨r, 0, none⟩) 3 c) ∧ cellsAt H1 (some ⟨r, 0, none⟩) (u8v [107, 101, 121]) ∧ Sat H1 l) := by
  refine F106.calls ?_
  unfold F106.go
  (repeat (first | (refine Step.go ?_; intros) | refine iteB_t (by decide) ?_ | refine iteB_f (by decide) ?_ | (refine Duo.mk (by first | omega | exact rfl | decide) ?_; intros) | (refine Duo.mk (Clo.mk (by kernel_rfl)) ?_; intros)))
  rename_i r c _ _ S1
  refine ⟨_, _, rfl, ?_, Sat.fin⟩
  intro j v hj
  refine ⟨_, rfl, ?_⟩
  rw [add_mk, Nat.zero_add]
  refine hcell_of S1.obj ?_
  rw [List.getElem?_append_left]
  · exact hj
  · exact lt_of hj
theorem newHasher_ok (compact rev : Int) (mb : Nat) (H : Heap) (l : List HP) (S : Sat H l) : CallsH Try.prog 68 ⟨[.int .i64 compact, .int .i64 rev, .map (some mb)]⟩ H
    (fun e H1 => ∃ sb, e = .returned (.agg ⟨[.pointer (some ⟨sb, 0, none⟩), .int .i64 compact, .int .i64 rev, .map (some mb)]⟩) ∧ Sat H1 (pt sb (.cells ⟨[.int .u32 (crcUpd 0 [107, 101, 121])]⟩ 161) :: l)) := by
  refine F68.calls ?_
  unfold F68.go
  (repeat (first | (refine Step.go ?_; intros) | refine iteB_t (by decide) ?_ | refine iteB_f (by decide) ?_ | (refine Duo.mk (by first | omega | exact rfl | decide) ?_; intros) | (refine Duo.mk (Clo.mk (by kernel_rfl)) ?_; intros)))
  rename_i r H1 S1
  refine call_of (S := fun e H2 => ∃ sb, e = .returned (.pointer (some ⟨sb, 0, none⟩)) ∧ Sat H2 (pt sb (.cells ⟨[.int .u32 0]⟩ 161) :: pt r (.cells ⟨[.pointer none, .int .i64 0, .int .i64 0, .map none]⟩ 132) :: l)) (F79.calls ?_) ?_
  · unfold F79.go
    (repeat (first | (refine Step.go ?_; intros) | refine iteB_t (by decide) ?_ | refine iteB_f (by decide) ?_ | (refine Duo.mk (by first | omega | exact rfl | decide) ?_; intros) | (refine Duo.mk (Clo.mk (by kernel_rfl)) ?_; intros)))
    exact ⟨_, rfl, Sat.fin⟩
  rintro e H2 ⟨sb, rfl, S2⟩
  (repeat (first | (refine Step.go ?_; intros) | refine iteB_t (by decide) ?_ | refine iteB_f (by decide) ?_ | (refine Duo.mk (by first | omega | exact rfl | decide) ?_; intros) | (refine Duo.mk (Clo.mk (by kernel_rfl)) ?_; intros)))
  refine gives_i S2 (F81.calls (R := Gives (.iface 164 (.agg ⟨[.int .i64 1, .string (ByteArray.mk #[107, 101, 121]), .bool true]⟩)) H2) ⟨rfl, .refl _⟩) ?_
  intro H3 _ S3
  (repeat (first | (refine Step.go ?_; intros) | refine iteB_t (by decide) ?_ | refine iteB_f (by decide) ?_ | (refine Duo.mk (by first | omega | exact rfl | decide) ?_; intros) | (refine Duo.mk (Clo.mk (by kernel_rfl)) ?_; intros)))
  refine callI_val (f := 106) (by kernel_rfl) (by kernel_rfl) (by kernel_rfl) ?_
  refine call_of (name_ok H3 _ S3) ?_
  rintro e H4 ⟨nr, nc, rfl, hn, S4⟩
  (repeat (first | (refine Step.go ?_; intros) | refine iteB_t (by decide) ?_ | refine iteB_f (by decide) ?_ | (refine Duo.mk (by first | omega | exact rfl | decide) ?_; intros) | (refine Duo.mk (Clo.mk (by kernel_rfl)) ?_; intros)))
  refine call_of (crc_ok sb 0 161 (some ⟨nr, 0, none⟩) nc [107, 101, 121] (by simp) H4 S4.obj hn) ?_
  rintro e H5 ⟨rfl, u⟩
  have S5 := S4.put (r := sb) (inferInstance) u
  (repeat (first | (refine Step.go ?_; intros) | refine iteB_t (by decide) ?_ | refine iteB_f (by decide) ?_ | (refine Duo.mk (by first | omega | exact rfl | decide) ?_; intros) | (refine Duo.mk (Clo.mk (by kernel_rfl)) ?_; intros)))
  exact ⟨sb, rfl, Sat.fin⟩
end Go.Proofs.Ytpankppliidaoaa
