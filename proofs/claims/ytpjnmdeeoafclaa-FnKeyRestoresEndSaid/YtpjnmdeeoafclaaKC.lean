/- What functions of this seat do, each proved by a walk; no condition. -/
import Derived.Test.YtpjnmdeeoafclaaKB
set_option linter.unusedVariables false
namespace Go.Proofs.Ytpjnmdeeoafclaa
open Go Go.Den Go.Proofs
/-! A key's index in memory. -/
abbrev Rv := Int × Int
abbrev rvC (r : Rv) : List Value := [.int .i64 r.1, .int .i64 r.2]
instance {a b : Int} : Enc rvC [.int .i64 a, .int .i64 b] (a, b) := ⟨rfl⟩
structure GS where
  ver : Int
  cr : Rv
  p : Option Addr
  n : Nat
  c : Nat
abbrev GS.cells (g : GS) : List Value := [.int .i64 g.ver, .int .i64 g.cr.1, .int .i64 g.cr.2, .slice g.p g.n g.c]
instance {a b c : Int} {p : Option Addr} {n k : Nat} : Enc GS.cells [.int .i64 a, .int .i64 b, .int .i64 c, .slice p n k] ⟨a, (b, c), p, n, k⟩ := ⟨rfl⟩
/-- A generation as it stands, and its revisions. -/
abbrev GX := GS × List Rv
abbrev rvs (_ : Nat) (x : GX) : HP := sl rvC 60 2 x.1.p x.1.n x.1.c x.2
abbrev gsl (p : Option Addr) (n c : Nat) (X : List GX) : HP := sl GS.cells 105 4 p n c (X.map (·.1))
abbrev kiB (kb : Nat) (key : Value) (md : Rv) (p : Option Addr) (n c : Nat) : HP := pt kb (.cells ⟨[key, .int .i64 md.1, .int .i64 md.2, .slice p n c]⟩ 110)
abbrev kis (kb : Nat) (key : Value) (md : Rv) (p : Option Addr) (n c : Nat) (X : List GX) (l : List HP) : List HP := kiB kb key md p n c :: gsl p n c X :: star (bigs rvs 0 X) :: l
def gtB (a b : Rv) : Bool := decide (a.1 > b.1) || (decide (a.1 = b.1) && decide (a.2 > b.2))
theorem gt_ok (a b : Rv) (H : Heap) : CallsH Try.prog 67 ⟨[.agg ⟨[.int .i64 a.1, .int .i64 a.2]⟩, .agg ⟨[.int .i64 b.1, .int .i64 b.2]⟩]⟩ H (Gives (.bool (gtB a b)) H) := by
  refine F67.calls ?_
  unfold F67.go
  have S := Sat.start H
  (repeat (first | (refine Step.go ?_; intros) | refine iteB_t (by decide) ?_ | refine iteB_f (by decide) ?_ | (refine Duo.mk (by first | omega | exact rfl | decide) ?_; intros) | (refine Duo.mk (Clo.mk (by kernel_rfl)) ?_; intros)))
  refine iteB_i (fun h => ?_) (fun h => ?_)
  · exact ⟨by unfold gtB; rw [h]; rfl, Sat.grown⟩
  · (repeat (first | (refine Step.go ?_; intros) | refine iteB_t (by decide) ?_ | refine iteB_f (by decide) ?_ | (refine Duo.mk (by first | omega | exact rfl | decide) ?_; intros) | (refine Duo.mk (Clo.mk (by kernel_rfl)) ?_; intros)))
    refine iteB_i (fun h2 => ?_) (fun h2 => ?_)
    · simp at h h2
      exact ⟨by rw [show gtB a b = false by unfold gtB; rw [decide_eq_false (p := a.1 > b.1) (by omega), decide_eq_false (p := a.1 = b.1) (by omega)]; rfl], Sat.grown⟩
    · (repeat (first | (refine Step.go ?_; intros) | refine iteB_t (by decide) ?_ | refine iteB_f (by decide) ?_ | (refine Duo.mk (by first | omega | exact rfl | decide) ?_; intros) | (refine Duo.mk (Clo.mk (by kernel_rfl)) ?_; intros)))
      simp at h h2
      exact ⟨by rw [show gtB a b = decide (a.2 > b.2) by unfold gtB; rw [decide_eq_false (p := a.1 > b.1) (by omega), decide_eq_true (p := a.1 = b.1) (by omega)]; rfl], Sat.grown⟩
theorem wr {i : Int} (h0 : -9223372036854775808 ≤ i) (h1 : i < 9223372036854775808) : IntKind.wrap .i64 i = i := wr64 h0 h1
section
variable {kb : Nat} {key : Value} {md : Rv} {p : Option Addr} {n c : Nat} {X : List GX} {l : List HP} {H : Heap}
theorem kis_len (S : Sat H (kis kb key md p n c X l)) : X.length = n ∧ n ≤ c := by
  have := S.slLen (List.mem_cons_of_mem _ (List.mem_cons_self ..))
  simpa using this
theorem hasX {i : Nat} {x : GX} (h : X[i]? = some x) : HasI (X.map (·.1)) (i : Int) x.1 := ⟨by simp [h]⟩
theorem atX' {i : Nat} {x : GX} (h : X[i]? = some x) : SlAt x.1.p (bigs rvs 0 X) (sl rvC 60 2 x.1.p x.1.n x.1.c x.2) := .of (by have := bigs_mem (f := rvs) (k := 0) h; exact this)
/-- What stands of a generation. -/
def gx (x : GX) : Int × Rv × List Rv := (x.1.ver, x.1.cr, x.2)
/-- The last generation stands by itself. -/
abbrev kil (kb : Nat) (key : Value) (md : Rv) (p : Option Addr) (n c : Nat) (X : List GX) (g : GS) (rs : List Rv) (l : List HP) : List HP := kiB kb key md p n c :: sl GS.cells 105 4 p n c (X.map (·.1) ++ [g]) :: sl rvC 60 2 g.p g.n g.c rs :: star (bigs rvs 0 X) :: l
theorem to_kil {X0 : List GX} {g : GS} {rs : List Rv} : Ent (kis kb key md p n c (X0 ++ [(g, rs)]) l) (kil kb key md p n c X0 g rs l) := by
  unfold kis kil gsl
  rw [List.map_append]
  refine .cons (.cons ?_)
  rw [bigs_append]
  refine Ent.trans (.starPerm (List.perm_append_comm)) ?_
  exact Ent.starCons
theorem of_kil {X0 : List GX} {g : GS} {rs : List Rv} : Ent (kil kb key md p n c X0 g rs l) (kis kb key md p n c (X0 ++ [(g, rs)]) l) := by
  unfold kis kil gsl
  rw [List.map_append]
  refine .cons (.cons ?_)
  rw [bigs_append]
  refine Ent.trans (Ent.consStar) ?_
  exact .starPerm (List.perm_append_comm (l₁ := [rvs (0 + X0.length) (g, rs)]))
theorem hasLast {α : Type} {xs : List α} {x : α} {n : Nat} {i : Int} (h : xs.length + 1 = n) (hi : i = (n : Int) - 1) : HasI (xs ++ [x]) i x := ⟨by
  have : i.toNat = xs.length := by omega
  rw [this]; simp⟩
instance {α : Type} {xs : List α} {i : Int} {x y : α} [h : HasI xs i x] : HasI (xs.set (Int.toNat i) y) i y := ⟨by
  have := lt_of h.out
  rw [List.getElem?_set_self this]⟩
theorem set_last {α : Type} {xs : List α} {x y : α} {i : Nat} (h : i = xs.length) : (xs ++ [x]).set i y = xs ++ [y] := by subst h; simp
/-- The last generation takes a revision. -/
def putG (x : Int × Rv × List Rv) (rev : Rv) : Int × Rv × List Rv := (x.1 + 1, if x.2.2 = [] then rev else x.2.1, x.2.2 ++ [rev])
theorem kil_len {X0 : List GX} {g : GS} {rs : List Rv} (S : Sat H (kil kb key md p n c X0 g rs l)) : X0.length + 1 = n ∧ rs.length = g.n ∧ n ≤ c := by
  have h1 := S.slLen (List.mem_cons_of_mem _ (List.mem_cons_self ..))
  have h2 := S.slLen (List.mem_cons_of_mem _ (List.mem_cons_of_mem _ (List.mem_cons_self ..)))
  simp at h1
  exact ⟨h1.1, h2.1, h1.2⟩
theorem put_app {X0 : List GX} {g : GS} {rs : List Rv} {rev : Rv} {rb r o : Nat} (hv : -4611686018427387904 ≤ g.ver ∧ g.ver < 4611686018427387904) (hn : n < 1000000) (hrs : rs.length < 1000000) (S : Sat H (pt rb (.cells ⟨rvC rev⟩ 60) :: kil kb key md (some ⟨r, o, none⟩) n c X0 g rs l)) :
    F55.L2 (some ⟨kb, 0, none⟩) rb (Addr.add ⟨r, o, none⟩ (Int.toNat (IntKind.wrap .i64 ((n : Int) - 1)) * 4)) H (fun e H1 => ∃ q' m' k', e = .returned (.tuple ⟨[]⟩) ∧ Sat H1 (kil kb key rev (some ⟨r, o, none⟩) n c X0 ⟨g.ver + 1, g.cr, q', m', k'⟩ (rs ++ [rev]) l)) := by
  obtain ⟨e1, e2, e3⟩ := kil_len (S.to (Ent.drop .refl))
  have w1 : IntKind.wrap .i64 ((n : Int) - 1) = (n : Int) - 1 := wr (by omega) (by omega)
  have w2 : IntKind.wrap .i64 (g.ver + 1) = g.ver + 1 := wr (by omega) (by omega)
  have A (y : GS) : HasI (X0.map (·.1) ++ [y]) (IntKind.wrap .i64 ((n : Int) - 1)) y := hasLast (by simpa using e1) w1
  refine F55.L2_step ?_
  unfold F55.L2n
  have A1 := A g
  (repeat (first | (refine Step.go ?_; intros) | refine iteB_t (by decide) ?_ | refine iteB_f (by decide) ?_ | (refine Duo.mk (by first | omega | exact rfl | decide) ?_; intros) | (refine Duo.mk (Clo.mk (by kernel_rfl)) ?_; intros)))
  rename_i q' k' _ _ _ _ _ _ _ _ H1 S1
  refine ⟨q', g.n + 1, k', rfl, Sat.to S1 ?_⟩
  rw [List.set_set, set_last (by rw [w1, List.length_map]; omega), w2]
  exact Fits.out
theorem put_last {X0 : List GX} {g : GS} {rs : List Rv} {rev : Rv} {rb : Nat} (hv : -4611686018427387904 ≤ g.ver ∧ g.ver < 4611686018427387904) (hn : n < 1000000) (hrs : rs.length < 1000000) (S : Sat H (pt rb (.cells ⟨rvC rev⟩ 60) :: kil kb key md p n c X0 g rs l)) :
    F55.L1 (some ⟨kb, 0, none⟩) rb H (fun e H1 => ∃ g', e = .returned (.tuple ⟨[]⟩) ∧ gx (g', rs ++ [rev]) = putG (g.ver, g.cr, rs) rev ∧ Sat H1 (kil kb key rev p n c X0 g' (rs ++ [rev]) l)) := by
  obtain ⟨e1, e2, e3⟩ := kil_len (S.to (Ent.drop .refl))
  have w1 : IntKind.wrap .i64 ((n : Int) - 1) = (n : Int) - 1 := wr (by omega) (by omega)
  have A (y : GS) : HasI (X0.map (·.1) ++ [y]) (IntKind.wrap .i64 ((n : Int) - 1)) y := hasLast (by simpa using e1) w1
  refine F55.L1_step ?_
  unfold F55.L1n
  have A1 := A g
  (repeat (first | (refine Step.go ?_; intros) | refine iteB_t (by decide) ?_ | refine iteB_f (by decide) ?_ | (refine Duo.mk (by first | omega | exact rfl | decide) ?_; intros) | (refine Duo.mk (Clo.mk (by kernel_rfl)) ?_; intros)))
  refine S.idx ⟨by omega, by omega, ?_⟩
  rintro r o rfl
  (repeat (first | (refine Step.go ?_; intros) | refine iteB_t (by decide) ?_ | refine iteB_f (by decide) ?_ | (refine Duo.mk (by first | omega | exact rfl | decide) ?_; intros) | (refine Duo.mk (Clo.mk (by kernel_rfl)) ?_; intros)))
  refine iteB_i (fun h => ?_) (fun h => ?_)
  · simp at h
    have h0 : rs = [] := List.eq_nil_of_length_eq_zero (by omega)
    (repeat (first | (refine Step.go ?_; intros) | refine iteB_t (by decide) ?_ | refine iteB_f (by decide) ?_ | (refine Duo.mk (by first | omega | exact rfl | decide) ?_; intros) | (refine Duo.mk (Clo.mk (by kernel_rfl)) ?_; intros)))
    rename_i _ _ H2 S2
    have S3 : Sat H2 (pt rb (.cells ⟨rvC rev⟩ 60) :: kil kb key md (some ⟨r, o, none⟩) n c X0 ⟨g.ver, rev, g.p, g.n, g.c⟩ rs l) := S2.to (by
      rw [List.set_set, set_last (by rw [w1, List.length_map]; omega)]
      exact Fits.out)
    refine GoL.mono (put_app (g := ⟨g.ver, rev, g.p, g.n, g.c⟩) (rs := rs) hv hn hrs S3) ?_
    rintro e H1 ⟨q', m', k', rfl, S1⟩
    exact ⟨_, rfl, by unfold gx putG; simp [h0], S1⟩
  · simp at h
    refine GoL.mono (put_app hv hn hrs S) ?_
    rintro e H1 ⟨q', m', k', rfl, S1⟩
    refine ⟨_, rfl, ?_, S1⟩
    unfold gx putG
    rw [if_neg]
    intro h0; simp at h0; rw [h0] at e2; simp at e2; omega
end
end Go.Proofs.Ytpjnmdeeoafclaa
