/- What functions of this seat do, each proved by a walk; no condition. -/
import Derived.Test.YtpankppliidaoaaT34
import Derived.Test.YtpankppliidaoaaT13
set_option linter.unusedVariables false
set_option linter.unusedSimpArgs false
namespace Go.Proofs.Ytpankppliidaoaa
open Go Go.Den Go.Proofs
abbrev RevR := Int × Int
def revCells (r : RevR) : List Value := [.int .i64 r.1, .int .i64 r.2]
theorem revsIn_loop (p : Option Addr) (n c : Nat) (l : List RevR) (hn : n = l.length) (hm : n ≤ 100000) (H0 : Heap) (hR : RowsAt revCells 2 H0 p l) :
    ∀ (d i : Nat) (q : Option Addr) (qc : Nat) (H : Heap), i + d = n → Grow H0 Nn H [] 75 2 q i qc ((l.take i).flatMap revCells) →
      F52.L0 p n c q i qc (i : Int) H (fun e H1 => ∃ q' qc', e = .returned (.slice q' n qc') ∧ Grow H0 Nn H1 [] 75 2 q' n qc' (l.flatMap revCells)) := by
  intro d
  induction d with
  | zero =>
    intro i q qc H hi g
    refine F52.L0_step ?_
    unfold F52.L0n
    refine iteB_i (fun h => by simp at h; omega) (fun _ => ?_)
    obtain rfl : i = n := by omega
    rw [List.take_of_length_le (by omega)] at g
    exact ⟨q, qc, rfl, g⟩
  | succ d ih =>
    intro i q qc H hi g
    refine F52.L0_step ?_
    unfold F52.L0n
    refine iteB_i (fun _ => ?_) (fun h => by simp at h; omega)
    refine (hR.ext g.st.ext).idx hn (by omega) (by omega) ?_
    intro a x hx hc
    have hxl : l[i]? = some x := hx
    refine ⟨_, at_zero hc rfl, _, hc 1 _ rfl, ?_⟩
    refine callD_i (revIn_ok x.1 x.2 H) ?_
    rintro e H1 ⟨rfl, E1⟩
    repeat (first
    | (refine St.new L ?_; intro _r _H L)
    | refine tInt_i ?_
    | refine tBool_i ?_
    | refine tStr_i ?_
    | refine tPtr_i ?_
    | refine tSl_i ?_
    | refine tMap_i ?_
    | refine tIf_nil ?_
    | refine tIf_mk ?_
    | refine tIf_i ?_
    | refine tFn_mk ?_
    | refine tFn_i ?_
    | refine tAgg_i ?_
    | refine tTup_i ?_
    | refine tCons_i ?_
    | refine tNil_i ?_
    | refine andD_i (by assumption) ?_
    | refine nilD_i ?_)
    have g1 := g.extend E1
    refine g1.new ?_
    intro r H2 hr E2 g2
    have hb := (g2.st.own 0 _ _ rfl).2
    refine ⟨revCells x, rfl, fun j v hj => ⟨_, rfl, ?_⟩, ?_⟩
    · rw [add_mk, Nat.zero_add]; exact hcell_of hb hj
    refine Grow.app g2 rfl (by decide) (by omega) rfl (by decide) (by intro v hv; simp [revCells] at hv; rcases hv with rfl | rfl <;> rfl) ?_
    intro q' qc' H3 g3 _
    have e1 : IntKind.wrap .i64 ((i : Int) + (1 : Int)) = ((i + 1 : Nat) : Int) := by rw [wrap64_small (by omega) (by omega)]; rfl
    rw [e1]
    refine ih (i + 1) q' qc' H3 (by omega) ?_
    rw [take_succ_of hxl, List.flatMap_append]
    simpa using g3.tail
theorem revsIn_ok (p : Option Addr) (n c : Nat) (l : List RevR) (hn : n = l.length) (hm : n ≤ 100000) (H : Heap) (hR : RowsAt revCells 2 H p l) :
    CallsH Try.prog 52 ⟨[.slice p n c]⟩ H (fun e H1 => ∃ q qc, e = .returned (.slice q n qc) ∧ ExtH H H1 ∧ RowsAt revCells 2 H1 q l) := by
  refine F52.calls ?_
  unfold F52.go
  refine GoL.mono (revsIn_loop p n c l hn hm H hR n 0 none 0 H (by omega) (.nil (St.start H))) ?_
  rintro e H1 ⟨q, qc, rfl, g⟩
  exact ⟨q, qc, rfl, g.st.ext, (g.rows (fun x => rfl) (by decide)).1⟩
end Go.Proofs.Ytpankppliidaoaa
