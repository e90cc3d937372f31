/- What functions of this seat do, each proved by a walk; no condition. -/
import Derived.Test.YtpankppliidaoaaT35
set_option linter.unusedVariables false
set_option linter.unusedSimpArgs false
namespace Go.Proofs.Ytpankppliidaoaa
open Go Go.Den Go.Proofs
structure RowR where
  rev : RevR
  gone : Bool
  kv : KVr
def RowR.cells (r : RowR) : List Value := [.int .i64 r.rev.1, .int .i64 r.rev.2, .bool r.gone] ++ r.kv.cells
/-- A row of the store: its cells, with the key-value at block b. -/
def zzCells (y : RowR × Nat) : List Value := [.int .i64 y.1.rev.1, .int .i64 y.1.rev.2, .bool y.1.gone, .pointer (some ⟨y.2, 0, none⟩)]
theorem rowsIn_loop (p : Option Addr) (n c : Nat) (l : List RowR) (hn : n = l.length) (hm : n ≤ 100000) (hl : ∀ x ∈ l, okKV x.kv) (H0 : Heap) (hR : RowsAt RowR.cells 9 H0 p l) :
    ∀ (d i : Nat) (q : Option Addr) (qc : Nat) (zl : List (RowR × Nat)) (H : Heap), i + d = n → Grow H0 Nn H [] 142 4 q i qc (zl.flatMap zzCells) → zl.map (·.1) = l.take i → (∀ y ∈ zl, KVat H (isp q) y.2 y.1.kv) →
      F53.L0 p n c q i qc (i : Int) H (fun e H1 => ∃ (q' : Option Addr) (qc' : Nat) (zl' : List (RowR × Nat)), e = .returned (.slice q' n qc') ∧ Grow H0 Nn H1 [] 142 4 q' n qc' (zl'.flatMap zzCells) ∧ zl'.map (·.1) = l ∧ ∀ y ∈ zl', KVat H1 (isp q') y.2 y.1.kv) := by
  intro d
  induction d with
  | zero =>
    intro i q qc zl H hi g hz hk
    refine F53.L0_step ?_
    unfold F53.L0n
    refine iteB_i (fun h => by simp at h; omega) (fun _ => ?_)
    obtain rfl : i = n := by omega
    rw [List.take_of_length_le (by omega)] at hz
    exact ⟨q, qc, zl, rfl, g, hz, hk⟩
  | succ d ih =>
    intro i q qc zl H hi g hz hk
    refine F53.L0_step ?_
    unfold F53.L0n
    refine iteB_i (fun _ => ?_) (fun h => by simp at h; omega)
    have hR' := hR.ext g.st.ext
    have hil : i < l.length := by omega
    have hxl : l[i]? = some l[i] := List.getElem?_eq_getElem hil
    generalize l[i] = x at hxl
    have same : ∀ y : RowR, l[(i : Int).toNat]? = some y → y = x := by
      intro y hy
      have hy' : l[i]? = some y := hy
      rw [hxl] at hy'; injection hy' with hy'; exact hy'.symm
    refine hR'.idx hn (by omega) (by omega) ?_
    intro a y1 h1 hc1
    obtain rfl := same y1 h1
    refine hR'.idx hn (by omega) (by omega) ?_
    intro a1 y2 h2 hc2
    have e2 := same y2 h2
    refine hR'.idx hn (by omega) (by omega) ?_
    intro a2 y3 h3 hc3
    have e3 := same y3 h3
    rw [e2] at hc2
    rw [e3] at hc3
    refine ⟨_, at_zero hc1 rfl, _, hc1 1 _ rfl, _, hc2 2 _ rfl, ?_⟩
    simp only [add_add']
    simp only [add_add'] at hc3
    refine ⟨_, hc3 3 _ rfl, _, hc3 4 _ rfl, _, hc3 5 _ rfl, _, hc3 6 _ rfl, _, hc3 7 _ rfl, _, hc3 8 _ rfl, ?_⟩
    refine callD_i (revIn_ok y1.rev.1 y1.rev.2 H) ?_
    rintro e H1 ⟨rfl, E1⟩
    repeat (first
    | (refine andD_i E1 ?_)
    | (refine St.new L ?_; intro _r _H L)
    | refine tInt_i ?_
    | refine tBool_i ?_
    | refine tStr_i ?_
    | refine tPtr_i ?_
    | refine tSl_i ?_
    | refine tMap_i ?_
    | refine tIf_nil ?_
    | refine tIf_mk ?_
    | refine tIf_i ?_
    | refine tFn_mk ?_
    | refine tFn_i ?_
    | refine tAgg_i ?_
    | refine tTup_i ?_
    | refine tCons_i ?_
    | refine tNil_i ?_
    | refine andD_i (by assumption) ?_
    | refine nilD_i ?_)
    refine callD_i (zzBucketKey_ok y1.rev.1 y1.rev.2 y1.gone H1) ?_
    rintro e H2 ⟨rfl, E2⟩
    repeat (first
    | (refine andD_i E2 ?_)
    | (refine St.new L ?_; intro _r _H L)
    | refine tInt_i ?_
    | refine tBool_i ?_
    | refine tStr_i ?_
    | refine tPtr_i ?_
    | refine tSl_i ?_
    | refine tMap_i ?_
    | refine tIf_nil ?_
    | refine tIf_mk ?_
    | refine tIf_i ?_
    | refine tFn_mk ?_
    | refine tFn_i ?_
    | refine tAgg_i ?_
    | refine tTup_i ?_
    | refine tCons_i ?_
    | refine tNil_i ?_
    | refine andD_i (by assumption) ?_
    | refine nilD_i ?_)
    have g2 := (g.extend E1).extend E2
    refine callD_i (kvIn_ok y1.kv (hl y1 (List.mem_of_getElem? hxl)) H2 q (fun j hj => g2.lt hj)) ?_
    rintro e H3 ⟨b, rfl, E3, kb⟩
    refine tPtr_i ?_
    have g3 := g2.extend E3
    refine g3.new ?_
    intro r H4 hr E4 g4
    have hb := (g4.st.own 0 _ _ rfl).2
    refine ⟨zzCells (y1, b), rfl, fun j v hj => ⟨_, rfl, ?_⟩, ?_⟩
    · rw [add_mk, Nat.zero_add]; exact hcell_of hb hj
    refine Grow.app g4 rfl (by decide) (by omega) rfl (by decide) (by intro v hv; simp [zzCells] at hv; rcases hv with rfl | rfl | rfl | rfl <;> rfl) ?_
    intro q' qc' H5 g5 G
    have e1 : IntKind.wrap .i64 ((i : Int) + (1 : Int)) = ((i + 1 : Nat) : Int) := by rw [wrap64_small (by omega) (by omega)]; rfl
    rw [e1]
    refine ih (i + 1) q' qc' (zl ++ [(y1, b)]) H5 (by omega) ?_ ?_ ?_
    · rw [List.flatMap_append]
      simpa using g5.tail
    · rw [take_succ_of hxl, List.map_append, hz]; rfl
    · intro y hy
      rcases List.mem_append.1 hy with hy | hy
      · exact ((hk y hy).ext (((E1.trans E2).trans E3).trans E4)).chg G
      · simp at hy; subst hy; exact (kb.ext E4).chg G
theorem rowsIn_ok (p : Option Addr) (n c : Nat) (l : List RowR) (hn : n = l.length) (hm : n ≤ 100000) (hl : ∀ x ∈ l, okKV x.kv) (H : Heap) (hR : RowsAt RowR.cells 9 H p l) :
    CallsH Try.prog 53 ⟨[.slice p n c]⟩ H (fun e H1 => ∃ (q : Option Addr) (qc : Nat) (zl : List (RowR × Nat)), e = .returned (.slice q n qc) ∧ ExtH H H1 ∧ RowsAt zzCells 4 H1 q zl ∧ zl.map (·.1) = l ∧ ∀ y ∈ zl, KVat H1 Nn y.2 y.1.kv) := by
  refine F53.calls ?_
  unfold F53.go
  refine GoL.mono (rowsIn_loop p n c l hn hm hl H hR n 0 none 0 [] H (by omega) (.nil (St.start H)) rfl (by simp)) ?_
  rintro e H1 ⟨q, qc, zl, rfl, g, hz, hk⟩
  exact ⟨q, qc, zl, rfl, g.st.ext, (g.rows (fun x => rfl) (by decide)).1, hz, fun y hy => (hk y hy).more (fun i _ h => h.elim)⟩
end Go.Proofs.Ytpankppliidaoaa
