/- What functions of this seat do, each proved by a walk; no condition. -/
import Derived.Test.YtpankppliidaoaaT37
set_option linter.unusedVariables false
set_option linter.unusedSimpArgs false
namespace Go.Proofs.Ytpankppliidaoaa
open Go Go.Den Go.Proofs
def ban2 (p q : Option Addr) : Nat → Prop := fun i => isp p i ∨ isp q i
theorem zzRows_loop (p : Option Addr) (n c : Nat) (zl : List (RowR × Nat)) (hn : n = zl.length) (hm : n ≤ 100000) (H0 : Heap) (hR : RowsAt zzCells 4 H0 p zl) (hkv : ∀ y ∈ zl, KVat H0 Nn y.2 y.1.kv) (hsz : ∀ y ∈ zl, y.1.kv.k.size ≤ 100000 ∧ y.1.kv.v.size ≤ 100000) :
    ∀ (d i : Nat) (kp vp : Option Addr) (kc vc : Nat) (kl : List KV2) (H : Heap), i + d = n → Grow H0 Nn H [] 39 1 kp i kc (kl.flatMap KV2.key) → Grow H0 Nn H [] 39 1 vp i vc (kl.flatMap KV2.val) → (∀ j, kp = some ⟨j, 0, none⟩ → vp ≠ some ⟨j, 0, none⟩) →
      kl.map KV2.row = (zl.take i).map (·.1) → (∀ y ∈ kl, y.At H (ban2 kp vp)) →
      F69.L0 kp i kc vp i vc p n c (n : Int) (i : Int) H (fun e H1 => ∃ (kp' vp' : Option Addr) (kc' vc' : Nat) (kl' : List KV2), e = .returned (.tuple ⟨[.slice kp' n kc', .slice vp' n vc']⟩) ∧ ExtH H0 H1 ∧ RowsAt KV2.key 1 H1 kp' kl' ∧ RowsAt KV2.val 1 H1 vp' kl' ∧ kl'.map KV2.row = zl.map (·.1) ∧ ∀ y ∈ kl', y.At H1 Nn) := by
  intro d
  induction d with
  | zero =>
    intro i kp vp kc vc kl H hi gk gv hne hz hk
    refine F69.L0_step ?_
    unfold F69.L0n
    refine iteB_i (fun h => by simp at h; omega) (fun _ => ?_)
    obtain rfl : i = n := by omega
    rw [List.take_of_length_le (by omega)] at hz
    exact ⟨kp, vp, kc, vc, kl, rfl, gk.st.ext, (gk.rows (fun x => rfl) (by decide)).1, (gv.rows (fun x => rfl) (by decide)).1, hz, fun y hy => (hk y hy).chg fun j hj hn => ⟨rfl, id⟩⟩
  | succ d ih =>
    intro i kp vp kc vc kl H hi gk gv hne hz hk
    refine F69.L0_step ?_
    unfold F69.L0n
    refine iteB_i (fun _ => ?_) (fun h => by simp at h; omega)
    refine (hR.ext gk.st.ext).idx hn (by omega) (by omega) ?_
    intro a x hx hc
    have hxl : zl[i]? = some x := hx
    have hxm := List.mem_of_getElem? hxl
    refine ⟨_, at_zero hc rfl, _, hc 1 _ rfl, _, hc 2 _ rfl, _, hc 3 _ rfl, ?_⟩
    have L := St.start H
    repeat (first
    | (refine St.new L ?_; intro _r _H L)
    | refine St.int L 0 rfl rfl ?_
    | refine St.bool L 0 rfl rfl ?_
    | refine St.str L 0 rfl rfl ?_
    | refine St.ptr L 0 rfl rfl ?_
    | refine St.sl L 0 rfl rfl ?_
    | refine St.map L 0 rfl rfl ?_
    | refine St.ifmk L 0 rfl rfl ?_
    | refine St.ifnil L 0 rfl rfl ?_
    | refine St.ifv L 0 rfl rfl ?_
    | refine St.fnmk L 0 rfl rfl ?_
    | refine St.fnv L 0 rfl rfl ?_
    | (refine St.st L 0 rfl rfl (by first | rfl | exact isCell_IV _ | exact isCell_FV _) ?_; intro _H L)
    | refine tInt_i ?_
    | refine tBool_i ?_
    | refine tStr_i ?_
    | refine tPtr_i ?_
    | refine tSl_i ?_
    | refine tMap_i ?_
    | refine tIf_nil ?_
    | refine tIf_mk ?_
    | refine tIf_i ?_
    | refine tFn_mk ?_
    | refine tFn_i ?_
    | refine tAgg_i ?_
    | refine tTup_i ?_
    | refine tCons_i ?_
    | refine tNil_i ?_
    | refine andD_i (by assumption) ?_
    | refine nilD_i ?_)
    have s5 := L.ext.size
    have pb := ((hkv x hxm).ext (gk.st.ext.trans L.ext)).pb
    refine callD_i (marshal_ok pb (by rw [kInts_len]; exact (hsz x hxm).1) (by rw [kInts_len]; exact (hsz x hxm).2)) ?_
    rintro e H6 ⟨q, qc, rfl, gm⟩
    have L := L.extend gm.st.ext
    repeat (first
    | (refine St.new L ?_; intro _r _H L)
    | refine St.int L 0 rfl rfl ?_
    | refine St.bool L 0 rfl rfl ?_
    | refine St.str L 0 rfl rfl ?_
    | refine St.ptr L 0 rfl rfl ?_
    | refine St.sl L 0 rfl rfl ?_
    | refine St.map L 0 rfl rfl ?_
    | refine St.ifmk L 0 rfl rfl ?_
    | refine St.ifnil L 0 rfl rfl ?_
    | refine St.ifv L 0 rfl rfl ?_
    | refine St.fnmk L 0 rfl rfl ?_
    | refine St.fnv L 0 rfl rfl ?_
    | (refine St.st L 0 rfl rfl (by first | rfl | exact isCell_IV _ | exact isCell_FV _) ?_; intro _H L)
    | refine tInt_i ?_
    | refine tBool_i ?_
    | refine tStr_i ?_
    | refine tPtr_i ?_
    | refine tSl_i ?_
    | refine tMap_i ?_
    | refine tIf_nil ?_
    | refine tIf_mk ?_
    | refine tIf_i ?_
    | refine tFn_mk ?_
    | refine tFn_i ?_
    | refine tAgg_i ?_
    | refine tTup_i ?_
    | refine tCons_i ?_
    | refine tNil_i ?_
    | refine andD_i (by assumption) ?_
    | refine nilD_i ?_)
    have s6 := L.ext.size
    refine callD_i (newRevBytes_ok H6) ?_
    rintro e H7 ⟨kr, rfl, E7, hkr, hb7⟩
    refine tSl_i (andD_i E7 ?_)
    have L := L.extend E7
    refine callD_i (bkToBytes_ok x.1.rev.1 x.1.rev.2 x.1.gone kr 17 _ (by simp) (.inl rfl) H7 hb7) ?_
    rintro e H8 ⟨rfl, u8⟩
    refine tSl_i ?_
    have E8 : ExtH H H8 := L.ext.upd u8 (by omega)
    have hkb : H8[kr]? = some (.cells ⟨keyB x.1⟩ 5) := by
      rw [u8.at_]
      unfold keyB
      simp
    have hvb : (marR x.1).length = 0 ∨ ∃ r' sp, q = some ⟨r', 0, none⟩ ∧ H.size ≤ r' ∧ H8[r']? = some (.cells ⟨u8v (marR x.1) ++ sp⟩ 5) := by
      rcases gm.what with ⟨_, h2, _, _⟩ | ⟨r', sp, h1, _, _, h4, h5⟩
      · exact .inl h2
      · refine .inr ⟨r', sp, h1, ?_, ?_⟩
        · have := h5.resolve_left id
          omega
        · have l6 := block_lt h4
          rw [u8.same r' (Nat.lt_of_lt_of_le l6 E7.size) (by omega), E7.block r' l6]
          exact h4
    have hke : (if x.1.gone = true then 18 else 17) = keyN x.1 := rfl
    rw [hke]
    refine (gk.extend E8).new ?_
    intro r1 H9 hr1 E9 g9
    have hb9 := (g9.st.own 0 _ _ rfl).2
    refine ⟨[.slice (some ⟨kr, 0, none⟩) (keyN x.1) 18], rfl, fun j v hj => ⟨_, rfl, ?_⟩, ?_⟩
    · rw [add_mk, Nat.zero_add]; exact hcell_of hb9 hj
    refine Grow.app g9 rfl (by decide) (by omega) rfl (by decide) (by intro v hv; simp at hv; subst hv; rfl) ?_
    intro kp' kc' H10 g10 G1
    have gv10 := Grow.beside ((gv.extend E8).extend E9) g10.st.chg G1 (fun j hj hk' => hne j hk' hj)
    refine gv10.1.new ?_
    intro r2 H11 hr2 E11 g11
    have hb11 := (g11.st.own 0 _ _ rfl).2
    refine ⟨[.slice q (marR x.1).length qc], rfl, fun j v hj => ⟨_, rfl, ?_⟩, ?_⟩
    · rw [add_mk, Nat.zero_add]; exact hcell_of hb11 hj
    refine Grow.app g11 rfl (by decide) (by omega) rfl (by decide) (by intro v hv; simp at hv; subst hv; rfl) ?_
    intro vp' vc' H12 g12 G2
    have gk12 := Grow.beside (g10.tail.extend E11) g12.st.chg G2 (fun j hj hv' => gv10.2 j hv' hj)
    have e1 : IntKind.wrap .i64 ((i : Int) + (1 : Int)) = ((i + 1 : Nat) : Int) := by rw [wrap64_small (by omega) (by omega)]; rfl
    rw [e1]
    have chg : ∀ j, j < H8.size → ¬ ban2 kp vp j → H12[j]? = H8[j]? ∧ ¬ ban2 kp' vp' j := by
      intro j hj hb
      have a9 := E9.block j hj
      have l9 := Nat.lt_of_lt_of_le hj E9.size
      have a10 := G1.same j l9 (fun h => hb (.inl h))
      have l10 := Nat.lt_of_lt_of_le l9 G1.size
      have a11 := E11.block j l10
      have l11 := Nat.lt_of_lt_of_le l10 E11.size
      have a12 := G2.same j l11 (fun h => hb (.inr h))
      refine ⟨a12.1.trans (a11.trans (a10.1.trans a9)), ?_⟩
      rintro (h | h)
      · exact a10.2 h
      · exact a12.2 h
    refine ih (i + 1) kp' vp' kc' vc' (kl ++ [⟨x.1, kr, q, qc⟩]) H12 (by omega) ?_ ?_ ?_ ?_ ?_
    · simpa [KV2.key] using gk12.1
    · simpa [KV2.val] using g12.tail
    · intro j hj hv'
      exact gk12.2 j hj hv'
    · rw [take_succ_of hxl]; simp [hz]
    · intro y hy
      rcases List.mem_append.1 hy with hy | hy
      · exact ((hk y hy).chg (ban' := ban2 kp vp) (fun j hj hn => ⟨E8.block j hj, hn⟩)).chg chg
      · simp at hy
        subst hy
        have far : ∀ j, H.size ≤ j → ¬ ban2 kp vp j := by
          rintro j hj (h | h)
          · have := gk.lt h; omega
          · have := gv.lt h; omega
        refine KV2.At.chg (H := H8) (ban := ban2 kp vp) ⟨far kr (by omega), hkb, ?_⟩ chg
        rcases hvb with h | ⟨r', sp, h1, h2, h3⟩
        · exact .inl h
        · exact .inr ⟨r', sp, h1, far r' h2, h3⟩
theorem zzRows_ok (p : Option Addr) (n c : Nat) (zl : List (RowR × Nat)) (hn : n = zl.length) (hm : n ≤ 100000) (H : Heap) (hR : RowsAt zzCells 4 H p zl) (hkv : ∀ y ∈ zl, KVat H Nn y.2 y.1.kv) (hsz : ∀ y ∈ zl, y.1.kv.k.size ≤ 100000 ∧ y.1.kv.v.size ≤ 100000) :
    CallsH Try.prog 69 ⟨[.slice p n c]⟩ H (fun e H1 => ∃ (kp' vp' : Option Addr) (kc' vc' : Nat) (kl' : List KV2), e = .returned (.tuple ⟨[.slice kp' n kc', .slice vp' n vc']⟩) ∧ ExtH H H1 ∧ RowsAt KV2.key 1 H1 kp' kl' ∧ RowsAt KV2.val 1 H1 vp' kl' ∧ kl'.map KV2.row = zl.map (·.1) ∧ ∀ y ∈ kl', y.At H1 Nn) := by
  refine F69.calls ?_
  unfold F69.go
  exact zzRows_loop p n c zl hn hm H hR hkv hsz n 0 none none 0 0 [] H (by omega) (.nil (St.start H)) (.nil (St.start H)) (fun j h => by cases h) rfl (by simp)
end Go.Proofs.Ytpankppliidaoaa
