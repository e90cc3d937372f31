/- What functions of this seat do, each proved by a walk; no condition. -/
import Derived.Test.YtpankppliidaoaaT14
set_option linter.unusedVariables false
set_option linter.unusedSimpArgs false
namespace Go.Proofs.Ytpankppliidaoaa
open Go Go.Den Go.Proofs
theorem ReqAt.chgs {H H1 : Heap} {S : Nat → Prop} {b : Nat} {mm xm mc xc : Int} (h : ReqAt H b mm xm mc xc) (hb : ¬ S b) (g : Chg S H H1) : ReqAt H1 b mm xm mc xc := by
  obtain ⟨cs, h1, h2, h3, h4, h5⟩ := h
  exact ⟨cs, h1, h2, h3, h4, g.block hb h5⟩
/-- The cell that a closure holds, with the request that it leads to. -/
def CapAt (H : Heap) (rv rq : Nat) (mm xm mc xc : Int) : Prop := H[rv]? = some (.cells ⟨[.pointer (some ⟨rq, 0, none⟩)]⟩ 71) ∧ ReqAt H rq mm xm mc xc
def yn (H : Heap) (b : Bool) : Ending → Heap → Prop := fun e H1 => e = .returned (.bool b) ∧ H1 = H
section
variable {H : Heap} {rv rq b : Nat} {mm xm mc xc : Int} {x : KVr} {S : Nat → Prop}
theorem clo73 (hc : CapAt H rv rq mm xm mc xc) (hk : KVat H S b x) : CallsH Try.prog 73 ⟨[.pointer (some ⟨b, 0, none⟩), .pointer (some ⟨rv, 0, none⟩)]⟩ H (yn H (decide (x.mod > xm))) := by
  obtain ⟨hv, cs, h1, h2, h3, h4, hq⟩ := hc
  obtain ⟨r1, c1, r2, c2, _, _, _, hb, _, _⟩ := hk
  refine F73.calls ?_
  unfold F73.go
  repeat (first
    | (refine St.new L ?_; intro _r _H L)
    | refine tInt_i ?_
    | refine tBool_i ?_
    | refine tStr_i ?_
    | refine tPtr_i ?_
    | refine tSl_i ?_
    | refine tMap_i ?_
    | refine tIf_nil ?_
    | refine tIf_mk ?_
    | refine tIf_i ?_
    | refine tFn_mk ?_
    | refine tFn_i ?_
    | refine tAgg_i ?_
    | refine tTup_i ?_
    | refine tCons_i ?_
    | refine tNil_i ?_
    | refine andD_i (by assumption) ?_
    | refine nilD_i ?_)
  exact ⟨_, hcell_of hb rfl, _, hcell_of hv rfl, _, hcell_of hq h2, rfl, rfl⟩
theorem clo74 (hc : CapAt H rv rq mm xm mc xc) (hk : KVat H S b x) : CallsH Try.prog 74 ⟨[.pointer (some ⟨b, 0, none⟩), .pointer (some ⟨rv, 0, none⟩)]⟩ H (yn H (decide (x.mod < mm))) := by
  obtain ⟨hv, cs, h1, h2, h3, h4, hq⟩ := hc
  obtain ⟨r1, c1, r2, c2, _, _, _, hb, _, _⟩ := hk
  refine F74.calls ?_
  unfold F74.go
  repeat (first
    | (refine St.new L ?_; intro _r _H L)
    | refine tInt_i ?_
    | refine tBool_i ?_
    | refine tStr_i ?_
    | refine tPtr_i ?_
    | refine tSl_i ?_
    | refine tMap_i ?_
    | refine tIf_nil ?_
    | refine tIf_mk ?_
    | refine tIf_i ?_
    | refine tFn_mk ?_
    | refine tFn_i ?_
    | refine tAgg_i ?_
    | refine tTup_i ?_
    | refine tCons_i ?_
    | refine tNil_i ?_
    | refine andD_i (by assumption) ?_
    | refine nilD_i ?_)
  exact ⟨_, hcell_of hb rfl, _, hcell_of hv rfl, _, hcell_of hq h1, rfl, rfl⟩
theorem clo75 (hc : CapAt H rv rq mm xm mc xc) (hk : KVat H S b x) : CallsH Try.prog 75 ⟨[.pointer (some ⟨b, 0, none⟩), .pointer (some ⟨rv, 0, none⟩)]⟩ H (yn H (decide (x.cr > xc))) := by
  obtain ⟨hv, cs, h1, h2, h3, h4, hq⟩ := hc
  obtain ⟨r1, c1, r2, c2, _, _, _, hb, _, _⟩ := hk
  refine F75.calls ?_
  unfold F75.go
  repeat (first
    | (refine St.new L ?_; intro _r _H L)
    | refine tInt_i ?_
    | refine tBool_i ?_
    | refine tStr_i ?_
    | refine tPtr_i ?_
    | refine tSl_i ?_
    | refine tMap_i ?_
    | refine tIf_nil ?_
    | refine tIf_mk ?_
    | refine tIf_i ?_
    | refine tFn_mk ?_
    | refine tFn_i ?_
    | refine tAgg_i ?_
    | refine tTup_i ?_
    | refine tCons_i ?_
    | refine tNil_i ?_
    | refine andD_i (by assumption) ?_
    | refine nilD_i ?_)
  exact ⟨_, hcell_of hb rfl, _, hcell_of hv rfl, _, hcell_of hq h4, rfl, rfl⟩
theorem clo76 (hc : CapAt H rv rq mm xm mc xc) (hk : KVat H S b x) : CallsH Try.prog 76 ⟨[.pointer (some ⟨b, 0, none⟩), .pointer (some ⟨rv, 0, none⟩)]⟩ H (yn H (decide (x.cr < mc))) := by
  obtain ⟨hv, cs, h1, h2, h3, h4, hq⟩ := hc
  obtain ⟨r1, c1, r2, c2, _, _, _, hb, _, _⟩ := hk
  refine F76.calls ?_
  unfold F76.go
  repeat (first
    | (refine St.new L ?_; intro _r _H L)
    | refine tInt_i ?_
    | refine tBool_i ?_
    | refine tStr_i ?_
    | refine tPtr_i ?_
    | refine tSl_i ?_
    | refine tMap_i ?_
    | refine tIf_nil ?_
    | refine tIf_mk ?_
    | refine tIf_i ?_
    | refine tFn_mk ?_
    | refine tFn_i ?_
    | refine tAgg_i ?_
    | refine tTup_i ?_
    | refine tCons_i ?_
    | refine tNil_i ?_
    | refine andD_i (by assumption) ?_
    | refine nilD_i ?_)
  exact ⟨_, hcell_of hb rfl, _, hcell_of hv rfl, _, hcell_of hq h3, rfl, rfl⟩
end
/-- A slice of pointers with its block. -/
def PRow (H : Heap) (q : Option Addr) (n qc : Nat) (bs : List Nat) : Prop :=
  (q = none ∧ n = 0 ∧ qc = 0 ∧ bs = []) ∨ ∃ r sp, q = some ⟨r, 0, none⟩ ∧ n = bs.length ∧ n ≤ qc ∧ H[r]? = some (.cells ⟨ptrs bs ++ sp⟩ 106)
abbrev PB := Nat × KVr
def kept (pr : KVr → Bool) (bl : List PB) : List PB := bl.filter fun y => !pr y.2
theorem ptrs_get {ds : List Nat} {sp : List Value} {i b : Nat} (h : ds[i]? = some b) : (ptrs ds ++ sp)[i]? = some (.pointer (some ⟨b, 0, none⟩)) := by
  have hl : i < ds.length := by
    rcases Nat.lt_or_ge i ds.length with h1 | h1
    · exact h1
    · rw [List.getElem?_eq_none h1] at h; cases h
  rw [List.getElem?_append_left (by simpa [ptrs] using hl)]
  simp [ptrs, h]
theorem ptrs_set {ds : List Nat} {sp : List Value} {j b : Nat} (h : j < ds.length) : (ptrs ds ++ sp).set j (.pointer (some ⟨b, 0, none⟩)) = ptrs (ds.set j b) ++ sp := by
  rw [List.set_append_left _ _ (by simpa [ptrs] using h)]
  simp [ptrs, List.map_set]
theorem prune_loop (rb g rv : Nat) (pr : KVr → Bool) (u v : Value) (H0 : Heap) (bl : List PB) (r qc : Nat) (sp : List Value) (hqc : bl.length ≤ qc) (h1000 : bl.length ≤ 1000) (hrb : r ≠ rb)
    (hf : fnOk Try.prog g = true)
    (hg : ∀ H', Chg (fun i => isp (some ⟨r, 0, none⟩) i ∨ i = rb) H0 H' → ∀ y ∈ bl, CallsH Try.prog g ⟨[.pointer (some ⟨y.1, 0, none⟩), .pointer (some ⟨rv, 0, none⟩)]⟩ H' (yn H' (pr y.2)))
    (hb0 : H0[rb]? = some (.cells ⟨[.slice (some ⟨r, 0, none⟩) bl.length qc, u, v]⟩ 109)) :
    ∀ (d i : Nat) (ds : List Nat) (H : Heap), i + d = bl.length → Chg (isp (some ⟨r, 0, none⟩)) H0 H → H[r]? = some (.cells ⟨ptrs ds ++ sp⟩ 106) → ds.length = bl.length → ds.drop i = (bl.map (·.1)).drop i →
      ds.take (kept pr (bl.take i)).length = (kept pr (bl.take i)).map (·.1) → (kept pr (bl.take i)).length ≤ i →
      F72.L0 (some ⟨rb, 0, none⟩) (.mk (.func g) ⟨[]⟩ ⟨[.pointer (some ⟨rv, 0, none⟩)]⟩) ((kept pr (bl.take i)).length : Int) (bl.length : Int) (i : Int) H
        (fun e H1 => e = .returned (.tuple ⟨[]⟩) ∧ Chg (fun i => isp (some ⟨r, 0, none⟩) i ∨ i = rb) H0 H1 ∧ H1[rb]? = some (.cells ⟨[.slice (some ⟨r, 0, none⟩) (kept pr bl).length qc, u, v]⟩ 109) ∧ PRow H1 (some ⟨r, 0, none⟩) (kept pr bl).length qc ((kept pr bl).map (·.1))) := by
  intro d
  induction d with
  | zero =>
    intro i ds H hi hch hr hl hdr htk hle
    have hbi : bl.take i = bl := List.take_of_length_le (by omega)
    rw [hbi] at htk hle ⊢
    refine F72.L0_step ?_
    unfold F72.L0n
    refine iteB_i (fun h => by simp at h; omega) (fun _ => ?_)
    have hb := hch.block (r := rb) (by intro h; injection h with h; injection h with h; exact hrb h) hb0
    refine nilD_i ?_
    refine ⟨_, _, _, hcell_of hb rfl, ?_⟩
    refine bndD_i (by omega) (by omega) ?_
    refine nilD_i ?_
    refine st1_of hb rfl rfl ?_
    intro H1 u1
    have hsl : slP (some ⟨r, 0, none⟩) 0 qc 1 = some ⟨r, 0, none⟩ := by
      unfold slP
      split
      · rfl
      · simp [add_zero']
    rw [hsl] at u1
    refine ⟨rfl, (hch.mono fun i h => .inl h).trans (Chg.upd u1 (.inr rfl)), u1.at_, .inr ⟨r, ds.drop (kept pr bl).length |> ptrs |> (· ++ sp), rfl, by simp, by omega, ?_⟩⟩
    rw [u1.same r (block_lt hr) hrb, hr, ← htk, ← List.append_assoc]
    have : ptrs (ds.take (kept pr bl).length) ++ ptrs (ds.drop (kept pr bl).length) = ptrs ds := by
      unfold ptrs; rw [← List.map_append, List.take_append_drop]
    rw [this]
  | succ d ih =>
    intro i ds H hi hch hr hl hdr htk hle
    refine F72.L0_step ?_
    unfold F72.L0n
    refine iteB_i (fun _ => ?_) (fun h => by simp at h; omega)
    have hnr : ¬ isp (some ⟨r, 0, none⟩) rb := by intro h; injection h with h; injection h with h; exact hrb h
    have hb := hch.block hnr hb0
    have hil : i < bl.length := by omega
    have hy : bl[i]? = some bl[i] := List.getElem?_eq_getElem hil
    generalize hyy : bl[i] = y at hy
    have hdi : ds[i]? = some y.1 := by
      have := congrArg (fun l => l[0]?) hdr
      simp only [List.getElem?_drop, Nat.add_zero, List.getElem?_map, hy, Option.map_some] at this
      exact this
    refine nilD_i (nilD_i ?_)
    refine ⟨_, _, _, hcell_of hb rfl, ?_⟩
    refine ⟨_, _, _, hcell_of hb rfl, ?_⟩
    refine idxD_i (by omega) (by omega) ?_
    refine ⟨_, by rw [add_mk]; exact hcell_of hr (by simpa using ptrs_get hdi), ?_⟩
    refine idxD_i (by omega) (by omega) ?_
    generalize hj : (kept pr (bl.take i)).length = j at *
    have ej : Int.toNat (j : Int) * 1 = j := by simp
    simp only [add_mk, Nat.zero_add, ej]
    have hjl : j < ds.length := by omega
    refine st1_of hr (List.getElem?_append_left (by simpa [ptrs] using hjl) |>.trans (List.getElem?_eq_getElem (by simpa [ptrs] using hjl))) rfl ?_
    intro H1 u1
    rw [ptrs_set hjl] at u1
    have hch1 : Chg (isp (some ⟨r, 0, none⟩)) H0 H1 := hch.trans (Chg.upd u1 rfl)
    have hb1 := hch1.block hnr hb0
    refine nilD_i ?_
    refine ⟨_, _, _, hcell_of hb1 rfl, ?_⟩
    refine idxD_i (by omega) (by omega) ?_
    have hdi1 : (ds.set j y.1)[i]? = some y.1 := by
      rw [List.getElem?_set]
      split
      · simp [hjl]
      · exact hdi
    refine ⟨_, by rw [add_mk]; exact hcell_of u1.at_ (by simpa using ptrs_get hdi1), ?_⟩
    refine callV_i hf ?_
    refine callD_i (hg H1 (hch1.mono fun i h => .inl h) y (List.mem_of_getElem? hy)) ?_
    rintro e H2 ⟨rfl, rfl⟩
    refine tBool_i ?_
    have hdr' : (ds.set j y.1).drop (i + 1) = (bl.map (·.1)).drop (i + 1) := by
      rw [List.drop_set_of_lt (by omega)]
      have := congrArg (List.drop 1) hdr
      simpa [List.drop_drop] using this
    have htake : bl.take (i + 1) = bl.take i ++ [y] := take_succ_of hy
    have e1 : IntKind.wrap .i64 ((i : Int) + (1 : Int)) = ((i + 1 : Nat) : Int) := by rw [wrap_i64 (by omega) (by omega)]; rfl
    have ej1 : IntKind.wrap .i64 ((j : Int) + (1 : Int)) = ((j + 1 : Nat) : Int) := by rw [wrap_i64 (by omega) (by omega)]; rfl
    refine iteB_i (fun hp => ?_) (fun hp => ?_)
    · have hk : kept pr (bl.take (i + 1)) = kept pr (bl.take i) ++ [y] := by
        rw [htake]; unfold kept; rw [List.filter_append]; simp at hp; simp [hp]
      refine F72.L1_step ?_
      unfold F72.L1n
      rw [e1, ej1]
      have := ih (i + 1) (ds.set j y.1) H2 (by omega) hch1 u1.at_ (by simpa using hl) hdr' (by
        rw [hk, List.length_append, hj]
        simp only [List.length_cons, List.length_nil, List.map_append, List.map_cons, List.map_nil]
        rw [take_succ_of (x := y.1) (by simp [hjl]), List.take_set_of_le (Nat.le_refl _), htk]) (by rw [hk, List.length_append, hj]; simp; omega)
      rw [hk, List.length_append, hj] at this
      exact this
    · have hk : kept pr (bl.take (i + 1)) = kept pr (bl.take i) := by
        rw [htake]; unfold kept; rw [List.filter_append]; simp at hp; simp [hp]
      refine F72.L1_step ?_
      unfold F72.L1n
      rw [e1]
      have := ih (i + 1) (ds.set j y.1) H2 (by omega) hch1 u1.at_ (by simpa using hl) hdr' (by rw [hk, hj, List.take_set_of_le (Nat.le_refl _), htk]) (by rw [hk, hj]; omega)
      rw [hk, hj] at this
      exact this
theorem prune_ok (rb g rv : Nat) (pr : KVr → Bool) (u v : Value) (H0 : Heap) (bl : List PB) (q : Option Addr) (qc : Nat) (h1000 : bl.length ≤ 1000) (hrb : ¬ isp q rb) (hrow : PRow H0 q bl.length qc (bl.map (·.1)))
    (hf : fnOk Try.prog g = true)
    (hg : ∀ H', Chg (fun i => isp q i ∨ i = rb) H0 H' → ∀ y ∈ bl, CallsH Try.prog g ⟨[.pointer (some ⟨y.1, 0, none⟩), .pointer (some ⟨rv, 0, none⟩)]⟩ H' (yn H' (pr y.2)))
    (hb0 : H0[rb]? = some (.cells ⟨[.slice q bl.length qc, u, v]⟩ 109)) :
    CallsH Try.prog 72 ⟨[.pointer (some ⟨rb, 0, none⟩), .func (.func g) ⟨[]⟩ ⟨[.pointer (some ⟨rv, 0, none⟩)]⟩]⟩ H0
        (fun e H1 => e = .returned (.tuple ⟨[]⟩) ∧ Chg (fun i => isp q i ∨ i = rb) H0 H1 ∧ H1[rb]? = some (.cells ⟨[.slice q (kept pr bl).length qc, u, v]⟩ 109) ∧ PRow H1 q (kept pr bl).length qc ((kept pr bl).map (·.1))) := by
  refine F72.calls (isPrunable := .mk (.func g) ⟨[]⟩ ⟨[.pointer (some ⟨rv, 0, none⟩)]⟩) ?_
  unfold F72.go
  refine nilD_i ?_
  refine ⟨_, _, _, hcell_of hb0 rfl, ?_⟩
  rcases hrow with ⟨rfl, hn, rfl, hbl⟩ | ⟨r, sp, rfl, hn, hle, hr⟩
  · obtain rfl : bl = [] := by simpa using hn
    refine F72.L0_step ?_
    unfold F72.L0n
    refine iteB_i (fun h => by simp at h) (fun _ => ?_)
    refine nilD_i ?_
    refine ⟨_, _, _, hcell_of hb0 rfl, ?_⟩
    refine bndD_i (by omega) (by omega) ?_
    refine nilD_i ?_
    refine st1_of hb0 rfl rfl ?_
    intro H1 u1
    exact ⟨rfl, Chg.upd u1 (.inr rfl), u1.at_, .inl ⟨rfl, rfl, rfl, rfl⟩⟩
  · have := prune_loop rb g rv pr u v H0 bl r qc sp hle h1000 (by rintro rfl; exact hrb rfl) hf hg hb0 bl.length 0 (bl.map (·.1)) H0 (by omega) Chg.refl hr (by simp) rfl (by simp [kept]) (by simp [kept])
    simpa [kept] using this
end Go.Proofs.Ytpankppliidaoaa
