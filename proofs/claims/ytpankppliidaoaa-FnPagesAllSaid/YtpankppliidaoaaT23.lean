/- What functions of this seat do, each proved by a walk; no condition. -/
import Derived.Test.YtpankppliidaoaaT22
set_option linter.unusedVariables false
set_option linter.unusedSimpArgs false
namespace Go.Proofs.Ytpankppliidaoaa
open Go Go.Den Go.Proofs
section
variable {F H : Heap} {S : Nat → Prop} {pw b rb : Nat} {po : Int} {P B : Nat} {wp : Option Addr} {wc : Nat} {buf : List Value} {tl : List Bk}
theorem ifNil_nil {k : Bool → Prop} (h : k true) : ifNilD (IV.v .nil) k := h
theorem copy_ok {n wn : Nat} {vs : List Value} {N : Nat} {p : Option Addr} {d : By} {m : Nat} {K : Nat → Heap → Prop} (g : Grow F S H (pws pw b rb po P B N wp wn wc buf tl) 9 1 wp wn wc vs) (hl : buf.length = B + P) (hk : n + m ≤ B + P) (hm : m ≤ d.length) (hd : cellsAt H p (bytesOf d))
    (k : ∀ H1, Grow F S H1 (pws pw b rb po P B N wp wn wc (buf.take n ++ bytesOf (d.take m) ++ buf.drop (n + m)) tl) 9 1 wp wn wc vs → K m H1) :
    cpD H 1 (slP (some ⟨rb, 0, none⟩) n (B + P) 1) (B + P - n) p m K := by
  have hmin : Nat.min m (B + P - n) = m := Nat.min_eq_left (by omega)
  refine ⟨bytesOf (d.take m), by rw [hmin, bytesOf_length]; simp [hm], ?_, ?_⟩
  · intro j v hj
    refine hd j v ?_
    rw [bytesOf_take, List.getElem?_take] at hj
    split at hj
    · exact hj
    · cases hj
  rw [hmin]
  by_cases h0 : B + P = n
  · have hm0 : m = 0 := by omega
    subst hm0
    have : slP (some ⟨rb, 0, none⟩) n (B + P) 1 = some ⟨rb, 0, none⟩ := by unfold slP; rw [if_pos h0]
    rw [this]
    have h := k H
    simp only [List.take_zero, Nat.add_zero] at h ⊢
    show K 0 H
    refine h ?_
    have : buf.take n ++ bytesOf [] ++ buf.drop n = buf := by simp [bytesOf]
    rw [this]
    exact g
  · rw [slP_mk h0]
    show stCs _ H 0 (bytesOf (d.take m)) _
    rw [add_zero', Nat.zero_add, Nat.mul_one]
    have hlen : (bytesOf (d.take m)).length = m := by rw [bytesOf_length]; simp [hm]
    refine Grow.stCs 2 (bytesOf (d.take m)) 0 H _ buf g rfl (fun v hv => bytesOf_cell hv) (by rw [hlen, hl]; omega) ?_
    intro H1 g1
    rw [hlen] at g1
    exact k H1 g1
theorem fill_has {bs : By} {d : By} {m : Nat} (gd : Good po P B bs buf) (hm : m ≤ d.length) (hk : bs.length + m ≤ B + P) : Good po P B (bs ++ d.take m) (buf.take bs.length ++ bytesOf (d.take m) ++ buf.drop (bs.length + m)) := by
  have hl : (bytesOf (d.take m)).length = m := by rw [bytesOf_length]; simp [hm]
  have h2 := gd.len
  have h3 : (buf.take bs.length).length = bs.length := by simp; omega
  refine ⟨gd.p0, gd.p1, gd.pg, gd.pg1, gd.pb, gd.b1, ?_, ?_, ?_⟩
  · simp only [List.length_append, h3, hl, List.length_drop]; omega
  · have e : (bs ++ d.take m).length = (buf.take bs.length ++ bytesOf (d.take m)).length := by simp only [List.length_append, h3, hl]; simp [hm]
    rw [e, List.take_left, gd.has, bytesOf_append]
  · simp [hm]; omega
/-- What a write gives. -/
def Wrote (F : Heap) (S : Nat → Prop) (pw b rb P B : Nat) (tl : List Bk) (ws : List By) (bs d : By) (N : Nat) : Ending → Heap → Prop := fun e H1 =>
  e = .returned (.tuple ⟨[.int .i64 N, .nilIface]⟩) ∧ ∃ (po' : Int) (wp' : Option Addr) (wc' : Nat) (buf' : List Value) (ws' : List By) (bs' : By), Good po' P B bs' buf' ∧ Room po' P B bs' ∧
    Grow F S H1 (pws pw b rb po' P B bs'.length wp' ws'.length wc' buf' tl) 9 1 wp' ws'.length wc' (strs ws') ∧ ws'.flatten ++ bs' = ws.flatten ++ bs ++ d ∧ (bs.length + d.length ≤ B → ws' = ws ∧ bs' = bs ++ d) ∧ ws'.length ≤ ws.length + 2
theorem small_ok {ws : List By} {bs : By} {p : Option Addr} {d : By} (c : Nat) (gd : Good po P B bs buf) (hd : DatIn tl p d) (hs : d.length + bs.length ≤ B) (g : Grow F S H (pws pw b rb po P B bs.length wp ws.length wc buf tl) 9 1 wp ws.length wc (strs ws)) :
    CallsH Try.prog 48 ⟨[.pointer (some ⟨pw, 0, none⟩), .slice p d.length c]⟩ H (Wrote F S pw b rb P B tl ws bs d d.length) := by
  have hle := gd.le; have hb1 := gd.b1
  refine F48.calls ?_
  unfold F48.go
  refine nilD_i (nilD_i ?_)
  simp only [add_mk, Nat.zero_add]
  refine ⟨_, g.st.at_ 0 rfl rfl, _, g.st.at_ 0 rfl rfl, ?_⟩
  rw [wrap64_small (by omega) (by omega)]
  refine iteB_i (fun _ => ?_) (fun h => by simp at h; omega)
  refine nilD_i (nilD_i ?_)
  simp only [add_mk, Nat.zero_add]
  refine ⟨_, _, _, g.st.at_ 0 rfl rfl, _, g.st.at_ 0 rfl rfl, ?_⟩
  refine bndD_i (by omega) (by omega) ?_
  refine copy_ok g gd.len (by omega) (Nat.le_refl _) (hd.read g.st (fun i => rfl)) ?_
  intro H1 g1
  refine nilD_i ?_
  rw [add_mk, Nat.zero_add]
  refine ⟨_, g1.st.at_ 0 rfl rfl, ?_⟩
  refine nilD_i ?_
  rw [add_mk, Nat.zero_add]
  refine g1.st1 0 rfl rfl rfl ?_
  intro H2 g2
  have e1 : IntKind.wrap .i64 ((bs.length : Int) + (d.length : Int)) = ((bs ++ d).length : Nat) := by rw [wrap64_small (by omega) (by omega)]; simp
  rw [e1] at g2
  have G := fill_has gd (Nat.le_refl d.length) (by omega)
  rw [List.take_length] at G
  simp only [Int.toNat_natCast, List.take_length] at g2
  refine ⟨rfl, po, wp, wc, _, ws, bs ++ d, G, .inl (by simp; omega), g2, by simp, fun _ => ⟨rfl, rfl⟩, by omega⟩
theorem tail_ok {ws : List By} {p : Option Addr} {d : By} (c : Nat) (s4 : Nat) (gd : Good po P B [] buf) (hd : DatIn tl p d) (hs : d.length ≤ B) (h4 : s4 ≤ 2000000) (g : Grow F S H (pws pw b rb po P B 0 wp ws.length wc buf tl) 9 1 wp ws.length wc (strs ws)) :
    F48.L2 (some ⟨pw, 0, none⟩) p d.length c (s4 : Int) H (Wrote F S pw b rb P B tl ws [] d (s4 + d.length)) := by
  have hb1 := gd.b1
  refine F48.L2_step ?_
  unfold F48.L2n
  refine callD_i (small_ok c gd hd (by simpa using hs) g) ?_
  rintro e H1 ⟨rfl, h⟩
  repeat (first
    | (refine St.new L ?_; intro _r _H L)
    | refine tInt_i ?_
    | refine tBool_i ?_
    | refine tStr_i ?_
    | refine tPtr_i ?_
    | refine tSl_i ?_
    | refine tMap_i ?_
    | refine tIf_nil ?_
    | refine tIf_mk ?_
    | refine tIf_i ?_
    | refine tFn_mk ?_
    | refine tFn_i ?_
    | refine tAgg_i ?_
    | refine tTup_i ?_
    | refine tCons_i ?_
    | refine tNil_i ?_
    | refine andD_i (by assumption) ?_
    | refine nilD_i ?_)
  have e1 : IntKind.wrap .i64 ((s4 : Int) + (d.length : Int)) = ((s4 + d.length : Nat) : Int) := by rw [wrap64_small (by omega) (by omega)]; simp
  rw [e1]
  exact ⟨rfl, h⟩
/-- Behind the slack: flush, whole pages, tail. -/
theorem rest_ok {ws : List By} {bs : By} {p : Option Addr} {d : By} (c : Nat) (s4 : Nat) (gd : Good po P B bs buf) (hd : DatIn tl p d) (hc : d.length ≤ c) (hd1 : d.length ≤ 1048576) (hw : ws.length ≤ 90000) (h4 : s4 ≤ 100000) (g : Grow F S H (pws pw b rb po P B bs.length wp ws.length wc buf tl) 9 1 wp ws.length wc (strs ws)) :
    F48.L1 (some ⟨pw, 0, none⟩) p d.length c (s4 : Int) H (fun e H1 => e = .returned (.tuple ⟨[.int .i64 ((s4 + d.length : Nat) : Int), .nilIface]⟩) ∧ ∃ (po' : Int) (wp' : Option Addr) (wc' : Nat) (buf' : List Value) (ws' : List By) (bs' : By), Good po' P B bs' buf' ∧ Room po' P B bs' ∧
      Grow F S H1 (pws pw b rb po' P B bs'.length wp' ws'.length wc' buf' tl) 9 1 wp' ws'.length wc' (strs ws') ∧ ws'.flatten ++ bs' = ws.flatten ++ bs ++ d ∧ ws'.length ≤ ws.length + 2) := by
  have hb1 := gd.b1; have hpg := gd.pg; have hpg1 := gd.pg1; have hpb := gd.pb
  refine F48.L1_step ?_
  unfold F48.L1n
  refine callD_i (flush_ok gd (by omega) g) ?_
  rintro e H1 ⟨rfl, po1, wp1, wc1, gd1, g1⟩
  have hfl : (ws ++ fl bs).flatten = ws.flatten ++ bs := by
    unfold fl
    split
    · rename_i h; simp [h]
    · simp
  have hfn : (ws ++ fl bs).length ≤ ws.length + 1 := by
    unfold fl
    split <;> simp
  refine tIf_nil ?_
  refine ifNil_nil ?_
  refine iteB_i (fun h => by simp [IV.isNil] at h) (fun _ => ?_)
  refine nilD_i ?_
  rw [add_mk, Nat.zero_add]
  refine ⟨_, g1.st.at_ 0 rfl rfl, ?_⟩
  refine iteB_i (fun hgt => ?_) (fun hgt => ?_)
  · simp at hgt
    refine nilD_i ?_
    rw [add_mk, Nat.zero_add]
    refine ⟨_, g1.st.at_ 0 rfl rfl, ?_⟩
    refine ⟨by omega, ?_⟩
    refine nilD_i (nilD_i ?_)
    simp only [add_mk, Nat.zero_add]
    refine ⟨.mk 86 _, g1.st.at_ 0 rfl rfl, ?_⟩
    show ldInt H1 _ _ _
    refine ⟨_, g1.st.at_ 0 rfl rfl, ?_⟩
    have hq : d.length / P * P ≤ d.length := Nat.div_mul_le_self _ _
    have hmul : (((d.length / P : Nat) : Int)) * (P : Int) = ((d.length / P * P : Nat) : Int) := by simp
    have hdl : d.length / P ≤ d.length := Nat.div_le_self _ _
    have e1 : IntKind.wrap .i64 ((IntKind.wrap .i64 (Int.tdiv ((d.length : Nat) : Int) (P : Int))) * (P : Int)) = ((d.length / P * P : Nat) : Int) := by
      have : Int.tdiv ((d.length : Nat) : Int) (P : Int) = ((d.length / P : Nat) : Int) := by
        rw [Int.tdiv_eq_ediv_of_nonneg (by omega)]; rfl
      rw [this]
      clear this
      generalize d.length / P = k at *
      have w1 : IntKind.wrap .i64 ((k : Nat) : Int) = ((k : Nat) : Int) := wrap64_small (by omega) (by omega)
      rw [w1, hmul, wrap64_small (by omega) (by omega)]
    dsimp only
    rw [e1]
    generalize hm : d.length / P * P = m at *
    refine bndD_i (by omega) (by omega) ?_
    rw [slP_zero, Int.toNat_natCast]
    refine callI_i mth86 ptr86 fnOk99 ?_
    have hdt := (hd.take m).read g1.st (fun i => rfl)
    have hlm : (d.take m).length = m := by simp [hq]
    have := below_ok (pw := pw) (b := b) (rb := rb) (po := po1) (P := P) (B := B) (n := 0) c (by omega) g1 hdt
    rw [hlm] at this
    refine callD_i this ?_
    rintro e H2 ⟨rfl, wp2, wc2, g2⟩
    refine tTup_i (tCons_i (tInt_i (tCons_i (tIf_nil (tNil_i ?_)))))
    refine ifNil_nil ?_
    refine iteB_i (fun h => by simp [IV.isNil] at h) (fun _ => ?_)
    refine nilD_i ?_
    rw [add_mk, Nat.zero_add]
    refine ⟨_, g2.st.at_ 0 rfl rfl, ?_⟩
    dsimp only
    rw [e1]
    refine bndD_i (by omega) (by omega) ?_
    rw [Int.toNat_natCast]
    have e2 : IntKind.wrap .i64 ((s4 : Int) + (m : Int)) = ((s4 + m : Nat) : Int) := by rw [wrap64_small (by omega) (by omega)]; simp
    rw [e2]
    have hdd := hd.drop (k := m) hc
    have hld : (d.drop m).length = d.length - m := by simp
    have hmod : d.length - m < P := by
      have := Nat.mod_add_div' d.length P
      have := Nat.mod_lt d.length hpg
      omega
    have := tail_ok (c - m) (s4 + m) gd1 hdd (by omega) (by omega) g2
    rw [hld] at this
    refine GoL.mono this ?_
    rintro e H3 ⟨rfl, po', wp', wc', buf', ws', bs', k1, k2, k3, k4, k5, k6⟩
    refine ⟨by rw [show s4 + m + (d.length - m) = s4 + d.length from by omega], po', wp', wc', buf', ws', bs', k1, k2, k3, ?_, ?_⟩
    · rw [k4, List.flatten_append, hfl]
      simp [List.append_assoc]
    · have := (k5 (by simp only [List.length_nil, List.length_drop]; omega)).1
      rw [this]
      simp only [List.length_append, List.length_cons, List.length_nil] at hfn ⊢
      omega
  · simp at hgt
    refine GoL.mono (tail_ok c s4 gd1 hd (by omega) (by omega) g1) ?_
    rintro e H3 ⟨rfl, po', wp', wc', buf', ws', bs', k1, k2, k3, k4, k5, k6⟩
    refine ⟨rfl, po', wp', wc', buf', ws', bs', k1, k2, k3, ?_, ?_⟩
    · rw [k4, hfl]; simp
    · have := (k5 (by simp only [List.length_nil]; omega)).1
      rw [this]; omega
end
end Go.Proofs.Ytpankppliidaoaa
