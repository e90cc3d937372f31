/- What functions of this seat do, each proved by a walk; no condition. -/
import Derived.Test.YtpankppliidaoaaT23
set_option linter.unusedVariables false
set_option linter.unusedSimpArgs false
namespace Go.Proofs.Ytpankppliidaoaa
open Go Go.Den Go.Proofs
section
variable {F H : Heap} {S : Nat → Prop} {pw b rb : Nat} {po : Int} {P B : Nat} {wp : Option Addr} {wc : Nat} {buf : List Value} {tl : List Bk}
/-- Into the slack of a page: k bytes. -/
theorem slack_ok {ws : List By} {bs : By} {p : Option Addr} {d : By} (c : Nat) (k : Nat) (last : Bool) (gd : Good po P B bs buf) (hd : DatIn tl p d) (hk : bs.length + k ≤ B + P) (hkd : k ≤ d.length) (hdc : d.length ≤ c)
    (g : Grow F S H (pws pw b rb po P B bs.length wp ws.length wc buf tl) 9 1 wp ws.length wc (strs ws)) {R : Ending → Heap → Prop}
    (h : ∀ buf' H1, Good po P B (bs ++ d.take k) buf' → Grow F S H1 (pws pw b rb po P B (bs ++ d.take k).length wp ws.length wc buf' tl) 9 1 wp ws.length wc (strs ws) →
      iteB last (R (.returned (.tuple ⟨[.int .i64 k, .nilIface]⟩)) H1) (F48.L1 (some ⟨pw, 0, none⟩) (slP p k c 1) (d.length - k) (c - k) k H1 R)) :
    F48.L0 (some ⟨pw, 0, none⟩) p d.length c (k : Int) last H R := by
  have hb1 := gd.b1; have hpg1 := gd.pg1
  refine F48.L0_step ?_
  unfold F48.L0n
  refine nilD_i (nilD_i ?_)
  refine bndD_i (by omega) (by omega) ?_
  simp only [add_mk, Nat.zero_add, Int.toNat_natCast, slP_zero]
  refine ⟨_, _, _, g.st.at_ 0 rfl rfl, _, g.st.at_ 0 rfl rfl, ?_⟩
  refine bndD_i (by omega) (by have := gd.le; omega) ?_
  rw [Int.toNat_natCast]
  refine copy_ok g gd.len hk hkd (hd.read g.st (fun i => rfl)) ?_
  intro H1 g1
  refine nilD_i ?_
  rw [add_mk, Nat.zero_add]
  refine ⟨_, g1.st.at_ 0 rfl rfl, ?_⟩
  refine nilD_i ?_
  rw [add_mk, Nat.zero_add]
  refine g1.st1 0 rfl rfl rfl ?_
  intro H2 g2
  refine bndD_i (by omega) (by omega) ?_
  rw [Int.toNat_natCast]
  have e1 : IntKind.wrap .i64 ((bs.length : Int) + (k : Int)) = ((bs ++ d.take k).length : Nat) := by rw [wrap64_small (by omega) (by omega)]; simp [hkd]
  rw [e1] at g2
  exact h _ H2 (fill_has gd hkd hk) g2
theorem write_ok {ws : List By} {bs : By} {p : Option Addr} {d : By} (c : Nat) (gd : Good po P B bs buf) (rm : Room po P B bs) (hd : DatIn tl p d) (hdc : d.length ≤ c) (hd1 : d.length ≤ 1048576) (hw : ws.length ≤ 90000)
    (g : Grow F S H (pws pw b rb po P B bs.length wp ws.length wc buf tl) 9 1 wp ws.length wc (strs ws)) :
    CallsH Try.prog 48 ⟨[.pointer (some ⟨pw, 0, none⟩), .slice p d.length c]⟩ H (Wrote F S pw b rb P B tl ws bs d d.length) := by
  by_cases hs : d.length + bs.length ≤ B
  · exact small_ok c gd hd hs g
  have hle := gd.le; have hb1 := gd.b1; have hpg := gd.pg; have hpg1 := gd.pg1; have hpb := gd.pb; have hp0 := gd.p0; have hp1 := gd.p1
  refine F48.calls ?_
  unfold F48.go
  refine nilD_i (nilD_i ?_)
  simp only [add_mk, Nat.zero_add]
  refine ⟨_, g.st.at_ 0 rfl rfl, _, g.st.at_ 0 rfl rfl, ?_⟩
  rw [wrap64_small (by omega) (by omega)]
  refine iteB_i (fun h => by simp at h; omega) (fun _ => ?_)
  refine nilD_i (nilD_i (nilD_i (nilD_i ?_)))
  simp only [add_mk, Nat.zero_add]
  refine ⟨_, g.st.at_ 0 rfl rfl, _, g.st.at_ 0 rfl rfl, _, g.st.at_ 0 rfl rfl, _, g.st.at_ 0 rfl rfl, ?_⟩
  refine ⟨by omega, ?_⟩
  refine nilD_i ?_
  rw [add_mk, Nat.zero_add]
  refine ⟨_, g.st.at_ 0 rfl rfl, ?_⟩
  have q0 := Int.emod_nonneg (po + bs.length) (show (P : Int) ≠ 0 by omega)
  have q1 := Int.emod_lt_of_pos (po + bs.length) (show (0 : Int) < P by omega)
  have e1 : IntKind.wrap .i64 ((P : Int) - Int.tmod (IntKind.wrap .i64 (po + (bs.length : Int))) (P : Int)) = (P : Int) - (po + bs.length) % P := by
    have w1 : IntKind.wrap .i64 (po + (bs.length : Int)) = po + (bs.length : Int) := wrap64_small (by omega) (by omega)
    rw [w1, Int.tmod_eq_emod_of_nonneg (by omega), wrap64_small (by omega) (by omega)]
  dsimp only
  rw [e1]
  have r1 : bs.length ≤ B ∨ (0 < (po + bs.length) % P ∧ bs.length + P - (po + bs.length) % P ≤ B + P) := rm
  generalize hm : (po + bs.length) % P = m at *
  have hq : bs.length + ((P : Int) - m) ≤ B + P := by rcases r1 with h | h <;> omega
  refine iteB_i (fun hsl => ?_) (fun hsl => ?_)
  · have hm0 : 0 < m := by simp at hsl; omega
    refine iteB_i (fun hpt => ?_) (fun hpt => ?_)
    · simp only [hpt]
      simp at hpt
      refine slack_ok c d.length true gd hd (by omega) (Nat.le_refl _) hdc g ?_
      intro buf' H1 gd' g1
      rw [List.take_length] at gd' g1
      refine iteB_i (fun _ => ?_) (fun h => by cases h)
      refine ⟨rfl, po, wp, wc, buf', ws, bs ++ d, gd', .inr ?_, g1, by simp, fun h => by omega, by omega⟩
      have hmod : (po + ((bs ++ d).length : Nat)) % (P : Int) = m + d.length := by
        have : po + ((bs ++ d).length : Nat) = (po + bs.length) + d.length := by simp; omega
        rw [this, Int.add_emod, hm]
        have hdP : (d.length : Int) % P = d.length := Int.emod_eq_of_lt (by omega) (by omega)
        rw [hdP]
        exact Int.emod_eq_of_lt (by omega) (by omega)
      rw [hmod]
      simp only [List.length_append]
      omega
    · simp only [hpt]
      simp at hpt
      obtain ⟨k, hk⟩ := Int.eq_ofNat_of_zero_le (show 0 ≤ (P : Int) - m by omega)
      have hk' : (P : Int) - m = (k : Int) := hk
      rw [hk']
      refine slack_ok c k false gd hd (by omega) (by omega) hdc g ?_
      intro buf' H1 gd' g1
      refine iteB_i (fun h => by cases h) (fun _ => ?_)
      have hld : (d.drop k).length = d.length - k := by simp
      have := rest_ok (c - k) k gd' (hd.drop (k := k) hdc) (by omega) (by omega) hw (by omega) g1
      rw [hld] at this
      refine GoL.mono this ?_
      rintro e H2 ⟨rfl, po', wp', wc', buf', ws', bs', k1, k2, k3, k4, k5⟩
      refine ⟨by rw [show k + (d.length - k) = d.length from by omega], po', wp', wc', buf', ws', bs', k1, k2, k3, ?_, fun h => by omega, k5⟩
      rw [k4]
      simp [List.append_assoc]
  · have := rest_ok c 0 gd hd hdc hd1 hw (by omega) g
    refine GoL.mono this ?_
    rintro e H2 ⟨rfl, po', wp', wc', buf', ws', bs', k1, k2, k3, k4, k5⟩
    refine ⟨by rw [Nat.zero_add], po', wp', wc', buf', ws', bs', k1, k2, k3, k4, fun h => by omega, k5⟩
end
end Go.Proofs.Ytpankppliidaoaa
