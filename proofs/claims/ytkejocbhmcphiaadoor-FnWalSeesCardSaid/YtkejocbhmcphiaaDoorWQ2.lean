/- What functions of this seat do, each proved by a walk; no condition. -/
import Derived.Test.YtkejocbhmcphiaaDoorWQ1
import Derived.Test.YtkejocbhmcphiaaDoorWC
import Derived.Test.YtkejocbhmcphiaaDoorWQ1
import Derived.Test.YtkejocbhmcphiaaDoorWQ1
set_option linter.unusedVariables false
set_option linter.unusedSimpArgs false
set_option linter.unnecessarySimpa false
namespace Go.Proofs.YtkejocbhmcphiaaDoor
open Go Go.Den Go.Proofs
/-! The two errors that lie in variables. -/
structure ErP (k : PH) (e0 e1 : Addr) : Prop where
  g0 : ∃ T fr, k 0 = some (.cells ⟨[.iface 122 (.pointer (some e0))]⟩ T fr)
  g1 : ∃ T fr, k 1 = some (.cells ⟨[.iface 122 (.pointer (some e1))]⟩ T fr)
  p0 : ∃ c T z, k e0.block = some (.cells c T (z, z))
  p1 : ∃ c T z, k e1.block = some (.cells c T (z, z))
  ne : e0 ≠ e1
theorem ErP.mono {k k' : PH} {e0 e1 : Addr} (h : PH.sub k k') (E : ErP k e0 e1) : ErP k' e0 e1 := by
  obtain ⟨⟨T0, f0, a⟩, ⟨T1, f1, b⟩, ⟨c0, U0, z0, c⟩, ⟨c1, U1, z1, d⟩, e⟩ := E
  exact ⟨⟨T0, f0, h _ _ a⟩, ⟨T1, f1, h _ _ b⟩, ⟨c0, U0, z0, h _ _ c⟩, ⟨c1, U1, z1, h _ _ d⟩, e⟩
class Ers (l : List HP) (e0 e1 : outParam Addr) : Prop where
  out : ∀ k, SatP k l → ErP k e0 e1
instance (priority := 900) Ers.there {c : HP} {l : List HP} {e0 e1 : Addr} [h : Ers l e0 e1] : Ers (c :: l) e0 e1 := ⟨fun k x => h.out k x.tail⟩
theorem Ers.ent {l m : List HP} {e0 e1 : Addr} (h : Ers l e0 e1) (e : Ent m l) : Ers m e0 e1 := ⟨fun k x => h.out k (e k x)⟩
theorem Ers.old {H : Heap} {e0 e1 : Addr} (h : ErP (PH.of H) e0 e1) : Ers [Den.old H] e0 e1 := ⟨fun k ⟨h1, a, b, _⟩ => ErP.mono b (ErP.mono (fun i o x => a i o x) h)⟩
section
variable {H : Heap} {l : List HP} {e0 e1 : Addr}
theorem Ers.get (E : Ers l e0 e1) (S : Sat H l) : ErP (PH.of H) e0 e1 := E.out _ S.out
instance (priority := 100) {K : IV → Prop} [S : Sat H l] [E : Ers l e0 e1] : Step (ldIf H ⟨0, 0, none⟩ K) (K (.mk 122 (.pointer (some e0)))) := ⟨fun h => by
  obtain ⟨T, fr, a⟩ := (E.get S).g0
  exact ⟨.mk 122 _, hcell_of (H := H) (r := 0) (j := 0) a rfl, h⟩⟩
instance (priority := 100) {K : IV → Prop} [S : Sat H l] [E : Ers l e0 e1] : Step (ldIf H ⟨1, 0, none⟩ K) (K (.mk 122 (.pointer (some e1)))) := ⟨fun h => by
  obtain ⟨T, fr, a⟩ := (E.get S).g1
  exact ⟨.mk 122 _, hcell_of (H := H) (r := 1) (j := 0) a rfl, h⟩⟩
theorem u62c : (match Tryd.prog.underlying 62 with | some (.interface _) => true | _ => false) = true := by kernel_rfl
theorem u62 : ∃ ms, Tryd.prog.underlying 62 = some (.interface ms) := by
  have h := u62c
  split at h
  · rename_i ms hm; exact ⟨ms, hm⟩
  · cases h
theorem i122c : (match Tryd.prog.info? 122 with | some ti => ti.comparable | none => false) = true := by kernel_rfl
theorem i122 : ∃ ti, Tryd.prog.info? 122 = some ti ∧ ti.comparable = true := by
  have h := i122c
  split at h
  · rename_i ti hm; exact ⟨ti, hm, h⟩
  · cases h
theorem i158c : (match Tryd.prog.info? 158 with | some ti => !(ti.size == 0) | none => false) = true := by kernel_rfl
theorem i158 : ∃ ti, Tryd.prog.info? 158 = some ti ∧ ti.size ≠ 0 := by
  have h := i158c
  split at h
  · rename_i ti hm; exact ⟨ti, hm, by simpa using h⟩
  · cases h
theorem i70c : (match Tryd.prog.info? 70 with | some ti => ti.comparable | none => false) = true := by kernel_rfl
theorem i70 : ∃ ti, Tryd.prog.info? 70 = some ti ∧ ti.comparable = true := by
  have h := i70c
  split at h
  · rename_i ti hm; exact ⟨ti, hm, h⟩
  · cases h
theorem u122 : Tryd.prog.underlying 122 = some (.pointer 158) := by kernel_rfl
theorem u70 : Tryd.prog.underlying 70 = some .string := by kernel_rfl
section
variable {k : Bool → Prop}
theorem eq_nil {t : TypeId} {y : Value} (hk : k false) : rawR Tryd.prog H .eql 62 (IV.v .nil) (IV.v (.mk t y)) k := u62.elim fun _ h => rawR_nil h hk
theorem eq_diff {t u : TypeId} {x y : Value} (hn : t ≠ u) (hk : k false) : rawR Tryd.prog H .eql 62 (IV.v (.mk t x)) (IV.v (.mk u y)) k := u62.elim fun _ h => rawR_ne h hn hk
theorem eq_ptr {p q : Option Addr} (h : pqD H p q k) : rawR Tryd.prog H .eql 62 (IV.v (.mk 122 (.pointer p))) (IV.v (.mk 122 (.pointer q))) k :=
  u62.elim fun _ a => i122.elim fun _ b => i158.elim fun _ c => rawR_ptr a b.1 b.2 u122 c.1 c.2 h
theorem eq_same {a : Addr} (hk : k true) : rawR Tryd.prog H .eql 62 (IV.v (.mk 122 (.pointer (some a)))) (IV.v (.mk 122 (.pointer (some a)))) k :=
  eq_ptr (.inl ⟨rfl, by rw [beq_self_eq_true]; exact hk⟩)
theorem eq_str {x y : ByteArray} (hk : k (x == y)) : rawR Tryd.prog H .eql 62 (IV.v (.mk 70 (.string x))) (.iface 70 (.string y)) k :=
  u62.elim fun _ a => i70.elim fun _ b => rawR_str a b.1 b.2 u70 hk
theorem eq_10 (E : Ers l e0 e1) (S : Sat H l) (hk : k false) : rawR Tryd.prog H .eql 62 (IV.v (.mk 122 (.pointer (some e1)))) (IV.v (.mk 122 (.pointer (some e0)))) k := by
  obtain ⟨_, _, p0, p1, ne⟩ := E.get S
  refine eq_ptr ?_
  by_cases h : e1.block = e0.block
  · refine .inl ⟨h, ?_⟩
    have : (e1 == e0) = false := beq_eq_false_iff_ne.2 (Ne.symm ne)
    rw [this]; exact hk
  · exact .inr ⟨h, p1, p0, hk⟩
end
end
/-! ### A file read -/
abbrev frO (b : Option Addr) (n c : Nat) (at_ : Nat) : Obj := .cells ⟨[.slice b n c, .int .i64 (at_ : Int)]⟩ 107
abbrev eofI (e : Addr) : Value := .iface 122 (.pointer (some e))
section
variable {H : Heap} {l : List HP} {e0 e1 : Addr} {fb : Nat} {b p : Option Addr} {bc pn pc at_ : Nat} {F ys : List UInt8} {E : TypeId}
theorem read_end [Er : Ers l e0 e1] (ha : at_ = F.length) (S : Sat H (pt fb (frO b F.length bc at_) :: l)) :
    CallsH Tryd.prog 94 ⟨[.pointer (some ⟨fb, 0, none⟩), .slice p pn pc]⟩ H (Gives (.tuple ⟨[.int .i64 0, eofI e0]⟩) H) := by
  subst ha
  refine F94.calls ?_
  unfold F94.go
  (repeat (first | (refine Step.go ?_; intros) | refine iteB_t (by decide) ?_ | refine iteB_f (by decide) ?_ | (refine Duo.mk (by first | omega | exact rfl | decide) ?_; intros) | (refine Duo.mk (Clo.mk (by kernel_rfl)) ?_; intros)))
  refine iteB_t (by simp) ?_
  (repeat (first | (refine Step.go ?_; intros) | refine iteB_t (by decide) ?_ | refine iteB_f (by decide) ?_ | (refine Duo.mk (by first | omega | exact rfl | decide) ?_; intros) | (refine Duo.mk (Clo.mk (by kernel_rfl)) ?_; intros)))
  exact ⟨rfl, ExtH.refl H⟩
theorem slCopy0 {n c d : Nat} {q : Option Addr} {xs zs : List UInt8} {m : List HP} {K : Nat → Heap → Prop} (S : Sat H (sl bC E 1 p n c xs :: m)) (R : Rd1 (sl bC E 1 p n c xs :: m) q zs) (hd : zs.length = d)
    (k : ∀ H1, Sat H1 (sl bC E 1 p n c (zs.take (Nat.min d n) ++ xs.drop (Nat.min d n)) :: m) → K (Nat.min d n) H1) : cpD H 1 p n q d K := by
  have h := S.slCopy (i := 0) (ys := zs) (d := d) (q := q) (K := K) (by omega) (by rw [flat_bytes]; exact R.cells S) hd (by intro y _; rfl) (by
      intro v hv
      obtain ⟨b, _, hv⟩ := List.mem_flatMap.1 hv
      simp only [bC, List.mem_singleton] at hv
      subst hv; rfl) (by
      intro H1 S1
      rw [Nat.sub_zero, List.take_zero, List.nil_append, Nat.zero_add] at S1
      rw [Nat.sub_zero]
      exact k H1 S1)
  rw [slP_zero, Nat.sub_zero] at h
  exact h
theorem read_some (hF : F.length ≤ 140737488351232) (ha : at_ < F.length) (R : Rd1 l b F) (hb : F.length ≤ bc) (S : Sat H (pt fb (frO b F.length bc at_) :: sl bC E 1 p pn pc ys :: l)) :
    CallsH Tryd.prog 94 ⟨[.pointer (some ⟨fb, 0, none⟩), .slice p pn pc]⟩ H (fun e H1 => e = .returned (.tuple ⟨[.int .i64 ((Nat.min (F.length - at_) pn : Nat) : Int), .nilIface]⟩) ∧
      Sat H1 (pt fb (frO b F.length bc (at_ + Nat.min (F.length - at_) pn)) :: sl bC E 1 p pn pc ((F.drop at_).take (Nat.min (F.length - at_) pn) ++ ys.drop (Nat.min (F.length - at_) pn)) :: l)) := by
  refine F94.calls ?_
  unfold F94.go
  (repeat (first | (refine Step.go ?_; intros) | refine iteB_t (by decide) ?_ | refine iteB_f (by decide) ?_ | (refine Duo.mk (by first | omega | exact rfl | decide) ?_; intros) | (refine Duo.mk (Clo.mk (by kernel_rfl)) ?_; intros)))
  refine iteB_f (by simp; omega) ?_
  (repeat (first | (refine Step.go ?_; intros) | refine iteB_t (by decide) ?_ | refine iteB_f (by decide) ?_ | (refine Duo.mk (by first | omega | exact rfl | decide) ?_; intros) | (refine Duo.mk (Clo.mk (by kernel_rfl)) ?_; intros)))
  rw [Int.toNat_natCast]
  have hd : (F.drop at_).length = F.length - at_ := by simp
  have S2 : Sat H (sl bC E 1 p pn pc ys :: pt fb (frO b F.length bc at_) :: l) := S.to Ent.swp
  refine slCopy0 S2 (R.drop at_ bc hb).there.there hd fun H1 S3 => ?_
  have hmin : Nat.min (F.length - at_) pn ≤ F.length - at_ := Nat.min_le_left _ _
  clear S S2
  generalize Nat.min (F.length - at_) pn = t at *
  (repeat (first | (refine Step.go ?_; intros) | refine iteB_t (by decide) ?_ | refine iteB_f (by decide) ?_ | (refine Duo.mk (by first | omega | exact rfl | decide) ?_; intros) | (refine Duo.mk (Clo.mk (by kernel_rfl)) ?_; intros)))
  rename_i H2 S4
  rw [wr64 (by omega) (by omega)] at S4
  refine ⟨rfl, S4.to ?_⟩
  have e : ((at_ : Int) + (t : Int)) = ((at_ + t : Nat) : Int) := by simp
  rw [e]
  exact Ent.swp
end
end Go.Proofs.YtkejocbhmcphiaaDoor

set_option linter.unusedVariables false
set_option linter.unusedSimpArgs false
set_option linter.unnecessarySimpa false
namespace Go.Proofs.YtkejocbhmcphiaaDoor
open Go Go.Den Go.Proofs
/-! Reading a number of bytes. -/
abbrev rdI (fb : Nat) : IV := .mk 84 (.pointer (some ⟨fb, 0, none⟩))
theorem nilM_r {fb : Nat} {k : Prop} (h : k) : nilM Tryd.prog "Read" ⟨[IV.v (rdI fb)]⟩ k := ⟨by kernel_rfl, h⟩
section
variable {H : Heap} {l : List HP} {e0 e1 : Addr} {fb : Nat} {b p : Option Addr} {bc pn pc at_ : Nat} {F ys : List UInt8} {E : TypeId}
theorem atl_full (hF : F.length ≤ 140737488351232) (h0 : 0 < pn) (ha : at_ + pn ≤ F.length) (R : Rd1 l b F) (hb : F.length ≤ bc) (S : Sat H (pt fb (frO b F.length bc at_) :: sl bC E 1 p pn pc ys :: l)) :
    CallsH Tryd.prog 83 ⟨[IV.v (rdI fb), .slice p pn pc, .int .i64 (pn : Int)]⟩ H (fun e H1 => e = .returned (.tuple ⟨[.int .i64 (pn : Int), .nilIface]⟩) ∧
      Sat H1 (pt fb (frO b F.length bc (at_ + pn)) :: sl bC E 1 p pn pc ((F.drop at_).take pn) :: l)) := by
  have hys := (S.slLen (List.mem_cons_of_mem _ (List.mem_cons_self ..))).1
  refine F83.calls (r := rdI fb) ?_
  unfold F83.go
  refine iteB_f (by simp) ?_
  refine F83.L0_step ?_
  unfold F83.L0n
  refine iteB_t (by simp; omega) ?_
  (repeat (first | (refine Step.go ?_; intros) | refine iteB_t (by decide) ?_ | refine iteB_f (by decide) ?_ | (refine Duo.mk (by first | omega | exact rfl | decide) ?_; intros) | (refine Duo.mk (Clo.mk (by kernel_rfl)) ?_; intros)))
  refine F83.L2_step ?_
  unfold F83.L2n
  (repeat (first | (refine Step.go ?_; intros) | refine iteB_t (by decide) ?_ | refine iteB_f (by decide) ?_ | (refine Duo.mk (by first | omega | exact rfl | decide) ?_; intros) | (refine Duo.mk (Clo.mk (by kernel_rfl)) ?_; intros)))
  refine nilM_r ?_
  refine callI_i (f := 94) (by kernel_rfl) (by kernel_rfl) (by kernel_rfl) ?_
  have hr := read_some hF (by omega) R hb S
  have e : Nat.min (F.length - at_) pn = pn := Nat.min_eq_right (by omega)
  rw [e] at hr
  rw [show (0 : Int).toNat = 0 from rfl, slP_zero, Nat.sub_zero, Nat.sub_zero]
  refine call_of hr ?_
  rintro e H1 ⟨rfl, S1⟩
  have e3 : ys.drop pn = [] := List.drop_eq_nil_of_le (by omega)
  rw [e3, List.append_nil] at S1
  (repeat (first | (refine Step.go ?_; intros) | refine iteB_t (by decide) ?_ | refine iteB_f (by decide) ?_ | (refine Duo.mk (by first | omega | exact rfl | decide) ?_; intros) | (refine Duo.mk (Clo.mk (by kernel_rfl)) ?_; intros)))
  refine F83.L0_step ?_
  unfold F83.L0n
  have e1 : IntKind.wrap .i64 ((0 : Int) + (pn : Int)) = (pn : Int) := by rw [wr64 (by omega) (by omega)]; omega
  rw [e1]
  refine iteB_f (by simp) ?_
  refine F83.L1_step ?_
  unfold F83.L1n
  refine iteB_t (by simp) ?_
  exact ⟨rfl, S1⟩
theorem atl_none [Er : Ers l e0 e1] (hp : pn ≤ 140737488351232) (h0 : 0 < pn) (ha : at_ = F.length) (S : Sat H (pt fb (frO b F.length bc at_) :: l)) :
    CallsH Tryd.prog 83 ⟨[IV.v (rdI fb), .slice p pn pc, .int .i64 (pn : Int)]⟩ H (Gives (.tuple ⟨[.int .i64 0, eofI e0]⟩) H) := by
  refine F83.calls (r := rdI fb) ?_
  unfold F83.go
  refine iteB_f (by simp) ?_
  refine F83.L0_step ?_
  unfold F83.L0n
  refine iteB_t (by simp; omega) ?_
  (repeat (first | (refine Step.go ?_; intros) | refine iteB_t (by decide) ?_ | refine iteB_f (by decide) ?_ | (refine Duo.mk (by first | omega | exact rfl | decide) ?_; intros) | (refine Duo.mk (Clo.mk (by kernel_rfl)) ?_; intros)))
  refine F83.L2_step ?_
  unfold F83.L2n
  (repeat (first | (refine Step.go ?_; intros) | refine iteB_t (by decide) ?_ | refine iteB_f (by decide) ?_ | (refine Duo.mk (by first | omega | exact rfl | decide) ?_; intros) | (refine Duo.mk (Clo.mk (by kernel_rfl)) ?_; intros)))
  refine nilM_r ?_
  refine callI_i (f := 94) (by kernel_rfl) (by kernel_rfl) (by kernel_rfl) ?_
  refine gives_i S (read_end ha S) fun H1 E1 S1 => ?_
  clear S
  (repeat (first | (refine Step.go ?_; intros) | refine iteB_t (by decide) ?_ | refine iteB_f (by decide) ?_ | (refine Duo.mk (by first | omega | exact rfl | decide) ?_; intros) | (refine Duo.mk (Clo.mk (by kernel_rfl)) ?_; intros)))
  refine F83.L0_step ?_
  unfold F83.L0n
  rw [show IntKind.wrap .i64 ((0 : Int) + (0 : Int)) = 0 by decide]
  refine iteB_t (by simp; omega) ?_
  (repeat (first | (refine Step.go ?_; intros) | refine iteB_t (by decide) ?_ | refine iteB_f (by decide) ?_ | (refine Duo.mk (by first | omega | exact rfl | decide) ?_; intros) | (refine Duo.mk (Clo.mk (by kernel_rfl)) ?_; intros)))
  refine F83.L1_step ?_
  unfold F83.L1n
  refine iteB_f (by simp; omega) ?_
  refine iteB_f (by decide) ?_
  exact ⟨rfl, E1⟩
theorem atl_part [Er : Ers l e0 e1] (hF : F.length ≤ 140737488351232) (hp : pn ≤ 140737488351232) (ha : at_ < F.length) (ha2 : F.length < at_ + pn) (R : Rd1 l b F) (hb : F.length ≤ bc) (S : Sat H (pt fb (frO b F.length bc at_) :: sl bC E 1 p pn pc ys :: l)) :
    CallsH Tryd.prog 83 ⟨[IV.v (rdI fb), .slice p pn pc, .int .i64 (pn : Int)]⟩ H (fun e H1 => ∃ (n : Int) (ys' : List UInt8), e = .returned (.tuple ⟨[.int .i64 n, eofI e1]⟩) ∧
      Sat H1 (pt fb (frO b F.length bc F.length) :: sl bC E 1 p pn pc ys' :: l)) := by
  refine F83.calls (r := rdI fb) ?_
  unfold F83.go
  refine iteB_f (by simp) ?_
  refine F83.L0_step ?_
  unfold F83.L0n
  refine iteB_t (by simp; omega) ?_
  (repeat (first | (refine Step.go ?_; intros) | refine iteB_t (by decide) ?_ | refine iteB_f (by decide) ?_ | (refine Duo.mk (by first | omega | exact rfl | decide) ?_; intros) | (refine Duo.mk (Clo.mk (by kernel_rfl)) ?_; intros)))
  refine F83.L2_step ?_
  unfold F83.L2n
  (repeat (first | (refine Step.go ?_; intros) | refine iteB_t (by decide) ?_ | refine iteB_f (by decide) ?_ | (refine Duo.mk (by first | omega | exact rfl | decide) ?_; intros) | (refine Duo.mk (Clo.mk (by kernel_rfl)) ?_; intros)))
  refine nilM_r ?_
  refine callI_i (f := 94) (by kernel_rfl) (by kernel_rfl) (by kernel_rfl) ?_
  have hr := read_some hF (by omega) R hb S
  have e : Nat.min (F.length - at_) pn = F.length - at_ := Nat.min_eq_left (by omega)
  rw [e] at hr
  rw [show (0 : Int).toNat = 0 from rfl, slP_zero, Nat.sub_zero, Nat.sub_zero]
  refine call_of hr ?_
  rintro e H1 ⟨rfl, S1⟩
  rw [show at_ + (F.length - at_) = F.length by omega] at S1
  clear S
  (repeat (first | (refine Step.go ?_; intros) | refine iteB_t (by decide) ?_ | refine iteB_f (by decide) ?_ | (refine Duo.mk (by first | omega | exact rfl | decide) ?_; intros) | (refine Duo.mk (Clo.mk (by kernel_rfl)) ?_; intros)))
  refine F83.L0_step ?_
  unfold F83.L0n
  have e1 : IntKind.wrap .i64 ((0 : Int) + ((F.length - at_ : Nat) : Int)) = ((F.length - at_ : Nat) : Int) := by rw [wr64 (by omega) (by omega)]; omega
  rw [e1]
  refine iteB_t (by simp; omega) ?_
  (repeat (first | (refine Step.go ?_; intros) | refine iteB_t (by decide) ?_ | refine iteB_f (by decide) ?_ | (refine Duo.mk (by first | omega | exact rfl | decide) ?_; intros) | (refine Duo.mk (Clo.mk (by kernel_rfl)) ?_; intros)))
  refine F83.L2_step ?_
  unfold F83.L2n
  (repeat (first | (refine Step.go ?_; intros) | refine iteB_t (by decide) ?_ | refine iteB_f (by decide) ?_ | (refine Duo.mk (by first | omega | exact rfl | decide) ?_; intros) | (refine Duo.mk (Clo.mk (by kernel_rfl)) ?_; intros)))
  refine nilM_r ?_
  refine callI_i (f := 94) (by kernel_rfl) (by kernel_rfl) (by kernel_rfl) ?_
  refine gives_i S1 (read_end rfl S1) fun H2 E2 S2 => ?_
  clear S1
  (repeat (first | (refine Step.go ?_; intros) | refine iteB_t (by decide) ?_ | refine iteB_f (by decide) ?_ | (refine Duo.mk (by first | omega | exact rfl | decide) ?_; intros) | (refine Duo.mk (Clo.mk (by kernel_rfl)) ?_; intros)))
  refine F83.L0_step ?_
  unfold F83.L0n
  rw [show IntKind.wrap .i64 (((F.length - at_ : Nat) : Int) + (0 : Int)) = ((F.length - at_ : Nat) : Int) by rw [wr64 (by omega) (by omega)]; omega]
  refine iteB_t (by simp; omega) ?_
  (repeat (first | (refine Step.go ?_; intros) | refine iteB_t (by decide) ?_ | refine iteB_f (by decide) ?_ | (refine Duo.mk (by first | omega | exact rfl | decide) ?_; intros) | (refine Duo.mk (Clo.mk (by kernel_rfl)) ?_; intros)))
  refine F83.L1_step ?_
  unfold F83.L1n
  refine iteB_f (by simp; omega) ?_
  refine iteB_t (by simp; omega) ?_
  (repeat (first | (refine Step.go ?_; intros) | refine iteB_t (by decide) ?_ | refine iteB_f (by decide) ?_ | (refine Duo.mk (by first | omega | exact rfl | decide) ?_; intros) | (refine Duo.mk (Clo.mk (by kernel_rfl)) ?_; intros)))
  refine eq_same ?_
  refine iteB_t rfl ?_
  (repeat (first | (refine Step.go ?_; intros) | refine iteB_t (by decide) ?_ | refine iteB_f (by decide) ?_ | (refine Duo.mk (by first | omega | exact rfl | decide) ?_; intros) | (refine Duo.mk (Clo.mk (by kernel_rfl)) ?_; intros)))
  exact ⟨_, _, rfl, S2⟩
/-! io.ReadFull -/
theorem full_of {R : Ending → Heap → Prop} {n : Int} {i : IV} (h : CallsH Tryd.prog 83 ⟨[IV.v (rdI fb), .slice p pn pc, .int .i64 (pn : Int)]⟩ H (fun e H1 => ∃ (n : Int) (i : IV), e = .returned (.tuple ⟨[.int .i64 n, i.v]⟩) ∧ R (.returned (.tuple ⟨[.int .i64 n, i.v]⟩)) H1)) :
    CallsH Tryd.prog 77 ⟨[IV.v (rdI fb), .slice p pn pc]⟩ H R := by
  refine F77.calls (r := rdI fb) ?_
  unfold F77.go
  refine call_of h ?_
  rintro e H1 ⟨n, i, rfl, h1⟩
  (repeat (first | (refine Step.go ?_; intros) | refine iteB_t (by decide) ?_ | refine iteB_f (by decide) ?_ | (refine Duo.mk (by first | omega | exact rfl | decide) ?_; intros) | (refine Duo.mk (Clo.mk (by kernel_rfl)) ?_; intros)))
  exact h1
theorem rf_full (hF : F.length ≤ 140737488351232) (h0 : 0 < pn) (ha : at_ + pn ≤ F.length) (R : Rd1 l b F) (hb : F.length ≤ bc) (S : Sat H (pt fb (frO b F.length bc at_) :: sl bC E 1 p pn pc ys :: l)) :
    CallsH Tryd.prog 77 ⟨[IV.v (rdI fb), .slice p pn pc]⟩ H (fun e H1 => e = .returned (.tuple ⟨[.int .i64 (pn : Int), .nilIface]⟩) ∧
      Sat H1 (pt fb (frO b F.length bc (at_ + pn)) :: sl bC E 1 p pn pc ((F.drop at_).take pn) :: l)) :=
  full_of (n := 0) (i := .nil) ((atl_full hF h0 ha R hb S).mono fun e H1 ⟨a, b⟩ => ⟨_, .nil, a, rfl, b⟩)
theorem rf_none [Er : Ers l e0 e1] (hp : pn ≤ 140737488351232) (h0 : 0 < pn) (ha : at_ = F.length) (S : Sat H (pt fb (frO b F.length bc at_) :: l)) :
    CallsH Tryd.prog 77 ⟨[IV.v (rdI fb), .slice p pn pc]⟩ H (Gives (.tuple ⟨[.int .i64 0, eofI e0]⟩) H) :=
  full_of (n := 0) (i := .nil) ((atl_none hp h0 ha S).mono fun e H1 ⟨a, b⟩ => ⟨_, .mk 122 (.pointer (some e0)), a, rfl, b⟩)
theorem rf_part [Er : Ers l e0 e1] (hF : F.length ≤ 140737488351232) (hp : pn ≤ 140737488351232) (ha : at_ < F.length) (ha2 : F.length < at_ + pn) (R : Rd1 l b F) (hb : F.length ≤ bc) (S : Sat H (pt fb (frO b F.length bc at_) :: sl bC E 1 p pn pc ys :: l)) :
    CallsH Tryd.prog 77 ⟨[IV.v (rdI fb), .slice p pn pc]⟩ H (fun e H1 => ∃ (n : Int) (ys' : List UInt8), e = .returned (.tuple ⟨[.int .i64 n, eofI e1]⟩) ∧
      Sat H1 (pt fb (frO b F.length bc F.length) :: sl bC E 1 p pn pc ys' :: l)) :=
  full_of (n := 0) (i := .nil) ((atl_part hF hp ha ha2 R hb S).mono fun e H1 ⟨n, ys', a, b⟩ => ⟨n, .mk 122 (.pointer (some e1)), a, n, ys', rfl, b⟩)
/-! ReadLittle64 -/
def deL : List UInt8 → Nat
  | [] => 0
  | b :: r => b.toNat + 256 * deL r
theorem deL_lt : ∀ (xs : List UInt8), deL xs < 256 ^ xs.length
  | [] => by simp [deL]
  | b :: r => by
    have := deL_lt r
    have := b.toNat_lt
    simp only [deL, List.length_cons, Nat.pow_succ]
    omega
theorem rl_loop {r1 : Nat} {xs : List UInt8} (hx : xs.length = 8) (S : Sat H (sl bC 156 1 (some ⟨r1, 0, none⟩) 8 8 xs :: l)) :
    ∀ (d : Nat), d ≤ 8 → F82.L0 r1 ((deL (xs.drop d) : Nat) : Int) ((d : Int) - 1) H (fun e H1 => e = .returned (.tuple ⟨[.int .i64 (IntKind.wrap .i64 ((deL xs : Nat) : Int)), .nilIface]⟩) ∧ H1 = H) := by
  intro d
  induction d with
  | zero =>
    intro _
    refine F82.L0_step ?_
    unfold F82.L0n
    refine iteB_f (by decide) ?_
    exact ⟨rfl, rfl⟩
  | succ d ih =>
    intro hd
    refine F82.L0_step ?_
    unfold F82.L0n
    refine iteB_t (decide_eq_true (by omega)) ?_
    have e0 : ((d + 1 : Nat) : Int) - 1 = (d : Int) := by omega
    rw [e0]
    have hb : xs[d]? = some xs[d] := List.getElem?_eq_getElem (by omega)
    refine ⟨by decide, by omega, by omega, ?_⟩
    have hc := S.slCell (List.mem_cons_self ..) (j := 0) (v := .int .u8 ((xs[d]).toNat : Int)) hb rfl
    refine ⟨_, by rw [Int.toNat_natCast]; simpa using hc, ?_⟩
    have hl := deL_lt (xs.drop (d + 1))
    have hll : (xs.drop (d + 1)).length = 7 - d := by rw [List.length_drop]; omega
    have hp : 256 ^ (7 - d) ≤ 256 ^ 7 := Nat.pow_le_pow_right (by decide) (by omega)
    rw [hll] at hl
    have ht := (xs[d]).toNat_lt
    have h7 : (256 : Nat) ^ 7 = 72057594037927936 := by decide
    dsimp only
    rw [wru64 (n := (xs[d]).toNat) (by omega), show (8 : Int) = ((8 : Nat) : Int) from rfl, shl64 (by omega) (by omega), or64 (by omega) (by omega), or_add (k := 8) (by omega) (by omega)]
    have e1 : deL (xs.drop (d + 1)) * 2 ^ 8 + (xs[d]).toNat = deL (xs.drop d) := by
      have e2 : xs.drop d = xs[d] :: xs.drop (d + 1) := List.drop_eq_getElem_cons (by omega)
      rw [e2]; simp only [deL]; omega
    rw [e1, wr64 (i := (d : Int) - 1) (by omega) (by omega)]
    exact ih (by omega)
theorem deL_le8 {m : Nat} (h : m < 18446744073709551616) : deL (le8 m) = m := by
  have e : le8 m = [bt (m / 2 ^ 0), bt (m / 2 ^ 8), bt (m / 2 ^ 16), bt (m / 2 ^ 24), bt (m / 2 ^ 32), bt (m / 2 ^ 40), bt (m / 2 ^ 48), bt (m / 2 ^ 56)] := rfl
  rw [e]
  simp only [deL, bt_nat]
  omega
theorem arr_sl {r1 : Nat} (S : Sat H (pt r1 (.cells ⟨[.int .u8 0, .int .u8 0, .int .u8 0, .int .u8 0, .int .u8 0, .int .u8 0, .int .u8 0, .int .u8 0]⟩ 156) :: l)) : Sat H (sl bC 156 1 (some ⟨r1, 0, none⟩) 8 8 (zerosB 8) :: l) :=
  S.to (Ent.slClose (f := bC) (z := 1) (n := 8) (c := 8) (pre := []) (sp := []) (xs := zerosB 8) rfl (by intro x _; rfl) (Nat.le_refl _) rfl (by simp))
theorem ri_full (hF : F.length ≤ 140737488351232) (ha : at_ + 8 ≤ F.length) (R : Rd1 l b F) (hb : F.length ≤ bc) (S : Sat H (pt fb (frO b F.length bc at_) :: l)) :
    CallsH Tryd.prog 74 ⟨[IV.v (rdI fb)]⟩ H (fun e H1 => e = .returned (.tuple ⟨[.int .i64 (IntKind.wrap .i64 ((deL ((F.drop at_).take 8) : Nat) : Int)), .nilIface]⟩) ∧ Sat H1 (pt fb (frO b F.length bc (at_ + 8)) :: l)) := by
  refine F74.calls (r := rdI fb) ?_
  unfold F74.go
  refine call_of (S := fun e H1 => e = .returned (.tuple ⟨[.int .i64 (IntKind.wrap .i64 ((deL ((F.drop at_).take 8) : Nat) : Int)), .nilIface]⟩) ∧ Sat H1 (pt fb (frO b F.length bc (at_ + 8)) :: l)) ?_ ?_
  · refine F82.calls (r := rdI fb) ?_
    unfold F82.go
    (repeat (first | (refine Step.go ?_; intros) | refine iteB_t (by decide) ?_ | refine iteB_f (by decide) ?_ | (refine Duo.mk (by first | omega | exact rfl | decide) ?_; intros) | (refine Duo.mk (Clo.mk (by kernel_rfl)) ?_; intros)))
    rename_i r1 H1 S1
    clear S
    have S2 := (arr_sl S1).to Ent.swp
    refine call_of (rf_full hF (by decide) ha R hb S2) ?_
    rintro e H2 ⟨rfl, S3⟩
    clear S1 S2
    (repeat (first | (refine Step.go ?_; intros) | refine iteB_t (by decide) ?_ | refine iteB_f (by decide) ?_ | (refine Duo.mk (by first | omega | exact rfl | decide) ?_; intros) | (refine Duo.mk (Clo.mk (by kernel_rfl)) ?_; intros)))
    have S4 := S3.to Ent.swp
    have h8 : ((F.drop at_).take 8).length = 8 := by simp; omega
    have hl := rl_loop h8 S4 8 (by omega)
    rw [List.drop_eq_nil_of_le (by omega)] at hl
    refine GoL.mono hl ?_
    rintro e H3 ⟨rfl, rfl⟩
    exact ⟨rfl, S4.to (.drop .refl)⟩
  · rintro e H1 ⟨rfl, S1⟩
    (repeat (first | (refine Step.go ?_; intros) | refine iteB_t (by decide) ?_ | refine iteB_f (by decide) ?_ | (refine Duo.mk (by first | omega | exact rfl | decide) ?_; intros) | (refine Duo.mk (Clo.mk (by kernel_rfl)) ?_; intros)))
    exact ⟨rfl, S1⟩
theorem ri_none [Er : Ers l e0 e1] (ha : at_ = F.length) (S : Sat H (pt fb (frO b F.length bc at_) :: l)) :
    CallsH Tryd.prog 74 ⟨[IV.v (rdI fb)]⟩ H (fun e H1 => e = .returned (.tuple ⟨[.int .i64 0, eofI e0]⟩) ∧ Sat H1 (pt fb (frO b F.length bc at_) :: l)) := by
  refine F74.calls (r := rdI fb) ?_
  unfold F74.go
  refine call_of (S := fun e H1 => e = .returned (.tuple ⟨[.int .i64 0, eofI e0]⟩) ∧ Sat H1 (pt fb (frO b F.length bc at_) :: l)) ?_ ?_
  · refine F82.calls (r := rdI fb) ?_
    unfold F82.go
    (repeat (first | (refine Step.go ?_; intros) | refine iteB_t (by decide) ?_ | refine iteB_f (by decide) ?_ | (refine Duo.mk (by first | omega | exact rfl | decide) ?_; intros) | (refine Duo.mk (Clo.mk (by kernel_rfl)) ?_; intros)))
    rename_i r1 H1 S1
    clear S
    refine gives_i S1 (rf_none (by decide) (by decide) ha (S1.to (Ent.swp))) fun H2 E2 S2 => ?_
    clear S1
    (repeat (first | (refine Step.go ?_; intros) | refine iteB_t (by decide) ?_ | refine iteB_f (by decide) ?_ | (refine Duo.mk (by first | omega | exact rfl | decide) ?_; intros) | (refine Duo.mk (Clo.mk (by kernel_rfl)) ?_; intros)))
    exact ⟨rfl, S2.to (.drop .refl)⟩
  · rintro e H1 ⟨rfl, S1⟩
    (repeat (first | (refine Step.go ?_; intros) | refine iteB_t (by decide) ?_ | refine iteB_f (by decide) ?_ | (refine Duo.mk (by first | omega | exact rfl | decide) ?_; intros) | (refine Duo.mk (Clo.mk (by kernel_rfl)) ?_; intros)))
    exact ⟨rfl, S1⟩
theorem ri_part [Er : Ers l e0 e1] (hF : F.length ≤ 140737488351232) (ha : at_ < F.length) (ha2 : F.length < at_ + 8) (R : Rd1 l b F) (hb : F.length ≤ bc) (S : Sat H (pt fb (frO b F.length bc at_) :: l)) :
    CallsH Tryd.prog 74 ⟨[IV.v (rdI fb)]⟩ H (fun e H1 => e = .returned (.tuple ⟨[.int .i64 0, eofI e1]⟩) ∧ Sat H1 (pt fb (frO b F.length bc F.length) :: l)) := by
  refine F74.calls (r := rdI fb) ?_
  unfold F74.go
  refine call_of (S := fun e H1 => e = .returned (.tuple ⟨[.int .i64 0, eofI e1]⟩) ∧ Sat H1 (pt fb (frO b F.length bc F.length) :: l)) ?_ ?_
  · refine F82.calls (r := rdI fb) ?_
    unfold F82.go
    (repeat (first | (refine Step.go ?_; intros) | refine iteB_t (by decide) ?_ | refine iteB_f (by decide) ?_ | (refine Duo.mk (by first | omega | exact rfl | decide) ?_; intros) | (refine Duo.mk (Clo.mk (by kernel_rfl)) ?_; intros)))
    rename_i r1 H1 S1
    clear S
    have S2 := (arr_sl S1).to Ent.swp
    refine call_of (rf_part hF (by decide) ha ha2 R hb S2) ?_
    rintro e H2 ⟨n, ys', rfl, S3⟩
    clear S1 S2
    (repeat (first | (refine Step.go ?_; intros) | refine iteB_t (by decide) ?_ | refine iteB_f (by decide) ?_ | (refine Duo.mk (by first | omega | exact rfl | decide) ?_; intros) | (refine Duo.mk (Clo.mk (by kernel_rfl)) ?_; intros)))
    exact ⟨rfl, S3.to (.cons (.drop .refl))⟩
  · rintro e H1 ⟨rfl, S1⟩
    (repeat (first | (refine Step.go ?_; intros) | refine iteB_t (by decide) ?_ | refine iteB_f (by decide) ?_ | (refine Duo.mk (by first | omega | exact rfl | decide) ?_; intros) | (refine Duo.mk (Clo.mk (by kernel_rfl)) ?_; intros)))
    exact ⟨rfl, S1⟩
end
end Go.Proofs.YtkejocbhmcphiaaDoor

set_option linter.unusedVariables false
set_option linter.unusedSimpArgs false
set_option linter.unnecessarySimpa false
namespace Go.Proofs.YtkejocbhmcphiaaDoor
open Go Go.Den Go.Proofs
/-! Fields read. -/
section
variable {H : Heap} {l : List HP} {p : Option Addr} {pc : Nat}
theorem p128 (i : Nat) : 2 ^ (7 * i) = 128 ^ i := by rw [Nat.pow_mul]
theorem and127 {b : Nat} (h : b < 256) : andZ .u8 (b : Int) (127 : Int) = ((b % 128 : Nat) : Int) := by
  rw [show (127 : Int) = ((127 : Nat) : Int) from rfl, and8 (by omega) (by omega), show (127 : Nat) = 2 ^ 7 - 1 from rfl, Nat.and_two_pow_sub_one_eq_mod]
theorem vbF_head : ∀ {f m : Nat}, ∃ b r, vbF (f + 1) m = b :: r ∧ b.toNat % 128 = m % 128 ∧ (b.toNat < 128 → m < 128 ∧ b.toNat = m ∧ r = []) ∧ (128 ≤ b.toNat → 128 ≤ m ∧ r = vbF f (m / 128)) := by
  intro f m
  rw [vbF]
  split
  · rename_i h
    refine ⟨bt m, [], rfl, ?_, ?_, ?_⟩ <;> rw [bt_nat]
    · omega
    · intro _; exact ⟨h, by omega, rfl⟩
    · intro _; omega
  · rename_i h
    refine ⟨_, _, rfl, ?_, ?_, ?_⟩ <;> rw [bt_nat]
    · omega
    · intro _; omega
    · intro _; exact ⟨by omega, rfl⟩
set_option maxRecDepth 100000 in
theorem takev_loop {M : Nat} {bs rest : List UInt8} (hM : M < 18446744073709551616) (hl : bs.length ≤ 140737488351232) (hc : bs.length ≤ pc) (R : Rd1 l p bs) (S : Sat H l) : ∀ (f i m acc : Nat), i + (f + 1) = 10 → m < 128 ^ (f + 1) → m = M / 128 ^ i → acc = M % 128 ^ i → bs.drop i = vbF (f + 1) m ++ rest → i ≤ bs.length →
    F92.L0 p bs.length pc (acc : Int) (i : Int) H (Gives (.tuple ⟨[.int .u64 (M : Int), .slice (slP p (i + (vbF (f + 1) m).length) pc 1) rest.length (pc - (i + (vbF (f + 1) m).length)), .bool true]⟩) H) := by
  intro f
  induction f with
  | zero =>
    intro i m acc hi hm hm2 hacc hd hle
    obtain ⟨b, r, e1, e2, e3, e4⟩ := vbF_head (f := 0) (m := m)
    have hi9 : i = 9 := by omega
    subst hi9
    have hb : bs[9]? = some b := by
      have : (bs.drop 9)[0]? = some b := by rw [hd, e1]; rfl
      rw [List.getElem?_drop] at this; exact this
    have hlb : 9 < bs.length := by
      rcases Nat.lt_or_ge 9 bs.length with h | h
      · exact h
      · rw [List.getElem?_eq_none h] at hb; cases hb
    have h9 : (128 : Nat) ^ 9 = 9223372036854775808 := by decide
    rw [h9] at hm2 hacc
    have hm1 : m ≤ 1 := by omega
    have hbl : b.toNat < 128 := by
      rcases Nat.lt_or_ge b.toNat 128 with h | h
      · exact h
      · have := (e4 h).1; omega
    obtain ⟨_, hbm, hr⟩ := e3 hbl
    rw [e1, hr] at hd ⊢
    refine F92.L0_step ?_
    unfold F92.L0n
    refine iteB_t (decide_eq_true (by omega)) ?_
    refine iteB_t (by decide) ?_
    refine F92.L1_step ?_
    unfold F92.L1n
    refine iteB_t (by decide) ?_
    refine R.idx S rfl rfl hb fun a ha hcc => ?_
    refine ⟨_, hcc, ?_⟩
    refine iteB_f (decide_eq_false (by omega)) ?_
    refine F92.L2_step ?_
    unfold F92.L2n
    refine R.idx S rfl rfl hb fun a ha hcc => ?_
    refine ⟨_, hcc, ?_⟩
    have ew : IntKind.wrap .u64 ((7 : Int) * (IntKind.wrap .u64 ((9 : Nat) : Int))) = ((63 : Nat) : Int) := by decide
    rw [ew]
    refine ⟨by decide, ?_⟩
    refine R.idx S rfl rfl hb fun a ha hcc => ?_
    refine ⟨_, hcc, ?_⟩
    refine iteB_t (decide_eq_true (by omega)) ?_
    have ei : IntKind.wrap .i64 (((9 : Nat) : Int) + (1 : Int)) = ((10 : Nat) : Int) := by decide
    rw [ei, and127 (by omega), wru64 (by omega), shl64 (by omega) (by omega), or64 (by omega) (by omega), or_add' (k := 63) (by omega) (by omega)]
    refine ⟨by omega, by omega, ?_⟩
    have e5 : acc + b.toNat % 128 * 2 ^ 63 = M := by omega
    have e6 : bs.length - 10 = rest.length := by
      have := congrArg List.length hd
      simp at this
      omega
    dsimp only
    rw [e5, Int.toNat_natCast, e6]
    exact ⟨rfl, ExtH.refl H⟩
  | succ f ih =>
    intro i m acc hi hm hm2 hacc hd hle
    obtain ⟨b, r, e1, e2, e3, e4⟩ := vbF_head (f := f + 1) (m := m)
    have hb : bs[i]? = some b := by
      have : (bs.drop i)[0]? = some b := by rw [hd, e1]; rfl
      rw [List.getElem?_drop] at this; exact this
    have hlb : i < bs.length := by
      rcases Nat.lt_or_ge i bs.length with h | h
      · exact h
      · rw [List.getElem?_eq_none h] at hb; cases hb
    have hi8 : i ≤ 8 := by omega
    have hb256 := b.toNat_lt
    refine F92.L0_step ?_
    unfold F92.L0n
    refine iteB_t (decide_eq_true (by omega)) ?_
    refine iteB_t (decide_eq_true (by omega)) ?_
    refine F92.L1_step ?_
    unfold F92.L1n
    refine iteB_f (by simp; omega) ?_
    refine F92.L2_step ?_
    unfold F92.L2n
    refine R.idx S rfl rfl hb fun a ha hcc => ?_
    refine ⟨_, hcc, ?_⟩
    have ew : IntKind.wrap .u64 ((7 : Int) * (IntKind.wrap .u64 (i : Int))) = ((7 * i : Nat) : Int) := by
      rw [wru64 (by omega), show (7 : Int) * (i : Int) = ((7 * i : Nat) : Int) by simp, wru64 (by omega)]
    rw [ew]
    refine ⟨by omega, ?_⟩
    refine R.idx S rfl rfl hb fun a ha hcc => ?_
    refine ⟨_, hcc, ?_⟩
    dsimp only
    have ei : IntKind.wrap .i64 ((i : Int) + (1 : Int)) = ((i + 1 : Nat) : Int) := by rw [wr64 (by omega) (by omega)]; rfl
    have hpos : 0 < 128 ^ i := Nat.pow_pos (by decide)
    have hMm : M = acc + m * 128 ^ i := by rw [hacc, hm2]; have := Nat.mod_add_div M (128 ^ i); rw [Nat.mul_comm] at this; omega
    have hacc2 : acc < 128 ^ i := by rw [hacc]; exact Nat.mod_lt _ hpos
    have hle2 : m % 128 * 128 ^ i ≤ m * 128 ^ i := Nat.mul_le_mul_right _ (Nat.mod_le _ _)
    have hacc3 : acc < 2 ^ 64 := by omega
    have hx : m % 128 * 128 ^ i < 18446744073709551616 := by omega
    have hsum : orZ .u64 (acc : Int) (shlZ .u64 (IntKind.wrap .u64 (andZ .u8 ((b.toNat : Nat) : Int) (127 : Int))) ((7 * i : Nat) : Int)) = ((acc + m % 128 * 128 ^ i : Nat) : Int) := by
      rw [and127 (by omega), e2, wru64 (by omega), shl64 (by omega) (by rw [p128]; exact hx), p128, or64 hacc3 hx, or_add' (k := 7 * i) (by rw [p128]; exact Nat.mul_mod_left _ _) (by rw [p128]; exact hacc2)]
    rw [hsum, ei]
    by_cases hbl : b.toNat < 128
    · obtain ⟨h1, h2, h3⟩ := e3 hbl
      refine iteB_t (decide_eq_true (by omega)) ?_
      refine ⟨by omega, by omega, ?_⟩
      rw [e1, h3] at hd ⊢
      have e5 : acc + m % 128 * 128 ^ i = M := by rw [Nat.mod_eq_of_lt h1]; omega
      have e6 : bs.length - (i + 1) = rest.length := by
        have := congrArg List.length hd
        simp at this
        omega
      rw [e5, Int.toNat_natCast, e6]
      exact ⟨rfl, ExtH.refl H⟩
    · obtain ⟨h1, h2⟩ := e4 (by omega)
      refine iteB_f (decide_eq_false (by omega)) ?_
      have hd2 : bs.drop (i + 1) = vbF (f + 1) (m / 128) ++ rest := by
        have : bs.drop (i + 1) = (bs.drop i).drop 1 := by rw [List.drop_drop]
        rw [this, hd, e1, h2]; rfl
      have hn := ih (i + 1) (m / 128) (acc + m % 128 * 128 ^ i) (by omega) (by rw [Nat.pow_succ] at hm; omega) (by
        rw [hm2, Nat.div_div_eq_div_mul, Nat.pow_succ]) (by
        rw [Nat.pow_succ, Nat.mod_mul, ← hacc, ← hm2, Nat.mul_comm]) hd2 (by omega)
      have e7 : i + (vbF (f + 1 + 1) m).length = i + 1 + (vbF (f + 1) (m / 128)).length := by rw [e1, h2]; simp; omega
      rw [e7]
      exact hn
theorem takev_ok {m : Nat} {rest : List UInt8} (hm : m < 18446744073709551616) (hl : (vb m ++ rest).length ≤ 140737488351232) (hc : (vb m ++ rest).length ≤ pc) (R : Rd1 l p (vb m ++ rest)) (S : Sat H l) :
    CallsH Tryd.prog 92 ⟨[.slice p (vb m ++ rest).length pc]⟩ H (Gives (.tuple ⟨[.int .u64 (m : Int), .slice (slP p (vb m).length pc 1) rest.length (pc - (vb m).length), .bool true]⟩) H) := by
  refine F92.calls ?_
  unfold F92.go
  have h128 : (128 : Nat) ^ (9 + 1) = 1180591620717411303424 := by decide
  have := takev_loop (M := m) hm hl hc R S 9 0 m 0 rfl (by rw [h128]; omega) (by simp) (by simp; omega) rfl (by omega)
  rw [Nat.zero_add] at this
  exact this
theorem Rd1.rest {m : Nat} {rest : List UInt8} (hc : (vb m ++ rest).length ≤ pc) (R : Rd1 l p (vb m ++ rest)) : Rd1 l (slP p (vb m).length pc 1) rest := by
  have := R.drop (vb m).length pc hc
  rwa [List.drop_left] at this
end
end Go.Proofs.YtkejocbhmcphiaaDoor

set_option linter.unusedVariables false
set_option linter.unusedSimpArgs false
set_option linter.unnecessarySimpa false
set_option maxRecDepth 100000
namespace Go.Proofs.YtkejocbhmcphiaaDoor
open Go Go.Den Go.Proofs
/-! A record read from its protobuf. -/
abbrev fldV (n : Int) (b : Bool) (m : Int) (a : Option Addr) (an ac : Nat) (q : Option Addr) (qn qc : Nat) : Value := .tuple ⟨[.agg ⟨[.int .i64 n, .bool b, .int .i64 m, .slice a an ac]⟩, .slice q qn qc, .bool true]⟩
section
variable {H : Heap} {l l0 : List HP} {p : Option Addr} {pc : Nat}
abbrev numOut (key m : Nat) (rest : List UInt8) (l0 l : List HP) : Ending → Heap → Prop := fun e H1 => ∃ q' c', e = .returned (fldV (key / 8 : Nat) false (IntKind.wrap .i64 (m : Int)) none 0 0 q' rest.length c') ∧ rest.length ≤ c' ∧ Rd1 l0 q' rest ∧ Sat H1 l
abbrev bytOut (ys rest : List UInt8) (l0 l : List HP) : Ending → Heap → Prop := fun e H1 => ∃ q' c' dq dc, e = .returned (fldV 3 true 0 dq ys.length dc q' rest.length c') ∧ rest.length ≤ c' ∧ Rd1 l0 q' rest ∧ Sat H1 (sl bC 5 1 dq ys.length dc ys :: l)
theorem vb_key {key : Nat} {xs : List UInt8} (h : key < 128) : bt key :: xs = vb key ++ xs := by rw [vb_small h]; rfl
theorem takeN_ok {key m : Nat} {rest : List UInt8} (hk : key = 8 ∨ key = 16) (hm : m < 18446744073709551616) (hl : (bt key :: (vb m ++ rest)).length ≤ 140737488351232) (hc : (bt key :: (vb m ++ rest)).length ≤ pc) (en : Ent l l0) (R : Rd1 l0 p (bt key :: (vb m ++ rest))) (S : Sat H l) :
    CallsH Tryd.prog 91 ⟨[.slice p (bt key :: (vb m ++ rest)).length pc, .int .i64 0]⟩ H (numOut key m rest l0 l) := by
  have hkey : key < 128 := by omega
  rw [vb_key hkey] at R hl hc ⊢
  have hv := vb_len key
  refine F91.calls ?_
  unfold F91.go
  (repeat (first | (refine Step.go ?_; intros) | refine iteB_t (by decide) ?_ | refine iteB_f (by decide) ?_ | (refine Duo.mk (by first | omega | exact rfl | decide) ?_; intros) | (refine Duo.mk (Clo.mk (by kernel_rfl)) ?_; intros)))
  rename_i r H1 S1
  refine gives_i S1 (takev_ok (by omega) hl hc (R.ent en).there S1) fun H2 E2 S2 => ?_
  clear S S1
  have R2 := R.rest hc
  have hc2 : (vb m ++ rest).length ≤ pc - (vb key).length := by rw [List.length_append] at hc; omega
  generalize slP p (vb key).length pc 1 = q at *
  generalize pc - (vb key).length = qc at *
  (repeat (first | (refine Step.go ?_; intros) | refine iteB_t (by decide) ?_ | refine iteB_f (by decide) ?_ | (refine Duo.mk (by first | omega | exact rfl | decide) ?_; intros) | (refine Duo.mk (Clo.mk (by kernel_rfl)) ?_; intros)))
  rcases hk with rfl | rfl
  all_goals
    refine iteB_f (by decide) ?_
    refine ⟨by decide, ?_⟩
    refine iteB_f (by decide) ?_
    refine iteB_f (by decide) ?_
    refine F91.L0_step ?_
    unfold F91.L0n
    refine iteB_t (by decide) ?_
    refine gives_i S2 (takev_ok hm (by rw [List.length_append] at hl; omega) hc2 (R2.ent en).there S2) fun H3 E3 S3 => ?_
    clear S2
    have R3 := R2.rest hc2
    have hc3 : rest.length ≤ qc - (vb m).length := by rw [List.length_append] at hc2; omega
    generalize slP q (vb m).length qc 1 = q3 at *
    generalize qc - (vb m).length = c3 at *
    (repeat (first | (refine Step.go ?_; intros) | refine iteB_t (by decide) ?_ | refine iteB_f (by decide) ?_ | (refine Duo.mk (by first | omega | exact rfl | decide) ?_; intros) | (refine Duo.mk (Clo.mk (by kernel_rfl)) ?_; intros)))
    have S9 := ‹Sat _ _›
    exact ⟨q3, c3, rfl, hc3, R3, S9.to (.drop .refl)⟩
theorem takeB_ok {ys rest : List UInt8} (hl : (bt 26 :: (vb ys.length ++ (ys ++ rest))).length ≤ 1000000000) (hc : (bt 26 :: (vb ys.length ++ (ys ++ rest))).length ≤ pc) (en : Ent l l0) (R : Rd1 l0 p (bt 26 :: (vb ys.length ++ (ys ++ rest)))) (S : Sat H l) :
    CallsH Tryd.prog 91 ⟨[.slice p (bt 26 :: (vb ys.length ++ (ys ++ rest))).length pc, .int .i64 0]⟩ H (bytOut ys rest l0 l) := by
  have hyl : ys.length ≤ 1000000000 := by simp at hl; omega
  have hrl : rest.length ≤ 1000000000 := by simp at hl; omega
  rw [vb_key (by decide)] at R hl hc ⊢
  have hv := vb_len 26
  refine F91.calls ?_
  unfold F91.go
  (repeat (first | (refine Step.go ?_; intros) | refine iteB_t (by decide) ?_ | refine iteB_f (by decide) ?_ | (refine Duo.mk (by first | omega | exact rfl | decide) ?_; intros) | (refine Duo.mk (Clo.mk (by kernel_rfl)) ?_; intros)))
  rename_i r H1 S1
  refine gives_i S1 (takev_ok (by decide) (by omega) hc (R.ent en).there S1) fun H2 E2 S2 => ?_
  clear S S1
  have R2 := R.rest hc
  have hc2 : (vb ys.length ++ (ys ++ rest)).length ≤ pc - (vb 26).length := by rw [List.length_append] at hc; omega
  have hl2 : (vb ys.length ++ (ys ++ rest)).length ≤ 1000000000 := by rw [List.length_append] at hl; omega
  generalize slP p (vb 26).length pc 1 = q at *
  generalize pc - (vb 26).length = qc at *
  (repeat (first | (refine Step.go ?_; intros) | refine iteB_t (by decide) ?_ | refine iteB_f (by decide) ?_ | (refine Duo.mk (by first | omega | exact rfl | decide) ?_; intros) | (refine Duo.mk (Clo.mk (by kernel_rfl)) ?_; intros)))
  refine F91.L0_step ?_
  unfold F91.L0n
  (repeat (first | (refine Step.go ?_; intros) | refine iteB_t (by decide) ?_ | refine iteB_f (by decide) ?_ | (refine Duo.mk (by first | omega | exact rfl | decide) ?_; intros) | (refine Duo.mk (Clo.mk (by kernel_rfl)) ?_; intros)))
  refine gives_i S2 (takev_ok (by omega) (by omega) hc2 (R2.ent en).there S2) fun H3 E3 S3 => ?_
  clear S2
  have R3 := R2.rest hc2
  have hc3 : (ys ++ rest).length ≤ qc - (vb ys.length).length := by rw [List.length_append] at hc2; omega
  generalize slP q (vb ys.length).length qc 1 = q3 at *
  generalize qc - (vb ys.length).length = c3 at *
  have hyr : (ys ++ rest).length = ys.length + rest.length := List.length_append
  (repeat (first | (refine Step.go ?_; intros) | refine iteB_t (by decide) ?_ | refine iteB_f (by decide) ?_ | (refine Duo.mk (by first | omega | exact rfl | decide) ?_; intros) | (refine Duo.mk (Clo.mk (by kernel_rfl)) ?_; intros)))
  rw [wru64 (by omega)]
  refine iteB_f (decide_eq_false (by omega)) ?_
  refine F91.L2_step ?_
  unfold F91.L2n
  (repeat (first | (refine Step.go ?_; intros) | refine iteB_t (by decide) ?_ | refine iteB_f (by decide) ?_ | (refine Duo.mk (by first | omega | exact rfl | decide) ?_; intros) | (refine Duo.mk (Clo.mk (by kernel_rfl)) ?_; intros)))
  rw [slP_zero, Int.toNat_natCast]
  rename_i r4 H4 S4
  clear S3
  have S5 : Sat H4 (sl bC 5 1 (some ⟨r4, 0, none⟩) ([] : List UInt8).length 0 [] :: pt r (.cells ⟨[.int .i64 0, .bool false, .int .i64 0, .slice none 0 0]⟩ 161) :: l) :=
    S4.to (Ent.slClose (f := bC) (z := 1) (n := 0) (c := 0) (pre := []) (sp := []) (xs := []) rfl (by intro x hx; cases hx) (Nat.le_refl _) rfl (by simp))
  have hyt : ys = (ys ++ rest).take ys.length := by simp
  refine apB (xs := []) (ys := ys) (m := pt r (.cells ⟨[.int .i64 0, .bool false, .int .i64 0, .slice none 0 0]⟩ 161) :: l) (by simp; omega) rfl S5 (by rw [hyt]; exact ((R3.take ys.length).ent en).there) fun dq dc H6 S6 => ?_
  clear S4 S5
  rw [List.nil_append] at S6 ⊢
  (repeat (first | (refine Step.go ?_; intros) | refine iteB_t (by decide) ?_ | refine iteB_f (by decide) ?_ | (refine Duo.mk (by first | omega | exact rfl | decide) ?_; intros) | (refine Duo.mk (Clo.mk (by kernel_rfl)) ?_; intros)))
  have S9 := ‹Sat _ _›
  have R4 := R3.drop ys.length c3 hc3
  rw [List.drop_left] at R4
  have e1 : (ys ++ rest).length - ys.length = rest.length := by omega
  rw [e1]
  refine ⟨_, _, dq, dc, rfl, by omega, R4, S9.to ?_⟩
  apply Ent.pick; (focus (repeat (first | exact Sel.here | apply Sel.there)))
  exact Ent.drop .refl
theorem takeN2_ok {key m : Nat} {rest : List UInt8} (hk : key = 8 ∨ key = 16) (hm : m < 18446744073709551616) (hl : (bt key :: (vb m ++ rest)).length ≤ 140737488351232) (hc : (bt key :: (vb m ++ rest)).length ≤ pc) (en : Ent l l0) (R : Rd1 l0 p (bt key :: (vb m ++ rest))) (S : Sat H l) :
    CallsH Tryd.prog 90 ⟨[.slice p (bt key :: (vb m ++ rest)).length pc]⟩ H (numOut key m rest l0 l) := by
  refine F90.calls ?_
  unfold F90.go
  (repeat (first | (refine Step.go ?_; intros) | refine iteB_t (by decide) ?_ | refine iteB_f (by decide) ?_ | (refine Duo.mk (by first | omega | exact rfl | decide) ?_; intros) | (refine Duo.mk (Clo.mk (by kernel_rfl)) ?_; intros)))
  rename_i r H1 S1
  refine call_of (takeN_ok hk hm hl hc (Ent.drop en) R S1) ?_
  rintro e H2 ⟨q', c', rfl, h1, h2, S2⟩
  clear S S1
  (repeat (first | (refine Step.go ?_; intros) | refine iteB_t (by decide) ?_ | refine iteB_f (by decide) ?_ | (refine Duo.mk (by first | omega | exact rfl | decide) ?_; intros) | (refine Duo.mk (Clo.mk (by kernel_rfl)) ?_; intros)))
  have S9 := ‹Sat _ _›
  exact ⟨q', c', rfl, h1, h2, S9.to (.drop .refl)⟩
theorem takeB2_ok {ys rest : List UInt8} (hl : (bt 26 :: (vb ys.length ++ (ys ++ rest))).length ≤ 1000000000) (hc : (bt 26 :: (vb ys.length ++ (ys ++ rest))).length ≤ pc) (en : Ent l l0) (R : Rd1 l0 p (bt 26 :: (vb ys.length ++ (ys ++ rest)))) (S : Sat H l) :
    CallsH Tryd.prog 90 ⟨[.slice p (bt 26 :: (vb ys.length ++ (ys ++ rest))).length pc]⟩ H (bytOut ys rest l0 l) := by
  refine F90.calls ?_
  unfold F90.go
  (repeat (first | (refine Step.go ?_; intros) | refine iteB_t (by decide) ?_ | refine iteB_f (by decide) ?_ | (refine Duo.mk (by first | omega | exact rfl | decide) ?_; intros) | (refine Duo.mk (Clo.mk (by kernel_rfl)) ?_; intros)))
  rename_i r H1 S1
  refine call_of (takeB_ok hl hc (Ent.drop en) R S1) ?_
  rintro e H2 ⟨q', c', dq, dc, rfl, h1, h2, S2⟩
  clear S S1
  (repeat (first | (refine Step.go ?_; intros) | refine iteB_t (by decide) ?_ | refine iteB_f (by decide) ?_ | (refine Duo.mk (by first | omega | exact rfl | decide) ?_; intros) | (refine Duo.mk (Clo.mk (by kernel_rfl)) ?_; intros)))
  have S9 := ‹Sat _ _›
  refine ⟨q', c', dq, dc, rfl, h1, h2, S9.to ?_⟩
  apply Ent.pick; (focus (repeat (first | exact Sel.here | apply Sel.there)))
  exact Ent.drop .refl
/-! TakeFields -/
theorem wrI {ty : Int} (h : -9223372036854775808 ≤ ty ∧ ty < 9223372036854775808) : IntKind.wrap .i64 ((u64n ty : Nat) : Int) = ty := by
  show (if (true && decide (((u64n ty : Nat) : Int) % 18446744073709551616 ≥ 9223372036854775808)) = true then ((u64n ty : Nat) : Int) % 18446744073709551616 - 18446744073709551616 else ((u64n ty : Nat) : Int) % 18446744073709551616) = ty
  unfold u64n
  split
  · rename_i h; simp at h; omega
  · rename_i h; simp at h; omega
abbrev rcT (t s : Option Addr) (q : Option Addr) (qn qc : Nat) : Obj := rcO t s q qn qc
/-- What the record has for its data. -/
def DatS (q : Option Addr) (qn qc : Nat) : Option (List UInt8) → List HP
  | some ys => [sl bC 5 1 q ys.length qc ys]
  | none => []
def DatN (q : Option Addr) (qn qc : Nat) : Option (List UInt8) → Prop
  | some ys => qn = ys.length
  | none => q = none ∧ qn = 0
theorem tf_ok {rb : Nat} {ty : Int} {s : W32} {d : Option (List UInt8)} (ht : -9223372036854775808 ≤ ty ∧ ty < 9223372036854775808) (hd : dlen d ≤ 1000000) (hc : (body ty s d).length ≤ pc) (en : Ent l l0) (R : Rd1 l0 p (body ty s d)) (S : Sat H (pt rb (rcO none none none 0 0) :: l)) :
    CallsH Tryd.prog 89 ⟨[.pointer (some ⟨rb, 0, none⟩), .slice p (body ty s d).length pc]⟩ H (fun e H1 => e = .returned (.bool true) ∧ ∃ tb sb dq dn dc, DatN dq dn dc d ∧ Sat H1 (pt rb (rcO (some ⟨tb, 0, none⟩) (some ⟨sb, 0, none⟩) dq dn dc) :: pt tb (.cells ⟨[.int .i64 ty]⟩ 2) :: pt sb (.cells ⟨[.int .u32 (iv s)]⟩ 22) :: (DatS dq dn dc d ++ l))) := by
  have hbl := body_len ty s d
  have hd8 : (8 : Nat) / 8 = 1 := rfl
  have hs64 : s.toNat < 18446744073709551616 := by have := s.isLt; omega
  refine F89.calls ?_
  unfold F89.go
  refine F89.L0_step ?_
  unfold F89.L0n
  refine iteB_t (by unfold body; simp; omega) ?_
  unfold body at R hc hbl ⊢
  refine call_of (takeN2_ok (.inl rfl) (u64n_lt ty) (by omega) hc (Ent.drop en) R S) ?_
  rintro e H1 ⟨q1, c1, rfl, hc1, R1, S1⟩
  clear S
  (repeat (first | (refine Step.go ?_; intros) | refine iteB_t (by decide) ?_ | refine iteB_f (by decide) ?_ | (refine Duo.mk (by first | omega | exact rfl | decide) ?_; intros) | (refine Duo.mk (Clo.mk (by kernel_rfl)) ?_; intros)))
  refine F89.L5_step ?_
  unfold F89.L5n
  (repeat (first | (refine Step.go ?_; intros) | refine iteB_t (by decide) ?_ | refine iteB_f (by decide) ?_ | (refine Duo.mk (by first | omega | exact rfl | decide) ?_; intros) | (refine Duo.mk (Clo.mk (by kernel_rfl)) ?_; intros)))
  rename_i tb _ _ _ _ H2 S2
  rw [wrI ht] at S2
  refine F89.L0_step ?_
  unfold F89.L0n
  refine iteB_t (by simp; omega) ?_
  refine call_of (takeN2_ok (l := _ :: _ :: _ :: l) (.inr rfl) hs64 (by simp at hbl ⊢; omega) hc1 (Ent.drop (Ent.drop (Ent.drop en))) R1 S2) ?_
  rintro e H3 ⟨q3, c3, rfl, hc3, R3, S3⟩
  have e64 : IntKind.wrap .i64 ((s.toNat : Nat) : Int) = ((s.toNat : Nat) : Int) := wr64 (by omega) (by have := s.isLt; omega)
  have e32 : IntKind.wrap .u32 ((s.toNat : Nat) : Int) = iv s := by rw [wru32, Nat.mod_eq_of_lt s.isLt]
  rw [e64]
  clear S2
  (repeat (first | (refine Step.go ?_; intros) | refine iteB_t (by decide) ?_ | refine iteB_f (by decide) ?_ | (refine Duo.mk (by first | omega | exact rfl | decide) ?_; intros) | (refine Duo.mk (Clo.mk (by kernel_rfl)) ?_; intros)))
  refine F89.L1_step ?_
  unfold F89.L1n
  (repeat (first | (refine Step.go ?_; intros) | refine iteB_t (by decide) ?_ | refine iteB_f (by decide) ?_ | (refine Duo.mk (by first | omega | exact rfl | decide) ?_; intros) | (refine Duo.mk (Clo.mk (by kernel_rfl)) ?_; intros)))
  refine F89.L4_step ?_
  unfold F89.L4n
  (repeat (first | (refine Step.go ?_; intros) | refine iteB_t (by decide) ?_ | refine iteB_f (by decide) ?_ | (refine Duo.mk (by first | omega | exact rfl | decide) ?_; intros) | (refine Duo.mk (Clo.mk (by kernel_rfl)) ?_; intros)))
  rename_i sb _ _ _ _ H4 S4
  rw [e32] at S4
  refine F89.L0_step ?_
  unfold F89.L0n
  cases d with
  | none =>
    refine iteB_f rfl ?_
    refine ⟨rfl, tb, sb, none, 0, 0, ⟨rfl, rfl⟩, S4.to ?_⟩
    apply Ent.pick; (focus (repeat (first | exact Sel.here | apply Sel.there)))
    apply Ent.pick; (focus (repeat (first | exact Sel.here | apply Sel.there)))
    apply Ent.pick; (focus (repeat (first | exact Sel.here | apply Sel.there)))
    exact Ent.drop (Ent.drop .refl)
  | some ys =>
    have e0 : dpart (some ys) = bt 26 :: (vb ys.length ++ (ys ++ [])) := by rw [List.append_nil]; rfl
    rw [e0] at R3 hc3 ⊢
    refine iteB_t (by simp; omega) ?_
    have hys : ys.length ≤ 1000000 := hd
    have hv10 := vb_len ys.length
    refine call_of (takeB2_ok (l := _ :: _ :: _ :: _ :: _ :: l) (by simp; omega) hc3 (Ent.drop (Ent.drop (Ent.drop (Ent.drop (Ent.drop en))))) R3 S4) ?_
    rintro e H5 ⟨q5, c5, dq, dc, rfl, hc5, R5, S5⟩
    clear S4 S3
    (repeat (first | (refine Step.go ?_; intros) | refine iteB_t (by decide) ?_ | refine iteB_f (by decide) ?_ | (refine Duo.mk (by first | omega | exact rfl | decide) ?_; intros) | (refine Duo.mk (Clo.mk (by kernel_rfl)) ?_; intros)))
    refine F89.L1_step ?_
    unfold F89.L1n
    (repeat (first | (refine Step.go ?_; intros) | refine iteB_t (by decide) ?_ | refine iteB_f (by decide) ?_ | (refine Duo.mk (by first | omega | exact rfl | decide) ?_; intros) | (refine Duo.mk (Clo.mk (by kernel_rfl)) ?_; intros)))
    refine F89.L2_step ?_
    unfold F89.L2n
    (repeat (first | (refine Step.go ?_; intros) | refine iteB_t (by decide) ?_ | refine iteB_f (by decide) ?_ | (refine Duo.mk (by first | omega | exact rfl | decide) ?_; intros) | (refine Duo.mk (Clo.mk (by kernel_rfl)) ?_; intros)))
    refine F89.L3_step ?_
    unfold F89.L3n
    (repeat (first | (refine Step.go ?_; intros) | refine iteB_t (by decide) ?_ | refine iteB_f (by decide) ?_ | (refine Duo.mk (by first | omega | exact rfl | decide) ?_; intros) | (refine Duo.mk (Clo.mk (by kernel_rfl)) ?_; intros)))
    rename_i H6 S6
    refine F89.L0_step ?_
    unfold F89.L0n
    refine iteB_f rfl ?_
    refine ⟨rfl, tb, sb, dq, ys.length, dc, rfl, S6.to ?_⟩
    apply Ent.pick; (focus (repeat (first | exact Sel.here | apply Sel.there)))
    apply Ent.pick; (focus (repeat (first | exact Sel.here | apply Sel.there)))
    apply Ent.pick; (focus (repeat (first | exact Sel.here | apply Sel.there)))
    unfold DatS
    apply Ent.pick; (focus (repeat (first | exact Sel.here | apply Sel.there)))
    exact Ent.drop (Ent.drop (Ent.drop .refl))
theorem unm_ok {rb : Nat} {ty : Int} {s : W32} {d : Option (List UInt8)} (ht : -9223372036854775808 ≤ ty ∧ ty < 9223372036854775808) (hd : dlen d ≤ 1000000) (hc : (body ty s d).length ≤ pc) (en : Ent l l0) (R : Rd1 l0 p (body ty s d)) (S : Sat H (pt rb (rcO none none none 0 0) :: l)) :
    CallsH Tryd.prog 78 ⟨[.slice p (body ty s d).length pc, .iface 56 (.pointer (some ⟨rb, 0, none⟩))]⟩ H (fun e H1 => e = .returned .nilIface ∧ ∃ tb sb dq dn dc, DatN dq dn dc d ∧ Sat H1 (pt rb (rcO (some ⟨tb, 0, none⟩) (some ⟨sb, 0, none⟩) dq dn dc) :: pt tb (.cells ⟨[.int .i64 ty]⟩ 2) :: pt sb (.cells ⟨[.int .u32 (iv s)]⟩ 22) :: (DatS dq dn dc d ++ l))) := by
  refine F78.calls (m := .mk 56 _) ?_
  unfold F78.go
  refine callI_i (f := 89) (by kernel_rfl) (by kernel_rfl) (by kernel_rfl) ?_
  refine call_of (tf_ok ht hd hc en R S) ?_
  rintro e H1 ⟨rfl, h⟩
  (repeat (first | (refine Step.go ?_; intros) | refine iteB_t (by decide) ?_ | refine iteB_f (by decide) ?_ | (refine Duo.mk (by first | omega | exact rfl | decide) ?_; intros) | (refine Duo.mk (Clo.mk (by kernel_rfl)) ?_; intros)))
  exact ⟨rfl, h⟩
end
end Go.Proofs.YtkejocbhmcphiaaDoor

set_option linter.unusedVariables false
set_option linter.unusedSimpArgs false
set_option linter.unnecessarySimpa false
set_option maxRecDepth 100000
namespace Go.Proofs.YtkejocbhmcphiaaDoor
open Go Go.Den Go.Proofs
/-! Small parts of the decoder. -/
section
variable {H : Heap} {l l0 : List HP}
theorem wrui {x : Nat} (h : x < 18446744073709551616) : IntKind.wrap .u64 (IntKind.wrap .i64 (x : Int)) = (x : Int) := by
  rw [wru64_any]
  have : u64n (IntKind.wrap .i64 (x : Int)) = x := by
    unfold u64n
    show ((if (true && decide ((x : Int) % 18446744073709551616 ≥ 9223372036854775808)) = true then (x : Int) % 18446744073709551616 - 18446744073709551616 else (x : Int) % 18446744073709551616) % 18446744073709551616).toNat = x
    split <;> omega
  rw [this]
theorem neg_iff {x : Nat} (h : x < 18446744073709551616) : IntKind.wrap .i64 (x : Int) < 0 ↔ 9223372036854775808 ≤ x := by
  show (if (true && decide ((x : Int) % 18446744073709551616 ≥ 9223372036854775808)) = true then (x : Int) % 18446744073709551616 - 18446744073709551616 else (x : Int) % 18446744073709551616) < 0 ↔ _
  split
  · rename_i h; simp at h; omega
  · rename_i h; simp at h; omega
theorem zero_iff {x : Nat} (h : x < 18446744073709551616) : IntKind.wrap .i64 (x : Int) = 0 ↔ x = 0 := by
  show (if (true && decide ((x : Int) % 18446744073709551616 ≥ 9223372036854775808)) = true then (x : Int) % 18446744073709551616 - 18446744073709551616 else (x : Int) % 18446744073709551616) = 0 ↔ _
  split
  · rename_i h; simp at h; omega
  · rename_i h; simp at h; omega
theorem mask56 {x : Nat} (h : x < 18446744073709551616) : andZ .u64 (x : Int) (72057594037927935 : Int) = ((x % 2 ^ 56 : Nat) : Int) := by
  rw [show (72057594037927935 : Int) = ((2 ^ 56 - 1 : Nat) : Int) from rfl, and64 (by omega) (by decide), Nat.and_two_pow_sub_one_eq_mod]
theorem dfs_ok {n : Nat} (hn : n < 2 ^ 47) : CallsH Tryd.prog 75 ⟨[.int .i64 (IntKind.wrap .i64 ((lenF n : Nat) : Int))]⟩ H (Gives (.tuple ⟨[.int .i64 (n : Int), .int .i64 ((padOf n : Nat) : Int)]⟩) H) := by
  have hl := lenF_lt hn
  have hp := padOf_lt n
  refine F75.calls ?_
  unfold F75.go
  rw [wrui hl, mask56 hl]
  have e1 : lenF n % 2 ^ 56 = n := by unfold lenF; split <;> omega
  rw [e1, wr64 (i := (n : Int)) (by omega) (by omega)]
  by_cases h0 : padOf n = 0
  · refine iteB_f (decide_eq_false ?_) ?_
    · rw [neg_iff hl]; unfold lenF; rw [if_pos h0]; omega
    · rw [h0]; exact ⟨rfl, ExtH.refl H⟩
  · refine iteB_t (decide_eq_true ?_) ?_
    · rw [neg_iff hl]; unfold lenF; rw [if_neg h0]; omega
    · refine ⟨by decide, ?_⟩
      have e2 : lenF n / 2 ^ 56 = 128 + padOf n := by unfold lenF; rw [if_neg h0]; omega
      rw [show (56 : Int) = ((56 : Nat) : Int) from rfl, shr64 _ _ (by omega), e2, show (7 : Int) = ((2 ^ 3 - 1 : Nat) : Int) from rfl, and64 (by omega) (by decide), Nat.and_two_pow_sub_one_eq_mod, wr64 (by omega) (by omega)]
      have e3 : (128 + padOf n) % 2 ^ 3 = padOf n := by omega
      rw [e3]
      exact ⟨rfl, ExtH.refl H⟩
theorem getT_ok {rb tb : Nat} {s q : Option Addr} {qn qc : Nat} {ty : Int} (S : Sat H (pt rb (rcO (some ⟨tb, 0, none⟩) s q qn qc) :: pt tb (.cells ⟨[.int .i64 ty]⟩ 2) :: l)) :
    CallsH Tryd.prog 24 ⟨[.pointer (some ⟨rb, 0, none⟩)]⟩ H (Gives (.int .i64 ty) H) := by
  refine F24.calls ?_
  unfold F24.go
  (repeat (first | (refine Step.go ?_; intros) | refine iteB_t (by decide) ?_ | refine iteB_f (by decide) ?_ | (refine Duo.mk (by first | omega | exact rfl | decide) ?_; intros) | (refine Duo.mk (Clo.mk (by kernel_rfl)) ?_; intros)))
  refine iteB_f rfl ?_
  (repeat (first | (refine Step.go ?_; intros) | refine iteB_t (by decide) ?_ | refine iteB_f (by decide) ?_ | (refine Duo.mk (by first | omega | exact rfl | decide) ?_; intros) | (refine Duo.mk (Clo.mk (by kernel_rfl)) ?_; intros)))
  exact ⟨rfl, ExtH.refl H⟩
theorem getC_ok {rb sb : Nat} {t q : Option Addr} {qn qc : Nat} {v : Int} (S : Sat H (pt rb (rcO t (some ⟨sb, 0, none⟩) q qn qc) :: pt sb (.cells ⟨[.int .u32 v]⟩ 22) :: l)) :
    CallsH Tryd.prog 25 ⟨[.pointer (some ⟨rb, 0, none⟩)]⟩ H (Gives (.int .u32 v) H) := by
  refine F25.calls ?_
  unfold F25.go
  (repeat (first | (refine Step.go ?_; intros) | refine iteB_t (by decide) ?_ | refine iteB_f (by decide) ?_ | (refine Duo.mk (by first | omega | exact rfl | decide) ?_; intros) | (refine Duo.mk (Clo.mk (by kernel_rfl)) ?_; intros)))
  refine iteB_f rfl ?_
  (repeat (first | (refine Step.go ?_; intros) | refine iteB_t (by decide) ?_ | refine iteB_f (by decide) ?_ | (refine Duo.mk (by first | omega | exact rfl | decide) ?_; intros) | (refine Duo.mk (Clo.mk (by kernel_rfl)) ?_; intros)))
  exact ⟨rfl, ExtH.refl H⟩
abbrev crcE : Value := .iface 70 (.string (ByteArray.mk #[119, 97, 108, 112, 98, 58, 32, 99, 114, 99, 32, 109, 105, 115, 109, 97, 116, 99, 104]))
theorem valid_ok {rb sb : Nat} {t q : Option Addr} {qn qc : Nat} {v w : W32} (S : Sat H (pt rb (rcO t (some ⟨sb, 0, none⟩) q qn qc) :: pt sb (.cells ⟨[.int .u32 (iv v)]⟩ 22) :: l)) :
    CallsH Tryd.prog 80 ⟨[.pointer (some ⟨rb, 0, none⟩), .int .u32 (iv w)]⟩ H (Gives (if v = w then .nilIface else crcE) H) := by
  refine F80.calls ?_
  unfold F80.go
  refine gives_i S (getC_ok S) fun H1 E1 S1 => ?_
  (repeat (first | (refine Step.go ?_; intros) | refine iteB_t (by decide) ?_ | refine iteB_f (by decide) ?_ | (refine Duo.mk (by first | omega | exact rfl | decide) ?_; intros) | (refine Duo.mk (Clo.mk (by kernel_rfl)) ?_; intros)))
  rw [iv_inj]
  by_cases h : v = w
  · refine iteB_t (decide_eq_true h) ?_
    rw [if_pos h]; exact ⟨rfl, E1⟩
  · refine iteB_f (decide_eq_false h) ?_
    rw [if_neg h]; exact ⟨rfl, E1⟩
theorem reset_ok {rb : Nat} {t s q : Option Addr} {qn qc : Nat} (S : Sat H (pt rb (rcO t s q qn qc) :: l)) :
    CallsH Tryd.prog 64 ⟨[.pointer (some ⟨rb, 0, none⟩)]⟩ H (fun e H1 => e = .returned (.tuple ⟨[]⟩) ∧ Sat H1 (pt rb (rcO none none none 0 0) :: l)) := by
  refine F64.calls ?_
  unfold F64.go
  (repeat (first | (refine Step.go ?_; intros) | refine iteB_t (by decide) ?_ | refine iteB_f (by decide) ?_ | (refine Duo.mk (by first | omega | exact rfl | decide) ?_; intros) | (refine Duo.mk (Clo.mk (by kernel_rfl)) ?_; intros)))
  exact ⟨rfl, ‹Sat _ (pt rb (.cells ⟨[.pointer none, .pointer none, .slice none 0 0]⟩ 60) :: _)›⟩
theorem finfo_ok {fb : Nat} {b : Option Addr} {n c at_ : Nat} (S : Sat H (pt fb (frO b n c at_) :: l)) :
    CallsH Tryd.prog 68 ⟨[.pointer (some ⟨fb, 0, none⟩)]⟩ H (Gives (.agg ⟨[.int .i64 (n : Int)]⟩) H) := by
  have hb : H[fb]? = some (frO b n c at_) := S.at_ (List.mem_cons_self ..)
  clear S
  have S0 := Sat.start H
  refine F68.calls ?_
  unfold F68.go
  refine Step.go ?_
  intro r H1 S1
  have E1 : ExtH H H1 := S1.old (List.mem_cons_of_mem _ (List.mem_cons_self ..))
  have B : Blc H1 fb _ := ⟨E1.block_some hb⟩
  clear S0
  (repeat (first | (refine Step.go ?_; intros) | refine iteB_t (by decide) ?_ | refine iteB_f (by decide) ?_ | (refine Duo.mk (by first | omega | exact rfl | decide) ?_; intros) | (refine Duo.mk (Clo.mk (by kernel_rfl)) ?_; intros)))
  have S9 := ‹Sat _ (pt r (.cells ⟨[.int .i64 (n : Int)]⟩ 146) :: _)›
  exact ⟨rfl, S9.old (List.mem_cons_of_mem _ (List.mem_cons_self ..))⟩
theorem fsize_ok {n : Int} : CallsH Tryd.prog 76 ⟨[.agg ⟨[.int .i64 n]⟩]⟩ H (Gives (.int .i64 n) H) := by
  have S0 := Sat.start H
  refine F76.calls ?_
  unfold F76.go
  (repeat (first | (refine Step.go ?_; intros) | refine iteB_t (by decide) ?_ | refine iteB_f (by decide) ?_ | (refine Duo.mk (by first | omega | exact rfl | decide) ?_; intros) | (refine Duo.mk (Clo.mk (by kernel_rfl)) ?_; intros)))
  have S9 := ‹Sat _ (pt _ (.cells ⟨[.int .i64 n]⟩ 146) :: _)›
  exact ⟨rfl, S9.old (List.mem_cons_of_mem _ (List.mem_cons_self ..))⟩
/-! isTornEntry -/
abbrev dcO (br : Option Addr) (brn brc : Nat) (off : Nat) (sb : Nat) : Obj := .cells ⟨[.slice br brn brc, .int .i64 (off : Int), .pointer (some ⟨sb, 0, none⟩), .bool false]⟩ 92
abbrev chC (p : Option Addr) (pc : Nat) (x : Nat × Nat) : List Value := [.slice (slP p x.1 pc 1) x.2 (pc - x.1)]
abbrev anyB (X : List HP) : Ending → Heap → Prop := fun e H1 => ∃ b, e = .returned (.bool b) ∧ Sat H1 X
section
variable {p : Option Addr} {pc : Nat} {ys : List UInt8} {X : List HP}
theorem torn_bytes {q : Option Addr} {c : Nat} {cs : List (Nat × Nat)} {n : Nat} {x : Nat × Nat} {i : Int} (hx : x.1 + x.2 ≤ ys.length) (hp : ys.length ≤ pc) (hl : ys.length ≤ 1000000000) (R : Rd1 X p ys) (S : Sat H X)
    (h : ∀ b, F79.L3 b q n c (n : Int) i H (anyB X)) : ∀ (d j : Nat) (b : Bool), j + d = x.2 → F79.L2 b q n c (n : Int) i (slP p x.1 pc 1) x.2 (pc - x.1) (x.2 : Int) (j : Int) H (anyB X) := by
  intro d
  induction d with
  | zero =>
    intro j b hj
    refine F79.L2_step ?_
    unfold F79.L2n
    refine iteB_f (decide_eq_false (by omega)) ?_
    exact h b
  | succ d ih =>
    intro j b hj
    have R2 := (R.drop x.1 pc hp).take x.2
    have hlen : ((ys.drop x.1).take x.2).length = x.2 := by simp; omega
    have hz : ((ys.drop x.1).take x.2)[j]? = some ((ys.drop x.1).take x.2)[j] := List.getElem?_eq_getElem (by omega)
    refine F79.L2_step ?_
    unfold F79.L2n
    refine iteB_t (decide_eq_true (by omega)) ?_
    refine R2.idx S rfl hlen hz fun a ha hc => ?_
    refine ⟨_, hc, ?_⟩
    refine iteB_i (fun _ => h false) (fun _ => ?_)
    have e3 : IntKind.wrap .i64 ((j : Int) + (1 : Int)) = ((j + 1 : Nat) : Int) := by rw [wr64 (by omega) (by omega)]; rfl
    rw [e3]
    exact ih (j + 1) b (by omega)
theorem torn_chunks {q : Option Addr} {c : Nat} {cs : List (Nat × Nat)} (hx : ∀ x ∈ cs, x.1 + x.2 ≤ ys.length) (hp : ys.length ≤ pc) (hl : ys.length ≤ 1000000000) (hcl : cs.length ≤ 1000000000) (R : Rd1 X p ys) (S : Sat H (sl (chC p pc) 27 1 q cs.length c cs :: X)) :
    ∀ (d i : Nat), i + d = cs.length → F79.L1 q cs.length c (cs.length : Int) (i : Int) H (anyB X) := by
  intro d
  induction d with
  | zero =>
    intro i hi
    refine F79.L1_step ?_
    unfold F79.L1n
    refine iteB_f (decide_eq_false (by omega)) ?_
    exact ⟨false, rfl, S.to (.drop .refl)⟩
  | succ d ih =>
    intro i hi
    refine F79.L1_step ?_
    unfold F79.L1n
    refine iteB_t (decide_eq_true (by omega)) ?_
    obtain ⟨x, hxi⟩ : ∃ x, cs[i]? = some x := get_of (by omega)
    have hI := HasI.nat hxi
    refine Sat.idx S ⟨by omega, by omega, fun r o hr => ?_⟩
    subst hr
    refine Step.go (G' := _) ?_
    refine torn_bytes (cs := cs) (hx x (List.mem_of_getElem? hxi)) hp hl R (S.to (.drop .refl)) (fun b => ?_) x.2 0 true (by omega)
    refine F79.L3_step ?_
    unfold F79.L3n
    refine iteB_i (fun _ => ⟨true, rfl, S.to (.drop .refl)⟩) (fun _ => ?_)
    have e3 : IntKind.wrap .i64 ((i : Int) + (1 : Int)) = ((i + 1 : Nat) : Int) := by rw [wr64 (by omega) (by omega)]; rfl
    rw [e3]
    exact ih (i + 1) (by omega)
theorem torn_cut (hp : ys.length ≤ pc) (hl : ys.length ≤ 1000000000) (R : Rd1 X p ys) : ∀ (N : Nat) (cur fo : Nat) (q : Option Addr) (c : Nat) (cs : List (Nat × Nat)) (H : Heap), cur ≤ ys.length → ys.length - cur ≤ N → cs.length ≤ cur → fo ≤ 10000000000 + cur → (∀ x ∈ cs, x.1 + x.2 ≤ ys.length) → Sat H (sl (chC p pc) 27 1 q cs.length c cs :: X) →
    F79.L0 p ys.length pc (fo : Int) (cur : Int) q cs.length c H (anyB X) := by
  intro N
  induction N with
  | zero =>
    intro cur fo q c cs H hcur hN hcs hfo hx S
    refine F79.L0_step ?_
    unfold F79.L0n
    refine iteB_f (decide_eq_false (by omega)) ?_
    exact torn_chunks hx hp hl (by omega) R S cs.length 0 (by omega)
  | succ N ih =>
    intro cur fo q c cs H hcur hN hcs hfo hx S
    refine F79.L0_step ?_
    unfold F79.L0n
    by_cases hlt : cur < ys.length
    · refine iteB_t (decide_eq_true (by omega)) ?_
      have em : Int.tmod (fo : Int) (512 : Int) = ((fo % 512 : Nat) : Int) := by rw [Int.tmod_eq_emod_of_nonneg (by omega)]; omega
      rw [em]
      have hm : fo % 512 < 512 := Nat.mod_lt _ (by decide)
      have e1 : IntKind.wrap .i64 ((512 : Int) - ((fo % 512 : Nat) : Int)) = ((512 - fo % 512 : Nat) : Int) := by rw [wr64 (by omega) (by omega)]; omega
      have e2 : IntKind.wrap .i64 (((ys.length : Nat) : Int) - (cur : Int)) = ((ys.length - cur : Nat) : Int) := by rw [wr64 (by omega) (by omega)]; omega
      rw [e1, e2]
      have key : ∀ k : Nat, 0 < k → cur + k ≤ ys.length → k ≤ 512 → F79.L4 p ys.length pc (fo : Int) (cur : Int) q cs.length c (k : Int) H (anyB X) := by
        intro k hk hk2 hk3
        refine F79.L4_step ?_
        unfold F79.L4n
        have e3 : IntKind.wrap .i64 ((cur : Int) + (k : Int)) = ((cur + k : Nat) : Int) := by rw [wr64 (by omega) (by omega)]; omega
        have e4 : IntKind.wrap .i64 ((fo : Int) + (k : Int)) = ((fo + k : Nat) : Int) := by rw [wr64 (by omega) (by omega)]; omega
        rw [e3, e4]
        refine ⟨by omega, by omega, ?_⟩
        rw [Int.toNat_natCast]
        refine ⟨by omega, by omega, ?_⟩
        dsimp only
        rw [Int.toNat_natCast, show cur + k - cur = k by omega]
        (repeat (first | (refine Step.go ?_; intros) | refine iteB_t (by decide) ?_ | refine iteB_f (by decide) ?_ | (refine Duo.mk (by first | omega | exact rfl | decide) ?_; intros) | (refine Duo.mk (Clo.mk (by kernel_rfl)) ?_; intros)))
        rename_i r H1 S1
        refine Sat.slApp (f := chC p pc) (E := 27) (z := 1) (xs := cs) (ys := [(cur, k)]) (m := pt r (.cells ⟨[.slice (slP p cur pc 1) k (pc - cur)]⟩ 27) :: X) (S1.to Ent.swp) ?_ rfl (by intro y _; rfl) (by simp [isCell]) rfl (by decide) (by omega) fun q' c' H2 S2 => ?_
        · simp only [List.flatMap_cons, List.flatMap_nil, List.append_nil]
          exact cellsAt_one (S1.at_ (List.mem_cons_self ..))
        · have e5 : cs.length + 1 = (cs ++ [(cur, k)]).length := by simp
          rw [e5] at S2 ⊢
          refine ih (cur + k) (fo + k) q' c' (cs ++ [(cur, k)]) H2 hk2 (by omega) (by simp; omega) (by omega) ?_ (S2.to (.cons (.drop .refl)))
          intro x hxm
          rcases List.mem_append.1 hxm with h | h
          · exact hx x h
          · simp at h; subst h; exact hk2
      refine ⟨by decide, ?_⟩
      refine iteB_i (fun h => ?_) (fun h => ?_)
      · have h := of_decide_eq_true h
        exact key (ys.length - cur) (by omega) (by omega) (by omega)
      · have h := of_decide_eq_false h
        exact key (512 - fo % 512) (by omega) (by omega) (by omega)
    · refine iteB_f (decide_eq_false (by omega)) ?_
      exact torn_chunks hx hp hl (by omega) R S cs.length 0 (by omega)
end
theorem torn_ok {db sb brc off : Nat} {br p : Option Addr} {pc : Nat} {ys : List UInt8} (hp : ys.length ≤ pc) (hl : ys.length ≤ 1000000000) (ho : off ≤ 1000000000) (R : Rd1 l p ys) (S : Sat H (pt db (dcO br 1 brc off sb) :: l)) :
    CallsH Tryd.prog 79 ⟨[.pointer (some ⟨db, 0, none⟩), .slice p ys.length pc]⟩ H (anyB (pt db (dcO br 1 brc off sb) :: l)) := by
  refine F79.calls ?_
  unfold F79.go
  (repeat (first | (refine Step.go ?_; intros) | refine iteB_t (by decide) ?_ | refine iteB_f (by decide) ?_ | (refine Duo.mk (by first | omega | exact rfl | decide) ?_; intros) | (refine Duo.mk (Clo.mk (by kernel_rfl)) ?_; intros)))
  have e1 : IntKind.wrap .i64 ((off : Int) + (8 : Int)) = ((off + 8 : Nat) : Int) := by rw [wr64 (by omega) (by omega)]; omega
  rw [e1]
  exact torn_cut hp hl R.there (ys.length) 0 (off + 8) none 0 [] H (by omega) (by omega) (by simp) (by omega) (by simp) (S.to (.slNil .refl))
end
end Go.Proofs.YtkejocbhmcphiaaDoor

set_option linter.unusedVariables false
set_option linter.unusedSimpArgs false
set_option linter.unnecessarySimpa false
set_option maxRecDepth 100000
namespace Go.Proofs.YtkejocbhmcphiaaDoor
open Go Go.Den Go.Proofs
/-! One record decoded. -/
abbrev prC (b : Nat) : List Value := [.pointer (some ⟨b, 0, none⟩)]
/-- The decoder's pieces. -/
abbrev dcL (db fb sb : Nat) (br : Option Addr) (brc : Nat) (off : Nat) (b : Option Addr) (F : List UInt8) (bc at_ : Nat) (s : W32) (l : List HP) : List HP :=
  pt db (dcO br 1 brc off sb) :: sl prC 84 1 br 1 brc [fb] :: pt fb (frO b F.length bc at_) :: pt sb (smO s) :: l
section
variable {H : Heap} {l : List HP} {e0 e1 : Addr} {db fb sb rb : Nat} {br b : Option Addr} {brc bc off at_ : Nat} {F : List UInt8} {s : W32}
/-- What stays when the log has come to its end, or is torn. -/
abbrev stopO (v : Value) (db sb : Nat) (off : Nat) (s : W32) (l : List HP) : Ending → Heap → Prop := fun e H1 => e = .returned v ∧ ∃ q n c, Sat H1 (pt db (.cells ⟨[.slice q n c, .int .i64 (off : Int), .pointer (some ⟨sb, 0, none⟩), .bool false]⟩ 92) :: pt sb (smO s) :: l)
theorem stop_i {H1 : Heap} {v : Value} {q : Option Addr} {n c : Nat} (S : Sat H1 (pt db (.cells ⟨[.slice q n c, .int .i64 (off : Int), .pointer (some ⟨sb, 0, none⟩), .bool false]⟩ 92) :: pt sb (smO s) :: l)) : stopO v db sb off s l (.returned v) H1 := ⟨rfl, q, n, c, S⟩
theorem dr_eof [Er : Ers l e0 e1] (ha : at_ = F.length) (S : Sat H (dcL db fb sb br brc off b F bc at_ s (pt rb (rcO none none none 0 0) :: l))) :
    CallsH Tryd.prog 73 ⟨[.pointer (some ⟨db, 0, none⟩), .pointer (some ⟨rb, 0, none⟩)]⟩ H (stopO (eofI e0) db sb off s l) := by
  have hbr := (S.slLen (List.mem_cons_of_mem _ (List.mem_cons_self ..))).2
  refine F73.calls ?_
  unfold F73.go
  (repeat (first | (refine Step.go ?_; intros) | refine iteB_t (by decide) ?_ | refine iteB_f (by decide) ?_ | (refine Duo.mk (by first | omega | exact rfl | decide) ?_; intros) | (refine Duo.mk (Clo.mk (by kernel_rfl)) ?_; intros)))
  rename_i r H1 S1
  clear S
  refine Sat.idx S1 ⟨by omega, by omega, fun r0 o0 hr => ?_⟩
  subst hr
  have hI : HasI [fb] (0 : Int) fb := ⟨rfl⟩
  (repeat (first | (refine Step.go ?_; intros) | refine iteB_t (by decide) ?_ | refine iteB_f (by decide) ?_ | (refine Duo.mk (by first | omega | exact rfl | decide) ?_; intros) | (refine Duo.mk (Clo.mk (by kernel_rfl)) ?_; intros)))
  have S2 : Sat H1 (pt fb (frO b F.length bc at_) :: pt r (.cells ⟨[.pointer (some ⟨db, 0, none⟩)]⟩ 86) :: pt db (dcO (some ⟨r0, o0, none⟩) 1 brc off sb) :: sl prC 84 1 (some ⟨r0, o0, none⟩) 1 brc [fb] :: pt sb (smO s) :: pt rb (rcO none none none 0 0) :: l) := S1.to (by
    apply Ent.pick; (focus (repeat (first | exact Sel.here | apply Sel.there))); exact Ent.refl)
  refine call_of (ri_none ha S2) ?_
  rintro e H2 ⟨rfl, S3⟩
  clear S1 S2
  (repeat (first | (refine Step.go ?_; intros) | refine iteB_t (by decide) ?_ | refine iteB_f (by decide) ?_ | (refine Duo.mk (by first | omega | exact rfl | decide) ?_; intros) | (refine Duo.mk (Clo.mk (by kernel_rfl)) ?_; intros)))
  refine eq_same ?_
  refine iteB_t rfl ?_
  refine F73.L3_step ?_
  unfold F73.L3n
  (repeat (first | (refine Step.go ?_; intros) | refine iteB_t (by decide) ?_ | refine iteB_f (by decide) ?_ | (refine Duo.mk (by first | omega | exact rfl | decide) ?_; intros) | (refine Duo.mk (Clo.mk (by kernel_rfl)) ?_; intros)))
  have S9 := ‹Sat _ _›
  apply stop_i
  refine Sat.to S9 ?_
  iterate 2 (apply Ent.pick; (focus (repeat (first | exact Sel.here | apply Sel.there))))
  exact Ent.drop (Ent.drop (Ent.drop (Ent.drop .refl)))
theorem dr_part [Er : Ers l e0 e1] (hF : F.length ≤ 140737488351232) (ha : at_ < F.length) (ha2 : F.length < at_ + 8) (R : Rd1 l b F) (hb : F.length ≤ bc) (S : Sat H (dcL db fb sb br brc off b F bc at_ s (pt rb (rcO none none none 0 0) :: l))) :
    CallsH Tryd.prog 73 ⟨[.pointer (some ⟨db, 0, none⟩), .pointer (some ⟨rb, 0, none⟩)]⟩ H (stopO (eofI e1) db sb off s l) := by
  have hbr := (S.slLen (List.mem_cons_of_mem _ (List.mem_cons_self ..))).2
  refine F73.calls ?_
  unfold F73.go
  (repeat (first | (refine Step.go ?_; intros) | refine iteB_t (by decide) ?_ | refine iteB_f (by decide) ?_ | (refine Duo.mk (by first | omega | exact rfl | decide) ?_; intros) | (refine Duo.mk (Clo.mk (by kernel_rfl)) ?_; intros)))
  rename_i r H1 S1
  clear S
  refine Sat.idx S1 ⟨by omega, by omega, fun r0 o0 hr => ?_⟩
  subst hr
  have hI : HasI [fb] (0 : Int) fb := ⟨rfl⟩
  (repeat (first | (refine Step.go ?_; intros) | refine iteB_t (by decide) ?_ | refine iteB_f (by decide) ?_ | (refine Duo.mk (by first | omega | exact rfl | decide) ?_; intros) | (refine Duo.mk (Clo.mk (by kernel_rfl)) ?_; intros)))
  have S2 : Sat H1 (pt fb (frO b F.length bc at_) :: pt r (.cells ⟨[.pointer (some ⟨db, 0, none⟩)]⟩ 86) :: pt db (dcO (some ⟨r0, o0, none⟩) 1 brc off sb) :: sl prC 84 1 (some ⟨r0, o0, none⟩) 1 brc [fb] :: pt sb (smO s) :: pt rb (rcO none none none 0 0) :: l) := S1.to (by
    apply Ent.pick; (focus (repeat (first | exact Sel.here | apply Sel.there))); exact Ent.refl)
  refine call_of (ri_part hF ha ha2 R.there.there.there.there.there hb S2) ?_
  rintro e H2 ⟨rfl, S3⟩
  clear S1 S2
  (repeat (first | (refine Step.go ?_; intros) | refine iteB_t (by decide) ?_ | refine iteB_f (by decide) ?_ | (refine Duo.mk (by first | omega | exact rfl | decide) ?_; intros) | (refine Duo.mk (Clo.mk (by kernel_rfl)) ?_; intros)))
  refine eq_10 inferInstance S3 ?_
  refine iteB_f rfl ?_
  (repeat (first | (refine Step.go ?_; intros) | refine iteB_t (by decide) ?_ | refine iteB_f (by decide) ?_ | (refine Duo.mk (by first | omega | exact rfl | decide) ?_; intros) | (refine Duo.mk (Clo.mk (by kernel_rfl)) ?_; intros)))
  refine F73.L0_step ?_
  unfold F73.L0n
  (repeat (first | (refine Step.go ?_; intros) | refine iteB_t (by decide) ?_ | refine iteB_f (by decide) ?_ | (refine Duo.mk (by first | omega | exact rfl | decide) ?_; intros) | (refine Duo.mk (Clo.mk (by kernel_rfl)) ?_; intros)))
  apply stop_i
  refine Sat.to S3 ?_
  iterate 2 (apply Ent.pick; (focus (repeat (first | exact Sel.here | apply Sel.there))))
  exact Ent.drop (Ent.drop (Ent.drop (Ent.drop .refl)))
/-- The header is there. -/
theorem dr_head [Er : Ers l e0 e1] {R0 : Ending → Heap → Prop} {m : Nat} (hF : F.length ≤ 140737488351232) (ha : at_ + 8 ≤ F.length) (hm : m < 18446744073709551616) (hm0 : m ≠ 0) (hd : deL ((F.drop at_).take 8) = m) (R : Rd1 l b F) (hb : F.length ≤ bc) (S : Sat H (dcL db fb sb br brc off b F bc at_ s (pt rb (rcO none none none 0 0) :: l)))
    (k : ∀ r br' H2, Sat H2 (pt r (.cells ⟨[.pointer (some ⟨db, 0, none⟩)]⟩ 86) :: dcL db fb sb br' brc off b F bc (at_ + 8) s (pt rb (rcO none none none 0 0) :: l)) → F73.L0 (some ⟨rb, 0, none⟩) r (some ⟨fb, 0, none⟩) (IntKind.wrap .i64 (m : Int)) .nil H2 R0) :
    CallsH Tryd.prog 73 ⟨[.pointer (some ⟨db, 0, none⟩), .pointer (some ⟨rb, 0, none⟩)]⟩ H R0 := by
  have hbr := (S.slLen (List.mem_cons_of_mem _ (List.mem_cons_self ..))).2
  refine F73.calls ?_
  unfold F73.go
  (repeat (first | (refine Step.go ?_; intros) | refine iteB_t (by decide) ?_ | refine iteB_f (by decide) ?_ | (refine Duo.mk (by first | omega | exact rfl | decide) ?_; intros) | (refine Duo.mk (Clo.mk (by kernel_rfl)) ?_; intros)))
  rename_i r H1 S1
  clear S
  refine Sat.idx S1 ⟨by omega, by omega, fun r0 o0 hr => ?_⟩
  subst hr
  have hI : HasI [fb] (0 : Int) fb := ⟨rfl⟩
  (repeat (first | (refine Step.go ?_; intros) | refine iteB_t (by decide) ?_ | refine iteB_f (by decide) ?_ | (refine Duo.mk (by first | omega | exact rfl | decide) ?_; intros) | (refine Duo.mk (Clo.mk (by kernel_rfl)) ?_; intros)))
  have S2 : Sat H1 (pt fb (frO b F.length bc at_) :: pt r (.cells ⟨[.pointer (some ⟨db, 0, none⟩)]⟩ 86) :: pt db (dcO (some ⟨r0, o0, none⟩) 1 brc off sb) :: sl prC 84 1 (some ⟨r0, o0, none⟩) 1 brc [fb] :: pt sb (smO s) :: pt rb (rcO none none none 0 0) :: l) := S1.to (by
    apply Ent.pick; (focus (repeat (first | exact Sel.here | apply Sel.there))); exact Ent.refl)
  refine call_of (ri_full hF ha R.there.there.there.there.there hb S2) ?_
  rintro e H2 ⟨rfl, S3⟩
  clear S1 S2
  rw [hd]
  (repeat (first | (refine Step.go ?_; intros) | refine iteB_t (by decide) ?_ | refine iteB_f (by decide) ?_ | (refine Duo.mk (by first | omega | exact rfl | decide) ?_; intros) | (refine Duo.mk (Clo.mk (by kernel_rfl)) ?_; intros)))
  refine eq_nil ?_
  refine iteB_f rfl ?_
  (repeat (first | (refine Step.go ?_; intros) | refine iteB_t (by decide) ?_ | refine iteB_f (by decide) ?_ | (refine Duo.mk (by first | omega | exact rfl | decide) ?_; intros) | (refine Duo.mk (Clo.mk (by kernel_rfl)) ?_; intros)))
  refine iteB_f (by have := mt (zero_iff hm).1 hm0; simpa using this) ?_
  refine k r (some ⟨r0, o0, none⟩) H2 (S3.to ?_)
  iterate 4 (apply Ent.pick; (focus (repeat (first | exact Sel.here | apply Sel.there))))
  exact Ent.refl
/-- A body that is not all there. -/
theorem dr_cut [Er : Ers l e0 e1] {n r : Nat} (hF : F.length ≤ 1000000000) (ha : off + 8 ≤ F.length) (hcut : F.length < off + 8 + (n + padOf n)) (hn0 : 0 < n) (hn : n ≤ 1000000000) (R : Rd1 l b F) (hb : F.length ≤ bc)
    (S : Sat H (pt r (.cells ⟨[.pointer (some ⟨db, 0, none⟩)]⟩ 86) :: dcL db fb sb br brc off b F bc (off + 8) s (pt rb (rcO none none none 0 0) :: l))) :
    F73.L0 (some ⟨rb, 0, none⟩) r (some ⟨fb, 0, none⟩) (IntKind.wrap .i64 ((lenF n : Nat) : Int)) .nil H (stopO (eofI e1) db sb off s l) := by
  have hp := padOf_lt n
  have hbr := (S.slLen (List.mem_cons_of_mem _ (List.mem_cons_of_mem _ (List.mem_cons_self ..)))).2
  refine F73.L0_step ?_
  unfold F73.L0n
  (repeat (first | (refine Step.go ?_; intros) | refine iteB_t (by decide) ?_ | refine iteB_f (by decide) ?_ | (refine Duo.mk (by first | omega | exact rfl | decide) ?_; intros) | (refine Duo.mk (Clo.mk (by kernel_rfl)) ?_; intros)))
  refine gives_i S (dfs_ok (by omega)) fun H1 E1 S1 => ?_
  clear S
  (repeat (first | (refine Step.go ?_; intros) | refine iteB_t (by decide) ?_ | refine iteB_f (by decide) ?_ | (refine Duo.mk (by first | omega | exact rfl | decide) ?_; intros) | (refine Duo.mk (Clo.mk (by kernel_rfl)) ?_; intros)))
  rename_i b1 _ _ b2 _ _ _ _ H5 S5
  have S5' : Sat H5 (pt fb (frO b F.length bc (off + 8)) :: pt b2 (.cells ⟨[.int .i64 ((padOf n : Nat) : Int)]⟩ 2) :: pt b1 (.cells ⟨[.int .i64 (n : Int)]⟩ 2) :: pt r (.cells ⟨[.pointer (some ⟨db, 0, none⟩)]⟩ 86) :: pt db (dcO br 1 brc off sb) :: sl prC 84 1 br 1 brc [fb] :: pt sb (smO s) :: pt rb (rcO none none none 0 0) :: l) := S5.to (by
    apply Ent.pick; (focus (repeat (first | exact Sel.here | apply Sel.there))); exact Ent.refl)
  clear S1
  refine gives_i S5' (finfo_ok S5') fun H6 E6 S6 => ?_
  clear S5
  (repeat (first | (refine Step.go ?_; intros) | refine iteB_t (by decide) ?_ | refine iteB_f (by decide) ?_ | (refine Duo.mk (by first | omega | exact rfl | decide) ?_; intros) | (refine Duo.mk (Clo.mk (by kernel_rfl)) ?_; intros)))
  refine gives_i S6 fsize_ok fun H7 E7 S7 => ?_
  clear S5' S6
  (repeat (first | (refine Step.go ?_; intros) | refine iteB_t (by decide) ?_ | refine iteB_f (by decide) ?_ | (refine Duo.mk (by first | omega | exact rfl | decide) ?_; intros) | (refine Duo.mk (Clo.mk (by kernel_rfl)) ?_; intros)))
  have ew : IntKind.wrap .i64 ((IntKind.wrap .i64 (((F.length : Nat) : Int) - (off : Int))) - ((padOf n : Nat) : Int)) = (F.length : Int) - (off : Int) - (padOf n : Int) := by
    rw [wr64 (i := ((F.length : Nat) : Int) - (off : Int)) (by omega) (by omega), wr64 (by omega) (by omega)]
  rw [ew]
  by_cases hlt : (n : Int) > (F.length : Int) - (off : Int) - (padOf n : Int)
  · refine iteB_t (decide_eq_true hlt) ?_
    (repeat (first | (refine Step.go ?_; intros) | refine iteB_t (by decide) ?_ | refine iteB_f (by decide) ?_ | (refine Duo.mk (by first | omega | exact rfl | decide) ?_; intros) | (refine Duo.mk (Clo.mk (by kernel_rfl)) ?_; intros)))
    apply stop_i
    refine Sat.to S7 ?_
    iterate 2 (apply Ent.pick; (focus (repeat (first | exact Sel.here | apply Sel.there))))
    exact Ent.drop (Ent.drop (Ent.drop (Ent.drop (Ent.drop (Ent.drop .refl)))))
  · refine iteB_f (decide_eq_false hlt) ?_
    (repeat (first | (refine Step.go ?_; intros) | refine iteB_t (by decide) ?_ | refine iteB_f (by decide) ?_ | (refine Duo.mk (by first | omega | exact rfl | decide) ?_; intros) | (refine Duo.mk (Clo.mk (by kernel_rfl)) ?_; intros)))
    have e2 : IntKind.wrap .i64 ((n : Int) + ((padOf n : Nat) : Int)) = ((n + padOf n : Nat) : Int) := by rw [wr64 (by omega) (by omega)]; omega
    rw [e2]
    refine ⟨by omega, by omega, by omega, fun rd H8 S8 => ?_⟩
    clear S7
    rw [Int.toNat_natCast] at S8 ⊢
    have ez : repZ [.int .u8 (0 : Int)] (n + padOf n) = [] ++ (zerosB (n + padOf n)).flatMap bC ++ [] := by
      rw [List.nil_append, List.append_nil]; exact rep_zeros _
    rw [ez] at S8
    have S9 : Sat H8 (pt fb (frO b F.length bc (off + 8)) :: sl bC 5 1 (some ⟨rd, 0, none⟩) (n + padOf n) (n + padOf n) (zerosB (n + padOf n)) :: pt b2 (.cells ⟨[.int .i64 ((padOf n : Nat) : Int)]⟩ 2) :: pt b1 (.cells ⟨[.int .i64 (n : Int)]⟩ 2) :: pt r (.cells ⟨[.pointer (some ⟨db, 0, none⟩)]⟩ 86) :: pt db (dcO br 1 brc off sb) :: sl prC 84 1 br 1 brc [fb] :: pt sb (smO s) :: pt rb (rcO none none none 0 0) :: l) :=
      (S8.to (Ent.slClose (f := bC) (z := 1) (n := n + padOf n) (c := n + padOf n) (pre := []) (sp := []) (xs := zerosB (n + padOf n)) (by unfold zerosB; rw [List.length_replicate]) (by intro x _; rfl) (Nat.le_refl _) rfl (by simp))).to Ent.swp
    clear S8
    rcases Nat.lt_or_ge (off + 8) F.length with hlt2 | hge
    · refine call_of (rf_part (by omega) (by omega) hlt2 (by omega) R.there.there.there.there.there.there.there hb S9) ?_
      rintro e H9 ⟨n', ys', rfl, S10⟩
      clear S9
      (repeat (first | (refine Step.go ?_; intros) | refine iteB_t (by decide) ?_ | refine iteB_f (by decide) ?_ | (refine Duo.mk (by first | omega | exact rfl | decide) ?_; intros) | (refine Duo.mk (Clo.mk (by kernel_rfl)) ?_; intros)))
      refine eq_10 inferInstance S10 ?_
      (repeat (first | (refine Step.go ?_; intros) | refine iteB_t (by decide) ?_ | refine iteB_f (by decide) ?_ | (refine Duo.mk (by first | omega | exact rfl | decide) ?_; intros) | (refine Duo.mk (Clo.mk (by kernel_rfl)) ?_; intros)))
      apply stop_i
      refine Sat.to S10 ?_
      iterate 2 (apply Ent.pick; (focus (repeat (first | exact Sel.here | apply Sel.there))))
      exact Ent.drop (Ent.drop (Ent.drop (Ent.drop (Ent.drop (Ent.drop (Ent.drop .refl))))))
    · have he : off + 8 = F.length := by omega
      refine gives_i S9 (rf_none (by omega) (by omega) he S9) fun H9 E9 S10 => ?_
      clear S9
      (repeat (first | (refine Step.go ?_; intros) | refine iteB_t (by decide) ?_ | refine iteB_f (by decide) ?_ | (refine Duo.mk (by first | omega | exact rfl | decide) ?_; intros) | (refine Duo.mk (Clo.mk (by kernel_rfl)) ?_; intros)))
      refine eq_same ?_
      (repeat (first | (refine Step.go ?_; intros) | refine iteB_t (by decide) ?_ | refine iteB_f (by decide) ?_ | (refine Duo.mk (by first | omega | exact rfl | decide) ?_; intros) | (refine Duo.mk (Clo.mk (by kernel_rfl)) ?_; intros)))
      apply stop_i
      refine Sat.to S10 ?_
      iterate 2 (apply Ent.pick; (focus (repeat (first | exact Sel.here | apply Sel.there))))
      exact Ent.drop (Ent.drop (Ent.drop (Ent.drop (Ent.drop (Ent.drop (Ent.drop .refl))))))
/-- A record that is read. -/
abbrev recL (rb tb cb : Nat) (ty : Int) (c : W32) (dq : Option Addr) (dn dc : Nat) (d : Option (List UInt8)) (l : List HP) : List HP :=
  pt rb (rcO (some ⟨tb, 0, none⟩) (some ⟨cb, 0, none⟩) dq dn dc) :: pt tb (.cells ⟨[.int .i64 ty]⟩ 2) :: pt cb (.cells ⟨[.int .u32 (iv c)]⟩ 22) :: (DatS dq dn dc d ++ l)
/-- A body that is there, but for its sum. -/
theorem dr_full [Er : Ers l e0 e1] {n r : Nat} {R0 : Ending → Heap → Prop} {ty : Int} {c : W32} {d : Option (List UInt8)} (hF : F.length ≤ 1000000000) (hB : (body ty c d).length = n) (ht : -9223372036854775808 ≤ ty ∧ ty < 9223372036854775808) (hdl : dlen d ≤ 1000000) (ha : off + 8 + (n + padOf n) ≤ F.length) (hbd : (F.drop (off + 8)).take n = body ty c d) (R : Rd1 l b F) (hb : F.length ≤ bc)
    (S : Sat H (pt r (.cells ⟨[.pointer (some ⟨db, 0, none⟩)]⟩ 86) :: dcL db fb sb br brc off b F bc (off + 8) s (pt rb (rcO none none none 0 0) :: l)))
    (good : (ty = 4 ∨ crcUpd s (datL d) = c) → ∀ H1 tb cb dq dn dc, DatN dq dn dc d → Sat H1 (dcL db fb sb br brc (off + 8 + (n + padOf n)) b F bc (off + 8 + (n + padOf n)) (if ty = 4 then s else crcUpd s (datL d)) (recL rb tb cb ty c dq dn dc d l)) → R0 (.returned .nilIface) H1)
    (bad : ty ≠ 4 → crcUpd s (datL d) ≠ c → ∀ H1 v q n' c', (v = eofI e1 ∨ v = crcE) → Sat H1 (pt db (.cells ⟨[.slice q n' c', .int .i64 (off : Int), .pointer (some ⟨sb, 0, none⟩), .bool false]⟩ 92) :: pt sb (smO (crcUpd s (datL d))) :: l) → R0 (.returned v) H1) :
    F73.L0 (some ⟨rb, 0, none⟩) r (some ⟨fb, 0, none⟩) (IntKind.wrap .i64 ((lenF n : Nat) : Int)) .nil H R0 := by
  have hn0 : 0 < n := by rw [← hB]; unfold body; simp
  have hn : n ≤ 1000000000 := by omega
  have hp := padOf_lt n
  have hbr := (S.slLen (List.mem_cons_of_mem _ (List.mem_cons_of_mem _ (List.mem_cons_self ..)))).2
  refine F73.L0_step ?_
  unfold F73.L0n
  (repeat (first | (refine Step.go ?_; intros) | refine iteB_t (by decide) ?_ | refine iteB_f (by decide) ?_ | (refine Duo.mk (by first | omega | exact rfl | decide) ?_; intros) | (refine Duo.mk (Clo.mk (by kernel_rfl)) ?_; intros)))
  refine gives_i S (dfs_ok (by omega)) fun H1 E1 S1 => ?_
  clear S
  (repeat (first | (refine Step.go ?_; intros) | refine iteB_t (by decide) ?_ | refine iteB_f (by decide) ?_ | (refine Duo.mk (by first | omega | exact rfl | decide) ?_; intros) | (refine Duo.mk (Clo.mk (by kernel_rfl)) ?_; intros)))
  rename_i b1 _ _ b2 _ _ _ _ H5 S5
  have S5' : Sat H5 (pt fb (frO b F.length bc (off + 8)) :: pt b2 (.cells ⟨[.int .i64 ((padOf n : Nat) : Int)]⟩ 2) :: pt b1 (.cells ⟨[.int .i64 (n : Int)]⟩ 2) :: pt r (.cells ⟨[.pointer (some ⟨db, 0, none⟩)]⟩ 86) :: pt db (dcO br 1 brc off sb) :: sl prC 84 1 br 1 brc [fb] :: pt sb (smO s) :: pt rb (rcO none none none 0 0) :: l) := S5.to (by
    apply Ent.pick; (focus (repeat (first | exact Sel.here | apply Sel.there))); exact Ent.refl)
  clear S1
  refine gives_i S5' (finfo_ok S5') fun H6 E6 S6 => ?_
  clear S5
  (repeat (first | (refine Step.go ?_; intros) | refine iteB_t (by decide) ?_ | refine iteB_f (by decide) ?_ | (refine Duo.mk (by first | omega | exact rfl | decide) ?_; intros) | (refine Duo.mk (Clo.mk (by kernel_rfl)) ?_; intros)))
  refine gives_i S6 fsize_ok fun H7 E7 S7 => ?_
  clear S5' S6
  (repeat (first | (refine Step.go ?_; intros) | refine iteB_t (by decide) ?_ | refine iteB_f (by decide) ?_ | (refine Duo.mk (by first | omega | exact rfl | decide) ?_; intros) | (refine Duo.mk (Clo.mk (by kernel_rfl)) ?_; intros)))
  have ew : IntKind.wrap .i64 ((IntKind.wrap .i64 (((F.length : Nat) : Int) - (off : Int))) - ((padOf n : Nat) : Int)) = (F.length : Int) - (off : Int) - (padOf n : Int) := by
    rw [wr64 (i := ((F.length : Nat) : Int) - (off : Int)) (by omega) (by omega), wr64 (by omega) (by omega)]
  rw [ew]
  refine iteB_f (decide_eq_false (by omega)) ?_
  (repeat (first | (refine Step.go ?_; intros) | refine iteB_t (by decide) ?_ | refine iteB_f (by decide) ?_ | (refine Duo.mk (by first | omega | exact rfl | decide) ?_; intros) | (refine Duo.mk (Clo.mk (by kernel_rfl)) ?_; intros)))
  have e2 : IntKind.wrap .i64 ((n : Int) + ((padOf n : Nat) : Int)) = ((n + padOf n : Nat) : Int) := by rw [wr64 (by omega) (by omega)]; omega
  rw [e2]
  refine ⟨by omega, by omega, by omega, fun rd H8 S8 => ?_⟩
  clear S7
  rw [Int.toNat_natCast] at S8 ⊢
  have ez : repZ [.int .u8 (0 : Int)] (n + padOf n) = [] ++ (zerosB (n + padOf n)).flatMap bC ++ [] := by
    rw [List.nil_append, List.append_nil]; exact rep_zeros _
  rw [ez] at S8
  have S9 : Sat H8 (pt fb (frO b F.length bc (off + 8)) :: sl bC 5 1 (some ⟨rd, 0, none⟩) (n + padOf n) (n + padOf n) (zerosB (n + padOf n)) :: pt b2 (.cells ⟨[.int .i64 ((padOf n : Nat) : Int)]⟩ 2) :: pt b1 (.cells ⟨[.int .i64 (n : Int)]⟩ 2) :: pt r (.cells ⟨[.pointer (some ⟨db, 0, none⟩)]⟩ 86) :: pt db (dcO br 1 brc off sb) :: sl prC 84 1 br 1 brc [fb] :: pt sb (smO s) :: pt rb (rcO none none none 0 0) :: l) :=
    (S8.to (Ent.slClose (f := bC) (z := 1) (n := n + padOf n) (c := n + padOf n) (pre := []) (sp := []) (xs := zerosB (n + padOf n)) (by unfold zerosB; rw [List.length_replicate]) (by intro x _; rfl) (Nat.le_refl _) rfl (by simp))).to Ent.swp
  clear S8
  refine call_of (rf_full (by omega) (by omega) ha R.there.there.there.there.there.there.there hb S9) ?_
  rintro e H9 ⟨rfl, S10⟩
  clear S9
  (repeat (first | (refine Step.go ?_; intros) | refine iteB_t (by decide) ?_ | refine iteB_f (by decide) ?_ | (refine Duo.mk (by first | omega | exact rfl | decide) ?_; intros) | (refine Duo.mk (Clo.mk (by kernel_rfl)) ?_; intros)))
  rw [slP_zero, Int.toNat_natCast]
  generalize hD : (F.drop (off + 8)).take (n + padOf n) = D at *
  have hDl : D.length = n + padOf n := by rw [← hD]; simp; omega
  have hDt : D.take n = body ty c d := by rw [← hD, List.take_take, Nat.min_eq_left (by omega)]; exact hbd
  have S11 : Sat H9 (pt rb (rcO none none none 0 0) :: pt fb (frO b F.length bc (off + 8 + (n + padOf n))) :: sl bC 5 1 (some ⟨rd, 0, none⟩) (n + padOf n) (n + padOf n) D :: pt b2 (.cells ⟨[.int .i64 ((padOf n : Nat) : Int)]⟩ 2) :: pt b1 (.cells ⟨[.int .i64 (n : Int)]⟩ 2) :: pt r (.cells ⟨[.pointer (some ⟨db, 0, none⟩)]⟩ 86) :: pt db (dcO br 1 brc off sb) :: sl prC 84 1 br 1 brc [fb] :: pt sb (smO s) :: l) := S10.to (by
    apply Ent.pick; (focus (repeat (first | exact Sel.here | apply Sel.there))); exact Ent.refl)
  clear S10
  have RD : Rd1 [sl bC 5 1 (some ⟨rd, 0, none⟩) (n + padOf n) (n + padOf n) D] (some ⟨rd, 0, none⟩) D := Rd1.of_sl (List.mem_cons_self ..)
  have RB := RD.take n
  rw [hDt] at RB
  have hu := unm_ok (H := H9) (rb := rb) (p := some ⟨rd, 0, none⟩) (pc := n + padOf n) (l := pt fb (frO b F.length bc (off + 8 + (n + padOf n))) :: sl bC 5 1 (some ⟨rd, 0, none⟩) (n + padOf n) (n + padOf n) D :: pt b2 (.cells ⟨[.int .i64 ((padOf n : Nat) : Int)]⟩ 2) :: pt b1 (.cells ⟨[.int .i64 (n : Int)]⟩ 2) :: pt r (.cells ⟨[.pointer (some ⟨db, 0, none⟩)]⟩ 86) :: pt db (dcO br 1 brc off sb) :: sl prC 84 1 br 1 brc [fb] :: pt sb (smO s) :: l) ht hdl (by omega) (Ent.drop (Ent.cons Ent.nil)) RB S11
  rw [hB] at hu
  refine call_of hu ?_
  rintro e H10 ⟨rfl, tb, cb, dq, dn, dc, hN, S12⟩
  clear S11 hu
  have S13 : Sat H10 (pt rb (rcO (some ⟨tb, 0, none⟩) (some ⟨cb, 0, none⟩) dq dn dc) :: pt tb (.cells ⟨[.int .i64 ty]⟩ 2) :: pt cb (.cells ⟨[.int .u32 (iv c)]⟩ 22) :: pt fb (frO b F.length bc (off + 8 + (n + padOf n))) :: sl bC 5 1 (some ⟨rd, 0, none⟩) (n + padOf n) (n + padOf n) D :: pt b2 (.cells ⟨[.int .i64 ((padOf n : Nat) : Int)]⟩ 2) :: pt b1 (.cells ⟨[.int .i64 (n : Int)]⟩ 2) :: pt r (.cells ⟨[.pointer (some ⟨db, 0, none⟩)]⟩ 86) :: pt db (dcO br 1 brc off sb) :: sl prC 84 1 br 1 brc [fb] :: pt sb (smO s) :: (DatS dq dn dc d ++ l)) :=
    ⟨S12.out.cons_mono fun _ x => x.cons_mono fun _ x => x.cons_mono fun _ x => SatP.mid (a := [pt fb (frO b F.length bc (off + 8 + (n + padOf n))), sl bC 5 1 (some ⟨rd, 0, none⟩) (n + padOf n) (n + padOf n) D, pt b2 (.cells ⟨[.int .i64 ((padOf n : Nat) : Int)]⟩ 2), pt b1 (.cells ⟨[.int .i64 (n : Int)]⟩ 2), pt r (.cells ⟨[.pointer (some ⟨db, 0, none⟩)]⟩ 86), pt db (dcO br 1 brc off sb), sl prC 84 1 br 1 brc [fb], pt sb (smO s)]) x⟩
  clear S12
  have RDat : Rd1 (DatS dq dn dc d ++ l) dq (datL d) ∧ (datL d).length = dn := by
    cases d with
    | none => exact ⟨Rd1.nil, hN.2.symm⟩
    | some ys => exact ⟨Rd1.of_sl (List.mem_cons_self ..), Eq.symm hN⟩
  have Er2 : Ers (DatS dq dn dc d ++ l) e0 e1 := by
    cases d with
    | none => exact Er
    | some ys => exact Ers.there (h := Er)
  (repeat (first | (refine Step.go ?_; intros) | refine iteB_t (by decide) ?_ | refine iteB_f (by decide) ?_ | (refine Duo.mk (by first | omega | exact rfl | decide) ?_; intros) | (refine Duo.mk (Clo.mk (by kernel_rfl)) ?_; intros)))
  refine gives_i S13 (getT_ok (l := _ :: _ :: _ :: _ :: _ :: _ :: _ :: _ :: _ :: (DatS dq dn dc d ++ l)) S13) fun H11 E11 S14 => ?_
  clear S13
  (repeat (first | (refine Step.go ?_; intros) | refine iteB_t (by decide) ?_ | refine iteB_f (by decide) ?_ | (refine Duo.mk (by first | omega | exact rfl | decide) ?_; intros) | (refine Duo.mk (Clo.mk (by kernel_rfl)) ?_; intros)))
  /- the end of a record that is good -/
  have last : ∀ (H : Heap) (s' : W32), (ty = 4 ∨ crcUpd s (datL d) = c) → s' = (if ty = 4 then s else crcUpd s (datL d)) → Sat H (pt r (.cells ⟨[.pointer (some ⟨db, 0, none⟩)]⟩ 86) :: pt db (dcO br 1 brc off sb) :: pt b1 (.cells ⟨[.int .i64 (n : Int)]⟩ 2) :: pt b2 (.cells ⟨[.int .i64 ((padOf n : Nat) : Int)]⟩ 2) :: sl prC 84 1 br 1 brc [fb] :: pt fb (frO b F.length bc (off + 8 + (n + padOf n))) :: pt sb (smO s') :: recL rb tb cb ty c dq dn dc d l) → F73.L1 r b1 b2 H R0 := by
    intro H s' hg hs' S
    refine F73.L1_step ?_
    unfold F73.L1n
    (repeat (first | (refine Step.go ?_; intros) | refine iteB_t (by decide) ?_ | refine iteB_f (by decide) ?_ | (refine Duo.mk (by first | omega | exact rfl | decide) ?_; intros) | (refine Duo.mk (Clo.mk (by kernel_rfl)) ?_; intros)))
    rename_i H2 S2
    have e3 : IntKind.wrap .i64 ((off : Int) + IntKind.wrap .i64 (IntKind.wrap .i64 ((8 : Int) + (n : Int)) + ((padOf n : Nat) : Int))) = ((off + 8 + (n + padOf n) : Nat) : Int) := by
      rw [wr64 (i := (8 : Int) + (n : Int)) (by omega) (by omega), wr64 (i := (8 : Int) + (n : Int) + ((padOf n : Nat) : Int)) (by omega) (by omega), wr64 (by omega) (by omega)]; omega
    rw [e3] at S2
    subst hs'
    refine good hg H2 tb cb dq dn dc hN (S2.to ?_)
    iterate 4 (apply Ent.pick; (focus (repeat (first | exact Sel.here | apply Sel.there))))
    exact Ent.drop (Ent.drop (Ent.drop .refl))
  by_cases h4 : ty = 4
  · refine iteB_f (by rw [h4]; rfl) ?_
    refine last H11 s (.inl h4) (by rw [if_pos h4]) (S14.to ?_)
    iterate 7 (apply Ent.pick; (focus (repeat (first | exact Sel.here | apply Sel.there))))
    iterate 3 (apply Ent.pick; (focus (repeat (first | exact Sel.here | apply Sel.there))))
    exact Ent.drop .refl
  refine iteB_t (by simpa using h4) ?_
  (repeat (first | (refine Step.go ?_; intros) | refine iteB_t (by decide) ?_ | refine iteB_f (by decide) ?_ | (refine Duo.mk (by first | omega | exact rfl | decide) ?_; intros) | (refine Duo.mk (Clo.mk (by kernel_rfl)) ?_; intros)))
  have S15 : Sat H11 (pt sb (smO s) :: pt rb (rcO (some ⟨tb, 0, none⟩) (some ⟨cb, 0, none⟩) dq dn dc) :: pt tb (.cells ⟨[.int .i64 ty]⟩ 2) :: pt cb (.cells ⟨[.int .u32 (iv c)]⟩ 22) :: pt fb (frO b F.length bc (off + 8 + (n + padOf n))) :: sl bC 5 1 (some ⟨rd, 0, none⟩) (n + padOf n) (n + padOf n) D :: pt b2 (.cells ⟨[.int .i64 ((padOf n : Nat) : Int)]⟩ 2) :: pt b1 (.cells ⟨[.int .i64 (n : Int)]⟩ 2) :: pt r (.cells ⟨[.pointer (some ⟨db, 0, none⟩)]⟩ 86) :: pt db (dcO br 1 brc off sb) :: sl prC 84 1 br 1 brc [fb] :: (DatS dq dn dc d ++ l)) := S14.to (by
    apply Ent.pick; (focus (repeat (first | exact Sel.here | apply Sel.there))); exact Ent.refl)
  clear S14
  have hcr := crc_ok (pc := dc) (by have := dlen_datL d; omega) S15 (RDat.1.there.there.there.there.there.there.there.there.there.there)
  rw [RDat.2] at hcr
  refine call_of hcr ?_
  rintro e H12 ⟨rfl, S16⟩
  clear S15 hcr
  (repeat (first | (refine Step.go ?_; intros) | refine iteB_t (by decide) ?_ | refine iteB_f (by decide) ?_ | (refine Duo.mk (by first | omega | exact rfl | decide) ?_; intros) | (refine Duo.mk (Clo.mk (by kernel_rfl)) ?_; intros)))
  refine gives_i S16 (sum_ok (A := old H12) S16) fun H13 E13 S17 => ?_
  clear S16
  (repeat (first | (refine Step.go ?_; intros) | refine iteB_t (by decide) ?_ | refine iteB_f (by decide) ?_ | (refine Duo.mk (by first | omega | exact rfl | decide) ?_; intros) | (refine Duo.mk (Clo.mk (by kernel_rfl)) ?_; intros)))
  have S18 : Sat H13 (pt rb (rcO (some ⟨tb, 0, none⟩) (some ⟨cb, 0, none⟩) dq dn dc) :: pt cb (.cells ⟨[.int .u32 (iv c)]⟩ 22) :: pt sb (smO (crcUpd s (datL d))) :: pt tb (.cells ⟨[.int .i64 ty]⟩ 2) :: pt fb (frO b F.length bc (off + 8 + (n + padOf n))) :: sl bC 5 1 (some ⟨rd, 0, none⟩) (n + padOf n) (n + padOf n) D :: pt b2 (.cells ⟨[.int .i64 ((padOf n : Nat) : Int)]⟩ 2) :: pt b1 (.cells ⟨[.int .i64 (n : Int)]⟩ 2) :: pt r (.cells ⟨[.pointer (some ⟨db, 0, none⟩)]⟩ 86) :: pt db (dcO br 1 brc off sb) :: sl prC 84 1 br 1 brc [fb] :: (DatS dq dn dc d ++ l)) := S17.to (by
    iterate 2 (apply Ent.pick; (focus (repeat (first | exact Sel.here | apply Sel.there))))
    exact Ent.refl)
  clear S17
  refine gives_i S18 (valid_ok S18) fun H14 E14 S19 => ?_
  clear S18
  by_cases hcc : c = crcUpd s (datL d)
  · rw [if_pos hcc]
    (repeat (first | (refine Step.go ?_; intros) | refine iteB_t (by decide) ?_ | refine iteB_f (by decide) ?_ | (refine Duo.mk (by first | omega | exact rfl | decide) ?_; intros) | (refine Duo.mk (Clo.mk (by kernel_rfl)) ?_; intros)))
    refine last H14 (crcUpd s (datL d)) (.inr hcc.symm) (by rw [if_neg h4]) (S19.to ?_)
    iterate 10 (apply Ent.pick; (focus (repeat (first | exact Sel.here | apply Sel.there))))
    exact Ent.drop .refl
  · rw [if_neg hcc]
    (repeat (first | (refine Step.go ?_; intros) | refine iteB_t (by decide) ?_ | refine iteB_f (by decide) ?_ | (refine Duo.mk (by first | omega | exact rfl | decide) ?_; intros) | (refine Duo.mk (Clo.mk (by kernel_rfl)) ?_; intros)))
    refine call_of (reset_ok S19) ?_
    rintro e H15 ⟨rfl, S20⟩
    clear S19
    (repeat (first | (refine Step.go ?_; intros) | refine iteB_t (by decide) ?_ | refine iteB_f (by decide) ?_ | (refine Duo.mk (by first | omega | exact rfl | decide) ?_; intros) | (refine Duo.mk (Clo.mk (by kernel_rfl)) ?_; intros)))
    refine F73.L2_step ?_
    unfold F73.L2n
    (repeat (first | (refine Step.go ?_; intros) | refine iteB_t (by decide) ?_ | refine iteB_f (by decide) ?_ | (refine Duo.mk (by first | omega | exact rfl | decide) ?_; intros) | (refine Duo.mk (Clo.mk (by kernel_rfl)) ?_; intros)))
    have S21 : Sat H15 (pt db (dcO br 1 brc off sb) :: sl bC 5 1 (some ⟨rd, 0, none⟩) (n + padOf n) (n + padOf n) D :: pt sb (smO (crcUpd s (datL d))) :: (DatS dq dn dc d ++ l)) := S20.to (by
      iterate 3 (apply Ent.pick; (focus (repeat (first | exact Sel.here | apply Sel.there))))
      exact Ent.drop (Ent.drop (Ent.drop (Ent.drop (Ent.drop (Ent.drop (Ent.drop (Ent.drop .refl))))))))
    clear S20
    have hto := torn_ok (H := H15) (p := some ⟨rd, 0, none⟩) (pc := n + padOf n) (ys := D) (by omega) (by omega) (by omega) (Rd1.of_sl (List.mem_cons_self ..)) S21
    rw [hDl] at hto
    refine call_of hto ?_
    rintro e H16 ⟨bb, rfl, S22⟩
    clear S21 hto
    (repeat (first | (refine Step.go ?_; intros) | refine iteB_t (by decide) ?_ | refine iteB_f (by decide) ?_ | (refine Duo.mk (by first | omega | exact rfl | decide) ?_; intros) | (refine Duo.mk (Clo.mk (by kernel_rfl)) ?_; intros)))
    have S23 : Sat H16 (pt db (dcO br 1 brc off sb) :: pt sb (smO (crcUpd s (datL d))) :: l) := ⟨S22.out.cons_mono fun _ x => (x.tail).cons_mono fun _ x => (star_in x |> fun ⟨h1, h2, h3, h4⟩ => h4.mono PH.minus_sub)⟩
    cases bb with
    | true =>
      refine iteB_t rfl ?_
      (repeat (first | (refine Step.go ?_; intros) | refine iteB_t (by decide) ?_ | refine iteB_f (by decide) ?_ | (refine Duo.mk (by first | omega | exact rfl | decide) ?_; intros) | (refine Duo.mk (Clo.mk (by kernel_rfl)) ?_; intros)))
      exact bad h4 (fun h => hcc h.symm) H16 _ _ _ _ (.inl rfl) S23
    | false =>
      refine iteB_f rfl ?_
      exact bad h4 (fun h => hcc h.symm) H16 _ _ _ _ (.inr rfl) S23
end
end Go.Proofs.YtkejocbhmcphiaaDoor

set_option linter.unusedVariables false
set_option linter.unusedSimpArgs false
set_option linter.unnecessarySimpa false
set_option maxRecDepth 100000
namespace Go.Proofs.YtkejocbhmcphiaaDoor
open Go Go.Den Go.Proofs
/-! The decoder as the reader has it. -/
section
variable {H : Heap} {l : List HP} {e0 e1 : Addr} {db fb sb rb : Nat} {br b : Option Addr} {brc bc off at_ : Nat} {F : List UInt8} {s : W32}
theorem decode_of {R0 : Ending → Heap → Prop} (hnp : ∀ ch H, ¬ R0 (.panicked ch) H) (S : Sat H (dcL db fb sb br brc off b F bc at_ s (pt rb (rcO none none none 0 0) :: l)))
    (h : ∀ H1, Sat H1 (dcL db fb sb br brc off b F bc at_ s (pt rb (rcO none none none 0 0) :: l)) → CallsH Tryd.prog 73 ⟨[.pointer (some ⟨db, 0, none⟩), .pointer (some ⟨rb, 0, none⟩)]⟩ H1 (fun e H2 => ∃ i : IV, e = .returned i.v ∧ R0 (.returned i.v) H2)) :
    CallsH Tryd.prog 69 ⟨[.pointer (some ⟨db, 0, none⟩), .pointer (some ⟨rb, 0, none⟩)]⟩ H R0 := by
  have S0 : Sat H (pt rb (rcO none none none 0 0) :: dcL db fb sb br brc off b F bc at_ s l) := S.to (by
    apply Ent.pick; (focus (repeat (first | exact Sel.here | apply Sel.there))); exact Ent.refl)
  refine F69.calls ?_
  unfold F69.go
  refine call_of (reset_ok S0) ?_
  rintro e H1 ⟨rfl, S1⟩
  clear S0 S
  (repeat (first | (refine Step.go ?_; intros) | refine iteB_t (by decide) ?_ | refine iteB_f (by decide) ?_ | (refine Duo.mk (by first | omega | exact rfl | decide) ?_; intros) | (refine Duo.mk (Clo.mk (by kernel_rfl)) ?_; intros)))
  refine zf_i (by kernel_rfl) (S1.at_ (List.mem_cons_of_mem _ (List.mem_cons_self ..))) fun a1 => ?_
  refine gives_i S1 lockA fun H2 E2 S2 => ?_
  clear S1
  (repeat (first | (refine Step.go ?_; intros) | refine iteB_t (by decide) ?_ | refine iteB_f (by decide) ?_ | (refine Duo.mk (by first | omega | exact rfl | decide) ?_; intros) | (refine Duo.mk (Clo.mk (by kernel_rfl)) ?_; intros)))
  refine noPan_i hnp ?_
  refine guardB_t (by kernel_rfl) ?_
  (repeat (first | (refine Step.go ?_; intros) | refine iteB_t (by decide) ?_ | refine iteB_f (by decide) ?_ | (refine Duo.mk (by first | omega | exact rfl | decide) ?_; intros) | (refine Duo.mk (Clo.mk (by kernel_rfl)) ?_; intros)))
  refine zf_i (by kernel_rfl) (S2.at_ (List.mem_cons_of_mem _ (List.mem_cons_self ..))) fun a2 => ?_
  refine call_of (h H2 (S2.to (by
    iterate 4 (apply Ent.pick; (focus (repeat (first | exact Sel.here | apply Sel.there))))
    exact Ent.refl))) ?_
  rintro e H3 ⟨i, rfl, h3⟩
  (repeat (first | (refine Step.go ?_; intros) | refine iteB_t (by decide) ?_ | refine iteB_f (by decide) ?_ | (refine Duo.mk (by first | omega | exact rfl | decide) ?_; intros) | (refine Duo.mk (Clo.mk (by kernel_rfl)) ?_; intros)))
  exact h3
theorem loff_ok {q : Option Addr} {n c : Nat} (S : Sat H (pt db (.cells ⟨[.slice q n c, .int .i64 (off : Int), .pointer (some ⟨sb, 0, none⟩), .bool false]⟩ 92) :: l)) :
    CallsH Tryd.prog 71 ⟨[.pointer (some ⟨db, 0, none⟩)]⟩ H (Gives (.int .i64 (off : Int)) H) := by
  refine F71.calls ?_
  unfold F71.go
  (repeat (first | (refine Step.go ?_; intros) | refine iteB_t (by decide) ?_ | refine iteB_f (by decide) ?_ | (refine Duo.mk (by first | omega | exact rfl | decide) ?_; intros) | (refine Duo.mk (Clo.mk (by kernel_rfl)) ?_; intros)))
  exact ⟨rfl, ExtH.refl H⟩
theorem lcrc_ok {q : Option Addr} {n c : Nat} (S : Sat H (pt db (.cells ⟨[.slice q n c, .int .i64 (off : Int), .pointer (some ⟨sb, 0, none⟩), .bool false]⟩ 92) :: pt sb (smO s) :: l)) :
    CallsH Tryd.prog 70 ⟨[.pointer (some ⟨db, 0, none⟩)]⟩ H (Gives (.int .u32 (iv s)) H) := by
  refine F70.calls ?_
  unfold F70.go
  (repeat (first | (refine Step.go ?_; intros) | refine iteB_t (by decide) ?_ | refine iteB_f (by decide) ?_ | (refine Duo.mk (by first | omega | exact rfl | decide) ?_; intros) | (refine Duo.mk (Clo.mk (by kernel_rfl)) ?_; intros)))
  refine gives_i S (sum_ok (A := old H) (S.to (.drop .refl))) fun H1 E1 S1 => ?_
  (repeat (first | (refine Step.go ?_; intros) | refine iteB_t (by decide) ?_ | refine iteB_f (by decide) ?_ | (refine Duo.mk (by first | omega | exact rfl | decide) ?_; intros) | (refine Duo.mk (Clo.mk (by kernel_rfl)) ?_; intros)))
  exact ⟨rfl, E1⟩
theorem upd_ok {q : Option Addr} {n c : Nat} {v : W32} (S : Sat H (pt db (.cells ⟨[.slice q n c, .int .i64 (off : Int), .pointer (some ⟨sb, 0, none⟩), .bool false]⟩ 92) :: l)) :
    CallsH Tryd.prog 72 ⟨[.pointer (some ⟨db, 0, none⟩), .int .u32 (iv v)]⟩ H (fun e H1 => e = .returned (.tuple ⟨[]⟩) ∧ ∃ sb' : Nat, Sat H1 (pt db (.cells ⟨[.slice q n c, .int .i64 (off : Int), .pointer (some ⟨sb', 0, none⟩), .bool false]⟩ 92) :: pt sb' (smO v) :: l)) := by
  refine F72.calls ?_
  unfold F72.go
  refine grow_i S at_ok fun sb' H1 E1 S1 => ?_
  simp only [List.cons_append, List.nil_append] at S1
  clear S
  (repeat (first | (refine Step.go ?_; intros) | refine iteB_t (by decide) ?_ | refine iteB_f (by decide) ?_ | (refine Duo.mk (by first | omega | exact rfl | decide) ?_; intros) | (refine Duo.mk (Clo.mk (by kernel_rfl)) ?_; intros)))
  have S9 := ‹Sat _ _›
  exact ⟨rfl, sb', S9.to Ent.swp⟩
theorem fbr_ok {p : Option Addr} {n c : Nat} : CallsH Tryd.prog 32 ⟨[.slice p n c]⟩ H (fun e H1 => ∃ r : Nat, e = .returned (.pointer (some ⟨r, 0, none⟩)) ∧ Sat H1 ([pt r (frO p n c 0)] ++ [old H])) := by
  have S := Sat.start H
  refine F32.calls ?_
  unfold F32.go
  (repeat (first | (refine Step.go ?_; intros) | refine iteB_t (by decide) ?_ | refine iteB_f (by decide) ?_ | (refine Duo.mk (by first | omega | exact rfl | decide) ?_; intros) | (refine Duo.mk (Clo.mk (by kernel_rfl)) ?_; intros)))
  exact ⟨_, rfl, ‹Sat _ (pt _ _ :: _)›⟩
abbrev sC3 (x : Option Addr × Nat × Nat) : List Value := [.slice x.1 x.2.1 x.2.2]
theorem newdec_ok {q : Option Addr} {c : Nat} {n : Nat} (S : Sat H (sl sC3 66 1 q 1 c [(b, n, bc)] :: l)) :
    CallsH Tryd.prog 21 ⟨[.bool false, .slice q 1 c]⟩ H (fun e H1 => ∃ (db fb sb : Nat) (br : Option Addr), e = .returned (.iface 86 (.pointer (some ⟨db, 0, none⟩))) ∧ Sat H1 (pt db (dcO br 1 1 0 sb) :: sl prC 84 1 br 1 1 [fb] :: pt fb (frO b n bc 0) :: pt sb (smO 0#32) :: l)) := by
  refine F21.calls ?_
  unfold F21.go
  (repeat (first | (refine Step.go ?_; intros) | refine iteB_t (by decide) ?_ | refine iteB_f (by decide) ?_ | (refine Duo.mk (by first | omega | exact rfl | decide) ?_; intros) | (refine Duo.mk (Clo.mk (by kernel_rfl)) ?_; intros)))
  rename_i r1 H1 S1
  clear S
  refine F21.L0_step ?_
  unfold F21.L0n
  refine iteB_t (by decide) ?_
  refine Sat.idx (f := sC3) (E := 66) (z := 1) (xs := [(b, n, bc)]) S1 ⟨by omega, by omega, fun r0 o0 hr => ?_⟩
  subst hr
  have hI : HasI [(b, n, bc)] (0 : Int) (b, n, bc) := ⟨rfl⟩
  (repeat (first | (refine Step.go ?_; intros) | refine iteB_t (by decide) ?_ | refine iteB_f (by decide) ?_ | (refine Duo.mk (by first | omega | exact rfl | decide) ?_; intros) | (refine Duo.mk (Clo.mk (by kernel_rfl)) ?_; intros)))
  refine grow_i S1 fbr_ok fun fb H2 E2 S2 => ?_
  clear S1
  simp only [List.cons_append, List.nil_append] at S2
  have e1 : repZ [.pointer none] ((((1 : Nat) : Int)).toNat) = [.pointer none] := by
    rw [repZ_one]; rfl
  rw [e1] at S2
  (repeat (first | (refine Step.go ?_; intros) | refine iteB_t (by decide) ?_ | refine iteB_f (by decide) ?_ | (refine Duo.mk (by first | omega | exact rfl | decide) ?_; intros) | (refine Duo.mk (Clo.mk (by kernel_rfl)) ?_; intros)))
  rw [show Addr.add (⟨r1, 0, none⟩ : Addr) (Int.toNat 0 * 1) = ⟨r1, 0, none⟩ from rfl]
  (repeat (first | (refine Step.go ?_; intros) | refine iteB_t (by decide) ?_ | refine iteB_f (by decide) ?_ | (refine Duo.mk (by first | omega | exact rfl | decide) ?_; intros) | (refine Duo.mk (Clo.mk (by kernel_rfl)) ?_; intros)))
  rename_i H3 S3
  clear S2
  refine F21.L0_step ?_
  unfold F21.L0n
  refine iteB_f (by decide) ?_
  refine grow_i S3 at_ok fun sb H4 E4 S4 => ?_
  clear S3
  simp only [List.cons_append, List.nil_append] at S4
  (repeat (first | (refine Step.go ?_; intros) | refine iteB_t (by decide) ?_ | refine iteB_f (by decide) ?_ | (refine Duo.mk (by first | omega | exact rfl | decide) ?_; intros) | (refine Duo.mk (Clo.mk (by kernel_rfl)) ?_; intros)))
  rename_i db H5 S5
  refine ⟨db, fb, sb, some ⟨r1, 0, none⟩, rfl, ?_⟩
  have S6 : Sat H5 (pt r1 (.cells ⟨[] ++ [fb].flatMap prC ++ []⟩ 84) :: pt db (dcO (some ⟨r1, 0, none⟩) 1 1 0 sb) :: pt fb (frO b n bc 0) :: pt sb (smO 0#32) :: l) := S5.to (by
    iterate 4 (apply Ent.pick; (focus (repeat (first | exact Sel.here | apply Sel.there))))
    exact Ent.drop .refl)
  refine (S6.to (Ent.slClose (f := prC) (z := 1) (n := 1) (c := 1) (pre := []) (sp := []) (xs := [fb]) rfl (by intro x _; rfl) (Nat.le_refl _) rfl (by simp))).to Ent.swp
theorem wend_eof [Er : Ers l e0 e1] (S : Sat H l) : CallsH Tryd.prog 22 ⟨[eofI e0]⟩ H (Gives (.int .i64 1) H) := by
  refine F22.calls (err := .mk 122 _) ?_
  unfold F22.go
  (repeat (first | (refine Step.go ?_; intros) | refine iteB_t (by decide) ?_ | refine iteB_f (by decide) ?_ | (refine Duo.mk (by first | omega | exact rfl | decide) ?_; intros) | (refine Duo.mk (Clo.mk (by kernel_rfl)) ?_; intros)))
  refine eq_same ?_
  refine iteB_t rfl ?_
  exact ⟨rfl, ExtH.refl H⟩
theorem wend_torn [Er : Ers l e0 e1] (S : Sat H l) : CallsH Tryd.prog 22 ⟨[eofI e1]⟩ H (Gives (.int .i64 2) H) := by
  refine F22.calls (err := .mk 122 _) ?_
  unfold F22.go
  (repeat (first | (refine Step.go ?_; intros) | refine iteB_t (by decide) ?_ | refine iteB_f (by decide) ?_ | (refine Duo.mk (by first | omega | exact rfl | decide) ?_; intros) | (refine Duo.mk (Clo.mk (by kernel_rfl)) ?_; intros)))
  refine eq_10 Er S ?_
  refine iteB_f rfl ?_
  (repeat (first | (refine Step.go ?_; intros) | refine iteB_t (by decide) ?_ | refine iteB_f (by decide) ?_ | (refine Duo.mk (by first | omega | exact rfl | decide) ?_; intros) | (refine Duo.mk (Clo.mk (by kernel_rfl)) ?_; intros)))
  refine eq_same ?_
  refine iteB_t rfl ?_
  exact ⟨rfl, ExtH.refl H⟩
theorem wend_sum [Er : Ers l e0 e1] (S : Sat H l) : CallsH Tryd.prog 22 ⟨[crcE]⟩ H (Gives (.int .i64 3) H) := by
  refine F22.calls (err := .mk 70 _) ?_
  unfold F22.go
  (repeat (first | (refine Step.go ?_; intros) | refine iteB_t (by decide) ?_ | refine iteB_f (by decide) ?_ | (refine Duo.mk (by first | omega | exact rfl | decide) ?_; intros) | (refine Duo.mk (Clo.mk (by kernel_rfl)) ?_; intros)))
  refine eq_diff (by decide) ?_
  refine iteB_f rfl ?_
  (repeat (first | (refine Step.go ?_; intros) | refine iteB_t (by decide) ?_ | refine iteB_f (by decide) ?_ | (refine Duo.mk (by first | omega | exact rfl | decide) ?_; intros) | (refine Duo.mk (Clo.mk (by kernel_rfl)) ?_; intros)))
  refine eq_diff (by decide) ?_
  refine iteB_f rfl ?_
  refine eq_str ?_
  refine iteB_t (by rw [ba_beq]; exact decide_eq_true rfl) ?_
  exact ⟨rfl, ExtH.refl H⟩
/-! recOut -/
def recG (ty : Int) (c : W32) (dq : Option Addr) (d : Option (List UInt8)) : WR := ⟨ty, true, iv c, true, ⟨⟨datL d⟩⟩, !(Option.isNone dq)⟩
theorem dat_rd {dq : Option Addr} {dn dc : Nat} {d : Option (List UInt8)} (hN : DatN dq dn dc d) : Rd1 (DatS dq dn dc d ++ l) dq (datL d) ∧ (datL d).length = dn := by
  cases d with
  | none => exact ⟨Rd1.nil, hN.2.symm⟩
  | some ys => exact ⟨Rd1.of_sl (List.mem_cons_self ..), Eq.symm hN⟩
theorem recout_ok {tb cb : Nat} {ty : Int} {c : W32} {dq : Option Addr} {dn dc : Nat} {d : Option (List UInt8)} (hN : DatN dq dn dc d) (S : Sat H (recL rb tb cb ty c dq dn dc d l)) :
    CallsH Tryd.prog 23 ⟨[.pointer (some ⟨rb, 0, none⟩)]⟩ H (Gives (.agg ⟨(recG ty c dq d).cells⟩) H) := by
  have h1 : H[rb]? = some (rcO (some ⟨tb, 0, none⟩) (some ⟨cb, 0, none⟩) dq dn dc) := S.at_ (List.mem_cons_self ..)
  have Sc : Sat H (pt rb (rcO (some ⟨tb, 0, none⟩) (some ⟨cb, 0, none⟩) dq dn dc) :: pt cb (.cells ⟨[.int .u32 (iv c)]⟩ 22) :: pt tb (.cells ⟨[.int .i64 ty]⟩ 2) :: (DatS dq dn dc d ++ l)) := S.to (Ent.cons Ent.swp)
  obtain ⟨R, hl⟩ := dat_rd (l := l) hN
  have R2 : Rd1 (recL rb tb cb ty c dq dn dc d l) dq (datL d) := R.there.there.there
  have Sx : ∀ H1, ExtH H H1 → Sat H1 (recL rb tb cb ty c dq dn dc d l) := fun H1 E => S.ext E
  have Sy : ∀ H1, ExtH H H1 → Sat H1 (pt rb (rcO (some ⟨tb, 0, none⟩) (some ⟨cb, 0, none⟩) dq dn dc) :: pt cb (.cells ⟨[.int .u32 (iv c)]⟩ 22) :: pt tb (.cells ⟨[.int .i64 ty]⟩ 2) :: (DatS dq dn dc d ++ l)) := fun H1 E => Sc.ext E
  clear S Sc
  have S0 := Sat.start H
  refine F23.calls ?_
  unfold F23.go
  refine Step.go ?_
  intro r H1 S1
  have E1 : ExtH H H1 := S1.old (List.mem_cons_of_mem _ (List.mem_cons_self ..))
  have B : Blc H1 rb _ := ⟨E1.block_some h1⟩
  clear S0
  iterate 7 (refine Step.go ?_; intros)
  refine R2.bs (Sx H1 E1) hl ?_
  (repeat (first | (refine Step.go ?_; intros) | refine iteB_t (by decide) ?_ | refine iteB_f (by decide) ?_ | (refine Duo.mk (by first | omega | exact rfl | decide) ?_; intros) | (refine Duo.mk (Clo.mk (by kernel_rfl)) ?_; intros)))
  refine gives_i S1 (getT_ok (Sx H1 E1)) fun H2 E2 S2 => ?_
  clear S1
  (repeat (first | (refine Step.go ?_; intros) | refine iteB_t (by decide) ?_ | refine iteB_f (by decide) ?_ | (refine Duo.mk (by first | omega | exact rfl | decide) ?_; intros) | (refine Duo.mk (Clo.mk (by kernel_rfl)) ?_; intros)))
  refine gives_i S2 (getC_ok (Sy H2 (E1.trans E2))) fun H3 E3 S3 => ?_
  clear S2
  (repeat (first | (refine Step.go ?_; intros) | refine iteB_t (by decide) ?_ | refine iteB_f (by decide) ?_ | (refine Duo.mk (by first | omega | exact rfl | decide) ?_; intros) | (refine Duo.mk (Clo.mk (by kernel_rfl)) ?_; intros)))
  have S9 := ‹Sat _ (pt r (.cells ⟨[.int .i64 ty, .bool _, .int .u32 (iv c), .bool _, .string _, .bool _]⟩ 38) :: _)›
  exact ⟨rfl, S9.old (List.mem_cons_of_mem _ (List.mem_cons_self ..))⟩
end
end Go.Proofs.YtkejocbhmcphiaaDoor

set_option linter.unusedVariables false
set_option linter.unusedSimpArgs false
set_option linter.unnecessarySimpa false
set_option maxRecDepth 100000
namespace Go.Proofs.YtkejocbhmcphiaaDoor
open Go Go.Den Go.Proofs
/-! A log read. -/
theorem logB_append : ∀ (xs ys : List WR) (s : W32), logB s (xs ++ ys) = logB s xs ++ logB (lastS s xs) ys
  | [], ys, s => rfl
  | x :: xs, ys, s => by
    have := logB_append xs ys (stepS s x)
    unfold logB at this ⊢
    simp only [List.cons_append, logP, List.flatten_cons, this, List.append_assoc]
    rfl
theorem logB_cons (s : W32) (r : WR) (rs : List WR) : logB s (r :: rs) = recB s r ++ logB (stepS s r) rs := by unfold logB; simp [logP]
theorem crcUpd_nil (s : W32) : crcUpd s [] = s := by
  unfold crcUpd
  rw [List.foldl_nil, ← BitVec.xor_assoc, BitVec.xor_self, BitVec.zero_xor]
def Got (c : W32) (r g : WR) : Prop := g.ty = r.ty ∧ g.hasT = true ∧ g.crc = iv c ∧ g.hasC = true ∧ g.data = r.data
def GotAll : W32 → List WR → List WR → Prop
  | _, [], gs => gs = []
  | s, r :: rs, gs => ∃ g gs', gs = g :: gs' ∧ Got (stepS s r) r g ∧ GotAll (stepS s r) rs gs'
theorem GotAll.snoc : ∀ {rs : List WR} {s : W32} {gs : List WR} {r g : WR}, GotAll s rs gs → Got (stepS (lastS s rs) r) r g → GotAll s (rs ++ [r]) (gs ++ [g])
  | [], s, gs, r, g, h, k => by
    cases h
    exact ⟨g, [], rfl, k, rfl⟩
  | x :: rs, s, gs, r, g, h, k => by
    obtain ⟨g0, gs', rfl, h1, h2⟩ := h
    exact ⟨g0, gs' ++ [g], rfl, h1, GotAll.snoc h2 k⟩
theorem GotAll.len : ∀ {rs : List WR} {s : W32} {gs : List WR}, GotAll s rs gs → gs.length = rs.length
  | [], _, _, h => by cases h; rfl
  | _ :: rs, _, _, ⟨_, _, h, _, h2⟩ => by subst h; simp [GotAll.len h2]
theorem frame_at {F B rest : List UInt8} {off : Nat} (hB : B.length < 2 ^ 47) (h : F.drop off = frameB B ++ rest) : deL ((F.drop off).take 8) = lenF B.length ∧ (F.drop (off + 8)).take B.length = B ∧ off + 8 + (B.length + padOf B.length) + rest.length = F.length := by
  have hl8 := le8_len (lenF B.length)
  have e : F.drop off = le8 (lenF B.length) ++ (B ++ zerosB (padOf B.length) ++ rest) := by rw [h]; unfold frameB; simp
  refine ⟨?_, ?_, ?_⟩
  · rw [e, List.take_append_of_le_length (by omega), List.take_of_length_le (by omega), deL_le8 (lenF_lt hB)]
  · have : F.drop (off + 8) = (F.drop off).drop 8 := by rw [List.drop_drop]
    rw [this, e, ← hl8, List.drop_left, List.append_assoc, List.take_left]
  · have h1 := congrArg List.length h
    have h2 := frameB_len B
    rw [List.length_drop, List.length_append] at h1
    omega
theorem frame_part {F B : List UInt8} {off k : Nat} (hB : B.length < 2 ^ 47) (h : F.drop off = (frameB B).take k) (hk : 0 < k) (hk2 : k < (frameB B).length) : off + k = F.length ∧ (8 ≤ k → deL ((F.drop off).take 8) = lenF B.length) := by
  have h1 := congrArg List.length h
  rw [List.length_drop, List.length_take] at h1
  refine ⟨by omega, fun h8 => ?_⟩
  have hl8 := le8_len (lenF B.length)
  rw [h, List.take_take, Nat.min_eq_left h8]
  unfold frameB
  rw [List.take_append_of_le_length (by omega), List.take_of_length_le (by omega), deL_le8 (lenF_lt hB)]
theorem lenF_pos {n : Nat} (h : 0 < n) : lenF n ≠ 0 := by unfold lenF; split <;> omega
theorem body_pos {ty : Int} {c : W32} {d : Option (List UInt8)} : 0 < (body ty c d).length := by unfold body; simp
abbrev gO (q : Option Addr) (n c : Nat) (en : Int) : Obj := .cells ⟨[.slice q n c, .int .i64 en, .int .i64 0, .int .u32 0]⟩ 31
abbrev outR (P : List WR → Int → Nat → W32 → Prop) (l : List HP) : Ending → Heap → Prop := fun e H1 => ∃ q qc gs en of su, e = .returned (.agg ⟨[.slice q gs.length qc, .int .i64 en, .int .i64 ((of : Nat) : Int), .int .u32 (iv su)]⟩) ∧ P gs en of su ∧ Sat H1 (sl WR.cells 38 6 q gs.length qc gs :: l)
section
variable {H : Heap} {l : List HP} {e0 e1 : Addr} {db fb sb g2 r8 : Nat} {br b : Option Addr} {brc bc off : Nat} {F : List UInt8} {s : W32} {P : List WR → Int → Nat → W32 → Prop}
theorem l6_ok {q0 q : Option Addr} {n0 c0 qc : Nat} {gs : List WR} {en : Int} (hP : P gs en off s)
    (S : Sat H (pt db (.cells ⟨[.slice q0 n0 c0, .int .i64 (off : Int), .pointer (some ⟨sb, 0, none⟩), .bool false]⟩ 92) :: pt sb (smO s) :: pt g2 (gO q gs.length qc en) :: sl WR.cells 38 6 q gs.length qc gs :: pt r8 (gO none 0 0 0) :: l)) :
    F10.L6 r8 (.mk 86 (.pointer (some ⟨db, 0, none⟩))) g2 H (outR P l) := by
  refine F10.L6_step ?_
  unfold F10.L6n
  refine callI_i (f := 71) (by kernel_rfl) (by kernel_rfl) (by kernel_rfl) ?_
  refine gives_i S (loff_ok S) fun H1 E1 S1 => ?_
  clear S
  (repeat (first | (refine Step.go ?_; intros) | refine iteB_t (by decide) ?_ | refine iteB_f (by decide) ?_ | (refine Duo.mk (by first | omega | exact rfl | decide) ?_; intros) | (refine Duo.mk (Clo.mk (by kernel_rfl)) ?_; intros)))
  rename_i H2 S2
  clear S1
  refine callI_i (f := 70) (by kernel_rfl) (by kernel_rfl) (by kernel_rfl) ?_
  refine gives_i S2 (lcrc_ok S2) fun H3 E3 S3 => ?_
  clear S2
  (repeat (first | (refine Step.go ?_; intros) | refine iteB_t (by decide) ?_ | refine iteB_f (by decide) ?_ | (refine Duo.mk (by first | omega | exact rfl | decide) ?_; intros) | (refine Duo.mk (Clo.mk (by kernel_rfl)) ?_; intros)))
  have S9 := ‹Sat _ _›
  refine ⟨q, qc, gs, en, off, s, rfl, hP, S9.to ?_⟩
  apply Ent.pick; (focus (repeat (first | exact Sel.here | apply Sel.there)))
  exact Ent.drop (Ent.drop (Ent.drop (Ent.drop .refl)))
/-- The reader stops. -/
theorem stop_ok [Er : Ers l e0 e1] {q : Option Addr} {qc : Nat} {gs : List WR} {most : Int} (hm : (gs.length : Int) < most)
    (S : Sat H (dcL db fb sb br brc off b F bc off s (pt g2 (gO q gs.length qc 0) :: sl WR.cells 38 6 q gs.length qc gs :: pt r8 (gO none 0 0 0) :: l)))
    (hstop : ∀ (rb : Nat) (H1 : Heap) (l' : List HP) (_ : ∀ p xs, Rd1 l p xs → Rd1 l' p xs) (_ : Ers l' e0 e1), Sat H1 (dcL db fb sb br brc off b F bc off s (pt rb (rcO none none none 0 0) :: l')) → CallsH Tryd.prog 73 ⟨[.pointer (some ⟨db, 0, none⟩), .pointer (some ⟨rb, 0, none⟩)]⟩ H1 (fun e H2 => ∃ (i : IV) (en : Int) (s' : W32) (q0 : Option Addr) (n0 c0 : Nat), e = .returned i.v ∧ i ≠ .nil ∧ ((i.v = eofI e0 ∧ en = 1) ∨ (i.v = eofI e1 ∧ en = 2) ∨ (i.v = crcE ∧ en = 3)) ∧ P gs en off s' ∧
        Sat H2 (pt db (.cells ⟨[.slice q0 n0 c0, .int .i64 (off : Int), .pointer (some ⟨sb, 0, none⟩), .bool false]⟩ 92) :: pt sb (smO s') :: l'))) :
    F10.L1 most true false r8 (.mk 86 (.pointer (some ⟨db, 0, none⟩))) g2 H (outR P l) := by
  refine F10.L1_step ?_
  unfold F10.L1n
  (repeat (first | (refine Step.go ?_; intros) | refine iteB_t (by decide) ?_ | refine iteB_f (by decide) ?_ | (refine Duo.mk (by first | omega | exact rfl | decide) ?_; intros) | (refine Duo.mk (Clo.mk (by kernel_rfl)) ?_; intros)))
  refine iteB_t (decide_eq_true hm) ?_
  (repeat (first | (refine Step.go ?_; intros) | refine iteB_t (by decide) ?_ | refine iteB_f (by decide) ?_ | (refine Duo.mk (by first | omega | exact rfl | decide) ?_; intros) | (refine Duo.mk (Clo.mk (by kernel_rfl)) ?_; intros)))
  refine F10.L2_step ?_
  unfold F10.L2n
  (repeat (first | (refine Step.go ?_; intros) | refine iteB_t (by decide) ?_ | refine iteB_f (by decide) ?_ | (refine Duo.mk (by first | omega | exact rfl | decide) ?_; intros) | (refine Duo.mk (Clo.mk (by kernel_rfl)) ?_; intros)))
  rename_i rb H1 S1
  clear S
  refine callI_i (f := 69) (by kernel_rfl) (by kernel_rfl) (by kernel_rfl) ?_
  refine call_of (S := fun e H2 => ∃ (i : IV) (en : Int) (s' : W32) (q0 : Option Addr) (n0 c0 : Nat), e = .returned i.v ∧ i ≠ .nil ∧ ((i.v = eofI e0 ∧ en = 1) ∨ (i.v = eofI e1 ∧ en = 2) ∨ (i.v = crcE ∧ en = 3)) ∧ P gs en off s' ∧
        Sat H2 (pt db (.cells ⟨[.slice q0 n0 c0, .int .i64 (off : Int), .pointer (some ⟨sb, 0, none⟩), .bool false]⟩ 92) :: pt sb (smO s') :: (pt g2 (gO q gs.length qc 0) :: sl WR.cells 38 6 q gs.length qc gs :: pt r8 (gO none 0 0 0) :: l))) ?_ ?_
  · refine decode_of (l := pt g2 (gO q gs.length qc 0) :: sl WR.cells 38 6 q gs.length qc gs :: pt r8 (gO none 0 0 0) :: l) ?_ (S1.to (by
      iterate 4 (apply Ent.pick; (focus (repeat (first | exact Sel.here | apply Sel.there))))
      exact Ent.refl)) fun H2 S2 => ?_
    · rintro ch H' ⟨_, _, _, _, _, _, h, _⟩; cases h
    · refine (hstop rb H2 _ (fun p xs h => h.there.there.there) inferInstance S2).mono ?_
      rintro e H3 ⟨i, en, s', q0, n0, c0, rfl, h⟩
      exact ⟨i, rfl, i, en, s', q0, n0, c0, rfl, h⟩
  · rintro e H2 ⟨i, en, s', q0, n0, c0, rfl, hi, hen, hP, S2⟩
    (repeat (first | (refine Step.go ?_; intros) | refine iteB_t (by decide) ?_ | refine iteB_f (by decide) ?_ | (refine Duo.mk (by first | omega | exact rfl | decide) ?_; intros) | (refine Duo.mk (Clo.mk (by kernel_rfl)) ?_; intros)))
    cases i with
    | nil => exact absurd rfl hi
    | mk t x =>
      (repeat (first | (refine Step.go ?_; intros) | refine iteB_t (by decide) ?_ | refine iteB_f (by decide) ?_ | (refine Duo.mk (by first | omega | exact rfl | decide) ?_; intros) | (refine Duo.mk (Clo.mk (by kernel_rfl)) ?_; intros)))
      refine F10.L5_step ?_
      unfold F10.L5n
      have fin : ∀ H3, Sat H3 (pt db (.cells ⟨[.slice q0 n0 c0, .int .i64 (off : Int), .pointer (some ⟨sb, 0, none⟩), .bool false]⟩ 92) :: pt sb (smO s') :: pt g2 (gO q gs.length qc 0) :: sl WR.cells 38 6 q gs.length qc gs :: pt r8 (gO none 0 0 0) :: l) → tInt (.int .i64 en) .i64 fun n => st1 H3 ⟨g2, 1, none⟩ (.int .i64 n) fun H2 => F10.L6 r8 (.mk 86 (.pointer (some ⟨db, 0, none⟩))) g2 H2 (outR P l) := by
        intro H3 S3
        clear S2 S1
        (repeat (first | (refine Step.go ?_; intros) | refine iteB_t (by decide) ?_ | refine iteB_f (by decide) ?_ | (refine Duo.mk (by first | omega | exact rfl | decide) ?_; intros) | (refine Duo.mk (Clo.mk (by kernel_rfl)) ?_; intros)))
        have S9 := ‹Sat _ _›
        exact l6_ok hP S9
      rcases hen with ⟨h, rfl⟩ | ⟨h, rfl⟩ | ⟨h, rfl⟩
      · rw [h]
        exact gives_i S2 (wend_eof S2) fun H3 E3 S3 => fin H3 S3
      · rw [h]
        exact gives_i S2 (wend_torn S2) fun H3 E3 S3 => fin H3 S3
      · rw [h]
        exact gives_i S2 (wend_sum S2) fun H3 E3 S3 => fin H3 S3
end
end Go.Proofs.YtkejocbhmcphiaaDoor

set_option linter.unusedVariables false
set_option linter.unusedSimpArgs false
set_option linter.unnecessarySimpa false
set_option maxRecDepth 100000
namespace Go.Proofs.YtkejocbhmcphiaaDoor
open Go Go.Den Go.Proofs
/-! The reader goes on, record by record. -/
section
variable {H : Heap} {l : List HP} {e0 e1 : Addr} {db fb g2 r8 : Nat} {b : Option Addr} {bc : Nat} {F : List UInt8} {s : W32} {R0 : Ending → Heap → Prop} {most : Int}
theorem step_ok [Er : Ers l e0 e1] {sb : Nat} {br : Option Addr} {brc off : Nat} {s1 : W32} {q : Option Addr} {qc : Nat} {gs : List WR} {ty : Int} {c : W32} {d : Option (List UInt8)} {rest : List UInt8} (hF : F.length ≤ 1000000000) (hb : F.length ≤ bc) (R : Rd1 l b F) (ht : -9223372036854775808 ≤ ty ∧ ty < 9223372036854775808) (hdl : dlen d ≤ 1000000) (hf : F.drop off = frameB (body ty c d) ++ rest) (hgood : ty = 4 ∨ crcUpd s1 (datL d) = c) (hm : (gs.length : Int) < most) (hgl : gs.length ≤ 1000)
    (S : Sat H (dcL db fb sb br brc off b F bc off s1 (pt g2 (gO q gs.length qc 0) :: sl WR.cells 38 6 q gs.length qc gs :: pt r8 (gO none 0 0 0) :: l)))
    (k : ∀ H1 sb' br' brc' q' qc' dq, Sat H1 (dcL db fb sb' br' brc' (off + (frameB (body ty c d)).length) b F bc (off + (frameB (body ty c d)).length) c (pt g2 (gO q' (gs ++ [recG ty c dq d]).length qc' 0) :: sl WR.cells 38 6 q' (gs ++ [recG ty c dq d]).length qc' (gs ++ [recG ty c dq d]) :: pt r8 (gO none 0 0 0) :: l)) → F10.L1 most true false r8 (.mk 86 (.pointer (some ⟨db, 0, none⟩))) g2 H1 R0) :
    F10.L1 most true false r8 (.mk 86 (.pointer (some ⟨db, 0, none⟩))) g2 H R0 := by
  have hbl := body_len ty c d
  obtain ⟨h1, h2, h3⟩ := frame_at (by omega) hf
  have hfl := frameB_len (body ty c d)
  refine F10.L1_step ?_
  unfold F10.L1n
  (repeat (first | (refine Step.go ?_; intros) | refine iteB_t (by decide) ?_ | refine iteB_f (by decide) ?_ | (refine Duo.mk (by first | omega | exact rfl | decide) ?_; intros) | (refine Duo.mk (Clo.mk (by kernel_rfl)) ?_; intros)))
  refine iteB_t (decide_eq_true hm) ?_
  (repeat (first | (refine Step.go ?_; intros) | refine iteB_t (by decide) ?_ | refine iteB_f (by decide) ?_ | (refine Duo.mk (by first | omega | exact rfl | decide) ?_; intros) | (refine Duo.mk (Clo.mk (by kernel_rfl)) ?_; intros)))
  refine F10.L2_step ?_
  unfold F10.L2n
  (repeat (first | (refine Step.go ?_; intros) | refine iteB_t (by decide) ?_ | refine iteB_f (by decide) ?_ | (refine Duo.mk (by first | omega | exact rfl | decide) ?_; intros) | (refine Duo.mk (Clo.mk (by kernel_rfl)) ?_; intros)))
  rename_i rb H1 S1
  clear S
  refine callI_i (f := 69) (by kernel_rfl) (by kernel_rfl) (by kernel_rfl) ?_
  refine call_of (S := fun e H2 => e = .returned .nilIface ∧ ∃ br' tb cb dq dn dc, DatN dq dn dc d ∧ Sat H2 (dcL db fb sb br' brc (off + (frameB (body ty c d)).length) b F bc (off + (frameB (body ty c d)).length) (if ty = 4 then s1 else crcUpd s1 (datL d)) (recL rb tb cb ty c dq dn dc d (pt g2 (gO q gs.length qc 0) :: sl WR.cells 38 6 q gs.length qc gs :: pt r8 (gO none 0 0 0) :: l)))) ?_ ?_
  · refine decode_of (l := pt g2 (gO q gs.length qc 0) :: sl WR.cells 38 6 q gs.length qc gs :: pt r8 (gO none 0 0 0) :: l) ?_ (S1.to (by
      iterate 4 (apply Ent.pick; (focus (repeat (first | exact Sel.here | apply Sel.there))))
      exact Ent.refl)) fun H2 S2 => ?_
    · rintro ch H' ⟨h, _⟩; cases h
    · refine dr_head (by omega) (by omega) (lenF_lt (by omega)) (lenF_pos body_pos) h1 R.there.there.there hb S2 fun r br' H3 S3 => ?_
      refine dr_full (n := (body ty c d).length) hF rfl ht hdl (by omega) h2 R.there.there.there hb S3 ?_ ?_
      · intro hg H4 tb cb dq dn dc hN S4
        refine ⟨.nil, rfl, rfl, br', tb, cb, dq, dn, dc, hN, ?_⟩
        have e : off + (frameB (body ty c d)).length = off + 8 + ((body ty c d).length + padOf (body ty c d).length) := by omega
        rw [e]; exact S4
      · intro h4 hc
        rcases hgood with h | h
        · exact absurd h h4
        · exact absurd h hc
  rintro e H2 ⟨rfl, br', tb, cb, dq, dn, dc, hN, S2⟩
  clear S1
  (repeat (first | (refine Step.go ?_; intros) | refine iteB_t (by decide) ?_ | refine iteB_f (by decide) ?_ | (refine Duo.mk (by first | omega | exact rfl | decide) ?_; intros) | (refine Duo.mk (Clo.mk (by kernel_rfl)) ?_; intros)))
  refine F10.L3_step ?_
  unfold F10.L3n
  generalize hoff : off + (frameB (body ty c d)).length = off' at *
  generalize hs1 : (if ty = 4 then s1 else crcUpd s1 (datL d)) = s2 at *
  /- the record's pieces on top -/
  have S3 : Sat H2 (recL rb tb cb ty c dq dn dc d (pt db (dcO br' 1 brc off' sb) :: sl prC 84 1 br' 1 brc [fb] :: pt fb (frO b F.length bc off') :: pt sb (smO s2) :: (pt g2 (gO q gs.length qc 0) :: sl WR.cells 38 6 q gs.length qc gs :: pt r8 (gO none 0 0 0) :: l))) := by
    refine ⟨SatP.perm ?_ S2.out⟩
    have p1 : ∀ (A B C : List HP), (A ++ (B ++ C)).Perm (B ++ (A ++ C)) := fun A B C => by
      rw [← List.append_assoc, ← List.append_assoc]
      exact (List.perm_append_comm).append_right C
    have := p1 [pt db (dcO br' 1 brc off' sb), sl prC 84 1 br' 1 brc [fb], pt fb (frO b F.length bc off'), pt sb (smO s2)] ([pt rb (rcO (some ⟨tb, 0, none⟩) (some ⟨cb, 0, none⟩) dq dn dc), pt tb (.cells ⟨[.int .i64 ty]⟩ 2), pt cb (.cells ⟨[.int .u32 (iv c)]⟩ 22)] ++ DatS dq dn dc d) (pt g2 (gO q gs.length qc 0) :: sl WR.cells 38 6 q gs.length qc gs :: pt r8 (gO none 0 0 0) :: l)
    simpa using this
  /- the data behind -/
  have S4 : Sat H2 (pt g2 (gO q gs.length qc 0) :: sl WR.cells 38 6 q gs.length qc gs :: pt rb (rcO (some ⟨tb, 0, none⟩) (some ⟨cb, 0, none⟩) dq dn dc) :: pt tb (.cells ⟨[.int .i64 ty]⟩ 2) :: pt cb (.cells ⟨[.int .u32 (iv c)]⟩ 22) :: pt db (dcO br' 1 brc off' sb) :: sl prC 84 1 br' 1 brc [fb] :: pt fb (frO b F.length bc off') :: pt sb (smO s2) :: pt r8 (gO none 0 0 0) :: l) := by
    have S5 : Sat H2 (pt rb (rcO (some ⟨tb, 0, none⟩) (some ⟨cb, 0, none⟩) dq dn dc) :: pt tb (.cells ⟨[.int .i64 ty]⟩ 2) :: pt cb (.cells ⟨[.int .u32 (iv c)]⟩ 22) :: (pt db (dcO br' 1 brc off' sb) :: sl prC 84 1 br' 1 brc [fb] :: pt fb (frO b F.length bc off') :: pt sb (smO s2) :: (pt g2 (gO q gs.length qc 0) :: sl WR.cells 38 6 q gs.length qc gs :: pt r8 (gO none 0 0 0) :: l))) :=
      ⟨S3.out.cons_mono fun _ x => x.cons_mono fun _ x => x.cons_mono fun _ x => (star_in x |> fun ⟨_, _, _, h4⟩ => h4.mono PH.minus_sub)⟩
    refine S5.to ?_
    iterate 2 (apply Ent.pick; (focus (repeat (first | exact Sel.here | apply Sel.there))))
    exact Ent.refl
  clear S2
  refine Step.go ?_
  refine gives_i S4 (recout_ok hN S3) fun H5 E5 S5 => ?_
  clear S4 S3
  generalize hG : recG ty c dq d = G at *
  (repeat (first | (refine Step.go ?_; intros) | refine iteB_t (by decide) ?_ | refine iteB_f (by decide) ?_ | (refine Duo.mk (by first | omega | exact rfl | decide) ?_; intros) | (refine Duo.mk (Clo.mk (by kernel_rfl)) ?_; intros)))
  rename_i r H6 S6
  clear S5
  refine Sat.slApp (f := WR.cells) (E := 38) (z := 6) (xs := gs) (ys := [G]) (m := pt r (.cells ⟨G.cells⟩ 38) :: pt g2 (gO q gs.length qc 0) :: pt rb (rcO (some ⟨tb, 0, none⟩) (some ⟨cb, 0, none⟩) dq dn dc) :: pt tb (.cells ⟨[.int .i64 ty]⟩ 2) :: pt cb (.cells ⟨[.int .u32 (iv c)]⟩ 22) :: pt db (dcO br' 1 brc off' sb) :: sl prC 84 1 br' 1 brc [fb] :: pt fb (frO b F.length bc off') :: pt sb (smO s2) :: pt r8 (gO none 0 0 0) :: l) (S6.to (by
      apply Ent.pick; (focus (repeat (first | exact Sel.here | apply Sel.there))); exact Ent.refl)) ?_ rfl (by intro y _; rfl) (by simp [isCell]) rfl (by decide) (by omega) fun q' qc' H7 S7 => ?_
  · simp only [List.flatMap_cons, List.flatMap_nil, List.append_nil]
    exact cellsAt_one (S6.at_ (List.mem_cons_self ..))
  clear S6
  have e5 : gs.length + 1 = (gs ++ [G]).length := by simp
  rw [e5] at S7 ⊢
  generalize hGS : gs ++ [G] = GS at *
  (repeat (first | (refine Step.go ?_; intros) | refine iteB_t (by decide) ?_ | refine iteB_f (by decide) ?_ | (refine Duo.mk (by first | omega | exact rfl | decide) ?_; intros) | (refine Duo.mk (Clo.mk (by kernel_rfl)) ?_; intros)))
  rename_i H8 S8
  clear S7
  have S9 : Sat H8 (pt rb (rcO (some ⟨tb, 0, none⟩) (some ⟨cb, 0, none⟩) dq dn dc) :: pt tb (.cells ⟨[.int .i64 ty]⟩ 2) :: pt cb (.cells ⟨[.int .u32 (iv c)]⟩ 22) :: sl WR.cells 38 6 q' GS.length qc' GS :: pt g2 (gO q' GS.length qc' 0) :: pt db (dcO br' 1 brc off' sb) :: sl prC 84 1 br' 1 brc [fb] :: pt fb (frO b F.length bc off') :: pt sb (smO s2) :: pt r8 (gO none 0 0 0) :: l) := S8.to (by
    iterate 3 (apply Ent.pick; (focus (repeat (first | exact Sel.here | apply Sel.there))))
    apply Ent.pick; (focus (repeat (first | exact Sel.here | apply Sel.there)))
    exact Ent.drop .refl)
  clear S8
  refine gives_i S9 (getT_ok S9) fun H9 E9 S10 => ?_
  clear S9
  (repeat (first | (refine Step.go ?_; intros) | refine iteB_t (by decide) ?_ | refine iteB_f (by decide) ?_ | (refine Duo.mk (by first | omega | exact rfl | decide) ?_; intros) | (refine Duo.mk (Clo.mk (by kernel_rfl)) ?_; intros)))
  by_cases h4 : ty = 4
  · refine iteB_t (by rw [h4]; rfl) ?_
    refine F10.L4_step ?_
    unfold F10.L4n
    refine ⟨by kernel_rfl, ?_⟩
    have S11 : Sat H9 (pt rb (rcO (some ⟨tb, 0, none⟩) (some ⟨cb, 0, none⟩) dq dn dc) :: pt cb (.cells ⟨[.int .u32 (iv c)]⟩ 22) :: pt tb (.cells ⟨[.int .i64 ty]⟩ 2) :: sl WR.cells 38 6 q' GS.length qc' GS :: pt g2 (gO q' GS.length qc' 0) :: pt db (dcO br' 1 brc off' sb) :: sl prC 84 1 br' 1 brc [fb] :: pt fb (frO b F.length bc off') :: pt sb (smO s2) :: pt r8 (gO none 0 0 0) :: l) := S10.to (Ent.cons Ent.swp)
    clear S10
    refine gives_i S11 (getC_ok S11) fun H10 E10 S12 => ?_
    clear S11
    (repeat (first | (refine Step.go ?_; intros) | refine iteB_t (by decide) ?_ | refine iteB_f (by decide) ?_ | (refine Duo.mk (by first | omega | exact rfl | decide) ?_; intros) | (refine Duo.mk (Clo.mk (by kernel_rfl)) ?_; intros)))
    refine callI_i (f := 72) (by kernel_rfl) (by kernel_rfl) (by kernel_rfl) ?_
    have S13 : Sat H10 (pt db (dcO br' 1 brc off' sb) :: sl prC 84 1 br' 1 brc [fb] :: pt fb (frO b F.length bc off') :: pt g2 (gO q' GS.length qc' 0) :: sl WR.cells 38 6 q' GS.length qc' GS :: pt r8 (gO none 0 0 0) :: l) := S12.to (by
      iterate 5 (apply Ent.pick; (focus (repeat (first | exact Sel.here | apply Sel.there))))
      exact Ent.drop (Ent.drop (Ent.drop (Ent.drop .refl))))
    clear S12
    refine call_of (upd_ok S13) ?_
    rintro e H11 ⟨rfl, sb', S14⟩
    clear S13
    (repeat (first | (refine Step.go ?_; intros) | refine iteB_t (by decide) ?_ | refine iteB_f (by decide) ?_ | (refine Duo.mk (by first | omega | exact rfl | decide) ?_; intros) | (refine Duo.mk (Clo.mk (by kernel_rfl)) ?_; intros)))
    refine k H11 sb' br' brc q' qc' dq ?_
    rw [hG, hGS]
    refine S14.to ?_
    iterate 4 (apply Ent.pick; (focus (repeat (first | exact Sel.here | apply Sel.there))))
    exact Ent.refl
  · refine iteB_f (by simpa using h4) ?_
    refine k H9 sb br' brc q' qc' dq ?_
    rw [hG, hGS]
    have hcs : s2 = c := by
      rw [← hs1, if_neg h4]
      exact hgood.resolve_left h4
    rw [hcs] at S10
    refine S10.to ?_
    iterate 6 (apply Ent.pick; (focus (repeat (first | exact Sel.here | apply Sel.there))))
    exact Ent.drop (Ent.drop (Ent.drop .refl))
end
end Go.Proofs.YtkejocbhmcphiaaDoor

set_option linter.unusedVariables false
set_option linter.unusedSimpArgs false
set_option linter.unnecessarySimpa false
set_option maxRecDepth 100000
namespace Go.Proofs.YtkejocbhmcphiaaDoor
open Go Go.Den Go.Proofs
/-! A whole log read, to its end. -/
def Rg (r : WR) : Prop := -9223372036854775808 ≤ r.ty ∧ r.ty < 9223372036854775808
theorem got_rec {r : WR} (g : GoodR r) (c : W32) (dq : Option Addr) : Got c r (recG r.ty c dq (dat r)) := by
  refine ⟨rfl, rfl, rfl, rfl, ?_⟩
  show (⟨⟨datL (dat r)⟩⟩ : ByteArray) = r.data
  unfold dat
  cases h : r.hasD with
  | true =>
    rw [if_pos rfl]
    rfl
  | false =>
    rw [if_neg (by simp), g.2.2.1 h]
    rfl
/-- The log's head: a record that says the sum. -/
def Headed (rs : List WR) : Prop := ∀ r, rs[0]? = some r → r.ty = 4
section
variable {H : Heap} {l : List HP} {e0 e1 : Addr} {db fb g2 r8 : Nat} {b : Option Addr} {bc : Nat} {F T : List UInt8} {s : W32} {R0 : Ending → Heap → Prop} {most : Int} {rs : List WR}
theorem rd_loop [Er : Ers l e0 e1] (hF : F.length ≤ 1000000000) (hb : F.length ≤ bc) (R : Rd1 l b F) (hFs : F = logB s rs ++ T) (hh : Headed rs) (hg : ∀ r ∈ rs, GoodR r) (hr : ∀ r ∈ rs, Rg r) (hn : rs.length ≤ 100) (hm : (rs.length : Int) < most)
    (fin : ∀ H sb br brc q qc gs s1, GotAll s rs gs → s1 = (if rs.length = 0 then 0#32 else lastS s rs) → Sat H (dcL db fb sb br brc (logB s rs).length b F bc (logB s rs).length s1 (pt g2 (gO q gs.length qc 0) :: sl WR.cells 38 6 q gs.length qc gs :: pt r8 (gO none 0 0 0) :: l)) → F10.L1 most true false r8 (.mk 86 (.pointer (some ⟨db, 0, none⟩))) g2 H R0) :
    ∀ (d i : Nat) H sb br brc q qc gs s1, i + d = rs.length → GotAll s (rs.take i) gs → s1 = (if i = 0 then 0#32 else lastS s (rs.take i)) → Sat H (dcL db fb sb br brc (logB s (rs.take i)).length b F bc (logB s (rs.take i)).length s1 (pt g2 (gO q gs.length qc 0) :: sl WR.cells 38 6 q gs.length qc gs :: pt r8 (gO none 0 0 0) :: l)) → F10.L1 most true false r8 (.mk 86 (.pointer (some ⟨db, 0, none⟩))) g2 H R0 := by
  intro d
  induction d with
  | zero =>
    intro i H sb br brc q qc gs s1 hi hG hs S
    have e : rs.take i = rs := List.take_of_length_le (by omega)
    rw [e] at hG S hs
    refine fin H sb br brc q qc gs s1 hG ?_ S
    rw [hs, show i = rs.length by omega]
  | succ d ih =>
    intro i H sb br brc q qc gs s1 hi hG hs S
    obtain ⟨r, hri⟩ : ∃ r, rs[i]? = some r := get_of (by omega)
    have hrm := List.mem_of_getElem? hri
    have g := hg r hrm
    have hgl := hG.len
    rw [List.length_take, Nat.min_eq_left (by omega)] at hgl
    have et : rs.take (i + 1) = rs.take i ++ [r] := by rw [List.take_add_one, hri]; rfl
    have ed : rs.drop i = r :: rs.drop (i + 1) := by
      have hlt : i < rs.length := by omega
      rw [List.drop_eq_getElem_cons hlt]
      rw [List.getElem?_eq_getElem hlt] at hri
      cases hri; rfl
    have hdrop : F.drop (logB s (rs.take i)).length = frameB (body r.ty (stepS (lastS s (rs.take i)) r) (dat r)) ++ (logB (stepS (lastS s (rs.take i)) r) (rs.drop (i + 1)) ++ T) := by
      have e1 : logB s rs = logB s (rs.take i) ++ logB (lastS s (rs.take i)) (rs.drop i) := by rw [← logB_append, List.take_append_drop]
      rw [hFs, e1, ed, logB_cons, List.append_assoc, List.drop_left, List.append_assoc]
      rfl
    have hdl := dat_len g
    refine step_ok (ty := r.ty) (c := stepS (lastS s (rs.take i)) r) (d := dat r) hF hb R (hr r hrm) (by omega) hdrop ?_ (by omega) (by omega) S fun H1 sb' br' brc' q' qc' dq S1 => ?_
    · by_cases h0 : i = 0
      · left; subst h0; exact hh r hri
      · right; rw [hs, if_neg h0]; rfl
    · have e2 : (logB s (rs.take i)).length + (frameB (body r.ty (stepS (lastS s (rs.take i)) r) (dat r))).length = (logB s (rs.take (i + 1))).length := by
        rw [et, logB_snoc, List.length_append]; rfl
      rw [e2] at S1
      refine ih (i + 1) H1 sb' br' brc' q' qc' _ _ (by omega) ?_ ?_ S1
      · rw [et]; exact hG.snoc (got_rec g _ dq)
      · rw [if_neg (by omega), et, lastS_snoc]
/-! The three ends. -/
theorem fin_eof [Er : Ers l e0 e1] {P : List WR → Int → Nat → W32 → Prop} {sb : Nat} {br : Option Addr} {brc : Nat} {q : Option Addr} {qc : Nat} {gs : List WR} {s1 : W32} {off : Nat} (hm : (gs.length : Int) < most) (ho : off = F.length) (hP : P gs 1 off s1)
    (S : Sat H (dcL db fb sb br brc off b F bc off s1 (pt g2 (gO q gs.length qc 0) :: sl WR.cells 38 6 q gs.length qc gs :: pt r8 (gO none 0 0 0) :: l))) : F10.L1 most true false r8 (.mk 86 (.pointer (some ⟨db, 0, none⟩))) g2 H (outR P l) := by
  refine stop_ok hm S fun rb H1 l' hrd El S1 => ?_
  refine (dr_eof ho S1).mono ?_
  rintro e H2 ⟨rfl, q0, n0, c0, S2⟩
  exact ⟨.mk 122 _, 1, s1, q0, n0, c0, rfl, (by intro h; cases h), .inl ⟨rfl, rfl⟩, hP, S2⟩
theorem fin_torn [Er : Ers l e0 e1] {P : List WR → Int → Nat → W32 → Prop} {sb : Nat} {br : Option Addr} {brc : Nat} {q : Option Addr} {qc : Nat} {gs : List WR} {s1 : W32} {off k : Nat} {B : List UInt8} (hF : F.length ≤ 1000000000) (hb : F.length ≤ bc) (R : Rd1 l b F) (hB0 : 0 < B.length) (hB : B.length ≤ 1000000) (hT : F.drop off = (frameB B).take k) (hk : 0 < k) (hk2 : k < (frameB B).length) (hm : (gs.length : Int) < most) (hP : P gs 2 off s1)
    (S : Sat H (dcL db fb sb br brc off b F bc off s1 (pt g2 (gO q gs.length qc 0) :: sl WR.cells 38 6 q gs.length qc gs :: pt r8 (gO none 0 0 0) :: l))) : F10.L1 most true false r8 (.mk 86 (.pointer (some ⟨db, 0, none⟩))) g2 H (outR P l) := by
  obtain ⟨h1, h2⟩ := frame_part (by omega) hT hk hk2
  have hfl := frameB_len B
  refine stop_ok hm S fun rb H1 l' hrd El S1 => ?_
  have key : CallsH Tryd.prog 73 ⟨[.pointer (some ⟨db, 0, none⟩), .pointer (some ⟨rb, 0, none⟩)]⟩ H1 (stopO (eofI e1) db sb off s1 l') := by
    by_cases h8 : k < 8
    · exact dr_part (by omega) (by omega) (by omega) (hrd _ _ R) hb S1
    · refine dr_head (by omega) (by omega) (lenF_lt (by omega)) (lenF_pos hB0) (h2 (by omega)) (hrd _ _ R) hb S1 fun r br' H2 S2 => ?_
      exact dr_cut hF (by omega) (by omega) hB0 (by omega) (hrd _ _ R) hb S2
  refine key.mono ?_
  rintro e H2 ⟨rfl, q0, n0, c0, S2⟩
  exact ⟨.mk 122 _, 2, s1, q0, n0, c0, rfl, (by intro h; cases h), .inr (.inl ⟨rfl, rfl⟩), hP, S2⟩
theorem fin_bad [Er : Ers l e0 e1] {P : List WR → Int → Nat → W32 → Prop} {sb : Nat} {br : Option Addr} {brc : Nat} {q : Option Addr} {qc : Nat} {gs : List WR} {s1 : W32} {off : Nat} {ty : Int} {c : W32} {d : Option (List UInt8)} {rest : List UInt8} (hF : F.length ≤ 1000000000) (hb : F.length ≤ bc) (R : Rd1 l b F) (ht : -9223372036854775808 ≤ ty ∧ ty < 9223372036854775808) (hdl : dlen d ≤ 1000000) (hT : F.drop off = frameB (body ty c d) ++ rest) (h4 : ty ≠ 4) (hc : crcUpd s1 (datL d) ≠ c) (hm : (gs.length : Int) < most) (hP : ∀ en, en = 2 ∨ en = 3 → P gs en off (crcUpd s1 (datL d)))
    (S : Sat H (dcL db fb sb br brc off b F bc off s1 (pt g2 (gO q gs.length qc 0) :: sl WR.cells 38 6 q gs.length qc gs :: pt r8 (gO none 0 0 0) :: l))) : F10.L1 most true false r8 (.mk 86 (.pointer (some ⟨db, 0, none⟩))) g2 H (outR P l) := by
  have hbl := body_len ty c d
  obtain ⟨h1, h2, h3⟩ := frame_at (by omega) hT
  refine stop_ok hm S fun rb H1 l' hrd El S1 => ?_
  refine dr_head (by omega) (by omega) (lenF_lt (by omega)) (lenF_pos body_pos) h1 (hrd _ _ R) hb S1 fun r br' H2 S2 => ?_
  refine dr_full (n := (body ty c d).length) hF rfl ht hdl (by omega) h2 (hrd _ _ R) hb S2 ?_ ?_
  · intro hg
    rcases hg with h | h
    · exact absurd h h4
    · exact absurd h hc
  · intro _ _ H3 v q0 n0 c0 hv S3
    rcases hv with rfl | rfl
    · exact ⟨.mk 122 _, 2, _, q0, n0, c0, rfl, (by intro h; cases h), .inr (.inl ⟨rfl, rfl⟩), hP 2 (.inl rfl), S3⟩
    · exact ⟨.mk 70 _, 3, _, q0, n0, c0, rfl, (by intro h; cases h), .inr (.inr ⟨rfl, rfl⟩), hP 3 (.inr rfl), S3⟩
/-- The reader is made. -/
theorem walread_of [Er : Ers l e0 e1] {P : List WR → Int → Nat → W32 → Prop} {fs : ByteArray} {fr : Nat} (hF : fs.size ≤ 1000000000)
    (S : Sat H (pt fr (.cells ⟨[.string fs]⟩ 9) :: l))
    (k : ∀ H1 l' db fb g2 r8 bp bc sb br, Rd1 l' bp fs.data.toList → Ers l' e0 e1 → fs.size ≤ bc → (∀ e H2, outR P l' e H2 → outR P l e H2) → Sat H1 (dcL db fb sb br 1 0 bp fs.data.toList bc 0 0#32 (pt g2 (gO none ([] : List WR).length 0 0) :: sl WR.cells 38 6 none ([] : List WR).length 0 [] :: pt r8 (gO none 0 0 0) :: l')) → F10.L1 most true false r8 (.mk 86 (.pointer (some ⟨db, 0, none⟩))) g2 H1 (outR P l')) :
    CallsH Tryd.prog 10 ⟨[.slice (some ⟨fr, 0, none⟩) 1 1, .int .i64 most, .bool true, .bool false]⟩ H (outR P l) := by
  refine F10.calls ?_
  unfold F10.go
  (repeat (first | (refine Step.go ?_; intros) | refine iteB_t (by decide) ?_ | refine iteB_f (by decide) ?_ | (refine Duo.mk (by first | omega | exact rfl | decide) ?_; intros) | (refine Duo.mk (Clo.mk (by kernel_rfl)) ?_; intros)))
  rename_i r8 H1 S1
  clear S
  refine F10.L0_step ?_
  unfold F10.L0n
  refine iteB_t (by decide) ?_
  refine ⟨by decide, by decide, ?_⟩
  refine Step.go ?_
  rw [show Addr.add (⟨fr, 0, none⟩ : Addr) (Int.toNat 0 * 1) = ⟨fr, 0, none⟩ from rfl]
  (repeat (first | (refine Step.go ?_; intros) | refine iteB_t (by decide) ?_ | refine iteB_f (by decide) ?_ | (refine Duo.mk (by first | omega | exact rfl | decide) ?_; intros) | (refine Duo.mk (Clo.mk (by kernel_rfl)) ?_; intros)))
  rename_i rB cB H2 hcB S2 r1 H3 S3
  clear S1 S2
  refine Sat.slApp (f := sC3) (E := 66) (z := 1) (xs := []) (ys := [(some ⟨rB, 0, none⟩, fs.size, cB)]) (p := none) (n := 0) (c := 0) (m := pt r1 (.cells ⟨[.slice (some ⟨rB, 0, none⟩) fs.size cB]⟩ 66) :: pt rB (.cells ⟨bytesOf fs.data.toList ++ List.replicate (cB - fs.size) (.int .u8 0)⟩ 5 (cB, cB + 1)) :: pt r8 (gO none 0 0 0) :: l) (S3.to (Ent.slNil (by
      iterate 3 (apply Ent.pick; (focus (repeat (first | exact Sel.here | apply Sel.there))))
      exact Ent.drop .refl))) ?_ rfl (by intro y _; rfl) (by simp [isCell]) rfl (by decide) (by decide) fun q' qc' H4 S4 => ?_
  · simp only [List.flatMap_cons, List.flatMap_nil, List.append_nil]
    exact cellsAt_one (S3.at_ (List.mem_cons_self ..))
  clear S3
  refine F10.L0_step ?_
  unfold F10.L0n
  refine iteB_f (by decide) ?_
  have S5 : Sat H4 (sl sC3 66 1 q' 1 qc' [(some ⟨rB, 0, none⟩, fs.size, cB)] :: pt r8 (gO none 0 0 0) :: pt rB (.cells ⟨bytesOf fs.data.toList ++ List.replicate (cB - fs.size) (.int .u8 0)⟩ 5 (cB, cB + 1)) :: l) := S4.to (by
    refine Ent.cons ?_
    apply Ent.pick; (focus (repeat (first | exact Sel.here | apply Sel.there)))
    exact Ent.drop .refl)
  clear S4
  refine call_of (newdec_ok S5) ?_
  rintro e H5 ⟨db, fb, sb, br, rfl, S6⟩
  clear S5
  (repeat (first | (refine Step.go ?_; intros) | refine iteB_t (by decide) ?_ | refine iteB_f (by decide) ?_ | (refine Duo.mk (by first | omega | exact rfl | decide) ?_; intros) | (refine Duo.mk (Clo.mk (by kernel_rfl)) ?_; intros)))
  have S9 := ‹Sat _ (pt _ (.cells ⟨[.slice none 0 0, .int .i64 0, .int .i64 0, .int .u32 0]⟩ 31) :: _)›
  refine GoL.mono (k _ (pt rB (.cells ⟨bytesOf fs.data.toList ++ List.replicate (cB - fs.size) (.int .u8 0)⟩ 5 (cB, cB + 1)) :: l) db fb _ r8 (some ⟨rB, 0, none⟩) cB sb br (Rd1.of_pt (List.mem_cons_self ..)) (Ers.there (h := Er)) hcB ?_ (S9.to ?_)) ?_
  · rintro e H6 ⟨q, qc, gs, en, of, su, h1, h2, S7⟩
    exact ⟨q, qc, gs, en, of, su, h1, h2, S7.to (.cons (.drop .refl))⟩
  · iterate 4 (apply Ent.pick; (focus (repeat (first | exact Sel.here | apply Sel.there))))
    apply Ent.pick; (focus (repeat (first | exact Sel.here | apply Sel.there)))
    refine Ent.slNil ?_
    exact Ent.refl
  · rintro e H6 ⟨q, qc, gs, en, of, su, h1, h2, S7⟩
    exact ⟨q, qc, gs, en, of, su, h1, h2, S7.to (.cons (.drop .refl))⟩
end
end Go.Proofs.YtkejocbhmcphiaaDoor
