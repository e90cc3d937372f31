/- What functions of this seat do, each proved by a walk; no condition. -/
import Derived.Test.YtkenjnllegbmjaaGreatLM7
set_option linter.unusedVariables false
set_option linter.unusedSimpArgs false
set_option linter.unnecessarySimpa false
set_option maxRecDepth 100000
namespace Go.Proofs.YtkenjnllegbmjaaGreat
open Go Go.Den Go.Proofs
/-! The keys of a lease without items; nothing that was there changes. -/
theorem rangeNewX {P : Program} {H : Heap} {r : Nat} {l : List HP} {Q : List PanicEntry → Heap → Prop} {K : Value → Heap → Prop} {t : TypeId} {es : Array MapEntry} {clk : Nat} {kt et : TypeId} (hu : P.underlying t = some (.map kt et)) (S : Sat H (pt r (.map es clk) :: l)) (h : ∀ ir H1, ExtH H H1 → Sat H1 (pt ir (.mapIter (some r) clk #[] clk) :: pt r (.map es clk) :: l) → K (.pointer (some ⟨ir, 0, none⟩)) H1) : valD P (Instr.range t (.map (some r))) H Q K := by
  have hb' : H[r]? = some (.map es clk) := S.at_ (List.mem_cons_self ..)
  refine ⟨?_⟩
  unfold Instr.range
  rw [SemH_bind]
  refine semH_of_pure (pureV_underlying hu) ?_
  dsimp only
  rw [SemH_bind, SemH_getObj]
  refine ⟨_, hb', rfl, ?_⟩
  dsimp only
  show K (.pointer (some ⟨H.size, 0, none⟩)) (H.push (.mapIter (some r) clk #[] clk))
  exact h _ _ (ExtH.push _ _) (S.push _)
section
variable {H H0 : Heap} {l l' : List HP} {ls ck im : Nat} {ch : Option Nat} {ttl t now : Int}
theorem keysX_ok (S : Sat H (pt ls (lsT ck ttl t im ch) :: pt im (.map #[] 0) :: l)) : CallsH Tryz.prog 23 ⟨[pv ls]⟩ H (fun e H1 => ∃ (p : Option Addr) (c : Nat), e = .returned (.slice p 0 c) ∧ ExtH H H1) := by
  refine F23.calls ?_
  unfold F23.go
  refine nilD_i (zf_i (by kernel_rfl) (S.obj (r := ls) (o := lsT ck ttl t im ch)) fun a => ?_)
  refine gives_i S lk31 fun H1 E1 S1 => ?_
  clear S
  refine tTup_nil ?_
  (repeat (first | (refine Step.go ?_; intros) | refine iteB_t (by decide) ?_ | refine iteB_f (by decide) ?_ | (refine Duo.mk (by first | omega | exact rfl | decide) ?_; intros) | (refine Duo.mk (Clo.mk (by kernel_rfl)) ?_; intros)))
  have hm := S1.obj (r := im) (o := .map #[] 0)
  refine mapLen (t := 99) (kt := 95) (et := 97) rfl (by kernel_rfl) hm ?_
  refine ⟨0, rfl, by decide, by decide, by decide, by decide, ?_⟩
  refine newX S1 fun r H2 E2 S2 => ?_
  clear S1
  (repeat (first | (refine Step.go ?_; intros) | refine iteB_t (by decide) ?_ | refine iteB_f (by decide) ?_ | (refine Duo.mk (by first | omega | exact rfl | decide) ?_; intros) | (refine Duo.mk (Clo.mk (by kernel_rfl)) ?_; intros)))
  refine rangeNewX (kt := 95) (et := 97) (by kernel_rfl) (S2.to (m := pt im (.map #[] 0) :: pt ls (lsT ck ttl t im ch) :: l) (by
    iterate 2 (apply Ent.pick; (focus (repeat (first | exact Sel.here | apply Sel.there))))
    exact Ent.drop .refl)) fun ir H3 E3 S3 => ?_
  clear S2
  refine ⟨_, rfl, ?_⟩
  refine F23.L0_step ?_
  unfold F23.L0n
  have S4 : Sat H3 (pt ir (.mapIter (some im) 0 #[] 0) :: mp (Value.int .i64) pv im [] :: pt ls (lsT ck ttl t im ch) :: l) := by
    have S5 := (S3.to (m := pt im (.map #[] 0) :: pt ir (.mapIter (some im) 0 #[] 0) :: pt ls (lsT ck ttl t im ch) :: l) ent_swp).mpNew (Value.int .i64) pv
    exact S5.to ent_swp
  refine nextNone S4 ?_
  (repeat (first | (refine Step.go ?_; intros) | refine iteB_t (by decide) ?_ | refine iteB_f (by decide) ?_ | (refine Duo.mk (by first | omega | exact rfl | decide) ?_; intros) | (refine Duo.mk (Clo.mk (by kernel_rfl)) ?_; intros)))
  refine zf_i (by kernel_rfl) (S4.obj (r := ls) (o := lsT ck ttl t im ch)) fun a => ?_
  refine gives_i S4 lk32 fun H5 E5 S5 => ?_
  refine tTup_nil ?_
  exact ⟨_, _, rfl, ((E1.trans E2).trans E3).trans E5⟩
end
end Go.Proofs.YtkenjnllegbmjaaGreat

set_option linter.unusedVariables false
set_option linter.unusedSimpArgs false
set_option linter.unnecessarySimpa false
set_option maxRecDepth 100000
namespace Go.Proofs.YtkenjnllegbmjaaGreat
open Go Go.Den Go.Proofs
/-! The landlord plays calls. -/
abbrev opV (kd id n now : Int) : Value := .agg ⟨[.int .i64 kd, .int .i64 id, .int .i64 n, .slice none 0 0, .int .i64 now]⟩
abbrev anV (err id ttl rem : Int) (dm : Bool) (q1 : Option Addr) (n1 c1 : Nat) (q2 : Option Addr) (n2 c2 : Nat) : Value := .agg ⟨[.int .i64 err, .int .i64 id, .int .i64 ttl, .int .i64 rem, .bool dm, .slice q1 n1 c1, .slice q2 n2 c2, .slice none 0 0]⟩
section
variable {H H0 : Heap} {l l' : List HP} {x db ck : Nat} {Q : List PanicEntry → Heap → Prop} {K : Value → Heap → Prop} {r : Nat} {args : List Value}
theorem within_ok {n lo hi : Int} (h0 : lo ≤ n) (h1 : n ≤ hi) : CallsH Tryz.prog 8 ⟨[.int .i64 n, .int .i64 lo, .int .i64 hi]⟩ H (Gives (.int .i64 n) H) := by
  refine F8.calls ?_
  unfold F8.go
  have e1 : (if hi < n then hi else n) = n := if_neg (by omega)
  rw [e1]
  refine ⟨?_, ExtH.refl H⟩
  by_cases h : n > lo
  · rw [if_pos h]
  · rw [if_neg h, show lo = n by omega]
theorem kind0_ok : CallsH Tryz.prog 18 ⟨[.nilIface]⟩ H (Gives (.int .i64 0) H) := by
  refine F18.calls (err := .nil) ?_
  unfold F18.go
  exact ⟨rfl, ExtH.refl H⟩
theorem promI (k : callD Tryz.prog 195 (pv r :: args) H Q K) : callI Tryz.prog (.iface 118 (pv r)) "Promote" args H Q K := callI_i (f := 195) (by kernel_rfl) (by kernel_rfl) (by kernel_rfl) k
theorem grantI (k : callD Tryz.prog 192 (pv r :: args) H Q K) : callI Tryz.prog (.iface 118 (pv r)) "Grant" args H Q K := callI_i (f := 192) (by kernel_rfl) (by kernel_rfl) (by kernel_rfl) k
theorem renewI (k : callD Tryz.prog 197 (pv r :: args) H Q K) : callI Tryz.prog (.iface 118 (pv r)) "Renew" args H Q K := callI_i (f := 197) (by kernel_rfl) (by kernel_rfl) (by kernel_rfl) k
theorem lookI (k : callD Tryz.prog 194 (pv r :: args) H Q K) : callI Tryz.prog (.iface 118 (pv r)) "Lookup" args H Q K := callI_i (f := 194) (by kernel_rfl) (by kernel_rfl) (by kernel_rfl) k
/-- Behind the opening and the promotion. -/
abbrev Opn.P1 (o : Opn ck) (ch : Nat) (now : Int) (x db : Nat) (l : List HP) : List HP := pt x (xO db ck o.bv (.iface 118 (pv o.le))) :: pt ck (ckO now) :: pt o.le (leO o.f (some ch) (.func (.func 16) ⟨[]⟩ ⟨[pv o.r]⟩)) :: mpL o.f.lm [] :: nqs o.f.nt o.nm o.p 0 0 [] [] (o.b.P l)
abbrev anB (r : Nat) : HP := pt r (.cells ⟨[.int .i64 0, .int .i64 0, .int .i64 0, .int .i64 0, .bool false, .slice none 0 0, .slice none 0 0, .slice none 0 0]⟩ 32)
abbrev opB (r : Nat) (kd id n now : Int) : HP := pt r (.cells ⟨[.int .i64 kd, .int .i64 id, .int .i64 n, .slice none 0 0, .int .i64 now]⟩ 28)
theorem doPromote_ok {o : Opn ck} (S : Sat H (o.P x db l)) : CallsH Tryz.prog 12 ⟨[pv x, opV 10 0 0 0]⟩ H (fun e H1 => e = .returned (anV 0 0 0 0 false none 0 0 none 0 0) ∧ ∃ ch, Sat H1 (o.P1 ch 0 x db l)) := by
  refine F12.calls ?_
  unfold F12.go
  refine newX S fun r Ha Ea Sa => ?_
  clear S
  refine newX Sa fun r1 Hb Eb Sb => ?_
  clear Sa
  refine newX Sb fun r2 Hc Ec Sc => ?_
  clear Sb
  (repeat (first | (refine Step.go ?_; intros) | refine iteB_t (by decide) ?_ | refine iteB_f (by decide) ?_ | (refine Duo.mk (by first | omega | exact rfl | decide) ?_; intros) | (refine Duo.mk (Clo.mk (by kernel_rfl)) ?_; intros)))
  have S0 := ‹Sat _ (anB r2 :: anB r1 :: _)›
  refine gives_i S0 (within_ok (n := 0) (lo := 0) (hi := 2305843009213693952) (by omega) (by omega)) fun H1 E1 S1 => ?_
  (repeat (first | (refine Step.go ?_; intros) | refine iteB_t (by decide) ?_ | refine iteB_f (by decide) ?_ | (refine Duo.mk (by first | omega | exact rfl | decide) ?_; intros) | (refine Duo.mk (Clo.mk (by kernel_rfl)) ?_; intros)))
  refine gives_i S1 (at_ok 0 (by omega) (by omega) H1) fun H2 E2 S2 => ?_
  (repeat (first | (refine Step.go ?_; intros) | refine iteB_t (by decide) ?_ | refine iteB_f (by decide) ?_ | (refine Duo.mk (by first | omega | exact rfl | decide) ?_; intros) | (refine Duo.mk (Clo.mk (by kernel_rfl)) ?_; intros)))
  have S3 := ‹Sat _ (anB r2 :: anB r1 :: _)›
  refine nilV_i ?_
  (repeat (first | (refine Step.go ?_; intros) | refine iteB_t (by decide) ?_ | refine iteB_f (by decide) ?_ | (refine Duo.mk (by first | omega | exact rfl | decide) ?_; intros) | (refine Duo.mk (Clo.mk (by kernel_rfl)) ?_; intros)))
  refine gives_i S3 (within_ok (n := 0) (lo := 0) (hi := 100000000) (by omega) (by omega)) fun H4 E4 S4 => ?_
  (repeat (first | (refine Step.go ?_; intros) | refine iteB_t (by decide) ?_ | refine iteB_f (by decide) ?_ | (refine Duo.mk (by first | omega | exact rfl | decide) ?_; intros) | (refine Duo.mk (Clo.mk (by kernel_rfl)) ?_; intros)))
  refine promI ?_
  have e0 : IntKind.wrap .i64 ((0 : Int) * 1000000000) = 0 := by decide
  rw [e0]
  refine call_of (promote_ok (le := o.le) (f := o.f) (dc := none) (rd := .func (.func 16) ⟨[]⟩ ⟨[pv o.r]⟩) (l := anB r2 :: anB r1 :: opB r 10 0 0 0 :: pt x (xO db ck o.bv (.iface 118 (pv o.le))) :: pt ck (ckO 0) :: nqs o.f.nt o.nm o.p 0 0 [] [] (o.b.P l)) (S4.to (by
    iterate 7 (apply Ent.pick; (focus (repeat (first | exact Sel.here | apply Sel.there))))
    exact .refl))) ?_
  rintro e H5 ⟨rfl, ch, S5⟩
  clear S4
  refine tTup_nil ?_
  (repeat (first | (refine Step.go ?_; intros) | refine iteB_t (by decide) ?_ | refine iteB_f (by decide) ?_ | (refine Duo.mk (by first | omega | exact rfl | decide) ?_; intros) | (refine Duo.mk (Clo.mk (by kernel_rfl)) ?_; intros)))
  have S6 := ‹Sat _ (pt o.le _ :: _)›
  refine ⟨rfl, ch, S6.to ?_⟩
  iterate 4 (apply Ent.pick; (focus (repeat (first | exact Sel.here | apply Sel.there))))
  iterate 3 (apply Ent.drop)
  exact .refl
end
end Go.Proofs.YtkenjnllegbmjaaGreat

set_option linter.unusedVariables false
set_option linter.unusedSimpArgs false
set_option linter.unnecessarySimpa false
set_option maxRecDepth 100000
namespace Go.Proofs.YtkenjnllegbmjaaGreat
open Go Go.Den Go.Proofs
section
variable {H H0 : Heap} {l l' : List HP} {x db ck : Nat} {ttl now t t0 u : Int}
theorem ifNil_t {X Y : Prop} (h : X) : ifNilD (IV.v .nil) (fun b => iteB b X Y) := h
/-- The landlord with his lessor that has one lease. -/
abbrev xP (x db : Nat) (bv : Value) (s : Ls) (now t : Int) {u : Int} (q : Q1 u) (l : List HP) : List HP := pt x (xO db s.f.ck bv (.iface 118 (pv s.le))) :: s.P now t q l
theorem doGrant_ok {o : Opn ck} {ch : Nat} (h0 : 1 ≤ ttl) (h1 : ttl ≤ 100000000) (S : Sat H (o.P1 ch 0 x db l)) :
    CallsH Tryz.prog 12 ⟨[pv x, opV 1 1 ttl 0]⟩ H (fun e H1 => e = .returned (anV 0 0 ttl 0 false none 0 0 none 0 0) ∧ ∃ (s : Ls) (q : Q1 (0 + ttl * 1000000000)), s.ttl = ttl ∧ Sat H1 (xP x db o.bv s 0 (0 + ttl * 1000000000) q l)) := by
  obtain ⟨le, f, nm, p, b, ro, bv, rfl, hbe⟩ := o
  have S : Sat H (pt x (xO db f.ck bv (.iface 118 (pv le))) :: pt f.ck (ckO 0) :: pt le (leO f (some ch) (.func (.func 16) ⟨[]⟩ ⟨[pv ro]⟩)) :: mpL f.lm [] :: nqs f.nt nm p 0 0 [] [] (b.P l)) := S
  refine F12.calls ?_
  unfold F12.go
  refine newX S fun r Ha Ea Sa => ?_
  clear S
  refine newX Sa fun r1 Hb Eb Sb => ?_
  clear Sa
  refine newX Sb fun r2 Hc Ec Sc => ?_
  clear Sb
  (repeat (first | (refine Step.go ?_; intros) | refine iteB_t (by decide) ?_ | refine iteB_f (by decide) ?_ | (refine Duo.mk (by first | omega | exact rfl | decide) ?_; intros) | (refine Duo.mk (Clo.mk (by kernel_rfl)) ?_; intros)))
  have S0 := ‹Sat _ (anB r2 :: anB r1 :: _)›
  refine gives_i S0 (within_ok (n := 0) (lo := 0) (hi := 2305843009213693952) (by omega) (by omega)) fun H1 E1 S1 => ?_
  (repeat (first | (refine Step.go ?_; intros) | refine iteB_t (by decide) ?_ | refine iteB_f (by decide) ?_ | (refine Duo.mk (by first | omega | exact rfl | decide) ?_; intros) | (refine Duo.mk (Clo.mk (by kernel_rfl)) ?_; intros)))
  refine gives_i S1 (at_ok 0 (by omega) (by omega) H1) fun H2 E2 S2 => ?_
  (repeat (first | (refine Step.go ?_; intros) | refine iteB_t (by decide) ?_ | refine iteB_f (by decide) ?_ | (refine Duo.mk (by first | omega | exact rfl | decide) ?_; intros) | (refine Duo.mk (Clo.mk (by kernel_rfl)) ?_; intros)))
  have S3 := ‹Sat _ (anB r2 :: anB r1 :: _)›
  refine iteB_f (decide_eq_false (by omega)) ?_
  (repeat (first | (refine Step.go ?_; intros) | refine iteB_t (by decide) ?_ | refine iteB_f (by decide) ?_ | (refine Duo.mk (by first | omega | exact rfl | decide) ?_; intros) | (refine Duo.mk (Clo.mk (by kernel_rfl)) ?_; intros)))
  refine grantI ?_
  refine call_of (grant_ok (le := le) (f := f) (dc := ch) (rd := .func (.func 16) ⟨[]⟩ ⟨[pv ro]⟩) (b := b) (nm := nm) (c := 0) (p := p) (now := 0) (ttl := ttl) (l := anB r2 :: anB r1 :: opB r 1 1 ttl 0 :: pt x (xO db f.ck bv (.iface 118 (pv le))) :: l) hbe (by omega) (by omega) (by omega) (by omega) ⟨fun i h0 h1 => by omega, by simp, by simp⟩ (S3.to (by
    iterate 21 (apply Ent.pick; (focus (repeat (first | exact Sel.here | apply Sel.there))))
    exact .refl))) ?_
  rintro e H5 ⟨ls, im, chl, q, rfl, S5⟩
  clear S3
  (repeat (first | (refine Step.go ?_; intros) | refine iteB_t (by decide) ?_ | refine iteB_f (by decide) ?_ | (refine Duo.mk (by first | omega | exact rfl | decide) ?_; intros) | (refine Duo.mk (Clo.mk (by kernel_rfl)) ?_; intros)))
  refine gives_i S5 kind0_ok fun H6 E6 S6 => ?_
  clear S5
  (repeat (first | (refine Step.go ?_; intros) | refine iteB_t (by decide) ?_ | refine iteB_f (by decide) ?_ | (refine Duo.mk (by first | omega | exact rfl | decide) ?_; intros) | (refine Duo.mk (Clo.mk (by kernel_rfl)) ?_; intros)))
  have S7 := ‹Sat _ (pt le _ :: _)›
  refine ifNil_t ?_
  refine gives_i S7 (ttl_ok (ls := ls) (cko := some ⟨f.ck, 0, none⟩) (id := 1) (ttl := ttl) (t0 := (0 + ttl * 1000000000) / G9) (t1 := (0 + ttl * 1000000000) % G9) (tb := true) (im := im) (ch := some chl) (l := []) (S7.to (by
    iterate 1 (apply Ent.pick; (focus (repeat (first | exact Sel.here | apply Sel.there))))
    exact .nil))) fun H7 E7 S8 => ?_
  (repeat (first | (refine Step.go ?_; intros) | refine iteB_t (by decide) ?_ | refine iteB_f (by decide) ?_ | (refine Duo.mk (by first | omega | exact rfl | decide) ?_; intros) | (refine Duo.mk (Clo.mk (by kernel_rfl)) ?_; intros)))
  have S9 := ‹Sat _ (pt le _ :: _)›
  refine ⟨rfl, ⟨le, f, ch, .func (.func 16) ⟨[]⟩ ⟨[pv ro]⟩, ls, im, chl, ttl⟩, q, rfl, S9.to ?_⟩
  iterate 10 (apply Ent.pick; (focus (repeat (first | exact Sel.here | apply Sel.there))))
  iterate 3 (apply Ent.drop)
  exact .refl
end
end Go.Proofs.YtkenjnllegbmjaaGreat

set_option linter.unusedVariables false
set_option linter.unusedSimpArgs false
set_option linter.unnecessarySimpa false
set_option maxRecDepth 100000
namespace Go.Proofs.YtkenjnllegbmjaaGreat
open Go Go.Den Go.Proofs
section
variable {H H0 : Heap} {l l' : List HP} {x db : Nat} {ttl now t t0 u : Int} {bv : Value} {s : Ls} {q : Q1 u}
theorem doRenew_ok (n0 : 0 ≤ now) (n1 : now ≤ 2305843009213693952) (p0 : 0 ≤ t) (p1 : t ≤ 4611686018427387904) (h0 : 0 ≤ s.ttl) (h1 : s.ttl ≤ 1000000000) (hlt : now < t) (S : Sat H (xP x db bv s t0 t q l)) :
    CallsH Tryz.prog 12 ⟨[pv x, opV 8 1 0 now]⟩ H (fun e H1 => e = .returned (anV 0 0 s.ttl 0 false none 0 0 none 0 0) ∧ ∃ q' : Q1 (now + s.ttl * 1000000000), Sat H1 (xP x db bv s now (now + s.ttl * 1000000000) q' l)) := by
  refine F12.calls ?_
  unfold F12.go
  refine newX S fun r Ha Ea Sa => ?_
  clear S
  refine newX Sa fun r1 Hb Eb Sb => ?_
  clear Sa
  refine newX Sb fun r2 Hc Ec Sc => ?_
  clear Sb
  (repeat (first | (refine Step.go ?_; intros) | refine iteB_t (by decide) ?_ | refine iteB_f (by decide) ?_ | (refine Duo.mk (by first | omega | exact rfl | decide) ?_; intros) | (refine Duo.mk (Clo.mk (by kernel_rfl)) ?_; intros)))
  have S0 := ‹Sat _ (anB r2 :: anB r1 :: _)›
  refine gives_i S0 (within_ok (n := now) (lo := 0) (hi := 2305843009213693952) n0 n1) fun H1 E1 S1 => ?_
  (repeat (first | (refine Step.go ?_; intros) | refine iteB_t (by decide) ?_ | refine iteB_f (by decide) ?_ | (refine Duo.mk (by first | omega | exact rfl | decide) ?_; intros) | (refine Duo.mk (Clo.mk (by kernel_rfl)) ?_; intros)))
  refine gives_i S1 (at_ok now n0 n1 H1) fun H2 E2 S2 => ?_
  (repeat (first | (refine Step.go ?_; intros) | refine iteB_t (by decide) ?_ | refine iteB_f (by decide) ?_ | (refine Duo.mk (by first | omega | exact rfl | decide) ?_; intros) | (refine Duo.mk (Clo.mk (by kernel_rfl)) ?_; intros)))
  have S3 := ‹Sat _ (anB r2 :: anB r1 :: _)›
  have S4 := S3.to (m := s.P now t q (anB r2 :: anB r1 :: opB r 8 1 0 now :: pt x (xO db s.f.ck bv (.iface 118 (pv s.le))) :: l)) (by
    iterate 13 (apply Ent.pick; (focus (repeat (first | exact Sel.here | apply Sel.there))))
    exact .refl)
  clear S3
  refine gives_i S4 (waits_ok n0 (by omega) p0 p1 S4) fun H3 E3 S5 => ?_
  clear S4
  refine ⟨_, rfl, ?_⟩
  refine iteB_f (decide_eq_false (by omega)) ?_
  (repeat (first | (refine Step.go ?_; intros) | refine iteB_t (by decide) ?_ | refine iteB_f (by decide) ?_ | (refine Duo.mk (by first | omega | exact rfl | decide) ?_; intros) | (refine Duo.mk (Clo.mk (by kernel_rfl)) ?_; intros)))
  refine renewI ?_
  refine call_of (renew_ok n0 n1 p0 p1 h0 h1 hlt S5) ?_
  rintro e H4 ⟨rfl, q', S6⟩
  clear S5
  (repeat (first | (refine Step.go ?_; intros) | refine iteB_t (by decide) ?_ | refine iteB_f (by decide) ?_ | (refine Duo.mk (by first | omega | exact rfl | decide) ?_; intros) | (refine Duo.mk (Clo.mk (by kernel_rfl)) ?_; intros)))
  refine gives_i S6 kind0_ok fun H6 E6 S7 => ?_
  clear S6
  (repeat (first | (refine Step.go ?_; intros) | refine iteB_t (by decide) ?_ | refine iteB_f (by decide) ?_ | (refine Duo.mk (by first | omega | exact rfl | decide) ?_; intros) | (refine Duo.mk (Clo.mk (by kernel_rfl)) ?_; intros)))
  have S9 := ‹Sat _ (pt s.le _ :: _)›
  refine ⟨rfl, q', S9.to ?_⟩
  iterate 10 (apply Ent.pick; (focus (repeat (first | exact Sel.here | apply Sel.there))))
  iterate 3 (apply Ent.drop)
  exact .refl
theorem doLookup_ok (n0 : 0 ≤ now) (n1 : now ≤ 2305843009213693952) (p0 : 0 ≤ t) (p1 : t ≤ 4611686018427387904) (S : Sat H (xP x db bv s t0 t q l)) :
    CallsH Tryz.prog 12 ⟨[pv x, opV 6 1 0 now]⟩ H (fun e H1 => ∃ (dm : Bool) (kq : Option Addr) (kc : Nat), e = .returned (anV 0 1 s.ttl (t - now) dm kq 0 kc none 0 0) ∧ Sat H1 (xP x db bv s now t q l)) := by
  refine F12.calls ?_
  unfold F12.go
  refine newX S fun r Ha Ea Sa => ?_
  clear S
  refine newX Sa fun r1 Hb Eb Sb => ?_
  clear Sa
  refine newX Sb fun r2 Hc Ec Sc => ?_
  clear Sb
  (repeat (first | (refine Step.go ?_; intros) | refine iteB_t (by decide) ?_ | refine iteB_f (by decide) ?_ | (refine Duo.mk (by first | omega | exact rfl | decide) ?_; intros) | (refine Duo.mk (Clo.mk (by kernel_rfl)) ?_; intros)))
  have S0 := ‹Sat _ (anB r2 :: anB r1 :: _)›
  refine gives_i S0 (within_ok (n := now) (lo := 0) (hi := 2305843009213693952) n0 n1) fun H1 E1 S1 => ?_
  (repeat (first | (refine Step.go ?_; intros) | refine iteB_t (by decide) ?_ | refine iteB_f (by decide) ?_ | (refine Duo.mk (by first | omega | exact rfl | decide) ?_; intros) | (refine Duo.mk (Clo.mk (by kernel_rfl)) ?_; intros)))
  refine gives_i S1 (at_ok now n0 n1 H1) fun H2 E2 S2 => ?_
  (repeat (first | (refine Step.go ?_; intros) | refine iteB_t (by decide) ?_ | refine iteB_f (by decide) ?_ | (refine Duo.mk (by first | omega | exact rfl | decide) ?_; intros) | (refine Duo.mk (Clo.mk (by kernel_rfl)) ?_; intros)))
  have S3 := ‹Sat _ (anB r2 :: anB r1 :: _)›
  have S4 := S3.to (m := s.P now t q (anB r2 :: anB r1 :: opB r 6 1 0 now :: pt x (xO db s.f.ck bv (.iface 118 (pv s.le))) :: l)) (by
    iterate 13 (apply Ent.pick; (focus (repeat (first | exact Sel.here | apply Sel.there))))
    exact .refl)
  clear S3
  refine lookI ?_
  refine gives_i S4 (find_ok (le := s.le) (f := s.f) (dc := some s.dc) (rd := s.rd) (ls := s.ls) (M := [(1, s.ls)]) rfl S4) fun H3 E3 S5 => ?_
  clear S4
  refine ⟨_, rfl, ?_⟩
  refine iteB_f rfl ?_
  (repeat (first | (refine Step.go ?_; intros) | refine iteB_t (by decide) ?_ | refine iteB_f (by decide) ?_ | (refine Duo.mk (by first | omega | exact rfl | decide) ?_; intros) | (refine Duo.mk (Clo.mk (by kernel_rfl)) ?_; intros)))
  have e1 : Ent (s.P now t q (anB r2 :: anB r1 :: opB r 6 1 0 now :: pt x (xO db s.f.ck bv (.iface 118 (pv s.le))) :: l)) (pt s.ls (lsT s.f.ck s.ttl t s.im (some s.ch)) :: pt s.f.ck (ckO now) :: pt s.im (.map #[] 0) :: []) := by
    iterate 3 (apply Ent.pick; (focus (repeat (first | exact Sel.here | apply Sel.there))))
    exact .nil
  refine gives_i S5 (ttl_ok (ls := s.ls) (cko := some ⟨s.f.ck, 0, none⟩) (id := 1) (ttl := s.ttl) (t0 := t / G9) (t1 := t % G9) (tb := true) (im := s.im) (ch := some s.ch) (S5.to e1)) fun H4 E4 S6 => ?_
  (repeat (first | (refine Step.go ?_; intros) | refine iteB_t (by decide) ?_ | refine iteB_f (by decide) ?_ | (refine Duo.mk (by first | omega | exact rfl | decide) ?_; intros) | (refine Duo.mk (Clo.mk (by kernel_rfl)) ?_; intros)))
  refine gives_i S6 (remaining_ok n0 (by omega) p0 p1 (S6.to e1)) fun H5 E5 S7 => ?_
  (repeat (first | (refine Step.go ?_; intros) | refine iteB_t (by decide) ?_ | refine iteB_f (by decide) ?_ | (refine Duo.mk (by first | omega | exact rfl | decide) ?_; intros) | (refine Duo.mk (Clo.mk (by kernel_rfl)) ?_; intros)))
  refine call_of (demoted_ok (S7.to e1)) ?_
  rintro e H6 ⟨dm, rfl, E6⟩
  have S8 := S7.ext E6
  (repeat (first | (refine Step.go ?_; intros) | refine iteB_t (by decide) ?_ | refine iteB_f (by decide) ?_ | (refine Duo.mk (by first | omega | exact rfl | decide) ?_; intros) | (refine Duo.mk (Clo.mk (by kernel_rfl)) ?_; intros)))
  refine call_of (keysX_ok ((S8.to e1).to (m := pt s.ls (lsT s.f.ck s.ttl t s.im (some s.ch)) :: pt s.im (.map #[] 0) :: []) (by
    iterate 2 (apply Ent.pick; (focus (repeat (first | exact Sel.here | apply Sel.there))))
    exact .nil))) ?_
  rintro e H7 ⟨kq, kc, rfl, E7⟩
  have S9 := S8.ext E7
  (repeat (first | (refine Step.go ?_; intros) | refine iteB_t (by decide) ?_ | refine iteB_f (by decide) ?_ | (refine Duo.mk (by first | omega | exact rfl | decide) ?_; intros) | (refine Duo.mk (Clo.mk (by kernel_rfl)) ?_; intros)))
  have S10 := ‹Sat _ (pt s.le _ :: _)›
  refine gives_i S10 sortS_ok fun H8 E8 S11 => ?_
  (repeat (first | (refine Step.go ?_; intros) | refine iteB_t (by decide) ?_ | refine iteB_f (by decide) ?_ | (refine Duo.mk (by first | omega | exact rfl | decide) ?_; intros) | (refine Duo.mk (Clo.mk (by kernel_rfl)) ?_; intros)))
  have S12 := ‹Sat _ (pt s.le _ :: _)›
  refine ⟨dm, kq, kc, rfl, S12.to ?_⟩
  iterate 10 (apply Ent.pick; (focus (repeat (first | exact Sel.here | apply Sel.there))))
  iterate 3 (apply Ent.drop)
  exact .refl
theorem doExpired_ok {q : Q1 t} (n0 : 0 ≤ now) (n1 : now ≤ 2305843009213693952) (p0 : 0 ≤ t) (p1 : t ≤ 4611686018427387904) (S : Sat H (xP x db bv s t0 t q l)) :
    CallsH Tryz.prog 12 ⟨[pv x, opV 12 0 0 now]⟩ H (fun e H1 => ∃ (iq : Option Addr) (ic : Nat) (u' : Int) (q' : Q1 u'), e = .returned (anV 0 0 0 0 false none 0 0 iq (if t ≤ now then 1 else 0) ic) ∧ Sat H1 (xP x db bv s now t q' l)) := by
  refine F12.calls ?_
  unfold F12.go
  refine newX S fun r Ha Ea Sa => ?_
  clear S
  refine newX Sa fun r1 Hb Eb Sb => ?_
  clear Sa
  refine newX Sb fun r2 Hc Ec Sc => ?_
  clear Sb
  (repeat (first | (refine Step.go ?_; intros) | refine iteB_t (by decide) ?_ | refine iteB_f (by decide) ?_ | (refine Duo.mk (by first | omega | exact rfl | decide) ?_; intros) | (refine Duo.mk (Clo.mk (by kernel_rfl)) ?_; intros)))
  have S0 := ‹Sat _ (anB r2 :: anB r1 :: _)›
  refine gives_i S0 (within_ok (n := now) (lo := 0) (hi := 2305843009213693952) n0 n1) fun H1 E1 S1 => ?_
  (repeat (first | (refine Step.go ?_; intros) | refine iteB_t (by decide) ?_ | refine iteB_f (by decide) ?_ | (refine Duo.mk (by first | omega | exact rfl | decide) ?_; intros) | (refine Duo.mk (Clo.mk (by kernel_rfl)) ?_; intros)))
  refine gives_i S1 (at_ok now n0 n1 H1) fun H2 E2 S2 => ?_
  (repeat (first | (refine Step.go ?_; intros) | refine iteB_t (by decide) ?_ | refine iteB_f (by decide) ?_ | (refine Duo.mk (by first | omega | exact rfl | decide) ?_; intros) | (refine Duo.mk (Clo.mk (by kernel_rfl)) ?_; intros)))
  have S3 := ‹Sat _ (anB r2 :: anB r1 :: _)›
  have S4 := S3.to (m := s.P now t q (anB r2 :: anB r1 :: opB r 12 0 0 now :: pt x (xO db s.f.ck bv (.iface 118 (pv s.le))) :: l)) (by
    iterate 13 (apply Ent.pick; (focus (repeat (first | exact Sel.here | apply Sel.there))))
    exact .refl)
  clear S3
  refine call_of (zzExp_ok n0 n1 p0 p1 S4) ?_
  rintro e H3 ⟨ep, ec, u', q', rfl, S5⟩
  clear S4
  refine ⟨_, _, _, rfl, ?_⟩
  by_cases h : t ≤ now
  · simp only [if_pos h] at S5 ⊢
    refine F12.L1_step ?_
    unfold F12.L1n
    refine iteB_t rfl ?_
    refine Sat.idx (f := iC) (E := 79) (z := 1) (xs := [1]) (n := 1) (c := ec) S5 ⟨by omega, by omega, fun r0 o0 hr0 => ?_⟩
    subst hr0
    have hI : HasI [(1 : Int)] (0 : Int) 1 := ⟨rfl⟩
    (repeat (first | (refine Step.go ?_; intros) | refine iteB_t (by decide) ?_ | refine iteB_f (by decide) ?_ | (refine Duo.mk (by first | omega | exact rfl | decide) ?_; intros) | (refine Duo.mk (Clo.mk (by kernel_rfl)) ?_; intros)))
    rename_i re H4 S6
    clear S5
    have S7 : Sat H4 (sl iC 2 1 none 0 0 [] :: pt re (.cells ⟨iC 1⟩ 2) :: s.P now t q' (anB r2 :: anB r1 :: opB r 12 0 0 now :: pt x (xO db s.f.ck bv (.iface 118 (pv s.le))) :: l)) := (S6.to (by
      iterate 1 (apply Ent.pick; (focus (repeat (first | exact Sel.here | apply Sel.there))))
      exact Ent.drop .refl)).to (Ent.slNil .refl)
    clear S6
    refine S7.slApp (ys := [1]) (d := 1) ?_ rfl (by simp) (by simp [isCell]) rfl (by decide) (by omega) fun q4 c4 H5 S8 => ?_
    · simp only [List.flatMap_cons, List.flatMap_nil, List.append_nil]
      exact cellsAt_one (S7.at_ (List.mem_cons_of_mem _ (List.mem_cons_self ..)))
    clear S7
    (repeat (first | (refine Step.go ?_; intros) | refine iteB_t (by decide) ?_ | refine iteB_f (by decide) ?_ | (refine Duo.mk (by first | omega | exact rfl | decide) ?_; intros) | (refine Duo.mk (Clo.mk (by kernel_rfl)) ?_; intros)))
    refine F12.L1_step ?_
    unfold F12.L1n
    refine iteB_f rfl ?_
    (repeat (first | (refine Step.go ?_; intros) | refine iteB_t (by decide) ?_ | refine iteB_f (by decide) ?_ | (refine Duo.mk (by first | omega | exact rfl | decide) ?_; intros) | (refine Duo.mk (Clo.mk (by kernel_rfl)) ?_; intros)))
    have S12 := ‹Sat _ (sl iC 2 1 _ _ _ _ :: _)›
    refine ⟨q4, c4, u', q', rfl, S12.to ?_⟩
    iterate 10 (apply Ent.pick; (focus (repeat (first | exact Sel.here | apply Sel.there))))
    iterate 5 (apply Ent.drop)
    exact .refl
  · simp only [if_neg h] at S5 ⊢
    refine F12.L1_step ?_
    unfold F12.L1n
    refine iteB_f rfl ?_
    (repeat (first | (refine Step.go ?_; intros) | refine iteB_t (by decide) ?_ | refine iteB_f (by decide) ?_ | (refine Duo.mk (by first | omega | exact rfl | decide) ?_; intros) | (refine Duo.mk (Clo.mk (by kernel_rfl)) ?_; intros)))
    have S12 := ‹Sat _ (sl iC 79 1 _ _ _ _ :: _)›
    refine ⟨none, 0, u', q', rfl, S12.to ?_⟩
    iterate 10 (apply Ent.pick; (focus (repeat (first | exact Sel.here | apply Sel.there))))
    iterate 4 (apply Ent.drop)
    exact .refl
end
end Go.Proofs.YtkenjnllegbmjaaGreat

set_option linter.unusedVariables false
set_option linter.unusedSimpArgs false
set_option linter.unnecessarySimpa false
set_option maxRecDepth 100000
namespace Go.Proofs.YtkenjnllegbmjaaGreat
open Go Go.Den Go.Proofs
/-! A list of calls is played. -/
structure LOp where
  kd : Int
  id : Int
  n : Int
  now : Int
abbrev LOp.cells (o : LOp) : List Value := [.int .i64 o.kd, .int .i64 o.id, .int .i64 o.n, .slice none 0 0, .int .i64 o.now]
structure LAn where
  err : Int
  id : Int
  ttl : Int
  rem : Int
  dm : Bool
  kq : Option Addr
  kn : Nat
  kc : Nat
  iq : Option Addr
  iN : Nat
  ic : Nat
abbrev LAn.cells (a : LAn) : List Value := [.int .i64 a.err, .int .i64 a.id, .int .i64 a.ttl, .int .i64 a.rem, .bool a.dm, .slice a.kq a.kn a.kc, .slice a.iq a.iN a.ic, .slice none 0 0]
section
variable {H H0 : Heap} {l l' : List HP} {x db : Nat} {R : Ending → Heap → Prop}
theorem round {ι : Type} {A : ι → LAn} {T : ι → List HP} {st : List HP} {ops : List LOp} {outs : List LAn} {i oc : Nat} {o : LOp} {p oq : Option Addr} (hi : i < 1000) (ho : ops[i]? = some o)
    (S : Sat H (sl LOp.cells 28 5 p ops.length ops.length ops :: st))
    (hdo : CallsH Tryz.prog 12 ⟨[pv x, opV o.kd o.id o.n o.now]⟩ H (fun e H1 => ∃ z : ι, e = .returned (.agg ⟨(A z).cells⟩) ∧ Sat H1 (sl LAn.cells 32 8 oq i oc outs :: T z)))
    (k : ∀ (z : ι) (oq' : Option Addr) (oc' : Nat) (H2 : Heap), Sat H2 (sl LAn.cells 32 8 oq' (i + 1) oc' (outs ++ [A z]) :: T z) → F5.L0 p ops.length ops.length x oq' (i + 1) oc' ((i + 1 : Nat) : Int) H2 R) :
    F5.L0 p ops.length ops.length x oq i oc (i : Int) H R := by
  have hlt := lt_of ho
  have hI := HasI.nat ho
  refine F5.L0_step ?_
  unfold F5.L0n
  refine iteB_t (decide_eq_true (by omega)) ?_
  refine Sat.idx (f := LOp.cells) (E := 28) (z := 5) (xs := ops) (n := ops.length) (c := ops.length) S ⟨by omega, by omega, fun r0 o0 hr0 => ?_⟩
  subst hr0
  (repeat (first | (refine Step.go ?_; intros) | refine iteB_t (by decide) ?_ | refine iteB_f (by decide) ?_ | (refine Duo.mk (by first | omega | exact rfl | decide) ?_; intros) | (refine Duo.mk (Clo.mk (by kernel_rfl)) ?_; intros)))
  refine call_of hdo ?_
  rintro e H1 ⟨z, rfl, S1⟩
  clear S
  (repeat (first | (refine Step.go ?_; intros) | refine iteB_t (by decide) ?_ | refine iteB_f (by decide) ?_ | (refine Duo.mk (by first | omega | exact rfl | decide) ?_; intros) | (refine Duo.mk (Clo.mk (by kernel_rfl)) ?_; intros)))
  rename_i r H2 S2
  clear S1
  have S3 : Sat H2 (sl LAn.cells 32 8 oq i oc outs :: pt r (.cells ⟨(A z).cells⟩ 32) :: T z) := S2.to ent_swp
  clear S2
  refine S3.slApp (ys := [A z]) (d := 1) ?_ rfl (by simp) (by simp [isCell]) rfl (by decide) (by omega) fun q4 c4 H5 S8 => ?_
  · simp only [List.flatMap_cons, List.flatMap_nil, List.append_nil]
    exact cellsAt_one (S3.at_ (List.mem_cons_of_mem _ (List.mem_cons_self ..)))
  rw [wr64 (by omega) (by omega), show ((i : Nat) : Int) + 1 = ((i + 1 : Nat) : Int) by omega]
  exact k z q4 c4 H5 (S8.to (Ent.cons (Ent.drop .refl)))
end
end Go.Proofs.YtkenjnllegbmjaaGreat

set_option linter.unusedVariables false
set_option linter.unusedSimpArgs false
set_option linter.unnecessarySimpa false
set_option maxRecDepth 100000
namespace Go.Proofs.YtkenjnllegbmjaaGreat
open Go Go.Den Go.Proofs
section
variable {H H0 : Heap} {l l' : List HP} {x db : Nat} {R : Ending → Heap → Prop}
abbrev opsR (ttl first now : Int) : List LOp := [⟨10, 0, 0, 0⟩, ⟨1, 1, ttl, 0⟩, ⟨8, 1, 0, first⟩, ⟨12, 0, 0, now⟩, ⟨6, 1, 0, now⟩]
/-- What the answers tell. -/
structure AnsR (ttl later : Int) (outs : List LAn) : Prop where
  len : outs.length = 5
  e2 : ∃ a, outs[2]? = some a ∧ a.err = 0 ∧ a.ttl = ttl
  e3 : ∃ a, outs[3]? = some a ∧ a.iN = if ttl * 1000000000 ≤ later then 1 else 0
  e4 : ∃ a, outs[4]? = some a ∧ a.rem = ttl * 1000000000 - later
def EndR (ttl later : Int) (l : List HP) : Ending → Heap → Prop := fun e H1 => ∃ (q : Option Addr) (c : Nat) (outs : List LAn), e = .returned (.slice q 5 c) ∧ AnsR ttl later outs ∧ Sat H1 (sl LAn.cells 32 8 q 5 c outs :: l)
theorem open_nil : CallsH Tryz.prog 9 ⟨[]⟩ H (fun e H1 => e = .returned (pv H.size) ∧ H1 = H.push (dbO none 0 0)) := by
  refine F9.calls ?_
  unfold F9.go
  exact ⟨rfl, rfl⟩
theorem loop_ok {ttl first later : Int} {ck : Nat} {p : Option Addr} (h0 : 1 ≤ ttl) (h1 : ttl ≤ 100000000) (f0 : 0 ≤ first) (f1 : first < ttl * 1000000000) (l0 : 0 ≤ later) (l1 : later ≤ 576460752303423488) {o : Opn ck}
    (S : Sat H (sl LOp.cells 28 5 p 5 5 (opsR ttl first (first + later)) :: o.P x db l)) :
    F5.L0 p 5 5 x none 0 0 0 H (EndR ttl later l) := by
  have S0 : Sat H (sl LOp.cells 28 5 p 5 5 (opsR ttl first (first + later)) :: sl LAn.cells 32 8 none 0 0 [] :: o.P x db l) := (S.to (Ent.slNil .refl)).to ent_swp
  clear S
  refine round (ι := Nat) (A := fun _ => ⟨0, 0, 0, 0, false, none, 0, 0, none, 0, 0⟩) (T := fun ch => sl LOp.cells 28 5 p 5 5 (opsR ttl first (first + later)) :: o.P1 ch 0 x db l) (ops := opsR ttl first (first + later)) (outs := []) (i := 0) (oc := 0) (o := ⟨10, 0, 0, 0⟩) (by omega) rfl S0 ?_ ?_
  · refine CallsH.mono (doPromote_ok (o := o) (x := x) (db := db) (l := sl LAn.cells 32 8 none 0 0 [] :: sl LOp.cells 28 5 p 5 5 (opsR ttl first (first + later)) :: l) (S0.to (by
      repeat (first | exact Ent.refl | exact Ent.nil | (apply Ent.pick; (focus (repeat (first | exact Sel.here | apply Sel.there)))))))) ?_
    rintro e H1 ⟨rfl, ch, S1⟩
    refine ⟨ch, rfl, S1.to ?_⟩
    repeat (first | exact Ent.refl | exact Ent.nil | (apply Ent.pick; (focus (repeat (first | exact Sel.here | apply Sel.there)))))
  intro ch q1 c1 H1 S1
  clear S0
  -- the grant
  have S1b : Sat H1 (sl LOp.cells 28 5 p 5 5 (opsR ttl first (first + later)) :: sl LAn.cells 32 8 q1 1 c1 ([] ++ [⟨0, 0, 0, 0, false, none, 0, 0, none, 0, 0⟩]) :: o.P1 ch 0 x db l) := S1.to ent_swp
  clear S1
  refine round (ι := { z : (s : Ls) × Q1 (0 + ttl * 1000000000) // z.1.ttl = ttl }) (A := fun _ => ⟨0, 0, ttl, 0, false, none, 0, 0, none, 0, 0⟩) (T := fun z => sl LOp.cells 28 5 p 5 5 (opsR ttl first (first + later)) :: xP x db o.bv z.1.1 0 (0 + ttl * 1000000000) z.1.2 l) (ops := opsR ttl first (first + later)) (outs := [] ++ [⟨0, 0, 0, 0, false, none, 0, 0, none, 0, 0⟩]) (i := 1) (oc := c1) (o := ⟨1, 1, ttl, 0⟩) (by omega) rfl S1b ?_ ?_
  · refine CallsH.mono (doGrant_ok (o := o) (ch := ch) (x := x) (db := db) h0 h1 (l := sl LAn.cells 32 8 q1 1 c1 ([] ++ [⟨0, 0, 0, 0, false, none, 0, 0, none, 0, 0⟩]) :: sl LOp.cells 28 5 p 5 5 (opsR ttl first (first + later)) :: l) (S1b.to (by
      repeat (first | exact Ent.refl | exact Ent.nil | (apply Ent.pick; (focus (repeat (first | exact Sel.here | apply Sel.there)))))))) ?_
    rintro e H2 ⟨rfl, s, q, hs, S2⟩
    refine ⟨⟨⟨s, q⟩, hs⟩, rfl, S2.to ?_⟩
    repeat (first | exact Ent.refl | exact Ent.nil | (apply Ent.pick; (focus (repeat (first | exact Sel.here | apply Sel.there)))))
  rintro ⟨⟨s, q⟩, hs⟩ q2 c2 H2 S2
  clear S1b
  dsimp only at hs
  subst hs
  -- the renewal
  generalize hO : ([] ++ [⟨0, 0, 0, 0, false, none, 0, 0, none, 0, 0⟩] ++ [⟨0, 0, s.ttl, 0, false, none, 0, 0, none, 0, 0⟩] : List LAn) = outs at S2
  have S2b : Sat H2 (sl LOp.cells 28 5 p 5 5 (opsR s.ttl first (first + later)) :: sl LAn.cells 32 8 q2 2 c2 outs :: xP x db o.bv s 0 (0 + s.ttl * 1000000000) q l) := S2.to ent_swp
  clear S2
  refine round (ι := Q1 (first + s.ttl * 1000000000)) (A := fun _ => ⟨0, 0, s.ttl, 0, false, none, 0, 0, none, 0, 0⟩) (T := fun z => sl LOp.cells 28 5 p 5 5 (opsR s.ttl first (first + later)) :: xP x db o.bv s first (first + s.ttl * 1000000000) z l) (ops := opsR s.ttl first (first + later)) (outs := outs) (i := 2) (oc := c2) (o := ⟨8, 1, 0, first⟩) (by omega) rfl S2b ?_ ?_
  · refine CallsH.mono (doRenew_ok (s := s) (x := x) (db := db) (bv := o.bv) (q := q) (t0 := 0) (t := 0 + s.ttl * 1000000000) (now := first) f0 (by omega) (by omega) (by omega) (by omega) (by omega) (by omega) (l := sl LAn.cells 32 8 q2 2 c2 outs :: sl LOp.cells 28 5 p 5 5 (opsR s.ttl first (first + later)) :: l) (S2b.to (by
      repeat (first | exact Ent.refl | exact Ent.nil | (apply Ent.pick; (focus (repeat (first | exact Sel.here | apply Sel.there)))))))) ?_
    rintro e H3 ⟨rfl, q', S3⟩
    refine ⟨q', rfl, S3.to ?_⟩
    repeat (first | exact Ent.refl | exact Ent.nil | (apply Ent.pick; (focus (repeat (first | exact Sel.here | apply Sel.there)))))
  intro q' q3 c3 H3 S3
  clear S2b
  have hO2 : (outs ++ [⟨0, 0, s.ttl, 0, false, none, 0, 0, none, 0, 0⟩] : List LAn) = outs ++ [⟨0, 0, s.ttl, 0, false, none, 0, 0, none, 0, 0⟩] := rfl
  generalize hO3 : (outs ++ [⟨0, 0, s.ttl, 0, false, none, 0, 0, none, 0, 0⟩] : List LAn) = outs3 at S3
  have S3b : Sat H3 (sl LOp.cells 28 5 p 5 5 (opsR s.ttl first (first + later)) :: sl LAn.cells 32 8 q3 3 c3 outs3 :: xP x db o.bv s first (first + s.ttl * 1000000000) q' l) := S3.to ent_swp
  clear S3
  -- what has expired
  refine round (ι := (Option Addr × Nat) × ((u : Int) × Q1 u)) (A := fun z => ⟨0, 0, 0, 0, false, none, 0, 0, z.1.1, if first + s.ttl * 1000000000 ≤ first + later then 1 else 0, z.1.2⟩) (T := fun z => sl LOp.cells 28 5 p 5 5 (opsR s.ttl first (first + later)) :: xP x db o.bv s (first + later) (first + s.ttl * 1000000000) z.2.2 l) (ops := opsR s.ttl first (first + later)) (outs := outs3) (i := 3) (oc := c3) (o := ⟨12, 0, 0, first + later⟩) (by omega) rfl S3b ?_ ?_
  · refine CallsH.mono (doExpired_ok (s := s) (x := x) (db := db) (bv := o.bv) (q := q') (t0 := first) (t := first + s.ttl * 1000000000) (now := first + later) (by omega) (by omega) (by omega) (by omega) (l := sl LAn.cells 32 8 q3 3 c3 outs3 :: sl LOp.cells 28 5 p 5 5 (opsR s.ttl first (first + later)) :: l) (S3b.to (by
      repeat (first | exact Ent.refl | exact Ent.nil | (apply Ent.pick; (focus (repeat (first | exact Sel.here | apply Sel.there)))))))) ?_
    rintro e H4 ⟨iq, ic, u', q4, rfl, S4⟩
    refine ⟨⟨⟨iq, ic⟩, ⟨u', q4⟩⟩, rfl, S4.to ?_⟩
    repeat (first | exact Ent.refl | exact Ent.nil | (apply Ent.pick; (focus (repeat (first | exact Sel.here | apply Sel.there)))))
  rintro ⟨⟨iq, ic⟩, ⟨u', qq⟩⟩ q4 c4 H4 S4
  clear S3b
  dsimp only at S4
  generalize hO4 : (outs3 ++ [⟨0, 0, 0, 0, false, none, 0, 0, iq, if first + s.ttl * 1000000000 ≤ first + later then 1 else 0, ic⟩] : List LAn) = outs4 at S4
  have S4b : Sat H4 (sl LOp.cells 28 5 p 5 5 (opsR s.ttl first (first + later)) :: sl LAn.cells 32 8 q4 4 c4 outs4 :: xP x db o.bv s (first + later) (first + s.ttl * 1000000000) qq l) := S4.to ent_swp
  clear S4
  -- the lease is looked up
  refine round (ι := Bool × Option Addr × Nat) (A := fun z => ⟨0, 1, s.ttl, first + s.ttl * 1000000000 - (first + later), z.1, z.2.1, 0, z.2.2, none, 0, 0⟩) (T := fun z => sl LOp.cells 28 5 p 5 5 (opsR s.ttl first (first + later)) :: xP x db o.bv s (first + later) (first + s.ttl * 1000000000) qq l) (ops := opsR s.ttl first (first + later)) (outs := outs4) (i := 4) (oc := c4) (o := ⟨6, 1, 0, first + later⟩) (by omega) rfl S4b ?_ ?_
  · refine CallsH.mono (doLookup_ok (s := s) (x := x) (db := db) (bv := o.bv) (q := qq) (t0 := first + later) (t := first + s.ttl * 1000000000) (now := first + later) (by omega) (by omega) (by omega) (by omega) (l := sl LAn.cells 32 8 q4 4 c4 outs4 :: sl LOp.cells 28 5 p 5 5 (opsR s.ttl first (first + later)) :: l) (S4b.to (by
      repeat (first | exact Ent.refl | exact Ent.nil | (apply Ent.pick; (focus (repeat (first | exact Sel.here | apply Sel.there)))))))) ?_
    rintro e H5 ⟨dm, kq, kc, rfl, S5⟩
    refine ⟨⟨dm, kq, kc⟩, rfl, S5.to ?_⟩
    repeat (first | exact Ent.refl | exact Ent.nil | (apply Ent.pick; (focus (repeat (first | exact Sel.here | apply Sel.there)))))
  rintro ⟨dm, kq, kc⟩ q5 c5 H5 S5
  clear S4b
  dsimp only at S5
  refine F5.L0_step ?_
  unfold F5.L0n
  refine iteB_f rfl ?_
  refine ⟨q5, c5, outs4 ++ [⟨0, 1, s.ttl, first + s.ttl * 1000000000 - (first + later), dm, kq, 0, kc, none, 0, 0⟩], rfl, ?_, S5.to ?_⟩
  · clear S5
    subst hO4 hO3 hO
    refine ⟨rfl, ⟨_, rfl, rfl, rfl⟩, ⟨_, rfl, ?_⟩, ⟨_, rfl, ?_⟩⟩
    · show (if _ then _ else _) = _
      by_cases h : s.ttl * 1000000000 ≤ later
      · rw [if_pos h, if_pos (by omega)]
      · rw [if_neg h, if_neg (by omega)]
    · show first + s.ttl * 1000000000 - (first + later) = _
      omega
  · apply Ent.pick
    · focus (repeat (first | exact Sel.here | apply Sel.there))
    iterate 11 (apply Ent.drop)
    exact Ent.refl
end
end Go.Proofs.YtkenjnllegbmjaaGreat

set_option linter.unusedVariables false
set_option linter.unusedSimpArgs false
set_option linter.unnecessarySimpa false
set_option maxRecDepth 100000
namespace Go.Proofs.YtkenjnllegbmjaaGreat
open Go Go.Den Go.Proofs
/-! The law. -/
section
variable {H H0 : Heap} {l l' : List HP}
theorem leases_ok {ttl first later : Int} {p : Option Addr} (h0 : 1 ≤ ttl) (h1 : ttl ≤ 100000000) (f0 : 0 ≤ first) (f1 : first < ttl * 1000000000) (l0 : 0 ≤ later) (l1 : later ≤ 576460752303423488)
    (S : Sat H (sl LOp.cells 28 5 p 5 5 (opsR ttl first (first + later)) :: l)) :
    CallsH Tryz.prog 5 ⟨[.agg ⟨[.int .i64 0, .int .i64 0, .int .i64 0, .bool false, .bool false]⟩, .slice p 5 5]⟩ H (EndR ttl later l) := by
  refine F5.calls ?_
  unfold F5.go
  refine newX S fun r Ha Ea Sa => ?_
  clear S
  (repeat (first | (refine Step.go ?_; intros) | refine iteB_t (by decide) ?_ | refine iteB_f (by decide) ?_ | (refine Duo.mk (by first | omega | exact rfl | decide) ?_; intros) | (refine Duo.mk (Clo.mk (by kernel_rfl)) ?_; intros)))
  refine gives_i Sa (within_ok (n := 0) (lo := -9000000000) (hi := 9000000000) (by omega) (by omega)) fun H1 E1 S1 => ?_
  (repeat (first | (refine Step.go ?_; intros) | refine iteB_t (by decide) ?_ | refine iteB_f (by decide) ?_ | (refine Duo.mk (by first | omega | exact rfl | decide) ?_; intros) | (refine Duo.mk (Clo.mk (by kernel_rfl)) ?_; intros)))
  have S2 := ‹Sat _ (pt r _ :: _)›
  refine gives_i S2 (within_ok (n := 0) (lo := 0) (hi := 1000000000) (by omega) (by omega)) fun H3 E3 S3 => ?_
  (repeat (first | (refine Step.go ?_; intros) | refine iteB_t (by decide) ?_ | refine iteB_f (by decide) ?_ | (refine Duo.mk (by first | omega | exact rfl | decide) ?_; intros) | (refine Duo.mk (Clo.mk (by kernel_rfl)) ?_; intros)))
  have S4 := ‹Sat _ (pt r _ :: _)›
  refine gives_i S4 (within_ok (n := 0) (lo := 0) (hi := 1000000000) (by omega) (by omega)) fun H5 E5 S5 => ?_
  (repeat (first | (refine Step.go ?_; intros) | refine iteB_t (by decide) ?_ | refine iteB_f (by decide) ?_ | (refine Duo.mk (by first | omega | exact rfl | decide) ?_; intros) | (refine Duo.mk (Clo.mk (by kernel_rfl)) ?_; intros)))
  have S6 := ‹Sat _ (pt r _ :: _)›
  rename_i H6 _
  refine call_of open_nil ?_
  rintro e H7 ⟨rfl, rfl⟩
  have S7 := S6.push (dbO none 0 0)
  refine ⟨_, rfl, ExtH.push _ _, ?_⟩
  refine gives_i S7 (at_ok 0 (by omega) (by omega) _) fun H8 E8 S8 => ?_
  (repeat (first | (refine Step.go ?_; intros) | refine iteB_t (by decide) ?_ | refine iteB_f (by decide) ?_ | (refine Duo.mk (by first | omega | exact rfl | decide) ?_; intros) | (refine Duo.mk (Clo.mk (by kernel_rfl)) ?_; intros)))
  rename_i ck Hk Sk x Hx Sx
  have S9 : Sat Hx (pt x (xO H6.size ck .nilIface .nilIface) :: pt ck (ckO 0) :: pt H6.size (dbO none 0 0) :: sl LOp.cells 28 5 p 5 5 (opsR ttl first (first + later)) :: l) := by
    refine Sx.to ?_
    iterate 4 (apply Ent.pick; (focus (repeat (first | exact Sel.here | apply Sel.there))))
    exact Ent.drop .refl
  refine call_of (open_ok S9) ?_
  rintro e H9 ⟨rfl, o, S10⟩
  refine tTup_nil ?_
  refine loop_ok h0 h1 f0 f1 l0 l1 (o := o) (x := x) (db := H6.size) (S10.to ?_)
  repeat (first | exact Ent.refl | exact Ent.nil | (apply Ent.pick; (focus (repeat (first | exact Sel.here | apply Sel.there)))))
theorem law_ok {s0 s1 s2 : Int} :
    CallsH Tryz.prog 4 ⟨[.int .i64 s0, .int .i64 s1, .int .i64 s2]⟩ H0 (Gives (.bool true) H0) := by
  refine F4.calls ?_
  unfold F4.go
  refine iteB_i (fun h => ?_) (fun a0 => ?_)
  · exact ⟨rfl, ExtH.refl _⟩
  refine iteB_i (fun h => ?_) (fun a1 => ?_)
  · exact ⟨rfl, ExtH.refl _⟩
  refine iteB_i (fun h => ?_) (fun a2 => ?_)
  · exact ⟨rfl, ExtH.refl _⟩
  have a0 := of_decide_eq_false a0
  have a1 := of_decide_eq_false a1
  have a2 := of_decide_eq_false a2
  have em : IntKind.wrap .i64 (s0 * 1000000000) = s0 * 1000000000 := wr (by omega) (by omega)
  rw [em]
  refine iteB_i (fun h => ?_) (fun a3 => ?_)
  · exact ⟨rfl, ExtH.refl _⟩
  refine iteB_i (fun h => ?_) (fun a4 => ?_)
  · exact ⟨rfl, ExtH.refl _⟩
  refine iteB_i (fun h => ?_) (fun a5 => ?_)
  · exact ⟨rfl, ExtH.refl _⟩
  have a3 := of_decide_eq_false a3
  have a4 := of_decide_eq_false a4
  have a5 := of_decide_eq_false a5
  have es : IntKind.wrap .i64 (s1 + s2) = s1 + s2 := wr (by omega) (by omega)
  refine F4.L0_step ?_
  unfold F4.L0n
  rw [es, em]
  refine newX (Sat.start H0) fun r H1 E1 S1 => ?_
  have S2 : Sat H1 (sl LOp.cells 28 5 (some ⟨r, 0, none⟩) 5 5 (opsR s0 s1 (s1 + s2)) :: [old H0]) := by
    refine S1.to ?_
    have := Ent.slClose (f := LOp.cells) (E := 28) (z := 5) (n := 5) (c := 5) (xs := opsR s0 s1 (s1 + s2)) (r := r) (o := 0) (pre := []) (sp := []) (m := [old H0]) rfl (by simp) (by omega) rfl (by simp)
    simpa using this
  refine call_of (leases_ok (ttl := s0) (first := s1) (later := s2) (by omega) (by omega) (by omega) (by omega) (by omega) (by omega) S2) ?_
  rintro e H2 ⟨q, c, outs, rfl, ⟨hl, ⟨o2, h2, x2, y2⟩, ⟨o3, h3, x3⟩, ⟨o4, h4, x4⟩⟩, S3⟩
  have E3 : ExtH H0 H2 := S3.old (by simp)
  refine ⟨_, _, _, rfl, ?_⟩
  refine iteB_f rfl ?_
  have i2 : HasI outs (2 : Int) o2 := ⟨h2⟩
  have i3 : HasI outs (3 : Int) o3 := ⟨h3⟩
  have i4 : HasI outs (4 : Int) o4 := ⟨h4⟩
  refine Sat.idx (f := LAn.cells) (E := 32) (z := 8) (xs := outs) (n := 5) (c := c) S3 ⟨by omega, by omega, fun r0 o0 hr0 => ?_⟩
  subst hr0
  (repeat (first | (refine Step.go ?_; intros) | refine iteB_t (by decide) ?_ | refine iteB_f (by decide) ?_ | (refine Duo.mk (by first | omega | exact rfl | decide) ?_; intros) | (refine Duo.mk (Clo.mk (by kernel_rfl)) ?_; intros)))
  rw [x2]
  refine iteB_f rfl ?_
  refine Sat.idx (f := LAn.cells) (E := 32) (z := 8) (xs := outs) (n := 5) (c := c) S3 ⟨by omega, by omega, fun r0 o0 hr0 => ?_⟩
  cases hr0
  (repeat (first | (refine Step.go ?_; intros) | refine iteB_t (by decide) ?_ | refine iteB_f (by decide) ?_ | (refine Duo.mk (by first | omega | exact rfl | decide) ?_; intros) | (refine Duo.mk (Clo.mk (by kernel_rfl)) ?_; intros)))
  rw [y2]
  refine iteB_f (by simp) ?_
  refine Sat.idx (f := LAn.cells) (E := 32) (z := 8) (xs := outs) (n := 5) (c := c) S3 ⟨by omega, by omega, fun r0 o0 hr0 => ?_⟩
  cases hr0
  (repeat (first | (refine Step.go ?_; intros) | refine iteB_t (by decide) ?_ | refine iteB_f (by decide) ?_ | (refine Duo.mk (by first | omega | exact rfl | decide) ?_; intros) | (refine Duo.mk (Clo.mk (by kernel_rfl)) ?_; intros)))
  have ew : IntKind.wrap .i64 (s0 * 1000000000 - s2) = s0 * 1000000000 - s2 := wr (by omega) (by omega)
  rw [x4, ew]
  refine iteB_f (by simp) ?_
  refine F4.L1_step ?_
  unfold F4.L1n
  refine Sat.idx (f := LAn.cells) (E := 32) (z := 8) (xs := outs) (n := 5) (c := c) S3 ⟨by omega, by omega, fun r0 o0 hr0 => ?_⟩
  cases hr0
  (repeat (first | (refine Step.go ?_; intros) | refine iteB_t (by decide) ?_ | refine iteB_f (by decide) ?_ | (refine Duo.mk (by first | omega | exact rfl | decide) ?_; intros) | (refine Duo.mk (Clo.mk (by kernel_rfl)) ?_; intros)))
  refine ⟨?_, E3⟩
  rw [x3, em]
  by_cases h : s0 * 1000000000 ≤ s2
  · rw [if_pos h, decide_eq_true (show s2 ≥ s0 * 1000000000 from h)]
    rfl
  · rw [if_neg h, decide_eq_false (show ¬ s2 ≥ s0 * 1000000000 from h)]
    rfl
end
end Go.Proofs.YtkenjnllegbmjaaGreat
