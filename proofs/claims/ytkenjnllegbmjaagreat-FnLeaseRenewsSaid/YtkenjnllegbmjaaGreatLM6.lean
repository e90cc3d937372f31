/- What functions of this seat do, each proved by a walk; no condition. -/
import Derived.Test.YtkenjnllegbmjaaGreatLM5
set_option linter.unusedVariables false
set_option linter.unusedSimpArgs false
set_option linter.unnecessarySimpa false
set_option maxRecDepth 100000
namespace Go.Proofs.YtkenjnllegbmjaaGreat
open Go Go.Den Go.Proofs
/-! A lease is granted by the primary lessor. -/
/-- A backend with an empty bucket of leases, nothing pending. -/
structure BEf where
  bt : Nat
  tx : Nat
  db : Nat
  be : Nat
  rt : Nat
  rm : Nat
  rb : Nat
  c : Nat
  m1 : Nat
  m2 : Nat
  x : BkI
  p : Option Addr
  mu : Option Addr
  rx : Option Addr
  wg : Option Addr
  cm : Int
  ver : Int
  g : PH
  hx : BkG g x
  hx0 : x.xs = []
  hxn : x.name.s = nL
abbrev BEf.P (b : BEf) (l : List HP) : List HP :=
  pt b.be (beO b.cm b.db 1000 (some ⟨b.bt, 0, none⟩) b.rt) :: pt b.bt (btO b.tx b.be 0 (some b.m1) (some b.m2) 0) :: txM b.tx b.db true false [b.x] b.p b.c b.g (mpB b.m1 [] :: mpS b.m2 [] :: pt b.rt (rtO b.rm b.ver b.mu b.rx b.rb b.wg) :: mpB b.rm [] :: l)
theorem one_kt {its : List It} {t : Int} (h : (its.map kt).Perm [(1, t)]) : ∃ b, its = [⟨b, 1, t⟩] := by
  have h1 := List.perm_singleton.1 h
  cases its with
  | nil => cases h1
  | cons x r =>
    cases r with
    | cons y r => simp at h1
    | nil =>
      obtain ⟨b, i, u⟩ := x
      simp only [List.map_cons, List.map_nil, kt, List.cons.injEq, Prod.mk.injEq, and_true] at h1
      obtain ⟨rfl, rfl⟩ := h1
      exact ⟨b, rfl⟩
/-- A queue with one lease. -/
structure Q1 (t : Int) where
  nm : Nat
  p : Option Addr
  n : Nat
  c : Nat
  b : Nat
  m : List (Int × Nat)
  inv : Inv [⟨b, 1, t⟩] m n
abbrev Q1.P {t : Int} (q : Q1 t) (nt : Nat) (l : List HP) : List HP := nqs nt q.nm q.p q.n q.c [⟨q.b, 1, t⟩] q.m l
section
variable {H H0 : Heap} {l l' : List HP} {g : PH} {le : Nat} {f : LeF} {dc : Nat} {rd : Value} {ttl now t : Int}
theorem Q1.len {q : Q1 t} {nt : Nat} (S : Sat H (q.P nt l)) : q.n = 1 := by
  have := (qs_len S).1
  simpa using this.symm
theorem grant_ok {b : BEf} {nm c : Nat} {p : Option Addr} (hbe : f.be = b.be) (n0 : 0 ≤ now) (n1 : now ≤ 2305843009213693952) (h0 : 0 ≤ ttl) (h1 : ttl ≤ 1000000000) (I : Inv [] [] 0)
    (S : Sat H (pt le (leO f (some dc) rd) :: mpL f.lm [] :: pt f.ck (ckO now) :: nqs f.nt nm p 0 c [] [] (b.P l))) :
    CallsH Tryz.prog 192 ⟨[pv le, .int .i64 1, .int .i64 ttl]⟩ H (fun e H1 => ∃ (ls im ch : Nat) (q : Q1 (now + ttl * 1000000000)), e = .returned (.tuple ⟨[pv ls, .nilIface]⟩) ∧
      Sat H1 (pt le (leO f (some dc) rd) :: mpL f.lm [(1, ls)] :: pt f.ck (ckO now) :: pt ls (lsT f.ck ttl (now + ttl * 1000000000) im (some ch)) :: pt im (.map #[] 0) :: q.P f.nt l)) := by
  refine F192.calls ?_
  unfold F192.go
  refine iteB_f rfl ?_
  refine iteB_f (decide_eq_false (by omega)) ?_
  refine call_of (newLease_ok (ttl := ttl) (id := 1) S) ?_
  rintro e H1 ⟨ls, im, ch, rfl, S1⟩
  clear S
  (repeat (first | (refine Step.go ?_; intros) | refine iteB_t (by decide) ?_ | refine iteB_f (by decide) ?_ | (refine Duo.mk (by first | omega | exact rfl | decide) ?_; intros) | (refine Duo.mk (Clo.mk (by kernel_rfl)) ?_; intros)))
  rename_i H2 S2
  clear S1
  refine zf_i (by kernel_rfl) (S2.obj (r := le) (o := leO f (some dc) rd)) fun a => ?_
  refine gives_i S2 lk115 fun H3 E3 S3 => ?_
  clear S2
  refine tTup_nil ⟨fun ch H h => (by obtain ⟨_, _, _, _, h, _⟩ := h; cases h), guardB_t (by kernel_rfl) ?_⟩
  refine nilD_i (zf_i (by kernel_rfl) (S3.obj (r := le) (o := leO f (some dc) rd)) fun a => ?_)
  (repeat (first | (refine Step.go ?_; intros) | refine iteB_t (by decide) ?_ | refine iteB_f (by decide) ?_ | (refine Duo.mk (by first | omega | exact rfl | decide) ?_; intros) | (refine Duo.mk (Clo.mk (by kernel_rfl)) ?_; intros)))
  refine ⟨fun v hv => (by cases hv), fun _ => ?_⟩
  (repeat (first | (refine Step.go ?_; intros) | refine iteB_t (by decide) ?_ | refine iteB_f (by decide) ?_ | (refine Duo.mk (by first | omega | exact rfl | decide) ?_; intros) | (refine Duo.mk (Clo.mk (by kernel_rfl)) ?_; intros)))
  refine iteB_f (decide_eq_false (by omega)) ?_
  refine F192.L0_step ?_
  unfold F192.L0n
  refine gives_i S3 (prim_ok (S3.obj (r := le) (o := leO f (some dc) rd))) fun H4 E4 S4 => ?_
  clear S3
  (repeat (first | (refine Step.go ?_; intros) | refine iteB_t (by decide) ?_ | refine iteB_f (by decide) ?_ | (refine Duo.mk (by first | omega | exact rfl | decide) ?_; intros) | (refine Duo.mk (Clo.mk (by kernel_rfl)) ?_; intros)))
  refine call_of (refresh_ok (ck := f.ck) (now := now) (ls := ls) (ttl := ttl) (im := im) (ch := some ch) n0 n1 h0 h1 (S4.to (m := pt ls (lsO (some ⟨f.ck, 0, none⟩) 1 ttl 0 0 false im (some ch)) :: pt f.ck (ckO now) :: pt im (.map #[] 0) :: pt le (leO f (some dc) rd) :: mpL f.lm [] :: nqs f.nt nm p 0 c [] [] (b.P l)) (by
    iterate 5 (apply Ent.pick; (focus (repeat (first | exact Sel.here | apply Sel.there))))
    exact .refl))) ?_
  rintro e H5 ⟨rfl, S5⟩
  clear S4
  refine tTup_nil ?_
  refine F192.L1_step ?_
  unfold F192.L1n
  refine nilD_i ?_
  (repeat (first | (refine Step.go ?_; intros) | refine iteB_t (by decide) ?_ | refine iteB_f (by decide) ?_ | (refine Duo.mk (by first | omega | exact rfl | decide) ?_; intros) | (refine Duo.mk (Clo.mk (by kernel_rfl)) ?_; intros)))
  rename_i H6 S6
  clear S5
  have e1 : mset ([] : List (Int × Nat)) 1 ls = [(1, ls)] := rfl
  rw [e1] at S6
  rw [hbe]
  refine call_of (persist_ok (ls := ls) (ttl := ttl) (cko := some ⟨f.ck, 0, none⟩) (id := 1) (t0 := (now + ttl * 1000000000) / G9) (t1 := (now + ttl * 1000000000) % G9) (tb := true) (im := im) (ch := some ch) (be := b.be) (bt := b.bt) (tx := b.tx) (db := b.db) (rt := b.rt) (rm := b.rm) (rb := b.rb) (m1 := b.m1) (m2 := b.m2) (lim := 1000) (c := b.c) (x := b.x) (p := b.p) (mu := b.mu) (rx := b.rx) (wg := b.wg) (cm := b.cm) (ver := b.ver) (g := b.g) (dn := false) (l := pt le (leO f (some dc) rd) :: mpL f.lm [(1, ls)] :: pt f.ck (ckO now) :: pt im (.map #[] 0) :: nqs f.nt nm p 0 c [] [] l) (by omega) b.hx b.hx0 b.hxn (S6.to (by
    iterate 19 (apply Ent.pick; (focus (repeat (first | exact Sel.here | apply Sel.there))))
    exact .refl))) ?_
  rintro e H7 ⟨rfl, S7⟩
  clear S6
  refine tTup_nil ?_
  refine gives_i S7 (prim_ok (S7.obj (r := le) (o := leO f (some dc) rd))) fun H8 E8 S8 => ?_
  clear S7
  (repeat (first | (refine Step.go ?_; intros) | refine iteB_t (by decide) ?_ | refine iteB_f (by decide) ?_ | (refine Duo.mk (by first | omega | exact rfl | decide) ?_; intros) | (refine Duo.mk (Clo.mk (by kernel_rfl)) ?_; intros)))
  refine iteB_t rfl ?_
  (repeat (first | (refine Step.go ?_; intros) | refine iteB_t (by decide) ?_ | refine iteB_f (by decide) ?_ | (refine Duo.mk (by first | omega | exact rfl | decide) ?_; intros) | (refine Duo.mk (Clo.mk (by kernel_rfl)) ?_; intros)))
  rename_i it H9 S9
  clear S8
  refine call_of (reg_ok (mq := f.nt) (mb := nm) (p := p) (n := 0) (c := c) (its := []) (m := []) (b := it) (id := 1) (t := now + ttl * 1000000000) (l := pt le (leO f (some dc) rd) :: mpL f.lm [(1, ls)] :: pt f.ck (ckO now) :: pt ls (lsT f.ck ttl (now + ttl * 1000000000) im (some ch)) :: pt im (.map #[] 0) :: l) (by omega) I (S9.to (by
    iterate 10 (apply Ent.pick; (focus (repeat (first | exact Sel.here | apply Sel.there))))
    exact .refl))) ?_
  rintro e H10 ⟨p', n', c', its', m', rfl, I', hn', hp, S10⟩
  clear S9
  obtain ⟨ib, rfl⟩ := one_kt hp
  refine tTup_nil ?_
  refine gives_i S10 (sched_ok (le := le) (f := f) (dc := some dc) (rd := rd) (l := []) (S10.to (by
    iterate 1 (apply Ent.pick; (focus (repeat (first | exact Sel.here | apply Sel.there))))
    exact .nil))) fun H11 E11 S11 => ?_
  refine tTup_nil ?_
  refine ⟨ls, im, ch, ⟨nm, p', n', c', ib, m', I'⟩, rfl, S11.to ?_⟩
  iterate 9 (apply Ent.pick; (focus (repeat (first | exact Sel.here | apply Sel.there))))
  exact .refl
end
end Go.Proofs.YtkenjnllegbmjaaGreat

set_option linter.unusedVariables false
set_option linter.unusedSimpArgs false
set_option linter.unnecessarySimpa false
set_option maxRecDepth 100000
namespace Go.Proofs.YtkenjnllegbmjaaGreat
open Go Go.Den Go.Proofs
/-! A lease is renewed. -/
/-- A primary lessor with one lease. -/
structure Ls where
  le : Nat
  f : LeF
  dc : Nat
  rd : Value
  ls : Nat
  im : Nat
  ch : Nat
  ttl : Int
abbrev Ls.P (s : Ls) (now t : Int) {u : Int} (q : Q1 u) (l : List HP) : List HP := pt s.le (leO s.f (some s.dc) s.rd) :: mpL s.f.lm [(1, s.ls)] :: pt s.f.ck (ckO now) :: pt s.ls (lsT s.f.ck s.ttl t s.im (some s.ch)) :: pt s.im (.map #[] 0) :: q.P s.f.nt l
section
variable {H H0 : Heap} {l l' : List HP} {s : Ls} {now t u : Int} {q : Q1 u}
theorem lease_i {K : Value → Heap → Prop} {Q : List PanicEntry → Heap → Prop} (S : Sat H (s.P now t q l)) (k : K (pv s.ls) H) : valD Tryz.prog (Instr.lookup 128 (.map (some s.f.lm)) (.int .i64 1) false) H Q K := by
  refine Sat.lookup S (fk := Value.int .i64) (fv := pv) (r := s.f.lm) (m := [(1, s.ls)]) (by simp) MI128 1 (fun v hv => ?_) (fun h => by simp [mget] at h)
  have hv : v = s.ls := by simpa [mget] using hv.symm
  subst hv
  exact k
theorem expiredL_ok (n0 : 0 ≤ now) (n1 : now ≤ 4611686018427387904) (t0 : 0 ≤ t) (t1 : t ≤ 4611686018427387904) (S : Sat H (s.P now t q l)) : CallsH Tryz.prog 40 ⟨[pv s.ls]⟩ H (Gives (.bool (decide (t - now ≤ 0))) H) :=
  expired_ok n0 n1 t0 t1 (S.to (m := pt s.ls (lsT s.f.ck s.ttl t s.im (some s.ch)) :: pt s.f.ck (ckO now) :: []) (by
    iterate 2 (apply Ent.pick; (focus (repeat (first | exact Sel.here | apply Sel.there))))
    exact .nil))
theorem waits_ok (n0 : 0 ≤ now) (n1 : now ≤ 4611686018427387904) (t0 : 0 ≤ t) (t1 : t ≤ 4611686018427387904) (S : Sat H (s.P now t q l)) :
    CallsH Tryz.prog 26 ⟨[.iface 118 (pv s.le), .int .i64 1]⟩ H (Gives (.bool (decide (t - now ≤ 0))) H) := by
  refine F26.calls (l := .mk 118 (pv s.le)) ?_
  unfold F26.go
  refine assert_same (by kernel_rfl) ?_
  refine ⟨_, rfl, nilD_i ?_⟩
  have hle := S.obj (r := s.le) (o := leO s.f (some s.dc) s.rd)
  refine ⟨_, cellOf (off := 1) (T := 138) S (List.mem_cons_self ..) rfl, ?_⟩
  refine lease_i S ?_
  refine ⟨_, rfl, ?_⟩
  refine g_i (prim_ok hle) fun H1 E1 => ?_
  refine ⟨_, rfl, ?_⟩
  refine iteB_t rfl ?_
  refine iteB_t rfl ?_
  refine g_i (expiredL_ok n0 n1 t0 t1 (S.ext E1)) fun H2 E2 => ?_
  exact ⟨_, rfl, rfl, E1.trans E2⟩
theorem renew_ok (n0 : 0 ≤ now) (n1 : now ≤ 2305843009213693952) (t0 : 0 ≤ t) (t1 : t ≤ 4611686018427387904) (h0 : 0 ≤ s.ttl) (h1 : s.ttl ≤ 1000000000) (hlt : now < t) (S : Sat H (s.P now t q l)) :
    CallsH Tryz.prog 197 ⟨[pv s.le, .int .i64 1]⟩ H (fun e H1 => e = .returned (.tuple ⟨[.int .i64 s.ttl, .nilIface]⟩) ∧ ∃ q' : Q1 (now + s.ttl * 1000000000), Sat H1 (s.P now (now + s.ttl * 1000000000) q' l)) := by
  refine F197.calls ?_
  unfold F197.go
  refine nilD_i (zf_i (by kernel_rfl) (S.obj (r := s.le) (o := leO s.f (some s.dc) s.rd)) fun a => ?_)
  refine gives_i S lk31 fun H1 E1 S1 => ?_
  clear S
  refine tTup_nil ?_
  refine gives_i S1 (prim_ok (S1.obj (r := s.le) (o := leO s.f (some s.dc) s.rd))) fun H2 E2 S2 => ?_
  clear S1
  refine ⟨_, rfl, iteB_f rfl ?_⟩
  refine nilD_i ⟨_, cellOf (off := 0) (T := 138) S2 (List.mem_cons_self ..) rfl, ?_⟩
  refine nilD_i ⟨_, cellOf (off := 1) (T := 138) S2 (List.mem_cons_self ..) rfl, ?_⟩
  refine lease_i S2 ?_
  refine ⟨_, rfl, ?_⟩
  refine iteB_f rfl ?_
  refine nilD_i ?_
  (repeat (first | (refine Step.go ?_; intros) | refine iteB_t (by decide) ?_ | refine iteB_f (by decide) ?_ | (refine Duo.mk (by first | omega | exact rfl | decide) ?_; intros) | (refine Duo.mk (Clo.mk (by kernel_rfl)) ?_; intros)))
  refine F197.L0_step ?_
  unfold F197.L0n
  refine nilD_i (zf_i (by kernel_rfl) (S2.obj (r := s.le) (o := leO s.f (some s.dc) s.rd)) fun a => ?_)
  refine gives_i S2 lk32 fun H3 E3 S3 => ?_
  clear S2
  refine tTup_nil ?_
  refine gives_i S3 (expiredL_ok n0 (by omega) t0 t1 S3) fun H4 E4 S4 => ?_
  clear S3
  refine ⟨_, rfl, iteB_f (decide_eq_false (by omega)) ?_⟩
  refine F197.L1_step ?_
  unfold F197.L1n
  refine iteB_f rfl ?_
  refine F197.L3_step ?_
  unfold F197.L3n
  refine nilD_i (zf_i (by kernel_rfl) (S4.obj (r := s.le) (o := leO s.f (some s.dc) s.rd)) fun a => ?_)
  refine gives_i S4 lk115 fun H5 E5 S5 => ?_
  clear S4
  refine tTup_nil ?_
  refine nilD_i ⟨_, cellOf (off := 1) (T := 138) S5 (List.mem_cons_self ..) rfl, ?_⟩
  refine lease_i S5 ?_
  refine ⟨_, rfl, ?_⟩
  refine iteB_f rfl ?_
  refine call_of (refresh_ok (ck := s.f.ck) (now := now) (ls := s.ls) (ttl := s.ttl) (im := s.im) (ch := some s.ch) n0 n1 h0 h1 (S5.to (m := pt s.ls (lsT s.f.ck s.ttl t s.im (some s.ch)) :: pt s.f.ck (ckO now) :: pt s.le (leO s.f (some s.dc) s.rd) :: mpL s.f.lm [(1, s.ls)] :: pt s.im (.map #[] 0) :: q.P s.f.nt l) (by
    iterate 5 (apply Ent.pick; (focus (repeat (first | exact Sel.here | apply Sel.there))))
    exact .refl))) ?_
  rintro e H6 ⟨rfl, S6⟩
  clear S5
  refine tTup_nil ?_
  (repeat (first | (refine Step.go ?_; intros) | refine iteB_t (by decide) ?_ | refine iteB_f (by decide) ?_ | (refine Duo.mk (by first | omega | exact rfl | decide) ?_; intros) | (refine Duo.mk (Clo.mk (by kernel_rfl)) ?_; intros)))
  rename_i it H7 S7
  clear S6
  have hqn : q.n = 1 := Q1.len (q := q) (nt := s.f.nt) (l := []) (S7.to (by
    iterate 4 (apply Ent.pick; (focus (repeat (first | exact Sel.here | apply Sel.there))))
    exact .nil))
  refine call_of (reg_ok (mq := s.f.nt) (mb := q.nm) (p := q.p) (n := q.n) (c := q.c) (its := [⟨q.b, 1, u⟩]) (m := q.m) (b := it) (id := 1) (t := now + s.ttl * 1000000000) (l := pt s.ls (lsT s.f.ck s.ttl (now + s.ttl * 1000000000) s.im (some s.ch)) :: pt s.f.ck (ckO now) :: pt s.le (leO s.f (some s.dc) s.rd) :: mpL s.f.lm [(1, s.ls)] :: pt s.im (.map #[] 0) :: l) (by omega) q.inv (S7.to (by
    iterate 10 (apply Ent.pick; (focus (repeat (first | exact Sel.here | apply Sel.there))))
    exact .refl))) ?_
  rintro e H10 ⟨p', n', c', its', m', rfl, I', hn', hp, S10⟩
  clear S7
  have hp : (its'.map kt).Perm [(1, now + s.ttl * 1000000000)] := by simpa [kt] using hp
  obtain ⟨ib, rfl⟩ := one_kt hp
  refine tTup_nil ?_
  refine nilD_i (zf_i (by kernel_rfl) (S10.obj (r := s.le) (o := leO s.f (some s.dc) s.rd)) fun a => ?_)
  refine gives_i S10 lk120 fun H11 E11 S11 => ?_
  clear S10
  refine tTup_nil ?_
  (repeat (first | (refine Step.go ?_; intros) | refine iteB_t (by decide) ?_ | refine iteB_f (by decide) ?_ | (refine Duo.mk (by first | omega | exact rfl | decide) ?_; intros) | (refine Duo.mk (Clo.mk (by kernel_rfl)) ?_; intros)))
  refine ⟨rfl, ⟨q.nm, p', n', c', ib, m', I'⟩, S11.to ?_⟩
  iterate 9 (apply Ent.pick; (focus (repeat (first | exact Sel.here | apply Sel.there))))
  exact .refl
end
end Go.Proofs.YtkenjnllegbmjaaGreat

set_option linter.unusedVariables false
set_option linter.unusedSimpArgs false
set_option linter.unnecessarySimpa false
set_option maxRecDepth 100000
namespace Go.Proofs.YtkenjnllegbmjaaGreat
open Go Go.Den Go.Proofs
/-! What has expired. -/
section
variable {H H0 : Heap} {l l' : List HP} {s : Ls} {now t u w : Int} {q : Q1 u} {nt : Nat}
theorem Q1.opn (S : Sat H (q.P nt l)) : Sat H (it 0 ⟨q.b, 1, u⟩ :: qb nt q.nm q.p q.n q.c :: qsl q.p q.n q.c [⟨q.b, 1, u⟩] :: mp (Value.int .i64) pv q.nm q.m :: l) := by
  have S1 : Sat H (star [it 0 ⟨q.b, 1, u⟩] :: qb nt q.nm q.p q.n q.c :: qsl q.p q.n q.c [⟨q.b, 1, u⟩] :: mp (Value.int .i64) pv q.nm q.m :: l) := by
    refine S.to ?_
    iterate 4 (apply Ent.pick; (focus (repeat (first | exact Sel.here | apply Sel.there))))
    exact .refl
  exact S1.to (Ent.starL .refl)
theorem Q1.cls {q : Q1 w} (S : Sat H (it 0 ⟨q.b, 1, w⟩ :: qb nt q.nm q.p q.n q.c :: qsl q.p q.n q.c [⟨q.b, 1, w⟩] :: mp (Value.int .i64) pv q.nm q.m :: l)) : Sat H (q.P nt l) := by
  have S1 : Sat H (star [it 0 ⟨q.b, 1, w⟩] :: qb nt q.nm q.p q.n q.c :: qsl q.p q.n q.c [⟨q.b, 1, w⟩] :: mp (Value.int .i64) pv q.nm q.m :: l) := S.to (Ent.star .refl)
  refine S1.to ?_
  iterate 4 (apply Ent.pick; (focus (repeat (first | exact Sel.here | apply Sel.there))))
  exact .refl
theorem Q1.meq (q : Q1 u) : q.m = [(1, q.b)] := by
  have := q.inv.perm
  simp only [List.map_cons, List.map_nil] at this
  exact (List.perm_singleton.1 this.symm)
def Q1.re (q : Q1 u) (w : Int) (hn : q.n = 1) : Q1 w := ⟨q.nm, q.p, q.n, q.c, q.b, q.m, ⟨by
  rw [hn]; intro i h0 h1; omega, q.inv.perm, q.inv.nd⟩⟩
/-- The element that is in the queue is registered again. -/
theorem regSame_ok (S : Sat H (q.P nt l)) : CallsH Tryz.prog 91 ⟨[pv nt, pv q.b]⟩ H (fun e H1 => e = .returned (.tuple ⟨[]⟩) ∧ ∃ q' : Q1 u, q'.b = q.b ∧ Sat H1 (q'.P nt l)) := by
  have hn := Q1.len S
  have S1 := Q1.opn S
  clear S
  rw [q.meq] at S1
  refine F91.calls ?_
  unfold F91.go
  (repeat (first | (refine Step.go ?_; intros) | refine iteB_t (by decide) ?_ | refine iteB_f (by decide) ?_ | (refine Duo.mk (by first | omega | exact rfl | decide) ?_; intros) | (refine Duo.mk (Clo.mk (by kernel_rfl)) ?_; intros)))
  refine ⟨fun v hv => ?_, fun h => by simp [mget] at h⟩
  have hv : v = q.b := by simpa [mget] using hv.symm
  subst hv
  (repeat (first | (refine Step.go ?_; intros) | refine iteB_t (by decide) ?_ | refine iteB_f (by decide) ?_ | (refine Duo.mk (by first | omega | exact rfl | decide) ?_; intros) | (refine Duo.mk (Clo.mk (by kernel_rfl)) ?_; intros)))
  rename_i H2 S2
  clear S1
  rw [← q.meq] at S2
  have S3 := Q1.cls S2
  clear S2
  refine call_of (fix_ok (mq := nt) (mb := q.nm) (p := q.p) (n := q.n) (c := q.c) (i := 0) (its := [⟨q.b, 1, u⟩]) (l := mp (Value.int .i64) pv q.nm q.m :: l) (by omega) (by omega) ⟨fun k k0 kn _ _ => by omega, fun k k0 kn _ h => by omega⟩ S3) ?_
  rintro e H3 ⟨its', rfl, hpm, hh, S4⟩
  obtain rfl := List.perm_singleton.1 hpm
  (repeat (first | (refine Step.go ?_; intros) | refine iteB_t (by decide) ?_ | refine iteB_f (by decide) ?_ | (refine Duo.mk (by first | omega | exact rfl | decide) ?_; intros) | (refine Duo.mk (Clo.mk (by kernel_rfl)) ?_; intros)))
  exact ⟨rfl, q, rfl, S4⟩
end
end Go.Proofs.YtkenjnllegbmjaaGreat

set_option linter.unusedVariables false
set_option linter.unusedSimpArgs false
set_option linter.unnecessarySimpa false
set_option maxRecDepth 100000
namespace Go.Proofs.YtkenjnllegbmjaaGreat
open Go Go.Den Go.Proofs
section
variable {H H0 : Heap} {l l' : List HP} {s : Ls} {now t u w : Int} {q : Q1 u} {nt : Nat}
theorem expire_ok (n0 : 0 ≤ now) (n1 : now ≤ 2305843009213693952) (S : Sat H (s.P now t q l)) : CallsH Tryz.prog 66 ⟨[pv s.le]⟩ H (fun e H1 => (now < u ∧ e = .returned (.tuple ⟨[.pointer none, .bool false]⟩) ∧ Sat H1 (s.P now t q l)) ∨
    (¬ now < u ∧ e = .returned (.tuple ⟨[pv s.ls, .bool false]⟩) ∧ ∃ q' : Q1 (now + 3000000000), Sat H1 (s.P now t q' l))) := by
  have S0 : Sat H (q.P s.f.nt (pt s.le (leO s.f (some s.dc) s.rd) :: mpL s.f.lm [(1, s.ls)] :: pt s.f.ck (ckO now) :: pt s.ls (lsT s.f.ck s.ttl t s.im (some s.ch)) :: pt s.im (.map #[] 0) :: l)) := S.to (by
    iterate 9 (apply Ent.pick; (focus (repeat (first | exact Sel.here | apply Sel.there))))
    exact .refl)
  clear S
  have hn := Q1.len S0
  refine F66.calls ?_
  unfold F66.go
  (repeat (first | (refine Step.go ?_; intros) | refine iteB_t (by decide) ?_ | refine iteB_f (by decide) ?_ | (refine Duo.mk (by first | omega | exact rfl | decide) ?_; intros) | (refine Duo.mk (Clo.mk (by kernel_rfl)) ?_; intros)))
  refine call_of (len_ok q.inv S0) ?_
  rintro e H1 ⟨rfl, S1⟩
  clear S0
  refine ⟨_, rfl, ?_⟩
  refine iteB_f (by rw [hn]; rfl) ?_
  (repeat (first | (refine Step.go ?_; intros) | refine iteB_t (by decide) ?_ | refine iteB_f (by decide) ?_ | (refine Duo.mk (by first | omega | exact rfl | decide) ?_; intros) | (refine Duo.mk (Clo.mk (by kernel_rfl)) ?_; intros)))
  refine call_of (peek_ok q.inv S1) ?_
  rintro e H2 ⟨rfl, S2⟩
  clear S1
  have S3 := Q1.opn (q := q) (u := u) S2
  clear S2
  show tPtr (pv q.b) _
  (repeat (first | (refine Step.go ?_; intros) | refine iteB_t (by decide) ?_ | refine iteB_f (by decide) ?_ | (refine Duo.mk (by first | omega | exact rfl | decide) ?_; intros) | (refine Duo.mk (Clo.mk (by kernel_rfl)) ?_; intros)))
  refine ⟨fun v hv => ?_, fun h => by simp [mget] at h⟩
  have hv : v = s.ls := by simpa [mget] using hv.symm
  subst hv
  refine ⟨_, rfl, ?_⟩
  refine iteB_f rfl ?_
  (repeat (first | (refine Step.go ?_; intros) | refine iteB_t (by decide) ?_ | refine iteB_f (by decide) ?_ | (refine Duo.mk (by first | omega | exact rfl | decide) ?_; intros) | (refine Duo.mk (Clo.mk (by kernel_rfl)) ?_; intros)))
  refine gives_i S3 (now_ok (ck := s.f.ck) (t := now) (T := 45) (l := []) (S3.to (by
    iterate 1 (apply Ent.pick; (focus (repeat (first | exact Sel.here | apply Sel.there))))
    exact .nil))) fun H3 E3 S4 => ?_
  clear S3
  (repeat (first | (refine Step.go ?_; intros) | refine iteB_t (by decide) ?_ | refine iteB_f (by decide) ?_ | (refine Duo.mk (by first | omega | exact rfl | decide) ?_; intros) | (refine Duo.mk (Clo.mk (by kernel_rfl)) ?_; intros)))
  rename_i r H4 S5 H5 S6 H6 S7 H7 S8
  clear S4 S5 S6 S7
  refine call_of (before_ok _ _ _ _ _ _ S8) ?_
  rintro e H8 ⟨rfl, S9⟩
  clear S8
  rw [before_eq]
  refine ⟨_, rfl, ?_⟩
  refine iteB_i (fun h => ?_) (fun h => ?_)
  · have h : now < u := by simpa using h
    refine .inl ⟨h, rfl, ?_⟩
    have S10 := Q1.cls (q := q) (nt := s.f.nt) (l := pt s.le (leO s.f (some s.dc) s.rd) :: mpL s.f.lm [(1, s.ls)] :: pt s.f.ck (ckO now) :: pt s.ls (lsT s.f.ck s.ttl t s.im (some s.ch)) :: pt s.im (.map #[] 0) :: l) (S9.to (by
      iterate 9 (apply Ent.pick; (focus (repeat (first | exact Sel.here | apply Sel.there))))
      exact Ent.drop .refl))
    refine S10.to ?_
    iterate 9 (apply Ent.pick; (focus (repeat (first | exact Sel.here | apply Sel.there))))
    exact .refl
  · have h : ¬ now < u := by simpa using h
    (repeat (first | (refine Step.go ?_; intros) | refine iteB_t (by decide) ?_ | refine iteB_f (by decide) ?_ | (refine Duo.mk (by first | omega | exact rfl | decide) ?_; intros) | (refine Duo.mk (Clo.mk (by kernel_rfl)) ?_; intros)))
    refine gives_i S9 (tadd_ok now 3000000000 n0 (by omega) (by omega) (by omega) H8) fun H9 E9 S10 => ?_
    clear S9
    (repeat (first | (refine Step.go ?_; intros) | refine iteB_t (by decide) ?_ | refine iteB_f (by decide) ?_ | (refine Duo.mk (by first | omega | exact rfl | decide) ?_; intros) | (refine Duo.mk (Clo.mk (by kernel_rfl)) ?_; intros)))
    have S11 := ‹Sat _ (_ :: _)›
    rename_i Hb Hc Hd _
    have S12 : Sat Hd ((q.re (now + 3000000000) hn).P s.f.nt (pt s.le (leO s.f (some s.dc) s.rd) :: mpL s.f.lm [(1, s.ls)] :: pt s.f.ck (ckO now) :: pt s.ls (lsT s.f.ck s.ttl t s.im (some s.ch)) :: pt s.im (.map #[] 0) :: l)) := by
      refine Q1.cls (q := q.re (now + 3000000000) hn) (S11.to ?_)
      show Ent _ (it 0 ⟨q.b, 1, now + 3000000000⟩ :: qb s.f.nt q.nm q.p q.n q.c :: qsl q.p q.n q.c [⟨q.b, 1, u⟩] :: mp (Value.int .i64) pv q.nm q.m :: _)
      iterate 9 (apply Ent.pick; (focus (repeat (first | exact Sel.here | apply Sel.there))))
      exact Ent.drop .refl
    have hr : CallsH Tryz.prog 91 ⟨[pv s.f.nt, pv q.b]⟩ Hd _ := regSame_ok (q := q.re (now + 3000000000) hn) S12
    refine call_of hr ?_
    rintro e H10 ⟨rfl, q', _, S13⟩
    refine tTup_nil ?_
    refine .inr ⟨h, rfl, q', S13.to ?_⟩
    iterate 9 (apply Ent.pick; (focus (repeat (first | exact Sel.here | apply Sel.there))))
    exact .refl
/-- The expired leases: the one, or none. -/
theorem findExp_ok (n0 : 0 ≤ now) (n1 : now ≤ 2305843009213693952) (t0 : 0 ≤ t) (t1 : t ≤ 4611686018427387904) {q : Q1 t} (S : Sat H (s.P now t q l)) :
    CallsH Tryz.prog 41 ⟨[pv s.le, .int .i64 0]⟩ H (fun e H1 => ∃ (p : Option Addr) (c w : Nat) (u : Int) (q' : Q1 u), e = .returned (.slice p (if t ≤ now then 1 else 0) c) ∧ Sat H1 (sl ptrC 84 1 p (if t ≤ now then 1 else 0) c (if t ≤ now then [s.ls] else []) :: s.P now t q' l)) := by
  refine F41.calls ?_
  unfold F41.go
  (repeat (first | (refine Step.go ?_; intros) | refine iteB_t (by decide) ?_ | refine iteB_f (by decide) ?_ | (refine Duo.mk (by first | omega | exact rfl | decide) ?_; intros) | (refine Duo.mk (Clo.mk (by kernel_rfl)) ?_; intros)))
  rename_i r H1 S1
  have e0 : repZ [Value.pointer none] (Int.toNat 16) = List.replicate 16 (Value.pointer none) := by kernel_rfl
  rw [e0] at S1
  have S2 : Sat H1 (sl ptrC 84 1 (some ⟨r, 0, none⟩) 0 16 [] :: s.P now t q l) := by
    refine S1.to ?_
    have := Ent.slClose (f := ptrC) (E := 84) (z := 1) (n := 0) (c := 16) (xs := []) (r := r) (o := 0) (pre := []) (sp := List.replicate 16 (Value.pointer none)) (m := s.P now t q l) rfl (by simp) (by omega) rfl (by simp)
    simpa using this
  clear S1 S
  refine F41.L0_step ?_
  unfold F41.L0n
  have S3 : Sat H1 (s.P now t q (sl ptrC 84 1 (some ⟨r, 0, none⟩) 0 16 [] :: l)) := S2.to (by
    iterate 10 (apply Ent.pick; (focus (repeat (first | exact Sel.here | apply Sel.there))))
    exact .refl)
  clear S2
  refine call_of (expire_ok n0 n1 S3) ?_
  rintro e H2 (⟨hlt, rfl, S4⟩ | ⟨hge, rfl, q', S4⟩)
  · rw [if_neg (by omega)]
    (repeat (first | (refine Step.go ?_; intros) | refine iteB_t (by decide) ?_ | refine iteB_f (by decide) ?_ | (refine Duo.mk (by first | omega | exact rfl | decide) ?_; intros) | (refine Duo.mk (Clo.mk (by kernel_rfl)) ?_; intros)))
    refine ⟨_, 16, 0, t, q, rfl, S4.to ?_⟩
    rw [if_neg (by omega)]
    iterate 10 (apply Ent.pick; (focus (repeat (first | exact Sel.here | apply Sel.there))))
    exact .refl
  · rw [if_pos (by omega)]
    refine ⟨_, rfl, _, _, rfl, _, rfl, _, _, rfl, _, rfl, rfl, ?_⟩
    refine iteB_f rfl ?_
    refine F41.L1_step ?_
    unfold F41.L1n
    refine iteB_f rfl ?_
    refine gives_i S4 (expiredL_ok n0 (by omega) t0 t1 S4) fun H3 E3 S5 => ?_
    clear S3 S4
    refine ⟨_, rfl, iteB_t (decide_eq_true (by omega)) ?_⟩
    refine newX S5 fun r1 H4 E4 S6 => ?_
    clear S5
    have S7 : Sat H4 (sl ptrC 84 1 (some ⟨r, 0, none⟩) 0 16 [] :: pt r1 (.cells ⟨ptrC s.ls⟩ 84) :: s.P now t q' l) := S6.to (by
      iterate 11 (apply Ent.pick; (focus (repeat (first | exact Sel.here | apply Sel.there))))
      exact .refl)
    clear S6
    refine S7.slApp (ys := [s.ls]) (d := 1) ?_ rfl (by simp) (by simp [isCell]) rfl (by decide) (by omega) fun q4 c4 H5 S8 => ?_
    · simp only [List.flatMap_cons, List.flatMap_nil, List.append_nil]
      exact cellsAt_one (S7.at_ (List.mem_cons_of_mem _ (List.mem_cons_self ..)))
    clear S7
    rw [Nat.zero_add, List.nil_append] at S8
    rw [Nat.zero_add]
    refine iteB_f rfl ?_
    refine F41.L0_step ?_
    unfold F41.L0n
    have S9 : Sat H5 (s.P now t q' (sl ptrC 84 1 q4 1 c4 [s.ls] :: l)) := S8.to (by
      iterate 10 (apply Ent.pick; (focus (repeat (first | exact Sel.here | apply Sel.there))))
      exact Ent.drop .refl)
    clear S8
    refine call_of (expire_ok n0 n1 S9) ?_
    rintro e H6 (⟨hlt, rfl, S10⟩ | ⟨hge2, rfl, q2, S10⟩)
    · refine ⟨_, rfl, _, _, rfl, _, rfl, _, _, rfl, _, rfl, rfl, ?_⟩
      refine iteB_t rfl ?_
      refine iteB_t rfl ?_
      refine ⟨q4, c4, 0, _, q', rfl, S10.to ?_⟩
      rw [if_pos (by omega)]
      iterate 10 (apply Ent.pick; (focus (repeat (first | exact Sel.here | apply Sel.there))))
      exact .refl
    · omega
end
end Go.Proofs.YtkenjnllegbmjaaGreat

set_option linter.unusedVariables false
set_option linter.unusedSimpArgs false
set_option linter.unnecessarySimpa false
set_option maxRecDepth 100000
namespace Go.Proofs.YtkenjnllegbmjaaGreat
open Go Go.Den Go.Proofs
abbrev iC (n : Int) : List Value := [.int .i64 n]
section
variable {H H0 : Heap} {l l' : List HP} {s : Ls} {now t u w : Int} {nt : Nat}
theorem zzExp_ok (n0 : 0 ≤ now) (n1 : now ≤ 2305843009213693952) (t0 : 0 ≤ t) (t1 : t ≤ 4611686018427387904) {q : Q1 t} (S : Sat H (s.P now t q l)) :
    CallsH Tryz.prog 27 ⟨[.iface 118 (pv s.le), .int .i64 0]⟩ H (fun e H1 => ∃ (p : Option Addr) (c : Nat) (u : Int) (q' : Q1 u), e = .returned (.slice p (if t ≤ now then 1 else 0) c) ∧ Sat H1 (sl iC 79 1 p (if t ≤ now then 1 else 0) c (if t ≤ now then [1] else []) :: s.P now t q' l)) := by
  refine F27.calls (l := .mk 118 (pv s.le)) ?_
  unfold F27.go
  refine assert_same (by kernel_rfl) ?_
  refine ⟨_, rfl, ?_⟩
  refine gives_i S (prim_ok (S.obj (r := s.le) (o := leO s.f (some s.dc) s.rd))) fun H1 E1 S1 => ?_
  clear S
  refine ⟨_, rfl, iteB_f rfl ?_⟩
  refine call_of (findExp_ok n0 n1 t0 t1 S1) ?_
  rintro e H2 ⟨p, c, w, u, q', rfl, S2⟩
  clear S1
  refine ⟨_, _, _, rfl, ?_⟩
  by_cases h : t ≤ now
  · simp only [if_pos h] at S2 ⊢
    refine F27.L0_step ?_
    unfold F27.L0n
    refine iteB_t rfl ?_
    refine Sat.idx (f := ptrC) (E := 84) (z := 1) (xs := [s.ls]) (n := 1) (c := c) S2 ⟨by omega, by omega, fun r0 o0 hr0 => ?_⟩
    subst hr0
    have hI : HasI [s.ls] (0 : Int) s.ls := ⟨rfl⟩
    (repeat (first | (refine Step.go ?_; intros) | refine iteB_t (by decide) ?_ | refine iteB_f (by decide) ?_ | (refine Duo.mk (by first | omega | exact rfl | decide) ?_; intros) | (refine Duo.mk (Clo.mk (by kernel_rfl)) ?_; intros)))
    have S3 := ‹Sat _ (pt _ (.cells ⟨[.int .i64 1]⟩ 79) :: _)›
    rename_i r H3 _
    clear S2
    have S4 : Sat H3 (sl iC 79 1 none 0 0 [] :: pt r (.cells ⟨iC 1⟩ 79) :: s.P now t q' l) := (S3.to (by
      iterate 1 (apply Ent.pick; (focus (repeat (first | exact Sel.here | apply Sel.there))))
      exact Ent.drop .refl)).to (Ent.slNil .refl)
    refine S4.slApp (ys := [1]) (d := 1) ?_ rfl (by simp) (by simp [isCell]) rfl (by decide) (by omega) fun q4 c4 H5 S8 => ?_
    · simp only [List.flatMap_cons, List.flatMap_nil, List.append_nil]
      exact cellsAt_one (S4.at_ (List.mem_cons_of_mem _ (List.mem_cons_self ..)))
    clear S4 S3
    refine F27.L0_step ?_
    unfold F27.L0n
    refine iteB_f rfl ?_
    refine ⟨q4, c4, u, q', rfl, S8.to (Ent.cons (Ent.drop .refl))⟩
  · simp only [if_neg h] at S2 ⊢
    refine F27.L0_step ?_
    unfold F27.L0n
    refine iteB_f rfl ?_
    exact ⟨none, 0, u, q', rfl, (S2.to (Ent.drop .refl)).to (Ent.slNil .refl)⟩
/-- A lease without items has no keys. -/
theorem keys_ok {q : Q1 u} (S : Sat H (s.P now t q l)) : CallsH Tryz.prog 23 ⟨[pv s.ls]⟩ H (fun e H1 => ∃ (p : Option Addr) (c : Nat), e = .returned (.slice p 0 c) ∧ Sat H1 (pt s.f.ck (ckO now) :: pt s.ls (lsT s.f.ck s.ttl t s.im (some s.ch)) :: l)) := by
  refine F23.calls ?_
  unfold F23.go
  refine nilD_i (zf_i (by kernel_rfl) (S.obj (r := s.ls) (o := lsT s.f.ck s.ttl t s.im (some s.ch))) fun a => ?_)
  refine gives_i S lk31 fun H1 E1 S1 => ?_
  clear S
  refine tTup_nil ?_
  (repeat (first | (refine Step.go ?_; intros) | refine iteB_t (by decide) ?_ | refine iteB_f (by decide) ?_ | (refine Duo.mk (by first | omega | exact rfl | decide) ?_; intros) | (refine Duo.mk (Clo.mk (by kernel_rfl)) ?_; intros)))
  have hm := S1.obj (r := s.im) (o := .map #[] 0)
  refine mapLen (t := 99) (kt := 95) (et := 97) rfl (by kernel_rfl) hm ?_
  show tInt (.int .i64 0) _ _
  (repeat (first | (refine Step.go ?_; intros) | refine iteB_t (by decide) ?_ | refine iteB_f (by decide) ?_ | (refine Duo.mk (by first | omega | exact rfl | decide) ?_; intros) | (refine Duo.mk (Clo.mk (by kernel_rfl)) ?_; intros)))
  rename_i r H2 S2
  clear S1
  have S3 := (S2.to (m := pt s.im (.map #[] 0) :: pt s.f.ck (ckO now) :: pt s.ls (lsT s.f.ck s.ttl t s.im (some s.ch)) :: l) (by
    iterate 3 (apply Ent.pick; (focus (repeat (first | exact Sel.here | apply Sel.there))))
    iterate 7 (apply Ent.drop)
    exact .refl)).mpNew (Value.int .i64) pv
  refine rangeNone (fk := Value.int .i64) (fv := pv) (kt := 95) (et := 97) (by kernel_rfl) S3 fun ir c H3 S4 => ?_
  clear S2 S3
  refine ⟨_, rfl, ?_⟩
  refine F23.L0_step ?_
  unfold F23.L0n
  refine nextNone S4 ?_
  (repeat (first | (refine Step.go ?_; intros) | refine iteB_t (by decide) ?_ | refine iteB_f (by decide) ?_ | (refine Duo.mk (by first | omega | exact rfl | decide) ?_; intros) | (refine Duo.mk (Clo.mk (by kernel_rfl)) ?_; intros)))
  refine zf_i (by kernel_rfl) (S4.obj (r := s.ls) (o := lsT s.f.ck s.ttl t s.im (some s.ch))) fun a => ?_
  refine gives_i S4 lk32 fun H5 E5 S5 => ?_
  refine tTup_nil ?_
  refine ⟨_, _, rfl, S5.to ?_⟩
  iterate 2 (apply Ent.pick; (focus (repeat (first | exact Sel.here | apply Sel.there))))
  iterate 2 (apply Ent.drop)
  exact .refl
end
end Go.Proofs.YtkenjnllegbmjaaGreat

set_option linter.unusedVariables false
set_option linter.unusedSimpArgs false
set_option linter.unnecessarySimpa false
set_option maxRecDepth 100000
namespace Go.Proofs.YtkenjnllegbmjaaGreat
open Go Go.Den Go.Proofs
/-! Whether a lease has no end. -/
theorem eu2 : Tryz.prog.underlying 2 = some (.int .i64) := by kernel_rfl
theorem ea2 : aggT Tryz.prog 2 = false := by kernel_rfl
theorem eu4 : Tryz.prog.underlying 4 = some .bool := by kernel_rfl
theorem ea4 : aggT Tryz.prog 4 = false := by kernel_rfl
theorem eqT42 {op : BinOp} {a0 b0 : Int} {a1 b1 : Int} {a2 b2 : Bool} {k : Bool → Prop} (h : k ([a0 == b0, a1 == b1, a2 == b2].all id)) : rawB Tryz.prog op 42 (.agg ⟨[.int .i64 a0, .int .i64 a1, .bool a2]⟩) (.agg ⟨[.int .i64 b0, .int .i64 b1, .bool b2]⟩) k := by
  refine rawB_struct (P := Tryz.prog) (fs := #[{ name := "sec", type := 2, offset := 0, embedded := false, tag := "", pkgPath := "pub-stadtholder/pub/stand/time", byteOffset := 0 }, { name := "nsec", type := 2, offset := 1, embedded := false, tag := "", pkgPath := "pub-stadtholder/pub/stand/time", byteOffset := 8 }, { name := "set", type := 4, offset := 2, embedded := false, tag := "", pkgPath := "pub-stadtholder/pub/stand/time", byteOffset := 16 }])
    (bs := [a0 == b0, a1 == b1, a2 == b2]) (by kernel_rfl) (by kernel_rfl) (by kernel_rfl) ?_ h
  refine .cons (by decide) (part_leaf eu2 ea2 rfl) (part_leaf eu2 ea2 rfl) (equalIn_int eu2) ?_
  refine .cons (by decide) (part_leaf eu2 ea2 rfl) (part_leaf eu2 ea2 rfl) (equalIn_int eu2) ?_
  refine .cons (by decide) (part_leaf eu4 ea4 rfl) (part_leaf eu4 ea4 rfl) (equalIn_bool eu4) .nil
section
variable {H H0 : Heap} {l l' : List HP} {ls ck im : Nat} {ch : Option Nat} {ttl t now : Int}
theorem demoted_ok (S : Sat H (pt ls (lsT ck ttl t im ch) :: l)) : CallsH Tryz.prog 22 ⟨[pv ls]⟩ H (fun e H1 => ∃ b, e = .returned (.bool b) ∧ ExtH H H1) := by
  refine F22.calls ?_
  unfold F22.go
  refine nilD_i (zf_i (by kernel_rfl) (S.obj (r := ls) (o := lsT ck ttl t im ch)) fun a => ?_)
  refine g_i lk31 fun H1 E1 => ?_
  refine tTup_nil ⟨fun ch H h => (by obtain ⟨_, h, _⟩ := h; cases h), guardB_t (by kernel_rfl) ?_⟩
  have S1 := S.ext E1
  clear S
  refine nilD_i (zf_i (by kernel_rfl) (S1.obj (r := ls) (o := lsT ck ttl t im ch)) fun a => ?_)
  (repeat (first | (refine Step.go ?_; intros) | refine iteB_t (by decide) ?_ | refine iteB_f (by decide) ?_ | (refine Duo.mk (by first | omega | exact rfl | decide) ?_; intros) | (refine Duo.mk (Clo.mk (by kernel_rfl)) ?_; intros)))
  refine eqT42 ?_
  exact ⟨_, rfl, E1⟩
end
end Go.Proofs.YtkenjnllegbmjaaGreat
