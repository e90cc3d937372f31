/- What functions of this seat do, each proved by a walk; no condition. -/
import Derived.Test.YtkenjnllegbmjaaGreatLM4
import Derived.Test.YtkenjnllegbmjaaGreatDenZC
set_option linter.unusedVariables false
set_option linter.unusedSimpArgs false
set_option linter.unnecessarySimpa false
set_option maxRecDepth 100000
namespace Go.Proofs.YtkenjnllegbmjaaGreat
open Go Go.Den Go.Proofs
/-! Leases. -/
instance {r : Option Nat} : IsC (.chan r) := ⟨rfl⟩
section
variable {H : Heap} {l : List HP} {r j : Nat} {a : Addr} {cs : List Value} {T : TypeId} {fr : Nat × Nat}
instance {n : Option Nat} {K : Option Nat → Prop} [S : Sat H l] [L : Loca a r j] [A : At r (.cells ⟨cs⟩ T fr) l] [N : Nth cs j (.chan n)] : Step (ldCh H a K) (K n) := ⟨fun h => ⟨_, at_cell S L A N, h⟩⟩
theorem noPan_r {v : Value} {S : Heap → Prop} {k : Prop} (h : k) : noPan (fun e H => e = .returned v ∧ S H) k := ⟨fun ch H h => (by obtain ⟨h, _⟩ := h; cases h), h⟩
theorem noPan_g {v : Value} {k : Prop} (h : k) : noPan (Gives v H) k := ⟨fun ch H h => (by obtain ⟨h, _⟩ := h; cases h), h⟩
theorem guardB_t {b : Bool} {X : Prop} (h : b = true) (x : X) : guardB b X := by subst h; exact x
theorem tTup_nil {k : Prop} (h : k) : tTup (.tuple ⟨[]⟩) fun l => tNil l k := ⟨_, rfl, rfl, h⟩
end
/-- A lease: where its clock, its set of items, its channel are; its time to live; its end. -/
abbrev lsO (ck : Option Addr) (id ttl : Int) (t0 t1 : Int) (tb : Bool) (im : Nat) (ch : Option Nat) : Obj := .cells ⟨[.int .i64 id, .pointer ck, .int .i64 ttl, .int .i64 0, .int .i64 t0, .int .i64 t1, .bool tb, .map (some im), .chan ch]⟩ 102
abbrev lsT (ck : Nat) (ttl t : Int) (im : Nat) (ch : Option Nat) : Obj := lsO (some ⟨ck, 0, none⟩) 1 ttl (t / G9) (t % G9) true im ch
abbrev ckO (t : Int) : Obj := .cells ⟨[.int .i64 (t / G9), .int .i64 (t % G9), .bool true]⟩ 45
section
variable {H H0 : Heap} {l : List HP} {ls ck im : Nat} {ch : Option Nat} {ttl t now : Int}
theorem restTtl_ok {cko : Option Addr} {id t0 t1 : Int} {tb : Bool} (S : Sat H (pt ls (lsO cko id ttl t0 t1 tb im ch) :: l)) : CallsH Tryz.prog 214 ⟨[pv ls]⟩ H (Gives (.int .i64 ttl) H) := by
  refine F214.calls ?_
  unfold F214.go
  (repeat (first | (refine Step.go ?_; intros) | refine iteB_t (by decide) ?_ | refine iteB_f (by decide) ?_ | (refine Duo.mk (by first | omega | exact rfl | decide) ?_; intros) | (refine Duo.mk (Clo.mk (by kernel_rfl)) ?_; intros)))
  exact ⟨rfl, ExtH.refl H⟩
/-- A lease's end is set anew. -/
theorem refresh_ok {t0 t1 : Int} {tb : Bool} (n0 : 0 ≤ now) (n1 : now ≤ 2305843009213693952) (h0 : 0 ≤ ttl) (h1 : ttl ≤ 1000000000) (S : Sat H (pt ls (lsO (some ⟨ck, 0, none⟩) 1 ttl t0 t1 tb im ch) :: pt ck (ckO now) :: l)) :
    CallsH Tryz.prog 207 ⟨[pv ls, .int .i64 0]⟩ H (fun e H1 => e = .returned (.tuple ⟨[]⟩) ∧ Sat H1 (pt ls (lsT ck ttl (now + ttl * 1000000000) im ch) :: pt ck (ckO now) :: l)) := by
  refine F207.calls ?_
  unfold F207.go
  (repeat (first | (refine Step.go ?_; intros) | refine iteB_t (by decide) ?_ | refine iteB_f (by decide) ?_ | (refine Duo.mk (by first | omega | exact rfl | decide) ?_; intros) | (refine Duo.mk (Clo.mk (by kernel_rfl)) ?_; intros)))
  refine gives_i S (now_ok (ck := ck) (t := now) (T := 45) (l := pt ls (lsO (some ⟨ck, 0, none⟩) 1 ttl t0 t1 tb im ch) :: l) (S.to ent_swp)) fun H1 E1 S1 => ?_
  clear S
  (repeat (first | (refine Step.go ?_; intros) | refine iteB_t (by decide) ?_ | refine iteB_f (by decide) ?_ | (refine Duo.mk (by first | omega | exact rfl | decide) ?_; intros) | (refine Duo.mk (Clo.mk (by kernel_rfl)) ?_; intros)))
  refine gives_i S1 (restTtl_ok S1) fun H2 E2 S2 => ?_
  clear S1
  (repeat (first | (refine Step.go ?_; intros) | refine iteB_t (by decide) ?_ | refine iteB_f (by decide) ?_ | (refine Duo.mk (by first | omega | exact rfl | decide) ?_; intros) | (refine Duo.mk (Clo.mk (by kernel_rfl)) ?_; intros)))
  have e1 : IntKind.wrap .i64 (0 + IntKind.wrap .i64 (ttl * 1000000000)) = ttl * 1000000000 := by
    rw [wr (i := ttl * 1000000000) (by omega) (by omega), wr (by omega) (by omega)]; omega
  rw [e1]
  refine gives_i S2 (tadd_ok now (ttl * 1000000000) n0 (by omega) (by omega) (by omega) H2) fun H3 E3 S3 => ?_
  clear S2
  (repeat (first | (refine Step.go ?_; intros) | refine iteB_t (by decide) ?_ | refine iteB_f (by decide) ?_ | (refine Duo.mk (by first | omega | exact rfl | decide) ?_; intros) | (refine Duo.mk (Clo.mk (by kernel_rfl)) ?_; intros)))
  rename_i r H4 S4 H5 S5 H6 S6 H7 S7
  clear S4 S5 S6 S3
  refine zf_i (by kernel_rfl) (S7.obj (r := ls) (o := lsO (some ⟨ck, 0, none⟩) 1 ttl t0 t1 tb im ch)) fun a => ?_
  refine gives_i S7 lk115 fun H8 E8 S8 => ?_
  refine tTup_nil ?_
  refine noPan_r (guardB_t (by kernel_rfl) ?_)
  refine nilD_i (zf_i (by kernel_rfl) (S8.obj (r := ls) (o := lsO (some ⟨ck, 0, none⟩) 1 ttl t0 t1 tb im ch)) fun a => ?_)
  clear S7
  (repeat (first | (refine Step.go ?_; intros) | refine iteB_t (by decide) ?_ | refine iteB_f (by decide) ?_ | (refine Duo.mk (by first | omega | exact rfl | decide) ?_; intros) | (refine Duo.mk (Clo.mk (by kernel_rfl)) ?_; intros)))
  refine ⟨rfl, ?_⟩
  have S9 := ‹Sat _ (_ :: _)›
  refine S9.to ?_
  iterate 2 (apply Ent.pick; (focus (repeat (first | exact Sel.here | apply Sel.there))))
  exact Ent.drop .refl
/-- What remains of a lease. -/
theorem remaining_ok (n0 : 0 ≤ now) (n1 : now ≤ 4611686018427387904) (t0 : 0 ≤ t) (t1 : t ≤ 4611686018427387904) (S : Sat H (pt ls (lsT ck ttl t im ch) :: pt ck (ckO now) :: l)) :
    CallsH Tryz.prog 21 ⟨[pv ls]⟩ H (Gives (.int .i64 (t - now)) H) := by
  have S0 := Sat.start H
  refine F21.calls ?_
  unfold F21.go
  refine nilD_i (zf_i (by kernel_rfl) (S.obj (r := ls) (o := lsT ck ttl t im ch)) fun a => ?_)
  refine g_i lk31 fun H1 E1 => ?_
  refine tTup_nil (noPan_g (guardB_t (by kernel_rfl) ?_))
  have S1 := S.ext E1
  clear S
  refine nilD_i (zf_i (by kernel_rfl) (S1.obj (r := ls) (o := lsT ck ttl t im ch)) fun a => ?_)
  (repeat (first | (refine Step.go ?_; intros) | refine iteB_t (by decide) ?_ | refine iteB_f (by decide) ?_ | (refine Duo.mk (by first | omega | exact rfl | decide) ?_; intros) | (refine Duo.mk (Clo.mk (by kernel_rfl)) ?_; intros)))
  refine g_i (isZero_ok t H1) fun H2 E2 => ?_
  have S2 := S1.ext E2
  clear S1
  (repeat (first | (refine Step.go ?_; intros) | refine iteB_t (by decide) ?_ | refine iteB_f (by decide) ?_ | (refine Duo.mk (by first | omega | exact rfl | decide) ?_; intros) | (refine Duo.mk (Clo.mk (by kernel_rfl)) ?_; intros)))
  refine g_i (now_ok (ck := ck) (t := now) (T := 45) (l := pt ls (lsT ck ttl t im ch) :: l) (S2.to ent_swp)) fun H3 E3 => ?_
  clear S2
  (repeat (first | (refine Step.go ?_; intros) | refine iteB_t (by decide) ?_ | refine iteB_f (by decide) ?_ | (refine Duo.mk (by first | omega | exact rfl | decide) ?_; intros) | (refine Duo.mk (Clo.mk (by kernel_rfl)) ?_; intros)))
  refine g_i (sub_ok t now t0 t1 n0 n1 H3) fun H4 E4 => ?_
  (repeat (first | (refine Step.go ?_; intros) | refine iteB_t (by decide) ?_ | refine iteB_f (by decide) ?_ | (refine Duo.mk (by first | omega | exact rfl | decide) ?_; intros) | (refine Duo.mk (Clo.mk (by kernel_rfl)) ?_; intros)))
  exact ⟨rfl, ((E1.trans E2).trans E3).trans E4⟩
theorem expired_ok (n0 : 0 ≤ now) (n1 : now ≤ 4611686018427387904) (t0 : 0 ≤ t) (t1 : t ≤ 4611686018427387904) (S : Sat H (pt ls (lsT ck ttl t im ch) :: pt ck (ckO now) :: l)) :
    CallsH Tryz.prog 40 ⟨[pv ls]⟩ H (Gives (.bool (decide (t - now ≤ 0))) H) := by
  refine F40.calls ?_
  unfold F40.go
  refine g_i (remaining_ok n0 n1 t0 t1 S) fun H1 E1 => ?_
  (repeat (first | (refine Step.go ?_; intros) | refine iteB_t (by decide) ?_ | refine iteB_f (by decide) ?_ | (refine Duo.mk (by first | omega | exact rfl | decide) ?_; intros) | (refine Duo.mk (Clo.mk (by kernel_rfl)) ?_; intros)))
  exact ⟨rfl, E1⟩
theorem ttl_ok {cko : Option Addr} {id t0 t1 : Int} {tb : Bool} (S : Sat H (pt ls (lsO cko id ttl t0 t1 tb im ch) :: l)) : CallsH Tryz.prog 19 ⟨[pv ls]⟩ H (Gives (.int .i64 ttl) H) := by
  refine F19.calls ?_
  unfold F19.go
  (repeat (first | (refine Step.go ?_; intros) | refine iteB_t (by decide) ?_ | refine iteB_f (by decide) ?_ | (refine Duo.mk (by first | omega | exact rfl | decide) ?_; intros) | (refine Duo.mk (Clo.mk (by kernel_rfl)) ?_; intros)))
  exact ⟨rfl, ExtH.refl H⟩
theorem newLease_ok {id : Int} (S : Sat H l) : CallsH Tryz.prog 206 ⟨[.int .i64 id, .int .i64 ttl]⟩ H (fun e H1 => ∃ (ls im ch : Nat), e = .returned (pv ls) ∧ Sat H1 (pt ls (lsO none id ttl 0 0 false im (some ch)) :: pt im (.map #[] 0) :: l)) := by
  refine F206.calls ?_
  unfold F206.go
  refine newX S fun im H1 E1 S1 => ?_
  clear S
  refine S1.mkChan (t := 100) (el := 97) (d := .both) (ie := Tryz.t97) (by kernel_rfl) (by kernel_rfl) (by omega) (by omega) (by decide) fun ch H2 S2 => ?_
  clear S1
  refine ⟨_, rfl, ?_⟩
  (repeat (first | (refine Step.go ?_; intros) | refine iteB_t (by decide) ?_ | refine iteB_f (by decide) ?_ | (refine Duo.mk (by first | omega | exact rfl | decide) ?_; intros) | (refine Duo.mk (Clo.mk (by kernel_rfl)) ?_; intros)))
  rename_i ls H3 S3
  clear S2
  refine ⟨ls, im, ch, rfl, S3.to ?_⟩
  iterate 2 (apply Ent.pick; (focus (repeat (first | exact Sel.here | apply Sel.there))))
  exact Ent.drop .refl
end
end Go.Proofs.YtkenjnllegbmjaaGreat

set_option linter.unusedVariables false
set_option linter.unusedSimpArgs false
set_option linter.unnecessarySimpa false
set_option maxRecDepth 100000
namespace Go.Proofs.YtkenjnllegbmjaaGreat
open Go Go.Den Go.Proofs
/-! Sorting nothing. -/
section
variable {H H0 : Heap} {l : List HP} {q : Option Addr} {c : Nat}
theorem len0_ok : CallsH Tryz.prog 37 ⟨[.int .u64 0]⟩ H (Gives (.int .i64 0) H) := by
  refine F37.calls ?_
  unfold F37.go
  have h : CallsH Tryz.prog 56 ⟨[.int .u64 0]⟩ H (Gives (.int .i64 0) H) := by
    refine F56.calls ?_
    unfold F56.go
    refine iteB_f rfl ?_
    refine F56.L0_step ?_
    unfold F56.L0n
    refine iteB_f rfl ?_
    refine F56.L1_step ?_
    unfold F56.L1n
    refine iteB_f rfl ?_
    refine F56.L2_step ?_
    unfold F56.L2n
    refine ⟨by decide, 0, by kernel_rfl, ?_⟩
    exact ⟨by rfl, ExtH.refl H⟩
  refine g_i h fun H1 E1 => ?_
  (repeat (first | (refine Step.go ?_; intros) | refine iteB_t (by decide) ?_ | refine iteB_f (by decide) ?_ | (refine Duo.mk (by first | omega | exact rfl | decide) ?_; intros) | (refine Duo.mk (Clo.mk (by kernel_rfl)) ?_; intros)))
  exact ⟨rfl, E1⟩
theorem sortI_ok : CallsH Tryz.prog 25 ⟨[.slice q 0 c]⟩ H (Gives (.tuple ⟨[]⟩) H) := by
  refine F25.calls ?_
  unfold F25.go
  refine g_i len0_ok fun H1 E1 => ?_
  (repeat (first | (refine Step.go ?_; intros) | refine iteB_t (by decide) ?_ | refine iteB_f (by decide) ?_ | (refine Duo.mk (by first | omega | exact rfl | decide) ?_; intros) | (refine Duo.mk (Clo.mk (by kernel_rfl)) ?_; intros)))
  have h57 : CallsH Tryz.prog 57 ⟨[.slice q 0 c, .int .i64 0, .int .i64 0]⟩ H1 (Gives (.tuple ⟨[]⟩) H1) := by
    refine F57.calls ?_
    unfold F57.go
    refine F57.L0_step ?_
    unfold F57.L0n
    refine iteB_f rfl ?_
    exact ⟨rfl, ExtH.refl H1⟩
  have h38 : CallsH Tryz.prog 38 ⟨[.slice q 0 c, .int .i64 0, .int .i64 0, .int .i64 0]⟩ H1 (Gives (.tuple ⟨[]⟩) H1) := by
    refine F38.calls ?_
    unfold F38.go
    refine F38.L0_step ?_
    unfold F38.L0n
    refine iteB_t rfl ?_
    refine g_i h57 fun H2 E2 => ?_
    exact ⟨_, rfl, rfl, rfl, E2⟩
  refine g_i h38 fun H2 E2 => ?_
  exact ⟨_, rfl, rfl, rfl, E1.trans E2⟩
theorem sortS_ok : CallsH Tryz.prog 24 ⟨[.slice q 0 c]⟩ H (Gives (.tuple ⟨[]⟩) H) := by
  refine F24.calls ?_
  unfold F24.go
  refine g_i len0_ok fun H1 E1 => ?_
  (repeat (first | (refine Step.go ?_; intros) | refine iteB_t (by decide) ?_ | refine iteB_f (by decide) ?_ | (refine Duo.mk (by first | omega | exact rfl | decide) ?_; intros) | (refine Duo.mk (Clo.mk (by kernel_rfl)) ?_; intros)))
  have h57 : CallsH Tryz.prog 46 ⟨[.slice q 0 c, .int .i64 0, .int .i64 0]⟩ H1 (Gives (.tuple ⟨[]⟩) H1) := by
    refine F46.calls ?_
    unfold F46.go
    refine F46.L0_step ?_
    unfold F46.L0n
    refine iteB_f rfl ?_
    exact ⟨rfl, ExtH.refl H1⟩
  have h38 : CallsH Tryz.prog 36 ⟨[.slice q 0 c, .int .i64 0, .int .i64 0, .int .i64 0]⟩ H1 (Gives (.tuple ⟨[]⟩) H1) := by
    refine F36.calls ?_
    unfold F36.go
    refine F36.L0_step ?_
    unfold F36.L0n
    refine iteB_t rfl ?_
    refine g_i h57 fun H2 E2 => ?_
    exact ⟨_, rfl, rfl, rfl, E2⟩
  refine g_i h38 fun H2 E2 => ?_
  exact ⟨_, rfl, rfl, rfl, E1.trans E2⟩
theorem sortC_ok {f : FV} : CallsH Tryz.prog 215 ⟨[.slice q 0 c, f.v]⟩ H (Gives (.tuple ⟨[]⟩) H) := by
  refine F215.calls ?_
  unfold F215.go
  refine g_i len0_ok fun H1 E1 => ?_
  (repeat (first | (refine Step.go ?_; intros) | refine iteB_t (by decide) ?_ | refine iteB_f (by decide) ?_ | (refine Duo.mk (by first | omega | exact rfl | decide) ?_; intros) | (refine Duo.mk (Clo.mk (by kernel_rfl)) ?_; intros)))
  have h57 : CallsH Tryz.prog 221 ⟨[.slice q 0 c, .int .i64 0, .int .i64 0, f.v]⟩ H1 (Gives (.tuple ⟨[]⟩) H1) := by
    refine F221.calls ?_
    unfold F221.go
    refine F221.L0_step ?_
    unfold F221.L0n
    refine iteB_f rfl ?_
    exact ⟨rfl, ExtH.refl H1⟩
  have h38 : CallsH Tryz.prog 219 ⟨[.slice q 0 c, .int .i64 0, .int .i64 0, .int .i64 0, f.v]⟩ H1 (Gives (.tuple ⟨[]⟩) H1) := by
    refine F219.calls ?_
    unfold F219.go
    refine F219.L0_step ?_
    unfold F219.L0n
    refine iteB_t rfl ?_
    refine g_i h57 fun H2 E2 => ?_
    exact ⟨_, rfl, rfl, rfl, E2⟩
  refine g_i h38 fun H2 E2 => ?_
  exact ⟨_, rfl, rfl, rfl, E1.trans E2⟩
end
end Go.Proofs.YtkenjnllegbmjaaGreat

set_option linter.unusedVariables false
set_option linter.unusedSimpArgs false
set_option linter.unnecessarySimpa false
set_option maxRecDepth 100000
namespace Go.Proofs.YtkenjnllegbmjaaGreat
open Go Go.Den Go.Proofs
/-! The lessor. -/
structure LeF where
  lm : Nat
  nt : Nat
  im : Nat
  q : Option Addr
  qc : Nat
  c1 : Option Nat
  c2 : Option Nat
  c3 : Option Nat
  be : Nat
  ck : Nat
abbrev leO (f : LeF) (dc : Option Nat) (rd : Value) : Obj := .cells ⟨[.chan dc, .map (some f.lm), pv f.nt, .slice f.q 0 f.qc, .map (some f.im), rd, .nilFunc, .iface 116 (pv f.be), .int .i64 0, .int .i64 1000, .chan f.c1, .chan f.c2, .chan f.c3, .pointer none, .int .i64 300000000000, .int .i64 3000000000, .bool false, pv f.ck]⟩ 138
instance MI128 : MapT Tryz.prog 128 (Value.int .i64) pv (.pointer none) := ⟨79, 84, by kernel_rfl, KeyT.int (by kernel_rfl), by kernel_rfl⟩
theorem um128 : Tryz.prog.underlying 128 = some (.map 79 84) := by kernel_rfl
abbrev mpL (r : Nat) (M : List (Int × Nat)) : HP := mp (Value.int .i64) pv r M
section
variable {H H0 : Heap} {l : List HP} {le : Nat} {f : LeF} {dc : Option Nat} {rd : Value}
theorem prim_ok (hb : H[le]? = some (leO f dc rd)) : CallsH Tryz.prog 39 ⟨[pv le]⟩ H (Gives (.bool dc.isSome) H) := by
  have S := Sat.start H
  have ao := atOld hb
  refine F39.calls ?_
  unfold F39.go
  (repeat (first | (refine Step.go ?_; intros) | refine iteB_t (by decide) ?_ | refine iteB_f (by decide) ?_ | (refine Duo.mk (by first | omega | exact rfl | decide) ?_; intros) | (refine Duo.mk (Clo.mk (by kernel_rfl)) ?_; intros)))
  exact ⟨by cases dc <;> rfl, ExtH.refl H⟩
theorem setDel_ok {rd' : Fn} {x y : Array Value} (S : Sat H (pt le (leO f dc rd) :: l)) : CallsH Tryz.prog 200 ⟨[pv le, .func rd' x y]⟩ H (fun e H1 => e = .returned (.tuple ⟨[]⟩) ∧ Sat H1 (pt le (leO f dc (.func rd' x y)) :: l)) := by
  refine F200.calls (rd := .mk rd' x y) ?_
  unfold F200.go
  refine nilD_i (zf_i (by kernel_rfl) (S.obj (r := le) (o := leO f dc rd)) fun a => ?_)
  refine gives_i S lk115 fun H1 E1 S1 => ?_
  clear S
  refine tTup_nil (noPan_r (guardB_t (by kernel_rfl) ?_))
  refine nilD_i (zf_i (by kernel_rfl) (S1.obj (r := le) (o := leO f dc rd)) fun a => ?_)
  refine nilD_i (guardB_t rfl ?_)
  show st1 H1 (Addr.add ⟨le, 0, none⟩ 5) (.func rd' x y) _
  (repeat (first | (refine Step.go ?_; intros) | refine iteB_t (by decide) ?_ | refine iteB_f (by decide) ?_ | (refine Duo.mk (by first | omega | exact rfl | decide) ?_; intros) | (refine Duo.mk (Clo.mk (by kernel_rfl)) ?_; intros)))
  exact ⟨rfl, ‹Sat _ (_ :: _)›⟩
theorem sched_ok {ls : Nat} (S : Sat H (pt le (leO f dc rd) :: l)) : CallsH Tryz.prog 203 ⟨[pv le, pv ls]⟩ H (Gives (.tuple ⟨[]⟩) H) := by
  refine F203.calls ?_
  unfold F203.go
  (repeat (first | (refine Step.go ?_; intros) | refine iteB_t (by decide) ?_ | refine iteB_f (by decide) ?_ | (refine Duo.mk (by first | omega | exact rfl | decide) ?_; intros) | (refine Duo.mk (Clo.mk (by kernel_rfl)) ?_; intros)))
  exact ⟨rfl, ExtH.refl H⟩
/-- The leases of an empty map. -/
theorem sorted0_ok (S : Sat H (mpL f.lm [] :: l)) : CallsH Tryz.prog 209 ⟨[.map (some f.lm)]⟩ H (fun e H1 => ∃ q c, e = .returned (.slice q 0 c) ∧ Sat H1 (mpL f.lm [] :: l)) := by
  refine F209.calls ?_
  unfold F209.go
  (repeat (first | (refine Step.go ?_; intros) | refine iteB_t (by decide) ?_ | refine iteB_f (by decide) ?_ | (refine Duo.mk (by first | omega | exact rfl | decide) ?_; intros) | (refine Duo.mk (Clo.mk (by kernel_rfl)) ?_; intros)))
  rename_i r H1 S1
  clear S
  refine rangeNone (fk := Value.int .i64) (fv := pv) um128 (S1.to ent_swp) fun ir c H2 S2 => ?_
  clear S1
  refine ⟨_, rfl, ?_⟩
  refine F209.L0_step ?_
  unfold F209.L0n
  refine nextNone S2 ?_
  (repeat (first | (refine Step.go ?_; intros) | refine iteB_t (by decide) ?_ | refine iteB_f (by decide) ?_ | (refine Duo.mk (by first | omega | exact rfl | decide) ?_; intros) | (refine Duo.mk (Clo.mk (by kernel_rfl)) ?_; intros)))
  refine gives_i S2 (sortC_ok (f := .mk (.func 216) ⟨[]⟩ ⟨[]⟩)) fun H3 E3 S3 => ?_
  (repeat (first | (refine Step.go ?_; intros) | refine iteB_t (by decide) ?_ | refine iteB_f (by decide) ?_ | (refine Duo.mk (by first | omega | exact rfl | decide) ?_; intros) | (refine Duo.mk (Clo.mk (by kernel_rfl)) ?_; intros)))
  refine ⟨_, _, rfl, S3.to ?_⟩
  iterate 1 (apply Ent.pick; (focus (repeat (first | exact Sel.here | apply Sel.there))))
  iterate 2 (apply Ent.drop)
  exact .refl
end
end Go.Proofs.YtkenjnllegbmjaaGreat

set_option linter.unusedVariables false
set_option linter.unusedSimpArgs false
set_option linter.unnecessarySimpa false
set_option maxRecDepth 100000
namespace Go.Proofs.YtkenjnllegbmjaaGreat
open Go Go.Den Go.Proofs
/-! A lessor without leases becomes the primary one; a lease is looked up. -/
section
variable {H H0 : Heap} {l : List HP} {le : Nat} {f : LeF} {dc : Option Nat} {rd : Value}
theorem promote_ok (S : Sat H (pt le (leO f dc rd) :: mpL f.lm [] :: l)) : CallsH Tryz.prog 195 ⟨[pv le, .int .i64 0]⟩ H (fun e H1 => e = .returned (.tuple ⟨[]⟩) ∧ ∃ ch, Sat H1 (pt le (leO f (some ch) rd) :: mpL f.lm [] :: l)) := by
  refine F195.calls ?_
  unfold F195.go
  refine nilD_i (zf_i (by kernel_rfl) (S.obj (r := le) (o := leO f dc rd)) fun a => ?_)
  refine gives_i S lk115 fun H1 E1 S1 => ?_
  clear S
  refine tTup_nil (noPan_r (guardB_t (by kernel_rfl) ?_))
  refine nilD_i (zf_i (by kernel_rfl) (S1.obj (r := le) (o := leO f dc rd)) fun a => ?_)
  refine S1.mkChan (t := 100) (el := 97) (d := .both) (ie := Tryz.t97) (by kernel_rfl) (by kernel_rfl) (by omega) (by omega) (by decide) fun ch H2 S2 => ?_
  clear S1
  refine ⟨_, rfl, ?_⟩
  (repeat (first | (refine Step.go ?_; intros) | refine iteB_t (by decide) ?_ | refine iteB_f (by decide) ?_ | (refine Duo.mk (by first | omega | exact rfl | decide) ?_; intros) | (refine Duo.mk (Clo.mk (by kernel_rfl)) ?_; intros)))
  rename_i H3 S3
  clear S2
  refine call_of (sorted0_ok (f := f) (l := pt le (leO f (some ch) rd) :: l) (S3.to (by
    iterate 2 (apply Ent.pick; (focus (repeat (first | exact Sel.here | apply Sel.there))))
    exact Ent.drop .refl))) ?_
  rintro e H4 ⟨q, c, rfl, S4⟩
  clear S3
  (repeat (first | (refine Step.go ?_; intros) | refine iteB_t (by decide) ?_ | refine iteB_f (by decide) ?_ | (refine Duo.mk (by first | omega | exact rfl | decide) ?_; intros) | (refine Duo.mk (Clo.mk (by kernel_rfl)) ?_; intros)))
  refine F195.L0_step ?_
  unfold F195.L0n
  refine iteB_f (decide_eq_false (by omega)) ?_
  refine ⟨?_, ?_⟩
  · (repeat (first | (refine Step.go ?_; intros) | refine iteB_t (by decide) ?_ | refine iteB_f (by decide) ?_ | (refine Duo.mk (by first | omega | exact rfl | decide) ?_; intros) | (refine Duo.mk (Clo.mk (by kernel_rfl)) ?_; intros)))
    refine ⟨rfl, ch, S4.to ?_⟩
    iterate 2 (apply Ent.pick; (focus (repeat (first | exact Sel.here | apply Sel.there))))
    exact .refl
  · (repeat (first | (refine Step.go ?_; intros) | refine iteB_t (by decide) ?_ | refine iteB_f (by decide) ?_ | (refine Duo.mk (by first | omega | exact rfl | decide) ?_; intros) | (refine Duo.mk (Clo.mk (by kernel_rfl)) ?_; intros)))
    refine ⟨rfl, ch, S4.to ?_⟩
    iterate 2 (apply Ent.pick; (focus (repeat (first | exact Sel.here | apply Sel.there))))
    exact .refl
theorem find_ok {ls : Nat} {M : List (Int × Nat)} (hM : mget M 1 = some ls) (S : Sat H (pt le (leO f dc rd) :: mpL f.lm M :: l)) : CallsH Tryz.prog 194 ⟨[pv le, .int .i64 1]⟩ H (Gives (pv ls) H) := by
  refine F194.calls ?_
  unfold F194.go
  refine nilD_i (zf_i (by kernel_rfl) (S.obj (r := le) (o := leO f dc rd)) fun a => ?_)
  refine gives_i S lk31 fun H1 E1 S1 => ?_
  clear S
  refine tTup_nil (noPan_g (guardB_t (by kernel_rfl) ?_))
  refine nilD_i (zf_i (by kernel_rfl) (S1.obj (r := le) (o := leO f dc rd)) fun a => ?_)
  (repeat (first | (refine Step.go ?_; intros) | refine iteB_t (by decide) ?_ | refine iteB_f (by decide) ?_ | (refine Duo.mk (by first | omega | exact rfl | decide) ?_; intros) | (refine Duo.mk (Clo.mk (by kernel_rfl)) ?_; intros)))
  refine ⟨fun v hv => ?_, fun h => by rw [hM] at h; cases h⟩
  rw [hM] at hv
  cases hv
  show tPtr (pv ls) _
  (repeat (first | (refine Step.go ?_; intros) | refine iteB_t (by decide) ?_ | refine iteB_f (by decide) ?_ | (refine Duo.mk (by first | omega | exact rfl | decide) ?_; intros) | (refine Duo.mk (Clo.mk (by kernel_rfl)) ?_; intros)))
  exact ⟨rfl, E1⟩
end
end Go.Proofs.YtkenjnllegbmjaaGreat

set_option linter.unusedVariables false
set_option linter.unusedSimpArgs false
set_option linter.unnecessarySimpa false
set_option maxRecDepth 100000
namespace Go.Proofs.YtkenjnllegbmjaaGreat
open Go Go.Den Go.Proofs
/-! A lease as bytes: some bytes. -/
theorem u8_wrap (x : Int) : ∃ b : UInt8, IntKind.wrap .u8 x = (b.toNat : Int) := by
  refine ⟨UInt8.ofNat (x % 256).toNat, ?_⟩
  have e : IntKind.wrap .u8 x = x % 256 := by
    show (if (false && decide (x % 256 ≥ 128)) = true then x % 256 - 256 else x % 256) = _
    simp
  rw [e]
  have h : (UInt8.ofNat (x % 256).toNat).toNat = (x % 256).toNat % 256 := by simp
  rw [h]
  omega
theorem u8_or (a b : Int) : ∃ c : UInt8, orZ .u8 a b = (c.toNat : Int) := by unfold orZ; exact u8_wrap _
theorem u64_wrap (x : Int) : 0 ≤ IntKind.wrap .u64 x ∧ IntKind.wrap .u64 x < 18446744073709551616 := by
  have e : IntKind.wrap .u64 x = x % 18446744073709551616 := by
    show (if (false && decide (x % 18446744073709551616 ≥ 9223372036854775808)) = true then x % 18446744073709551616 - 18446744073709551616 else x % 18446744073709551616) = _
    simp
  rw [e]
  omega
theorem shr7 {n : Int} (h : 0 ≤ n) : shrZ .u64 n (7 : Int) = n / 128 := by
  show n.fdiv (2 ^ (min (7 : Int).toNat 64)) = _
  have : (2 : Int) ^ (min (7 : Int).toNat 64) = 128 := by decide
  rw [this, Int.fdiv_eq_ediv_of_nonneg _ (by omega)]
section
variable {H H0 : Heap} {l : List HP}
theorem one_byte {q : Option Addr} {c : Nat} {xs : List UInt8} {v : Int} {K : Option Addr → Nat → Nat → Heap → Prop} (hv : ∃ b : UInt8, v = (b.toNat : Int)) (hb : xs.length ≤ 1000000) (S : Sat H (sl bC 5 1 q xs.length c xs :: l))
    (k : ∀ (b : UInt8) q' c' H1, Sat H1 (sl bC 5 1 q' (xs ++ [b]).length c' (xs ++ [b]) :: l) → K q' (xs ++ [b]).length c' H1) :
    newD H (.cells ⟨[.int .u8 v]⟩ 5) fun r H1 => apD H1 1 1 [.int .u8 0] 5 q xs.length c (some ⟨r, 0, none⟩) 1 K := by
  obtain ⟨b, rfl⟩ := hv
  refine newX S fun r H1 E1 S1 => ?_
  clear S
  have S2 : Sat H1 (sl bC 5 1 q xs.length c xs :: pt r (.cells ⟨bytesOf [b] ++ []⟩ 5) :: l) := S1.to ent_swp
  refine apB (ys := [b]) (d := 1) (by simp; omega) rfl S2 (Rd1.of_pt (E := 5) (r := r) (rest := []) (fr := (0, 0)) (List.mem_cons_self ..)) fun q' c' H2 S3 => ?_
  exact k b q' c' H2 (S3.to (Ent.cons (Ent.drop .refl)))
/-- Some bytes behind those. -/
def MoreB (n : Nat) (l : List HP) : Ending → Heap → Prop := fun e H1 => ∃ (q : Option Addr) (c : Nat) (ys : List UInt8), e = .returned (.slice q ys.length c) ∧ ys.length ≤ n ∧ Sat H1 (sl bC 5 1 q ys.length c ys :: l)
theorem varint_loop : ∀ (f : Nat) (n : Int) (xs : List UInt8) (H : Heap) (q : Option Addr) (c : Nat), 0 ≤ n → n < 128 ^ f → 0 < f → f ≤ 10 → xs.length + f ≤ 900000 → Sat H (sl bC 5 1 q xs.length c xs :: l) →
    F277.L0 q xs.length c n H (MoreB (xs.length + f) l) := by
  intro f
  induction f with
  | zero => intro n xs H q c _ _ h; omega
  | succ f ih =>
    intro n xs H q c h0 h1 _ h10 hl S
    refine F277.L0_step ?_
    unfold F277.L0n
    refine iteB_i (fun hc => ?_) (fun hc => ?_)
    · have hc' : n ≥ 128 := by simpa using hc
      refine one_byte (u8_or _ _) (by omega) S ?_
      intro b q' c' H1 S1
      refine ⟨by omega, ?_⟩
      rw [shr7 h0]
      have hf : 0 < f := by
        rcases Nat.eq_zero_or_pos f with h | h
        · subst h; simp at h1; omega
        · exact h
      have hn : n / 128 < 128 ^ f := by
        have : (128 : Int) ^ (f + 1) = 128 ^ f * 128 := Int.pow_succ ..
        omega
      have := ih (n / 128) (xs ++ [b]) H1 q' c' (by omega) hn hf (by omega) (by simp; omega) S1
      have e : (xs ++ [b]).length + f = xs.length + (f + 1) := by simp; omega
      rw [e] at this
      exact this
    · refine one_byte (u8_wrap _) (by omega) S ?_
      intro b q' c' H1 S1
      exact ⟨q', c', xs ++ [b], rfl, by (simp <;> omega), S1⟩
theorem varint_ok {n : Int} {xs : List UInt8} {q : Option Addr} {c : Nat} (h0 : 0 ≤ n) (h1 : n < 18446744073709551616) (hl : xs.length ≤ 800000) (S : Sat H (sl bC 5 1 q xs.length c xs :: l)) :
    CallsH Tryz.prog 277 ⟨[.slice q xs.length c, .int .u64 n]⟩ H (MoreB (xs.length + 10) l) := by
  refine F277.calls ?_
  unfold F277.go
  exact varint_loop 10 n xs H q c h0 (Int.lt_of_lt_of_le h1 (by decide)) (by omega) (by omega) (by omega) S
theorem putInt_ok {fd n : Int} {xs : List UInt8} {q : Option Addr} {c : Nat} (hl : xs.length ≤ 700000) (S : Sat H (sl bC 5 1 q xs.length c xs :: l)) :
    CallsH Tryz.prog 275 ⟨[.slice q xs.length c, .int .i64 fd, .int .i64 n]⟩ H (MoreB (xs.length + 20) l) := by
  refine F275.calls ?_
  unfold F275.go
  refine iteB_i (fun h => ?_) (fun h => ?_)
  · exact ⟨q, c, xs, rfl, by omega, S⟩
  · refine ⟨by omega, ?_⟩
    have r1 := u64_wrap (IntKind.wrap .u64 fd * 2 ^ (min (3 : Int).toNat 64))
    refine call_of (varint_ok (n := shlZ .u64 (IntKind.wrap .u64 fd) 3) r1.1 r1.2 (by omega) S) ?_
    rintro e H1 ⟨q1, c1, ys, rfl, hy, S1⟩
    refine ⟨_, _, _, rfl, ?_⟩
    have r2 := u64_wrap n
    refine call_of (varint_ok (n := IntKind.wrap .u64 n) r2.1 r2.2 (by omega) S1) ?_
    rintro e H2 ⟨q2, c2, zs, rfl, hz, S2⟩
    refine ⟨_, _, _, rfl, ?_⟩
    exact ⟨q2, c2, zs, rfl, by omega, S2⟩
/-- A lease's message. -/
abbrev lmO (id ttl rem : Int) : Obj := .cells ⟨[.int .i64 id, .int .i64 ttl, .int .i64 rem]⟩ 213
theorem fields_ok {r : Nat} {id ttl rem : Int} (S : Sat H (pt r (lmO id ttl rem) :: l)) :
    CallsH Tryz.prog 273 ⟨[pv r]⟩ H (MoreB 60 (pt r (lmO id ttl rem) :: l)) := by
  refine F273.calls ?_
  unfold F273.go
  (repeat (first | (refine Step.go ?_; intros) | refine iteB_t (by decide) ?_ | refine iteB_f (by decide) ?_ | (refine Duo.mk (by first | omega | exact rfl | decide) ?_; intros) | (refine Duo.mk (Clo.mk (by kernel_rfl)) ?_; intros)))
  have S1 : Sat H (sl bC 5 1 none ([] : List UInt8).length 0 [] :: pt r (lmO id ttl rem) :: l) := S.to (Ent.slNil .refl)
  clear S
  refine call_of (putInt_ok (xs := []) (by simp) S1) ?_
  rintro e H1 ⟨q1, c1, ys, rfl, hy, S2⟩
  clear S1
  refine ⟨_, _, _, rfl, ?_⟩
  (repeat (first | (refine Step.go ?_; intros) | refine iteB_t (by decide) ?_ | refine iteB_f (by decide) ?_ | (refine Duo.mk (by first | omega | exact rfl | decide) ?_; intros) | (refine Duo.mk (Clo.mk (by kernel_rfl)) ?_; intros)))
  refine call_of (putInt_ok (by simp at hy; omega) S2) ?_
  rintro e H2 ⟨q2, c2, zs, rfl, hz, S3⟩
  clear S2
  refine ⟨_, _, _, rfl, ?_⟩
  (repeat (first | (refine Step.go ?_; intros) | refine iteB_t (by decide) ?_ | refine iteB_f (by decide) ?_ | (refine Duo.mk (by first | omega | exact rfl | decide) ?_; intros) | (refine Duo.mk (Clo.mk (by kernel_rfl)) ?_; intros)))
  refine call_of (putInt_ok (by simp at hy; omega) S3) ?_
  rintro e H3 ⟨q3, c3, ws, rfl, hw, S4⟩
  refine ⟨_, _, _, rfl, ?_⟩
  exact ⟨q3, c3, ws, rfl, by simp at hy; omega, S4⟩
theorem marshal_ok {r : Nat} {id ttl rem : Int} (S : Sat H (pt r (lmO id ttl rem) :: l)) :
    CallsH Tryz.prog 218 ⟨[.iface 211 (pv r)]⟩ H (fun e H1 => ∃ (q : Option Addr) (c : Nat) (ys : List UInt8), e = .returned (.tuple ⟨[.slice q ys.length c, .nilIface]⟩) ∧ ys.length ≤ 60 ∧ Sat H1 (sl bC 5 1 q ys.length c ys :: pt r (lmO id ttl rem) :: l)) := by
  refine F218.calls (m := .mk 211 (pv r)) ?_
  unfold F218.go
  refine callI_i (f := 273) (by kernel_rfl) (by kernel_rfl) (by kernel_rfl) ?_
  refine call_of (fields_ok S) ?_
  rintro e H1 ⟨q, c, ys, rfl, hy, S1⟩
  refine ⟨_, _, _, rfl, ?_⟩
  exact ⟨q, c, ys, rfl, hy, S1⟩
/-- Eight bytes are written. -/
theorem put8_loop {q : Option Addr} {c : Nat} {n : Int} : ∀ (k i : Nat) (xs : List UInt8) (H : Heap), i + k = 8 → Sat H (sl bC 5 1 q 8 c xs :: l) → F220.L0 q 8 c n (i : Int) H (fun e H1 => e = .returned (.tuple ⟨[]⟩) ∧ ∃ ys : List UInt8, Sat H1 (sl bC 5 1 q 8 c ys :: l)) := by
  intro k
  induction k with
  | zero =>
    intro i xs H hi S
    refine F220.L0_step ?_
    unfold F220.L0n
    refine iteB_f (decide_eq_false (by omega)) ?_
    exact ⟨rfl, xs, S⟩
  | succ k ih =>
    intro i xs H hi S
    have hx := (Sat.slLen S (List.mem_cons_self ..)).1
    obtain ⟨y, hy⟩ : ∃ y, xs[i]? = some y := get_of (by omega)
    refine F220.L0_step ?_
    unfold F220.L0n
    refine iteB_t (decide_eq_true (by omega)) ?_
    refine ⟨(u64_wrap _).1, ?_⟩
    refine Sat.idx (f := bC) (E := 5) (z := 1) (xs := xs) (n := 8) (c := c) S ⟨by omega, by omega, fun r0 o0 hr0 => ?_⟩
    subst hr0
    obtain ⟨b, hb⟩ := u8_wrap (shrZ .u64 n (IntKind.wrap .u64 ((8 : Int) * (IntKind.wrap .u64 (IntKind.wrap .i64 ((7 : Int) - (i : Int)))))))
    rw [hb]
    rw [Int.toNat_natCast]
    have e0 : Addr.add ⟨r0, o0, none⟩ (i * 1) = Addr.add (Addr.add ⟨r0, o0, none⟩ (i * 1)) 0 := by rw [add_add', Nat.add_zero]
    rw [e0]
    refine Sat.slSet (i := i) (j := 0) (x := y) (y := b) S hy (by omega) rfl rfl fun H2 S2 => ?_
    rw [wr (i := (i : Int) + 1) (by omega) (by omega), show ((i : Nat) : Int) + 1 = ((i + 1 : Nat) : Int) by omega]
    exact ih (i + 1) _ H2 (by omega) S2
theorem idBytes_ok {n : Int} (S : Sat H l) : CallsH Tryz.prog 217 ⟨[.int .i64 n]⟩ H (fun e H1 => ∃ (r c : Nat) (ys : List UInt8), e = .returned (.slice (some ⟨r, 0, none⟩) 8 c) ∧ Sat H1 (sl bC 5 1 (some ⟨r, 0, none⟩) 8 c ys :: l)) := by
  refine F217.calls ?_
  unfold F217.go
  (repeat (first | (refine Step.go ?_; intros) | refine iteB_t (by decide) ?_ | refine iteB_f (by decide) ?_ | (refine Duo.mk (by first | omega | exact rfl | decide) ?_; intros) | (refine Duo.mk (Clo.mk (by kernel_rfl)) ?_; intros)))
  rename_i r H1 S1
  have e0 : repZ [Value.int .u8 0] (Int.toNat 8) = (List.replicate 8 (0 : UInt8)).flatMap bC := by kernel_rfl
  rw [e0] at S1
  have S2 : Sat H1 (sl bC 5 1 (some ⟨r, 0, none⟩) 8 8 (List.replicate 8 (0 : UInt8)) :: l) := by
    refine S1.to ?_
    have := Ent.slClose (f := bC) (E := 5) (z := 1) (n := 8) (c := 8) (xs := List.replicate 8 (0 : UInt8)) (r := r) (o := 0) (pre := []) (sp := []) (m := l) (by simp) (fun _ _ => rfl) (Nat.le_refl _) rfl (by simp)
    simpa using this
  refine call_of (F220.calls (put8_loop 8 0 _ H1 (by omega) S2)) ?_
  rintro e H2 ⟨rfl, ys, S3⟩
  exact ⟨_, rfl, rfl, r, 8, ys, rfl, S3⟩
theorem sl_size {q : Option Addr} {n c : Nat} {xs : List UInt8} (S : Sat H (sl bC 5 1 q n c xs :: l)) : xs.length = n := (Sat.slLen S (List.mem_cons_self ..)).1
/-- Bytes that no one writes again. -/
theorem keepB {q : Option Addr} {n c : Nat} {xs : List UInt8} {g : PH} (S : Sat H (sl bC 5 1 q n c xs :: has g :: l)) : ∃ g', PH.sub g g' ∧ BytsG g' ⟨⟨⟨xs⟩⟩, q, c⟩ ∧ Sat H (has g' :: l) := by
  obtain ⟨g1, h1, S4⟩ := has_of S
  obtain ⟨g', s1, s2, S5⟩ := has_join S4
  refine ⟨g', s2, ?_, S5⟩
  intro H' hs
  have SS : Sat H' [sl bC 5 1 q n c xs] := ⟨h1.mono (s1.trans hs)⟩
  exact (Rd1.of_sl (List.mem_cons_self ..)).cells SS
end
end Go.Proofs.YtkenjnllegbmjaaGreat

set_option linter.unusedVariables false
set_option linter.unusedSimpArgs false
set_option linter.unnecessarySimpa false
set_option maxRecDepth 100000
namespace Go.Proofs.YtkenjnllegbmjaaGreat
open Go Go.Den Go.Proofs
/-! A lease is put into its bucket. -/
abbrev nL : ByteArray := ByteArray.mk #[108, 101, 97, 115, 101]
section
variable {H H0 : Heap} {l : List HP} {g : PH}
theorem putL_ok {bt tx db be c m1 m2 : Nat} {dn : Bool} {x : BkI} {p : Option Addr} {k v : Bs} {b : Bool}
    (hx : BkG g x) (hx0 : x.xs = []) (hxn : x.name.s = nL) (hk : BytsG g k) (hv : BytsG g v) (hk0 : k.s.size ≠ 0) (hks : k.s.size ≤ 100) (hvs : v.s.size ≤ 100)
    (S : Sat H (pt bt (btO tx be 0 (some m1) (some m2) 0) :: txM tx db true dn [x] p c g (mpB m1 [] :: mpS m2 [] :: l))) :
    CallsH Tryz.prog 258 ⟨[pv bt, bkT 3 nL b, k.v, v.v]⟩ H (fun e H1 => e = .returned (.tuple ⟨[]⟩) ∧ ∃ (bb : Nat) (q : Option Addr) (c' : Nat), Sat H1 (pt bb (bbO q c' 1) :: mpB m1 [(3, bb)] :: mpS m2 [(3, false)] :: pt bt (btO tx be 1 (some m1) (some m2) 0) :: l)) := by
  refine uput_ok (R1 := fun H1 => Sat H1 (pt bt (btO tx be 1 (some m1) (some m2) 0) :: mpB m1 [] :: mpS m2 [] :: l)) ?_ ?_
  · refine CallsH.mono (tput_ok (g := g) (A := []) (C := []) (x := x) (db := db) (dn := dn) (p := p) (c := c) (sq := false) (fun y hy => by simp at hy; subst hy; exact hx) (by decide) (by simp) hxn (by simp) hk hv (by rw [hx0]; simp) (by rw [hx0]; simp) hk0 (by omega) (by omega) (by omega) S) ?_
    rintro e H1 ⟨rfl, g', q', c', fl', r, _, _, _, _, _, _, S1⟩
    refine ⟨rfl, S1.to ?_⟩
    iterate 3 (apply Ent.pick; (focus (repeat (first | exact Sel.here | apply Sel.there))))
    iterate 4 (apply Ent.drop)
    exact .refl
  · intro H1 S1
    refine bput2_ok (R := fun _ H2 => ∃ (bb : Nat) (q : Option Addr) (c' : Nat), Sat H2 (pt bb (bbO q c' 1) :: mpB m1 [(3, bb)] :: mpS m2 [(3, false)] :: pt bt (btO tx be 1 (some m1) (some m2) 0) :: l)) (M2 := []) (m2 := m2) (S1.to (m := mpS m2 [] :: pt bt (btO tx be 1 (some m1) (some m2) 0) :: mpB m1 [] :: l) (by
      iterate 3 (apply Ent.pick; (focus (repeat (first | exact Sel.here | apply Sel.there))))
      exact .refl)) ?_
    intro H2 S2
    have e1 : mset ([] : List (Int × Bool)) 3 false = [(3, false)] := rfl
    rw [e1] at S2
    refine CallsH.mono (bput_new (M := []) (m1 := m1) (x := ⟨k, v⟩) rfl (S2.to (m := mpB m1 [] :: pt bt (btO tx be 1 (some m1) (some m2) 0) :: mpS m2 [(3, false)] :: l) (by
      iterate 3 (apply Ent.pick; (focus (repeat (first | exact Sel.here | apply Sel.there))))
      exact .refl))) ?_
    rintro e H3 ⟨rfl, bb, q, c', S3⟩
    have e2 : mset ([] : List (Int × Nat)) 3 bb = [(3, bb)] := rfl
    rw [e2] at S3
    refine ⟨rfl, bb, q, c', S3.to ?_⟩
    iterate 4 (apply Ent.pick; (focus (repeat (first | exact Sel.here | apply Sel.there))))
    exact Ent.drop .refl
end
end Go.Proofs.YtkenjnllegbmjaaGreat

set_option linter.unusedVariables false
set_option linter.unusedSimpArgs false
set_option linter.unnecessarySimpa false
set_option maxRecDepth 100000
namespace Go.Proofs.YtkenjnllegbmjaaGreat
open Go Go.Den Go.Proofs
/-! A lease is written to the backend; what is deferred there. -/
theorem unlockD {t : Option Addr} {H : Heap} {R : Ending → Heap → Prop} (h : F97.go t H R) : CallsHD Tryz.prog 97 ⟨[.pointer t]⟩ H R :=
  callsHD_of_den (an := F97.an) (fuel := 100000) (X := F97.go t H R) (c := F97.body) mixed F97.fn (by kernel_rfl) (by kernel_rfl) (by kernel_rfl) F97.ok (by kernel_rfl) h
section
variable {H H0 : Heap} {l l' : List HP} {g : PH}
theorem batch_ok {cm : Int} {db lim rt be : Nat} {bp : Option Addr} (S : Sat H (pt be (beO cm db lim bp rt) :: l)) : CallsH Tryz.prog 182 ⟨[pv be]⟩ H (Gives (.iface 161 (.pointer bp)) H) := by
  refine F182.calls ?_
  unfold F182.go
  (repeat (first | (refine Step.go ?_; intros) | refine iteB_t (by decide) ?_ | refine iteB_f (by decide) ?_ | (refine Duo.mk (by first | omega | exact rfl | decide) ?_; intros) | (refine Duo.mk (Clo.mk (by kernel_rfl)) ?_; intros)))
  exact ⟨rfl, ExtH.refl H⟩
theorem inside_ok {bt tx be pend db lim rt : Nat} {m1 m2 : Option Nat} {z cm : Int} {bp : Option Addr} (S : Sat H (pt bt (btO tx be pend m1 m2 z) :: pt be (beO cm db lim bp rt) :: l)) : CallsH Tryz.prog 252 ⟨[pv bt]⟩ H (Gives (.tuple ⟨[]⟩) H) := by
  refine F252.calls ?_
  unfold F252.go
  refine gives_i S (lk95 (S.obj (r := bt) (o := btO tx be pend m1 m2 z))) fun H1 E1 S1 => ?_
  clear S
  (repeat (first | (refine Step.go ?_; intros) | refine iteB_t (by decide) ?_ | refine iteB_f (by decide) ?_ | (refine Duo.mk (by first | omega | exact rfl | decide) ?_; intros) | (refine Duo.mk (Clo.mk (by kernel_rfl)) ?_; intros)))
  exact ⟨rfl, E1⟩
theorem lease_b : CallsH Tryz.prog 98 ⟨[]⟩ H (Gives (bkT 3 nL false) H) := F98.calls ⟨rfl, ExtH.refl H⟩
theorem putLease_ok {bt tx db be c m1 m2 r : Nat} {dn : Bool} {x : BkI} {p : Option Addr} {id ttl rem : Int}
    (hx : BkG g x) (hx0 : x.xs = []) (hxn : x.name.s = nL)
    (S : Sat H (pt bt (btO tx be 0 (some m1) (some m2) 0) :: txM tx db true dn [x] p c g (mpB m1 [] :: mpS m2 [] :: pt r (lmO id ttl rem) :: l))) :
    CallsH Tryz.prog 213 ⟨[.iface 161 (pv bt), pv r]⟩ H (fun e H1 => e = .returned (.tuple ⟨[]⟩) ∧ ∃ (bb : Nat) (q : Option Addr) (c' : Nat), Sat H1 (pt bb (bbO q c' 1) :: mpB m1 [(3, bb)] :: mpS m2 [(3, false)] :: pt bt (btO tx be 1 (some m1) (some m2) 0) :: l)) := by
  refine F213.calls (tx := .mk 161 (pv bt)) ?_
  unfold F213.go
  (repeat (first | (refine Step.go ?_; intros) | refine iteB_t (by decide) ?_ | refine iteB_f (by decide) ?_ | (refine Duo.mk (by first | omega | exact rfl | decide) ?_; intros) | (refine Duo.mk (Clo.mk (by kernel_rfl)) ?_; intros)))
  refine call_of (idBytes_ok S) ?_
  rintro e H1 ⟨rk, ck, ks, rfl, S1⟩
  clear S
  refine ⟨_, _, _, rfl, ?_⟩
  have hks := sl_size S1
  obtain ⟨g1, s1, hk, S2⟩ := keepB (S1.to (m := sl bC 5 1 (some ⟨rk, 0, none⟩) 8 ck ks :: has g :: pt bt (btO tx be 0 (some m1) (some m2) 0) :: pt tx (txO db true dn p [x].length c) :: sl ptrC 299 1 p [x].length c ([x].map BkI.b) :: bkts tx [x] :: mpB m1 [] :: mpS m2 [] :: pt r (lmO id ttl rem) :: l) (by
    iterate 9 (apply Ent.pick; (focus (repeat (first | exact Sel.here | apply Sel.there))))
    exact .refl))
  clear S1
  refine call_of (marshal_ok (S2.to (m := pt r (lmO id ttl rem) :: has g1 :: pt bt (btO tx be 0 (some m1) (some m2) 0) :: pt tx (txO db true dn p [x].length c) :: sl ptrC 299 1 p [x].length c ([x].map BkI.b) :: bkts tx [x] :: mpB m1 [] :: mpS m2 [] :: l) (by
    iterate 8 (apply Ent.pick; (focus (repeat (first | exact Sel.here | apply Sel.there))))
    exact .refl))) ?_
  rintro e H2 ⟨qv, cv, vs, rfl, hvl, S3⟩
  clear S2
  obtain ⟨g2, s2, hv, S4⟩ := keepB (S3.to (m := sl bC 5 1 qv vs.length cv vs :: has g1 :: pt bt (btO tx be 0 (some m1) (some m2) 0) :: pt tx (txO db true dn p [x].length c) :: sl ptrC 299 1 p [x].length c ([x].map BkI.b) :: bkts tx [x] :: mpB m1 [] :: mpS m2 [] :: l) (by
    iterate 8 (apply Ent.pick; (focus (repeat (first | exact Sel.here | apply Sel.there))))
    exact Ent.drop .refl))
  clear S3
  (repeat (first | (refine Step.go ?_; intros) | refine iteB_t (by decide) ?_ | refine iteB_f (by decide) ?_ | (refine Duo.mk (by first | omega | exact rfl | decide) ?_; intros) | (refine Duo.mk (Clo.mk (by kernel_rfl)) ?_; intros)))
  refine F213.L0_step ?_
  unfold F213.L0n
  refine ⟨by kernel_rfl, ?_⟩
  refine gives_i S4 lease_b fun H3 E3 S5 => ?_
  clear S4
  refine ⟨.mk _ _, rfl, ?_⟩
  have hsz : (⟨⟨ks⟩⟩ : ByteArray).size = 8 := hks
  have hsv : (⟨⟨vs⟩⟩ : ByteArray).size = vs.length := rfl
  refine putI ?_
  have hput := putL_ok (b := false) (bt := bt) (tx := tx) (be := be) (m1 := m1) (m2 := m2) (db := db) (dn := dn) (p := p) (c := c) (x := x) (g := g2) (k := ⟨⟨⟨ks⟩⟩, some ⟨rk, 0, none⟩, ck⟩) (v := ⟨⟨⟨vs⟩⟩, qv, cv⟩) (l := l) (hx.mono (s1.trans s2)) hx0 hxn (hk.mono s2) hv (by rw [hsz]; decide) (by rw [hsz]; decide) (by rw [hsv]; omega) (S5.to (by
    iterate 7 (apply Ent.pick; (focus (repeat (first | exact Sel.here | apply Sel.there))))
    exact .refl))
  have e8 : (Bs.v ⟨⟨⟨ks⟩⟩, some ⟨rk, 0, none⟩, ck⟩ : Value) = .slice (some ⟨rk, 0, none⟩) 8 ck := by show Value.slice _ _ _ = _; rw [hsz]
  rw [e8] at hput
  refine call_of hput ?_
  rintro e H4 ⟨rfl, bb, q, c', S6⟩
  refine ⟨_, rfl, rfl, ?_⟩
  exact ⟨rfl, bb, q, c', S6⟩
end
end Go.Proofs.YtkenjnllegbmjaaGreat

set_option linter.unusedVariables false
set_option linter.unusedSimpArgs false
set_option linter.unnecessarySimpa false
set_option maxRecDepth 100000
namespace Go.Proofs.YtkenjnllegbmjaaGreat
open Go Go.Den Go.Proofs
/-! A lease is written to the backend. -/
theorem readV_method_ptr {P : Program} {t : TypeId} {x : Value} {name : String} {f : FuncId} (hm : mthOk P t name f true = true) (hp : ptrT P t = true) (n : Nat) (H : Heap) : readV P (method (n + 1) t x name) H = some (f, x) := by
  unfold mthOk at hm
  unfold ptrT at hp
  split at hm
  · rename_i i hi
    split at hm
    · rename_i m hf
      split at hm
      · rename_i g b hg
        simp only [Bool.and_eq_true, beq_iff_eq] at hm
        obtain ⟨⟨h1, rfl⟩, rfl⟩ := hm
        split at hp
        · rename_i e hu
          have hpath : m.path = #[] := by simpa using h1
          rw [method, readV_bind, readV_typeInfo hi]
          simp only [Option.bind_some, hf, hpath, hg]
          rw [readV_bind, follow]
          simp only [readV_pure, Option.bind_some]
          rw [readV_bind]
          unfold receiverAt
          rw [readV_bind, readV_underlying hu]
          rfl
        · cases hp
      · cases hm
    · cases hm
  · cases hm
theorem enter_run {P : Program} {t : TypeId} {x : Value} {name : String} {f : FuncId} {args : Array Value} (hm : mthOk P t name f true = true) (hp : ptrT P t = true) (hf : fnOk P f = true) (w : World) :
    (callMethod (.iface t x) name args).run P w = .ok (.enter f (#[x] ++ args)) w := by
  unfold callMethod
  have h1 : (method (P.types.size + Made.depth) t x name).run P w = .ok (f, x) w := by
    have : P.types.size + Made.depth = (P.types.size + 99) + 1 := rfl
    rw [this]
    exact readV.run _ (readV_method_ptr hm hp _ w.heap)
  have h2 : (callFunc f (#[x] ++ args)).run P w = .ok (.enter f (#[x] ++ args)) w := by
    unfold fnOk at hf
    split at hf
    · rename_i fn hfn
      simp only [Bool.and_eq_true] at hf
      obtain ⟨h3, h4⟩ := hf
      have hb : fn.body.isNone = false := by
        cases hbb : fn.body with
        | none => rw [hbb] at h3; simp at h3
        | some c => rfl
      have hnm : (fn.name == "runtime.NumGoroutine") = false := by simpa using h4
      unfold callFunc
      simp only [program, bind, Sem.bind, Sem.run, hfn]
      rw [hnm]
      simp only [Bool.false_eq_true, if_false, hb]
      simp [Sem.run, pure]
    · cases hf
  show (Sem.bind program fun p => Sem.bind (method (p.types.size + Made.depth) t x name) fun y => callFunc y.1 (#[y.2] ++ args)).run P w = _
  have e1 : ∀ (k : Program → Sem Next), (Sem.bind program k).run P w = (k P).run P w := fun k => rfl
  rw [e1]
  rw [Sem.run_bind', h1]
  exact h2
theorem nilV_i {t : TypeId} {x : Value} {k : Value → Prop} (h : k (.iface t x)) : nilV Tryz.prog (IV.mk t x).v k := h
theorem letR_i {R' : Ending → Heap → Prop} {k : (Ending → Heap → Prop) → Prop} (h : k R') : letR R' k := h
section
variable {H H0 : Heap} {l l' : List HP} {g : PH}
theorem persist_ok {ls im bt tx db be rt rm rb c m1 m2 lim : Nat} {dn : Bool} {x : BkI} {p mu rx wg : Option Addr} {cko : Option Addr} {id ttl t0 t1 cm ver : Int} {tb : Bool} {ch : Option Nat}
    (hlim : 1 < lim) (hx : BkG g x) (hx0 : x.xs = []) (hxn : x.name.s = nL)
    (S : Sat H (pt ls (lsO cko id ttl t0 t1 tb im ch) :: pt be (beO cm db lim (some ⟨bt, 0, none⟩) rt) :: pt bt (btO tx be 0 (some m1) (some m2) 0) :: txM tx db true dn [x] p c g (mpB m1 [] :: mpS m2 [] :: pt rt (rtO rm ver mu rx rb wg) :: mpB rm [] :: l))) :
    CallsH Tryz.prog 202 ⟨[pv ls, .iface 116 (pv be)]⟩ H (fun e H1 => e = .returned (.tuple ⟨[]⟩) ∧ Sat H1 (pt ls (lsO cko id ttl t0 t1 tb im ch) :: l)) := by
  refine F202.calls (b := .mk 116 (pv be)) ?_
  unfold F202.go
  (repeat (first | (refine Step.go ?_; intros) | refine iteB_t (by decide) ?_ | refine iteB_f (by decide) ?_ | (refine Duo.mk (by first | omega | exact rfl | decide) ?_; intros) | (refine Duo.mk (Clo.mk (by kernel_rfl)) ?_; intros)))
  have S1 := ‹Sat _ (_ :: _)›
  rename_i r Ha Sa Hb Sb Hc Sc Hd Sd
  clear Sa Sb Sc
  clear S
  refine batchI ?_
  refine gives_i S1 (batch_ok (S1.to (m := pt be (beO cm db lim (some ⟨bt, 0, none⟩) rt) :: []) (by
    iterate 1 (apply Ent.pick; (focus (repeat (first | exact Sel.here | apply Sel.there))))
    exact .nil))) fun H5 E5 S5 => ?_
  clear S1
  refine ⟨.mk _ _, rfl, ?_⟩
  refine insideI ?_
  refine gives_i S5 (inside_ok (S5.to (m := pt bt (btO tx be 0 (some m1) (some m2) 0) :: pt be (beO cm db lim (some ⟨bt, 0, none⟩) rt) :: []) (by
    iterate 2 (apply Ent.pick; (focus (repeat (first | exact Sel.here | apply Sel.there))))
    exact .nil))) fun H6 E6 S6 => ?_
  clear S5
  refine tTup_nil (noPan_r (guardB_t (by kernel_rfl) ?_))
  refine nilV_i (letR_i ?_)
  refine call_of (putLease_ok (r := r) (id := id) (ttl := ttl) (rem := 0) (x := x) (g := g) hx hx0 hxn (S6.to (by
    iterate 8 (apply Ent.pick; (focus (repeat (first | exact Sel.here | apply Sel.there))))
    exact .refl))) ?_
  rintro e H7 ⟨rfl, bb, q, c', S7⟩
  refine tTup_nil ?_
  refine ⟨rfl, 97, pv bt, ?_, ?_⟩
  · intro w _; exact enter_run (f := 97) (by kernel_rfl) (by kernel_rfl) (by kernel_rfl) w
  · refine unlockD (unlock1_go (lim := lim) (rt := rt) (rm := rm) (rb := rb) (ver := ver) (ver' := IntKind.wrap .u64 (ver + 1)) (mu := mu) (rx := rx) (wg := wg) (be := be) (bt := bt) (tx := tx) (db := db) (bp := some ⟨bt, 0, none⟩) (m1 := some m1) (m2 := some m2) (cm := cm) (pend := 1) (l := mpB m1 [(3, bb)] :: mpS m2 [(3, false)] :: mpB rm [] :: pt bb (bbO q c' 1) :: pt ls (lsO cko id ttl t0 t1 tb im ch) :: l) (l' := mpB m1 [] :: mpS m2 [] :: mpB rm [(3, bb)] :: pt bb (bbO q c' 1) :: pt ls (lsO cko id ttl t0 t1 tb im ch) :: l) (by omega) (by omega) (by omega) (S7.to ?_) ?_ ?_)
    · iterate 8 (apply Ent.pick; (focus (repeat (first | exact Sel.here | apply Sel.there))))
      exact .refl
    · intro H8 S8
      refine ⟨⟨_, rfl⟩, rfl, S8.to ?_⟩
      iterate 1 (apply Ent.pick; (focus (repeat (first | exact Sel.here | apply Sel.there))))
      iterate 7 (apply Ent.drop)
      exact .refl
    · intro H8 S8
      refine CallsH.mono (wb1 (n := 3) (bb := bb) (u := 1) (c := c') (q := q) (.inr ⟨rfl, by omega⟩) (S8.to (m := pt bt (btO tx be 1 (some m1) (some m2) 0) :: mpB m1 [(3, bb)] :: mpS m2 [(3, false)] :: pt rt (rtO rm ver mu rx rb wg) :: mpB rm [] :: pt bb (bbO q c' 1) :: pt be (beO cm db lim (some ⟨bt, 0, none⟩) rt) :: pt ls (lsO cko id ttl t0 t1 tb im ch) :: l) (by
        iterate 8 (apply Ent.pick; (focus (repeat (first | exact Sel.here | apply Sel.there))))
        exact .refl))) ?_
      rintro e H9 ⟨rfl, S9⟩
      refine ⟨rfl, S9.to ?_⟩
      iterate 8 (apply Ent.pick; (focus (repeat (first | exact Sel.here | apply Sel.there))))
      exact .refl
end
end Go.Proofs.YtkenjnllegbmjaaGreat
