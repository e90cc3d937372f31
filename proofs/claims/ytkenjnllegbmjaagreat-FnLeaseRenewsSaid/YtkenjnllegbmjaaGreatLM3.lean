/- What functions of this seat do, each proved by a walk; no condition. -/
import Derived.Test.YtkenjnllegbmjaaGreatLM2
set_option linter.unusedVariables false
set_option linter.unusedSimpArgs false
set_option linter.unnecessarySimpa false
set_option maxRecDepth 100000
namespace Go.Proofs.YtkenjnllegbmjaaGreat
open Go Go.Den Go.Proofs
/-! The batch transaction is given back. -/
section
variable {H H0 : Heap} {l l' : List HP} {n : Int}
theorem tunlock_ok {bt tx be pend db lim rt : Nat} {m1 m2 : Option Nat} {z cm : Int} {bp : Option Addr} (hp : pend < lim) (S : Sat H (pt bt (btO tx be pend m1 m2 z) :: pt be (beO cm db lim bp rt) :: l)) :
    CallsH Tryz.prog 111 ⟨[.pointer (some ⟨bt, 0, none⟩)]⟩ H (Gives (.tuple ⟨[]⟩) H) := by
  refine F111.calls ?_
  unfold F111.go
  (repeat (first | (refine Step.go ?_; intros) | refine iteB_t (by decide) ?_ | refine iteB_f (by decide) ?_ | (refine Duo.mk (by first | omega | exact rfl | decide) ?_; intros) | (refine Duo.mk (Clo.mk (by kernel_rfl)) ?_; intros)))
  refine iteB_f (decide_eq_false (by omega)) ?_
  refine nilD_i (zf_i (by kernel_rfl) (S.at_ (List.mem_cons_self ..)) fun a => ?_)
  refine g_i lk125 fun H1 E => ?_
  exact ⟨_, rfl, rfl, rfl, E⟩
theorem unlock0 {bt tx be db lim rt : Nat} {m1 m2 : Option Nat} {z cm : Int} {bp : Option Addr} (hp : 0 < lim) (S : Sat H (pt bt (btO tx be 0 m1 m2 z) :: pt be (beO cm db lim bp rt) :: l)) :
    CallsH Tryz.prog 97 ⟨[.pointer (some ⟨bt, 0, none⟩)]⟩ H (Gives (.tuple ⟨[]⟩) H) := by
  refine F97.calls ?_
  unfold F97.go
  (repeat (first | (refine Step.go ?_; intros) | refine iteB_t (by decide) ?_ | refine iteB_f (by decide) ?_ | (refine Duo.mk (by first | omega | exact rfl | decide) ?_; intros) | (refine Duo.mk (Clo.mk (by kernel_rfl)) ?_; intros)))
  refine g_i (tunlock_ok hp S) fun H1 E => ?_
  exact ⟨_, rfl, rfl, rfl, E⟩
theorem unlock1_go {R : Ending → Heap → Prop} {bt tx be pend db lim rt rm rb : Nat} {m1 m2 : Option Nat} {cm ver ver' : Int} {bp mu rx wg : Option Addr} (hp0 : pend ≠ 0) (hp : pend < lim) (hb : pend ≤ 1000000)
    (S : Sat H (pt bt (btO tx be pend m1 m2 0) :: pt be (beO cm db lim bp rt) :: pt rt (rtO rm ver mu rx rb wg) :: l))
    (fin : ∀ H1, Sat H1 (pt bt (btO tx be pend m1 m2 0) :: pt be (beO cm db lim bp rt) :: pt rt (rtO rm ver' mu rx rb wg) :: l') → R (.returned (.tuple ⟨[]⟩)) H1)
    (h45 : ∀ H1, Sat H1 (pt bt (btO tx be pend m1 m2 0) :: pt be (beO cm db lim bp rt) :: pt rt (rtO rm ver mu rx rb wg) :: l) → CallsH Tryz.prog 110 ⟨[.pointer (some ⟨bt, 3, none⟩), .pointer (some ⟨rt, 0, none⟩)]⟩ H1 (fun e H2 => e = .returned (.tuple ⟨[]⟩) ∧ Sat H2 (pt bt (btO tx be pend m1 m2 0) :: pt be (beO cm db lim bp rt) :: pt rt (rtO rm ver' mu rx rb wg) :: l'))) :
    F97.go (some ⟨bt, 0, none⟩) H R := by
  unfold F97.go
  (repeat (first | (refine Step.go ?_; intros) | refine iteB_t (by decide) ?_ | refine iteB_f (by decide) ?_ | (refine Duo.mk (by first | omega | exact rfl | decide) ?_; intros) | (refine Duo.mk (Clo.mk (by kernel_rfl)) ?_; intros)))
  refine iteB_t (by simp; omega) ?_
  (repeat (first | (refine Step.go ?_; intros) | refine iteB_t (by decide) ?_ | refine iteB_f (by decide) ?_ | (refine Duo.mk (by first | omega | exact rfl | decide) ?_; intros) | (refine Duo.mk (Clo.mk (by kernel_rfl)) ?_; intros)))
  refine gives_i S (lk107 (S.obj (r := rt) (o := rtO rm ver mu rx rb wg))) fun H1 E1 S1 => ?_
  clear S
  (repeat (first | (refine Step.go ?_; intros) | refine iteB_t (by decide) ?_ | refine iteB_f (by decide) ?_ | (refine Duo.mk (by first | omega | exact rfl | decide) ?_; intros) | (refine Duo.mk (Clo.mk (by kernel_rfl)) ?_; intros)))
  refine call_of (h45 H1 S1) ?_
  rintro e H2 ⟨rfl, S2⟩
  clear S1
  (repeat (first | (refine Step.go ?_; intros) | refine iteB_t (by decide) ?_ | refine iteB_f (by decide) ?_ | (refine Duo.mk (by first | omega | exact rfl | decide) ?_; intros) | (refine Duo.mk (Clo.mk (by kernel_rfl)) ?_; intros)))
  refine gives_i S2 (lk109 (S2.obj (r := rt) (o := rtO rm ver' mu rx rb wg))) fun H3 E3 S3 => ?_
  clear S2
  (repeat (first | (refine Step.go ?_; intros) | refine iteB_t (by decide) ?_ | refine iteB_f (by decide) ?_ | (refine Duo.mk (by first | omega | exact rfl | decide) ?_; intros) | (refine Duo.mk (Clo.mk (by kernel_rfl)) ?_; intros)))
  refine iteB_f (decide_eq_false (by omega)) ?_
  (repeat (first | (refine Step.go ?_; intros) | refine iteB_t (by decide) ?_ | refine iteB_f (by decide) ?_ | (refine Duo.mk (by first | omega | exact rfl | decide) ?_; intros) | (refine Duo.mk (Clo.mk (by kernel_rfl)) ?_; intros)))
  refine gives_i S3 (tunlock_ok hp S3) fun H4 E4 S4 => ?_
  (repeat (first | (refine Step.go ?_; intros) | refine iteB_t (by decide) ?_ | refine iteB_f (by decide) ?_ | (refine Duo.mk (by first | omega | exact rfl | decide) ?_; intros) | (refine Duo.mk (Clo.mk (by kernel_rfl)) ?_; intros)))
  exact fin _ S4
theorem unlock1 {bt tx be pend db lim rt rm rb : Nat} {m1 m2 : Option Nat} {cm ver ver' : Int} {bp mu rx wg : Option Addr} (hp0 : pend ≠ 0) (hp : pend < lim) (hb : pend ≤ 1000000)
    (S : Sat H (pt bt (btO tx be pend m1 m2 0) :: pt be (beO cm db lim bp rt) :: pt rt (rtO rm ver mu rx rb wg) :: l))
    (h45 : ∀ H1, Sat H1 (pt bt (btO tx be pend m1 m2 0) :: pt be (beO cm db lim bp rt) :: pt rt (rtO rm ver mu rx rb wg) :: l) → CallsH Tryz.prog 110 ⟨[.pointer (some ⟨bt, 3, none⟩), .pointer (some ⟨rt, 0, none⟩)]⟩ H1 (fun e H2 => e = .returned (.tuple ⟨[]⟩) ∧ Sat H2 (pt bt (btO tx be pend m1 m2 0) :: pt be (beO cm db lim bp rt) :: pt rt (rtO rm ver' mu rx rb wg) :: l'))) :
    CallsH Tryz.prog 97 ⟨[.pointer (some ⟨bt, 0, none⟩)]⟩ H (fun e H1 => e = .returned (.tuple ⟨[]⟩) ∧ Sat H1 (pt bt (btO tx be pend m1 m2 0) :: pt be (beO cm db lim bp rt) :: pt rt (rtO rm ver' mu rx rb wg) :: l')) :=
  F97.calls (unlock1_go hp0 hp hb S (fun H1 h => ⟨rfl, h⟩) h45)
end
end Go.Proofs.YtkenjnllegbmjaaGreat

set_option linter.unusedVariables false
set_option linter.unusedSimpArgs false
set_option linter.unnecessarySimpa false
set_option maxRecDepth 100000
namespace Go.Proofs.YtkenjnllegbmjaaGreat
open Go Go.Den Go.Proofs
/-! The batch transaction is committed, and a new one begins. -/
abbrev btO' (tx : Option Addr) (be : Nat) (pend : Nat) (m1 m2 : Option Nat) (z : Int) : Obj := .cells ⟨[.pointer tx, .pointer (some ⟨be, 0, none⟩), .int .i64 (pend : Int), .map m1, .map m2, .int .i64 z]⟩ 204
section
variable {H H0 : Heap} {l l' : List HP} {n : Int} {g : PH}
theorem commitL1 {bt be pend db lim rt c : Nat} {tx : Option Addr} {m1 m2 : Option Nat} {z cm : Int} {bp q : Option Addr} {D : List DtI} {R : Ending → Heap → Prop} (hR : RowsG DtI.cells 2 g q D) (hl : D.length ≤ 1000)
    (S : Sat H (pt bt (btO' tx be pend m1 m2 z) :: pt be (beO cm db lim bp rt) :: pt db (dbO q D.length c) :: has g :: l))
    (k : ∀ (x : TxN D) H1, Sat H1 (pt bt (btO x.tx be pend m1 m2 z) :: pt be (beO cm db lim bp rt) :: txM x.tx db true false x.B x.p x.c g (pt db (dbO q D.length c) :: l)) → R (.returned (.tuple ⟨[]⟩)) H1) :
    F118.L1 (some ⟨bt, 0, none⟩) false H R := by
  refine F118.L1_step ?_
  unfold F118.L1n
  (repeat (first | (refine Step.go ?_; intros) | refine iteB_t (by decide) ?_ | refine iteB_f (by decide) ?_ | (refine Duo.mk (by first | omega | exact rfl | decide) ?_; intros) | (refine Duo.mk (Clo.mk (by kernel_rfl)) ?_; intros)))
  refine grow_i (ι := TxN D) (v := fun x => .pointer (some ⟨x.tx, 0, none⟩)) (m := fun x => x.m db true) S (txBegin_ok (wr := true) (S.obj (r := be) (o := beO cm db lim bp rt)) (S.obj (r := db) (o := dbO q D.length c)) (hR H (subOf S (by simp))) hl) fun x H1 E1 S1 => ?_
  clear S
  have hx : x.B.length = D.length := by have := congrArg List.length x.eq; rwa [List.length_map] at this
  have S2 : Sat H1 (pt x.tx (txO db true false x.p D.length x.c) :: sl ptrC 299 1 x.p D.length x.c (x.B.map BkI.b) :: bkts x.tx x.B :: pt bt (btO' tx be pend m1 m2 z) :: pt be (beO cm db lim bp rt) :: pt db (dbO q D.length c) :: has g :: l) := S1
  clear S1
  (repeat (first | (refine Step.go ?_; intros) | refine iteB_t (by decide) ?_ | refine iteB_f (by decide) ?_ | (refine Duo.mk (by first | omega | exact rfl | decide) ?_; intros) | (refine Duo.mk (Clo.mk (by kernel_rfl)) ?_; intros)))
  rename_i H2 S3
  clear S2
  refine k x H2 ?_
  unfold txM
  rw [hx]
  refine S3.to ?_
  iterate 7 (apply Ent.pick; (focus (repeat (first | exact Sel.here | apply Sel.there))))
  exact .refl
theorem tcommit0 {bt tx be : Nat} {m1 m2 : Option Nat} {z : Int} (S : Sat H (pt bt (btO tx be 0 m1 m2 z) :: l)) :
    CallsH Tryz.prog 118 ⟨[.pointer (some ⟨bt, 0, none⟩), .bool false]⟩ H (Gives (.tuple ⟨[]⟩) H) := by
  refine F118.calls ?_
  unfold F118.go
  (repeat (first | (refine Step.go ?_; intros) | refine iteB_t (by decide) ?_ | refine iteB_f (by decide) ?_ | (refine Duo.mk (by first | omega | exact rfl | decide) ?_; intros) | (refine Duo.mk (Clo.mk (by kernel_rfl)) ?_; intros)))
  refine iteB_t rfl ?_
  (repeat (first | (refine Step.go ?_; intros) | refine iteB_t (by decide) ?_ | refine iteB_f (by decide) ?_ | (refine Duo.mk (by first | omega | exact rfl | decide) ?_; intros) | (refine Duo.mk (Clo.mk (by kernel_rfl)) ?_; intros)))
  exact ⟨rfl, ExtH.refl H⟩
theorem tcommit1 {bt tx be pend db lim rt c n0 c0 : Nat} {m1 m2 : Option Nat} {z cm : Int} {bp p p0 : Option Addr} {B : List BkI} (hp : pend ≠ 0) (hb : pend ≤ 1000000) (hl : B.length ≤ 1000)
    (S : Sat H (pt bt (btO tx be pend m1 m2 z) :: pt be (beO cm db lim bp rt) :: txM tx db true false B p c g (pt db (dbO p0 n0 c0) :: l))) :
    CallsH Tryz.prog 118 ⟨[.pointer (some ⟨bt, 0, none⟩), .bool false]⟩ H (fun e H1 => e = .returned (.tuple ⟨[]⟩) ∧ ∃ (x : TxN (B.map BkI.dt)) (g' : PH) (q' : Option Addr) (c' : Nat) (cm' : Int), PH.sub g g' ∧ RowsG DtI.cells 2 g' q' (B.map BkI.dt) ∧
      Sat H1 (pt bt (btO x.tx be 0 m1 m2 z) :: pt be (beO cm' db lim bp rt) :: txM x.tx db true false x.B x.p x.c g' (pt db (dbO q' B.length c') :: l))) := by
  refine F118.calls ?_
  unfold F118.go
  (repeat (first | (refine Step.go ?_; intros) | refine iteB_t (by decide) ?_ | refine iteB_f (by decide) ?_ | (refine Duo.mk (by first | omega | exact rfl | decide) ?_; intros) | (refine Duo.mk (Clo.mk (by kernel_rfl)) ?_; intros)))
  refine iteB_t rfl ?_
  (repeat (first | (refine Step.go ?_; intros) | refine iteB_t (by decide) ?_ | refine iteB_f (by decide) ?_ | (refine Duo.mk (by first | omega | exact rfl | decide) ?_; intros) | (refine Duo.mk (Clo.mk (by kernel_rfl)) ?_; intros)))
  refine iteB_f (by simp; omega) ?_
  refine F118.L0_step ?_
  unfold F118.L0n
  (repeat (first | (refine Step.go ?_; intros) | refine iteB_t (by decide) ?_ | refine iteB_f (by decide) ?_ | (refine Duo.mk (by first | omega | exact rfl | decide) ?_; intros) | (refine Duo.mk (Clo.mk (by kernel_rfl)) ?_; intros)))
  refine call_of (commitT_ok hl (S.to (m := txM tx db true false B p c g (pt db (dbO p0 n0 c0) :: pt bt (btO tx be pend m1 m2 z) :: pt be (beO cm db lim bp rt) :: l)) (by
    iterate 7 (apply Ent.pick; (focus (repeat (first | exact Sel.here | apply Sel.there))))
    exact .refl))) ?_
  rintro e H1 ⟨rfl, g', q', c', s1, hR, S1⟩
  clear S
  (repeat (first | (refine Step.go ?_; intros) | refine iteB_t (by decide) ?_ | refine iteB_f (by decide) ?_ | (refine Duo.mk (by first | omega | exact rfl | decide) ?_; intros) | (refine Duo.mk (Clo.mk (by kernel_rfl)) ?_; intros)))
  rename_i H2 S2 H3 S3
  clear S1 S2
  have hn : (B.map BkI.dt).length = B.length := List.length_map ..
  refine commitL1 (D := B.map BkI.dt) (q := q') (c := c') (g := g') hR (by rw [hn]; exact hl) (tx := some ⟨tx, 0, none⟩) (pend := 0) (cm := IntKind.wrap .i64 (cm + 1)) (S3.to (m := pt bt (btO tx be 0 m1 m2 z) :: pt be (beO (IntKind.wrap .i64 (cm + 1)) db lim bp rt) :: pt db (dbO q' (B.map BkI.dt).length c') :: has g' :: l) ?_) ?_
  · rw [hn]
    iterate 4 (apply Ent.pick; (focus (repeat (first | exact Sel.here | apply Sel.there))))
    iterate 3 (apply Ent.drop)
    exact .refl
  · intro x H4 S4
    rw [hn] at S4
    exact ⟨rfl, x, g', q', c', _, s1, hR, S4⟩
end
end Go.Proofs.YtkenjnllegbmjaaGreat

set_option linter.unusedVariables false
set_option linter.unusedSimpArgs false
set_option linter.unnecessarySimpa false
set_option maxRecDepth 100000
namespace Go.Proofs.YtkenjnllegbmjaaGreat
open Go Go.Den Go.Proofs
/-! What is pending is committed; the readers begin anew. -/
def Buf.z (b : Buf) : Buf := ⟨b.bb, b.q, b.c, 0, b.Y⟩
abbrev mpK (r : Nat) (M : List (Int × Nat)) : HP := mp (Value.int .i64) pv r M
section
variable {H H0 : Heap} {l l' : List HP} {n : Int} {g : PH}
theorem rollback_ok {rx db n c : Nat} {wr dn : Bool} {p : Option Addr} (S : Sat H (pt rx (txO db wr dn p n c) :: l)) : CallsH Tryz.prog 116 ⟨[.pointer (some ⟨rx, 0, none⟩)]⟩ H (fun e H1 => e = .returned .nilIface ∧ Sat H1 (pt rx (txO db wr true p n c) :: l)) := by
  refine F116.calls ?_
  unfold F116.go
  (repeat (first | (refine Step.go ?_; intros) | refine iteB_t (by decide) ?_ | refine iteB_f (by decide) ?_ | (refine Duo.mk (by first | omega | exact rfl | decide) ?_; intros) | (refine Duo.mk (Clo.mk (by kernel_rfl)) ?_; intros)))
  rename_i H1 S1
  exact ⟨rfl, S1⟩
theorem rreset_ok {rt rm rb : Nat} {ver : Int} {mu tx wg : Option Addr} {o : Option Buf} (ho : ∀ b, o = some b → b.u ≠ 0) (S : Sat H (pt rt (rtO rm ver mu tx rb wg) :: mpB rm (bufM n o) :: bufP o :: l)) :
    CallsH Tryz.prog 117 ⟨[.pointer (some ⟨rt, 0, none⟩)]⟩ H (fun e H1 => e = .returned (.tuple ⟨[]⟩) ∧ ∃ (rb' : Nat) (wg' : Option Addr), Sat H1 (pt rt (rtO rm ver mu none rb' wg') :: mpB rm (bufM n o) :: bufP (o.map Buf.z) :: mpK rb' [] :: l)) := by
  refine F117.calls ?_
  unfold F117.go
  refine nilD_i ?_
  have h58 : CallsH Tryz.prog 129 ⟨[.pointer (some ⟨rt, 0, none⟩)]⟩ H (fun e H1 => e = .returned (.tuple ⟨[]⟩) ∧ Sat H1 (pt rt (rtO rm ver mu tx rb wg) :: mpB rm (bufM n o) :: bufP (o.map Buf.z) :: l)) := by
    cases o with
    | none => exact reset0 (off := 0) rfl S
    | some b =>
      have S1 : Sat H (pt rt (rtO rm ver mu tx rb wg) :: mpB rm [(n, b.bb)] :: pt b.bb (bbO b.q b.c b.u) :: bufS b.q b.c b.Y :: l) := by
        refine (S.to (m := bufP (some b) :: pt rt (rtO rm ver mu tx rb wg) :: mpB rm [(n, b.bb)] :: l) ?_).to (Ent.trans bufP_out ?_)
        · iterate 3 (apply Ent.pick; (focus (repeat (first | exact Sel.here | apply Sel.there))))
          exact .refl
        · iterate 4 (apply Ent.pick; (focus (repeat (first | exact Sel.here | apply Sel.there))))
          exact .refl
      refine CallsH.mono (reset1 (off := 0) (n := n) (ho b rfl) rfl S1) ?_
      rintro e H1 ⟨rfl, S2⟩
      refine ⟨rfl, ?_⟩
      have S3 : Sat H1 (bufP (some b.z) :: pt rt (rtO rm ver mu tx rb wg) :: mpB rm [(n, b.bb)] :: l) := by
        refine (S2.to (m := pt b.bb (bbO b.q b.c 0) :: bufS b.q b.c b.Y :: pt rt (rtO rm ver mu tx rb wg) :: mpB rm [(n, b.bb)] :: l) ?_).to (bufP_in (b := b.z))
        iterate 4 (apply Ent.pick; (focus (repeat (first | exact Sel.here | apply Sel.there))))
        exact .refl
      refine S3.to ?_
      show Ent _ (pt rt (rtO rm ver mu tx rb wg) :: mpB rm [(n, b.bb)] :: bufP (some b.z) :: l)
      iterate 3 (apply Ent.pick; (focus (repeat (first | exact Sel.here | apply Sel.there))))
      exact .refl
  refine call_of h58 ?_
  rintro e H1 ⟨rfl, S1⟩
  clear S
  refine ⟨_, rfl, rfl, ?_⟩
  refine newX S1 fun rb' H2 E2 S2 => ?_
  clear S1
  have S3 := S2.mpNew (Value.int .i64) pv
  clear S2
  (repeat (first | (refine Step.go ?_; intros) | refine iteB_t (by decide) ?_ | refine iteB_f (by decide) ?_ | (refine Duo.mk (by first | omega | exact rfl | decide) ?_; intros) | (refine Duo.mk (Clo.mk (by kernel_rfl)) ?_; intros)))
  rename_i wgB Hx Sx HD SD
  refine ⟨rfl, rb', some ⟨wgB, 0, none⟩, SD.to ?_⟩
  iterate 4 (apply Ent.pick; (focus (repeat (first | exact Sel.here | apply Sel.there))))
  exact Ent.drop .refl
theorem ucommitL1 {bt be db lim rt rm rb : Nat} {m1 m2 : Option Nat} {z ver : Int} {bp mu wg rx0 : Option Addr} {D : List DtI} {R : Ending → Heap → Prop} (hl : D.length ≤ 1000)
    (h50 : CallsH Tryz.prog 118 ⟨[.pointer (some ⟨bt, 0, none⟩), .bool false]⟩ H (fun e H1 => e = .returned (.tuple ⟨[]⟩) ∧ ∃ (x : TxN D) (g' : PH) (q' : Option Addr) (c' : Nat) (cm' : Int), PH.sub g g' ∧ RowsG DtI.cells 2 g' q' D ∧ Sat H1 (pt bt (btO x.tx be 0 m1 m2 z) :: pt be (beO cm' db lim bp rt) :: txM x.tx db true false x.B x.p x.c g' (pt db (dbO q' D.length c') :: pt rt (rtO rm ver mu rx0 rb wg) :: l))))
    (k : ∀ (x y : TxN D) (g' : PH) (q' : Option Addr) (c' : Nat) (cm' : Int) (H1 : Heap), PH.sub g g' → RowsG DtI.cells 2 g' q' D → Sat H1 (pt bt (btO x.tx be 0 m1 m2 0) :: pt be (beO cm' db lim bp rt) :: txM x.tx db true false x.B x.p x.c g' (pt y.tx (txO db false false y.p D.length y.c) :: sl ptrC 299 1 y.p D.length y.c (y.B.map BkI.b) :: bkts y.tx y.B :: pt db (dbO q' D.length c') :: pt rt (rtO rm ver mu (some ⟨y.tx, 0, none⟩) rb wg) :: l)) → R (.returned (.tuple ⟨[]⟩)) H1) :
    F108.L1 (some ⟨bt, 0, none⟩) false H R := by
  refine F108.L1_step ?_
  unfold F108.L1n
  refine nilD_i ?_
  refine call_of h50 ?_
  rintro e H1 ⟨rfl, x, g', q', c', cm', s1, hR, S1⟩
  (repeat (first | (refine Step.go ?_; intros) | refine iteB_t (by decide) ?_ | refine iteB_f (by decide) ?_ | (refine Duo.mk (by first | omega | exact rfl | decide) ?_; intros) | (refine Duo.mk (Clo.mk (by kernel_rfl)) ?_; intros)))
  rename_i H2 S2
  clear S1
  refine grow_i (ι := TxN D) (v := fun x => .pointer (some ⟨x.tx, 0, none⟩)) (m := fun x => x.m db false) S2 (txBegin_ok (wr := false) (S2.obj (r := be) (o := beO cm' db lim bp rt)) (S2.obj (r := db) (o := dbO q' D.length c')) (hR H2 (subOf S2 (by simp))) hl) fun y H3 E3 S3 => ?_
  clear S2
  have S4 : Sat H3 (pt y.tx (txO db false false y.p D.length y.c) :: sl ptrC 299 1 y.p D.length y.c (y.B.map BkI.b) :: bkts y.tx y.B :: pt bt (btO x.tx be 0 m1 m2 0) :: pt be (beO cm' db lim bp rt) :: txM x.tx db true false x.B x.p x.c g' (pt db (dbO q' D.length c') :: pt rt (rtO rm ver mu rx0 rb wg) :: l)) := S3
  clear S3
  refine ⟨_, rfl, E3, ?_⟩
  (repeat (first | (refine Step.go ?_; intros) | refine iteB_t (by decide) ?_ | refine iteB_f (by decide) ?_ | (refine Duo.mk (by first | omega | exact rfl | decide) ?_; intros) | (refine Duo.mk (Clo.mk (by kernel_rfl)) ?_; intros)))
  rename_i H4 S5
  clear S4
  refine k x y g' q' c' cm' H4 s1 hR (S5.to ?_)
  iterate 11 (apply Ent.pick; (focus (repeat (first | exact Sel.here | apply Sel.there))))
  exact .refl
end
end Go.Proofs.YtkenjnllegbmjaaGreat

set_option linter.unusedVariables false
set_option linter.unusedSimpArgs false
set_option linter.unnecessarySimpa false
set_option maxRecDepth 100000
namespace Go.Proofs.YtkenjnllegbmjaaGreat
open Go Go.Den Go.Proofs
/-- What there is behind a commit. -/
structure Cmt (g : PH) (D : List DtI) where
  x : TxN D
  y : TxN D
  g' : PH
  q : Option Addr
  c : Nat
  cm : Int
  sub : PH.sub g g'
  rows : RowsG DtI.cells 2 g' q D
abbrev Cmt.P {g : PH} {D : List DtI} (a : Cmt g D) (bt be db lim rt rm rb : Nat) (m1 m2 : Option Nat) (ver : Int) (bp mu wg : Option Addr) (l : List HP) : List HP :=
  pt bt (btO a.x.tx be 0 m1 m2 0) :: pt be (beO a.cm db lim bp rt) :: txM a.x.tx db true false a.x.B a.x.p a.x.c a.g' (pt a.y.tx (txO db false false a.y.p D.length a.y.c) :: sl ptrC 299 1 a.y.p D.length a.y.c (a.y.B.map BkI.b) :: bkts a.y.tx a.y.B :: pt db (dbO a.q D.length a.c) :: pt rt (rtO rm ver mu (some ⟨a.y.tx, 0, none⟩) rb wg) :: l)
section
variable {H H0 : Heap} {l l' : List HP} {n : Int} {g : PH}
theorem tcommit_ok {bt tx be pend db lim rt c n0 c0 : Nat} {m1 m2 : Option Nat} {z cm : Int} {bp p p0 : Option Addr} {B : List BkI} (hD : pend = 0 → n0 = B.length ∧ RowsG DtI.cells 2 g p0 (B.map BkI.dt)) (hb : pend ≤ 1000000) (hl : B.length ≤ 1000)
    (S : Sat H (pt bt (btO tx be pend m1 m2 z) :: pt be (beO cm db lim bp rt) :: txM tx db true false B p c g (pt db (dbO p0 n0 c0) :: l))) :
    CallsH Tryz.prog 118 ⟨[.pointer (some ⟨bt, 0, none⟩), .bool false]⟩ H (fun e H1 => e = .returned (.tuple ⟨[]⟩) ∧ ∃ (x : TxN (B.map BkI.dt)) (g' : PH) (q' : Option Addr) (c' : Nat) (cm' : Int), PH.sub g g' ∧ RowsG DtI.cells 2 g' q' (B.map BkI.dt) ∧
      Sat H1 (pt bt (btO x.tx be 0 m1 m2 z) :: pt be (beO cm' db lim bp rt) :: txM x.tx db true false x.B x.p x.c g' (pt db (dbO q' (B.map BkI.dt).length c') :: l))) := by
  by_cases h : pend = 0
  · subst h
    obtain ⟨rfl, hR⟩ := hD rfl
    refine CallsH.mono (tcommit0 S) ?_
    rintro e H1 ⟨rfl, E1⟩
    refine ⟨rfl, ⟨tx, B, p, c, rfl⟩, g, p0, c0, cm, PH.sub.refl, hR, ?_⟩
    rw [List.length_map]
    exact S.ext E1
  · refine CallsH.mono (tcommit1 h hb hl S) ?_
    rintro e H1 ⟨rfl, x, g', q', c', cm', h1, h2, S1⟩
    refine ⟨rfl, x, g', q', c', cm', h1, h2, ?_⟩
    rw [List.length_map]
    exact S1
theorem ucommit_ok {bt tx be pend db lim rt rm rb c n0 c0 rx rn rc : Nat} {m1 m2 : Option Nat} {z cm ver : Int} {bp mu wg p p0 rp : Option Addr} {B : List BkI} {o : Option Buf} {dn : Bool} (hD : pend = 0 → n0 = B.length ∧ RowsG DtI.cells 2 g p0 (B.map BkI.dt)) (hb : pend ≤ 1000000) (hl : B.length ≤ 1000) (ho : ∀ b, o = some b → b.u ≠ 0)
    (S : Sat H (pt bt (btO tx be pend m1 m2 z) :: pt be (beO cm db lim bp rt) :: txM tx db true false B p c g (pt db (dbO p0 n0 c0) :: pt rx (txO db false dn rp rn rc) :: pt rt (rtO rm ver mu (some ⟨rx, 0, none⟩) rb wg) :: mpB rm (bufM n o) :: bufP o :: l))) :
    CallsH Tryz.prog 108 ⟨[.pointer (some ⟨bt, 0, none⟩), .bool false]⟩ H (fun e H1 => e = .returned (.tuple ⟨[]⟩) ∧ ∃ (a : Cmt g (B.map BkI.dt)) (rb' : Nat) (wg' : Option Addr), Sat H1 (a.P bt be db lim rt rm rb' m1 m2 ver bp mu wg' (mpB rm (bufM n o) :: bufP (o.map Buf.z) :: mpK rb' [] :: l))) := by
  refine F108.calls ?_
  unfold F108.go
  (repeat (first | (refine Step.go ?_; intros) | refine iteB_t (by decide) ?_ | refine iteB_f (by decide) ?_ | (refine Duo.mk (by first | omega | exact rfl | decide) ?_; intros) | (refine Duo.mk (Clo.mk (by kernel_rfl)) ?_; intros)))
  refine F108.L0_step ?_
  unfold F108.L0n
  (repeat (first | (refine Step.go ?_; intros) | refine iteB_t (by decide) ?_ | refine iteB_f (by decide) ?_ | (refine Duo.mk (by first | omega | exact rfl | decide) ?_; intros) | (refine Duo.mk (Clo.mk (by kernel_rfl)) ?_; intros)))
  refine iteB_t rfl ?_
  (repeat (first | (refine Step.go ?_; intros) | refine iteB_t (by decide) ?_ | refine iteB_f (by decide) ?_ | (refine Duo.mk (by first | omega | exact rfl | decide) ?_; intros) | (refine Duo.mk (Clo.mk (by kernel_rfl)) ?_; intros)))
  refine call_of (rollback_ok (S.to (m := pt rx (txO db false dn rp rn rc) :: pt bt (btO tx be pend m1 m2 z) :: pt be (beO cm db lim bp rt) :: txM tx db true false B p c g (pt db (dbO p0 n0 c0) :: pt rt (rtO rm ver mu (some ⟨rx, 0, none⟩) rb wg) :: mpB rm (bufM n o) :: bufP o :: l)) (by
    iterate 11 (apply Ent.pick; (focus (repeat (first | exact Sel.here | apply Sel.there))))
    exact .refl))) ?_
  rintro e H1 ⟨rfl, S1⟩
  clear S
  (repeat (first | (refine Step.go ?_; intros) | refine iteB_t (by decide) ?_ | refine iteB_f (by decide) ?_ | (refine Duo.mk (by first | omega | exact rfl | decide) ?_; intros) | (refine Duo.mk (Clo.mk (by kernel_rfl)) ?_; intros)))
  refine call_of (rreset_ok (n := n) ho (S1.to (m := pt rt (rtO rm ver mu (some ⟨rx, 0, none⟩) rb wg) :: mpB rm (bufM n o) :: bufP o :: pt bt (btO tx be pend m1 m2 z) :: pt be (beO cm db lim bp rt) :: txM tx db true false B p c g (pt db (dbO p0 n0 c0) :: l)) (by
    iterate 10 (apply Ent.pick; (focus (repeat (first | exact Sel.here | apply Sel.there))))
    exact Ent.drop .refl))) ?_
  rintro e H2 ⟨rfl, rb', wg', S2⟩
  clear S1
  refine ⟨_, rfl, rfl, ?_⟩
  refine ucommitL1 (g := g) (D := B.map BkI.dt) (by rw [List.length_map]; exact hl) (tcommit_ok hD hb hl (S2.to (m := pt bt (btO tx be pend m1 m2 z) :: pt be (beO cm db lim bp rt) :: txM tx db true false B p c g (pt db (dbO p0 n0 c0) :: pt rt (rtO rm ver mu none rb' wg') :: mpB rm (bufM n o) :: bufP (o.map Buf.z) :: mpK rb' [] :: l)) (by
    iterate 11 (apply Ent.pick; (focus (repeat (first | exact Sel.here | apply Sel.there))))
    exact .refl))) ?_
  intro x y g' q' c' cm' H3 s1 hR S3
  exact ⟨rfl, ⟨x, y, g', q', c', cm', s1, hR⟩, rb', wg', S3⟩
/-- The first commit: there is nothing yet. -/
theorem ucommit0_ok {bt be db lim rt rm rb c : Nat} {m1 m2 : Option Nat} {z cm ver : Int} {bp mu wg q : Option Addr} {D : List DtI} (hl : D.length ≤ 1000) (hR : RowsG DtI.cells 2 g q D)
    (S : Sat H (pt bt (btO' none be 0 m1 m2 z) :: pt be (beO cm db lim bp rt) :: pt db (dbO q D.length c) :: has g :: pt rt (rtO rm ver mu none rb wg) :: l)) :
    CallsH Tryz.prog 108 ⟨[.pointer (some ⟨bt, 0, none⟩), .bool false]⟩ H (fun e H1 => e = .returned (.tuple ⟨[]⟩) ∧ ∃ (a : Cmt g D), Sat H1 (a.P bt be db lim rt rm rb m1 m2 ver bp mu wg l)) := by
  refine F108.calls ?_
  unfold F108.go
  (repeat (first | (refine Step.go ?_; intros) | refine iteB_t (by decide) ?_ | refine iteB_f (by decide) ?_ | (refine Duo.mk (by first | omega | exact rfl | decide) ?_; intros) | (refine Duo.mk (Clo.mk (by kernel_rfl)) ?_; intros)))
  refine F108.L0_step ?_
  unfold F108.L0n
  (repeat (first | (refine Step.go ?_; intros) | refine iteB_t (by decide) ?_ | refine iteB_f (by decide) ?_ | (refine Duo.mk (by first | omega | exact rfl | decide) ?_; intros) | (refine Duo.mk (Clo.mk (by kernel_rfl)) ?_; intros)))
  refine ucommitL1 (g := g) (D := D) hl (ver := ver) (z := z) (mu := mu) (wg := wg) (rx0 := none) (bp := bp) (m1 := m1) (m2 := m2) (rt := rt) (lim := lim) (db := db) (be := be) (rm := rm) (rb := rb) (l := l) ?_ ?_
  · refine F118.calls ?_
    unfold F118.go
    (repeat (first | (refine Step.go ?_; intros) | refine iteB_t (by decide) ?_ | refine iteB_f (by decide) ?_ | (refine Duo.mk (by first | omega | exact rfl | decide) ?_; intros) | (refine Duo.mk (Clo.mk (by kernel_rfl)) ?_; intros)))
    refine commitL1 (D := D) (q := q) (c := c) (g := g) hR hl S ?_
    intro x H1 S1
    exact ⟨rfl, x, g, q, c, cm, PH.sub.refl, hR, S1⟩
  · intro x y g' q' c' cm' H3 s1 hR S3
    exact ⟨rfl, ⟨x, y, g', q', c', cm', s1, hR⟩, S3⟩
end
end Go.Proofs.YtkenjnllegbmjaaGreat

set_option linter.unusedVariables false
set_option linter.unusedSimpArgs false
set_option linter.unnecessarySimpa false
set_option maxRecDepth 100000
namespace Go.Proofs.YtkenjnllegbmjaaGreat
open Go Go.Den Go.Proofs
section
variable {H H0 : Heap} {l l' : List HP} {n : Int} {g : PH} {α : Type}
theorem commit39 {bt be db lim rt pend : Nat} {m1 m2 : Option Nat} {cm z : Int} {bp tx : Option Addr} {cs : List Value} {P Q : α → List HP} {ta cma : α → _} {ra : α → List Value}
    (hP : ∀ a, Ent (P a) (pt bt (btO (ta a) be 0 m1 m2 0) :: pt be (beO (cma a) db lim bp rt) :: pt rt (.cells ⟨ra a⟩ 156) :: Q a))
    (S : Sat H (pt bt (btO' tx be pend m1 m2 z) :: pt be (beO cm db lim bp rt) :: pt rt (.cells ⟨cs⟩ 156) :: l))
    (h43 : ∀ H1, Sat H1 (pt bt (btO' tx be pend m1 m2 z) :: pt be (beO cm db lim bp rt) :: pt rt (.cells ⟨cs⟩ 156) :: l) → CallsH Tryz.prog 108 ⟨[.pointer (some ⟨bt, 0, none⟩), .bool false]⟩ H1 (fun e H2 => e = .returned (.tuple ⟨[]⟩) ∧ ∃ a, Sat H2 (P a))) :
    CallsH Tryz.prog 96 ⟨[.pointer (some ⟨bt, 0, none⟩), .bool false]⟩ H (fun e H2 => e = .returned (.tuple ⟨[]⟩) ∧ ∃ a, Sat H2 (P a)) := by
  refine F96.calls ?_
  unfold F96.go
  (repeat (first | (refine Step.go ?_; intros) | refine iteB_t (by decide) ?_ | refine iteB_f (by decide) ?_ | (refine Duo.mk (by first | omega | exact rfl | decide) ?_; intros) | (refine Duo.mk (Clo.mk (by kernel_rfl)) ?_; intros)))
  refine gives_i S (lk107 (S.obj (r := rt) (o := .cells ⟨cs⟩ 156))) fun H1 E1 S1 => ?_
  clear S
  (repeat (first | (refine Step.go ?_; intros) | refine iteB_t (by decide) ?_ | refine iteB_f (by decide) ?_ | (refine Duo.mk (by first | omega | exact rfl | decide) ?_; intros) | (refine Duo.mk (Clo.mk (by kernel_rfl)) ?_; intros)))
  refine call_of (h43 H1 S1) ?_
  rintro e H2 ⟨rfl, a, S2⟩
  clear S1
  have S3 := S2.to (hP a)
  (repeat (first | (refine Step.go ?_; intros) | refine iteB_t (by decide) ?_ | refine iteB_f (by decide) ?_ | (refine Duo.mk (by first | omega | exact rfl | decide) ?_; intros) | (refine Duo.mk (Clo.mk (by kernel_rfl)) ?_; intros)))
  refine gives_i S2 (lk109 (S3.obj (r := rt) (o := .cells ⟨ra a⟩ 156))) fun H3 E3 S4 => ?_
  clear S2 S3
  exact ⟨_, rfl, rfl, rfl, a, S4⟩
theorem commit37 {bt be db lim rt pend : Nat} {m1 m2 : Option Nat} {cm z : Int} {bp tx : Option Addr} {cs : List Value} {P Q : α → List HP} {ta cma : α → _} {ra : α → List Value} (hlim : 0 < lim)
    (hP : ∀ a, Ent (P a) (pt bt (btO (ta a) be 0 m1 m2 0) :: pt be (beO (cma a) db lim bp rt) :: pt rt (.cells ⟨ra a⟩ 156) :: Q a))
    (S : Sat H (pt bt (btO' tx be pend m1 m2 z) :: pt be (beO cm db lim bp rt) :: pt rt (.cells ⟨cs⟩ 156) :: l))
    (h43 : ∀ H1, Sat H1 (pt bt (btO' tx be pend m1 m2 z) :: pt be (beO cm db lim bp rt) :: pt rt (.cells ⟨cs⟩ 156) :: l) → CallsH Tryz.prog 108 ⟨[.pointer (some ⟨bt, 0, none⟩), .bool false]⟩ H1 (fun e H2 => e = .returned (.tuple ⟨[]⟩) ∧ ∃ a, Sat H2 (P a))) :
    CallsH Tryz.prog 73 ⟨[.pointer (some ⟨bt, 0, none⟩)]⟩ H (fun e H2 => e = .returned (.tuple ⟨[]⟩) ∧ ∃ a, Sat H2 (P a)) := by
  refine F73.calls ?_
  unfold F73.go
  refine nilD_i ?_
  refine gives_i S (lk95 (S.obj (r := bt) (o := btO' tx be pend m1 m2 z))) fun H1 E1 S1 => ?_
  refine ⟨_, rfl, rfl, ?_⟩
  refine call_of (commit39 hP S1 h43) ?_
  rintro e H2 ⟨rfl, a, S2⟩
  refine ⟨_, rfl, rfl, ?_⟩
  refine gives_i S2 (unlock0 hlim (S2.to (hP a))) fun H3 E3 S3 => ?_
  exact ⟨_, rfl, rfl, rfl, a, S3⟩
end
end Go.Proofs.YtkenjnllegbmjaaGreat

set_option linter.unusedVariables false
set_option linter.unusedSimpArgs false
set_option linter.unnecessarySimpa false
set_option maxRecDepth 100000
namespace Go.Proofs.YtkenjnllegbmjaaGreat
open Go Go.Den Go.Proofs
/-! Methods of what a struct has within it. -/
section
variable {P : Program} {H : Heap}
def strT (P : Program) (t : TypeId) : Bool := match P.underlying t with | some (.struct _) => true | _ => false
theorem method_embV {t : TypeId} {name : String} {off : Nat} {ft : TypeId} {f : FuncId} {a : Addr} {n : Nat} (he : embF P t name = some (off, ft, some (f, true))) (hp : strT P ft = true) : readV P (method (n + 1) t (.pointer (some a)) name) H = some (f, .pointer (some (a.add off))) := by
  obtain ⟨i, m, fi, hi, hf, hg, hfi, hz, hfo⟩ := emb_follow (H := H) (a := a) he
  unfold strT at hp
  split at hp
  · rename_i e hu
    rw [method, readV_bind, readV_typeInfo hi]
    simp only [Option.bind_some, hf]
    rw [readV_bind, hfo, Option.bind_some, hg]
    dsimp only
    rw [readV_bind]
    have : readV P (receiverAt ft (.var (a.add off)) true (if m.path.isEmpty then some ((name.splitOn ".").getLastD name) else none)) H = some (.pointer (some (a.add off))) := by
      unfold receiverAt
      rw [readV_bind, readV_underlying hu]
      rfl
    rw [this]
    rfl
  · cases hp
theorem callI_e {t : TypeId} {name : String} {off : Nat} {ft : TypeId} {f : FuncId} {a : Addr} {args : List Value} {Q : List PanicEntry → Heap → Prop} {K : Value → Heap → Prop} (he : embF P t name = some (off, ft, some (f, true))) (hp : strT P ft = true) (hf : fnOk P f = true)
    (k : callD P f (.pointer (some (a.add off)) :: args) H Q K) : callI P (.iface t (.pointer (some a))) name args H Q K :=
  callI_m (method_embV he hp) hf k
theorem em_lock : embF Tryz.prog 161 "LockOutsideApply" = some (0, 199, some (253, true)) := by kernel_rfl
theorem em_create : embF Tryz.prog 161 "UnsafeCreateBucket" = some (0, 199, some (254, true)) := by kernel_rfl
theorem em_inside : embF Tryz.prog 161 "LockInsideApply" = some (0, 199, some (252, true)) := by kernel_rfl
theorem em_each : embF Tryz.prog 161 "UnsafeForEach" = some (0, 199, some (257, true)) := by kernel_rfl
end
section
variable {H : Heap} {l : List HP} {Q : List PanicEntry → Heap → Prop} {K : Value → Heap → Prop} {r : Nat} {args : List Value}
theorem lockI {c : Array Value} (hb : H[r]? = some (.cells c 204)) (k : ∀ H1, ExtH H H1 → K (.tuple ⟨[]⟩) H1) : callI Tryz.prog (.iface 161 (pv r)) "LockOutsideApply" [] H Q K :=
  callI_e em_lock (by kernel_rfl) (by kernel_rfl) (g_i (lk253 hb) k)
theorem createI (k : callD Tryz.prog 254 (pv r :: args) H Q K) : callI Tryz.prog (.iface 161 (pv r)) "UnsafeCreateBucket" args H Q K :=
  callI_e em_create (by kernel_rfl) (by kernel_rfl) k
theorem insideI (k : callD Tryz.prog 252 (pv r :: args) H Q K) : callI Tryz.prog (.iface 161 (pv r)) "LockInsideApply" args H Q K :=
  callI_e em_inside (by kernel_rfl) (by kernel_rfl) k
theorem eachI (k : callD Tryz.prog 257 (pv r :: args) H Q K) : callI Tryz.prog (.iface 161 (pv r)) "UnsafeForEach" args H Q K :=
  callI_e em_each (by kernel_rfl) (by kernel_rfl) k
theorem unlockI (k : callD Tryz.prog 97 (pv r :: args) H Q K) : callI Tryz.prog (.iface 161 (pv r)) "Unlock" args H Q K :=
  callI_i (f := 97) (by kernel_rfl) (by kernel_rfl) (by kernel_rfl) k
theorem putI (k : callD Tryz.prog 258 (pv r :: args) H Q K) : callI Tryz.prog (.iface 161 (pv r)) "UnsafePut" args H Q K :=
  callI_i (f := 258) (by kernel_rfl) (by kernel_rfl) (by kernel_rfl) k
theorem batchI (k : callD Tryz.prog 182 (pv r :: args) H Q K) : callI Tryz.prog (.iface 116 (pv r)) "BatchTx" args H Q K :=
  callI_i (f := 182) (by kernel_rfl) (by kernel_rfl) (by kernel_rfl) k
theorem forceI (k : callD Tryz.prog 184 (pv r :: args) H Q K) : callI Tryz.prog (.iface 116 (pv r)) "ForceCommit" args H Q K :=
  callI_i (f := 184) (by kernel_rfl) (by kernel_rfl) (by kernel_rfl) k
end
end Go.Proofs.YtkenjnllegbmjaaGreat

set_option linter.unusedVariables false
set_option linter.unusedSimpArgs false
set_option linter.unnecessarySimpa false
set_option maxRecDepth 100000
namespace Go.Proofs.YtkenjnllegbmjaaGreat
open Go Go.Den Go.Proofs
/-! A bucket is made. -/
section
variable {H H0 : Heap} {l : List HP} {n : Int} {g : PH} {s : ByteArray} {f : Bool}
theorem ucreate_ok {bt tx be pend db c : Nat} {m1 m2 : Option Nat} {z : Int} {p : Option Addr} {A C : List BkI} (hg : ∀ x ∈ A ++ C, BkG g x) (hz : s.size ≤ 1000) (hl : (A ++ C).length ≤ 900) (hlo : ∀ x ∈ A, ltS x.name.s s = true) (hhi : ∀ x ∈ C, ltS s x.name.s = true) (hp : pend ≤ 1000000)
    (S : Sat H (pt bt (btO tx be pend m1 m2 z) :: txM tx db true false (A ++ C) p c g l)) :
    CallsH Tryz.prog 254 ⟨[pv bt, bkT n s f]⟩ H (fun e H1 => e = .returned (.tuple ⟨[]⟩) ∧ ∃ (b : Nat) (q : Option Addr) (c1 : Nat) (g' : PH) (p' : Option Addr) (c' : Nat), PH.sub g g' ∧ BytsG g' ⟨s, q, c1⟩ ∧
      Sat H1 (pt bt (btO tx be (pend + 1) m1 m2 z) :: txM tx db true false (A ++ newBk b s q c1 :: C) p' c' g' l)) := by
  refine F254.calls (bucket := .mk 258 (.agg ⟨[.int .i64 n, .string s, .bool f]⟩)) ?_
  unfold F254.go
  refine Step.go ?_
  refine Step.go ?_
  refine nameI (g := g) (by omega) (S.to (m := has g :: pt bt (btO tx be pend m1 m2 z) :: pt tx (txO db true false p (A ++ C).length c) :: sl ptrC 299 1 p (A ++ C).length c ((A ++ C).map BkI.b) :: bkts tx (A ++ C) :: l) (by
    iterate 5 (apply Ent.pick; (focus (repeat (first | exact Sel.here | apply Sel.there))))
    exact Ent.refl)) fun r0 c0 H1 g1 E1 s1 hb1 S1 => ?_
  clear S
  refine Step.go ?_
  refine ⟨E1, ?_⟩
  refine call_of (create_ok (nm := ⟨s, some ⟨r0, 0, none⟩, c0⟩) (A := A) (C := C) (db := db) (dn := false) (p := p) (c := c) (fun y hy => (hg y hy).mono s1) hb1 hz hl hlo hhi (S1.to (by
    iterate 5 (apply Ent.pick; (focus (repeat (first | exact Sel.here | apply Sel.there))))
    exact Ent.refl))) ?_
  rintro e H2 ⟨b, q, c1, g', p', c', rfl, s2, hb2, S2⟩
  clear S1
  (repeat (first | (refine Step.go ?_; intros) | refine iteB_t (by decide) ?_ | refine iteB_f (by decide) ?_ | (refine Duo.mk (by first | omega | exact rfl | decide) ?_; intros) | (refine Duo.mk (Clo.mk (by kernel_rfl)) ?_; intros)))
  refine F254.L0_step ?_
  unfold F254.L0n
  (repeat (first | (refine Step.go ?_; intros) | refine iteB_t (by decide) ?_ | refine iteB_f (by decide) ?_ | (refine Duo.mk (by first | omega | exact rfl | decide) ?_; intros) | (refine Duo.mk (Clo.mk (by kernel_rfl)) ?_; intros)))
  rename_i H3 S3
  clear S2
  rw [wr64 (by omega) (by omega), show ((pend : Nat) : Int) + 1 = ((pend + 1 : Nat) : Int) by omega] at S3
  refine ⟨rfl, b, q, c1, g', p', c', s1.trans s2, hb2, S3.to ?_⟩
  iterate 5 (apply Ent.pick; (focus (repeat (first | exact Sel.here | apply Sel.there))))
  exact Ent.refl
end
end Go.Proofs.YtkenjnllegbmjaaGreat

set_option linter.unusedVariables false
set_option linter.unusedSimpArgs false
set_option linter.unnecessarySimpa false
set_option maxRecDepth 100000
namespace Go.Proofs.YtkenjnllegbmjaaGreat
open Go Go.Den Go.Proofs
/-! A backend is made. -/
section
variable {H H0 : Heap} {l : List HP} {g : PH}
theorem Cmt.ent {D : List DtI} (a : Cmt g D) {bt be db lim rt rm rb : Nat} {m1 m2 : Option Nat} {ver : Int} {bp mu wg : Option Addr} :
    Ent (a.P bt be db lim rt rm rb m1 m2 ver bp mu wg l) (pt bt (btO a.x.tx be 0 m1 m2 0) :: pt be (beO a.cm db lim bp rt) :: pt rt (rtO rm ver mu (some ⟨a.y.tx, 0, none⟩) rb wg) :: txM a.x.tx db true false a.x.B a.x.p a.x.c a.g' (pt a.y.tx (txO db false false a.y.p D.length a.y.c) :: sl ptrC 299 1 a.y.p D.length a.y.c (a.y.B.map BkI.b) :: bkts a.y.tx a.y.B :: pt db (dbO a.q D.length a.c) :: l)) := by
  iterate 11 (apply Ent.pick; (focus (repeat (first | exact Sel.here | apply Sel.there))))
  exact .refl
theorem newBatch_ok {be db lim rt rm rb c : Nat} {cm ver : Int} {mu wg q : Option Addr} {D : List DtI} (hlim : 0 < lim) (hl : D.length ≤ 1000) (hR : RowsG DtI.cells 2 g q D)
    (S : Sat H (pt be (beO cm db lim none rt) :: pt db (dbO q D.length c) :: has g :: pt rt (rtO rm ver mu none rb wg) :: l)) :
    CallsH Tryz.prog 43 ⟨[pv be]⟩ H (fun e H1 => ∃ (bt m1 m2 : Nat) (a : Cmt g D), e = .returned (pv bt) ∧ Sat H1 (a.P bt be db lim rt rm rb (some m1) (some m2) ver none mu wg (mpB m1 [] :: mpS m2 [] :: l))) := by
  refine F43.calls ?_
  unfold F43.go
  refine newX S fun m1 H1 E1 S1 => ?_
  clear S
  refine newX (S1.mpNew (Value.int .i64) pv) fun m2 H2 E2 S2 => ?_
  clear S1
  refine newX (S2.mpNew (Value.int .i64) Value.bool) fun bt H3 E3 S3 => ?_
  clear S2
  refine call_of (commit37 (α := Cmt g D) (be := be) (db := db) (lim := lim) (bp := none) (m1 := some m1) (m2 := some m2) (rt := rt) (P := fun a => a.P bt be db lim rt rm rb (some m1) (some m2) ver none mu wg (mpB m1 [] :: mpS m2 [] :: l)) (ta := fun a => a.x.tx) (cma := fun a => a.cm) (ra := fun a => [.map (some rm), .int .u64 ver, .pointer mu, .pointer (some ⟨a.y.tx, 0, none⟩), .map (some rb), .pointer wg]) hlim (fun a => a.ent) (tx := none) (pend := 0) (z := 0) (cm := cm) (cs := [.map (some rm), .int .u64 ver, .pointer mu, .pointer none, .map (some rb), .pointer wg]) (S3.to (l := pt bt (btO' none be 0 (some m1) (some m2) 0) :: mpS m2 [] :: mpB m1 [] :: pt be (beO cm db lim none rt) :: pt db (dbO q D.length c) :: has g :: pt rt (rtO rm ver mu none rb wg) :: l) (m := pt bt (btO' none be 0 (some m1) (some m2) 0) :: pt be (beO cm db lim none rt) :: pt rt (rtO rm ver mu none rb wg) :: pt db (dbO q D.length c) :: has g :: mpB m1 [] :: mpS m2 [] :: l) (by
    iterate 7 (apply Ent.pick; (focus (repeat (first | exact Sel.here | apply Sel.there))))
    exact .refl)) (fun H4 S4 => ucommit0_ok hl hR (S4.to (by
    iterate 5 (apply Ent.pick; (focus (repeat (first | exact Sel.here | apply Sel.there))))
    exact .refl)))) ?_
  rintro e H4 ⟨rfl, a, S4⟩
  exact ⟨_, rfl, rfl, bt, m1, m2, a, rfl, S4⟩
theorem newBack_ok {db lim c : Nat} {q : Option Addr} {D : List DtI} (hlim : 0 < lim) (hl : D.length ≤ 1000) (hR : RowsG DtI.cells 2 g q D)
    (S : Sat H (pt db (dbO q D.length c) :: has g :: l)) :
    CallsH Tryz.prog 14 ⟨[pv db, .int .i64 (lim : Int)]⟩ H (fun e H1 => ∃ (be bt m1 m2 rt rm rb : Nat) (mu wg : Option Addr) (a : Cmt g D), e = .returned (.iface 116 (pv be)) ∧ Sat H1 (a.P bt be db lim rt rm rb (some m1) (some m2) 0 (some ⟨bt, 0, none⟩) mu wg (mpB m1 [] :: mpS m2 [] :: mpB rm [] :: mpK rb [] :: l))) := by
  refine F14.calls ?_
  unfold F14.go
  have h31 : CallsH Tryz.prog 29 ⟨[pv db, .int .i64 (lim : Int)]⟩ H (fun e H1 => ∃ (be bt m1 m2 rt rm rb : Nat) (mu wg : Option Addr) (a : Cmt g D), e = .returned (pv be) ∧ Sat H1 (a.P bt be db lim rt rm rb (some m1) (some m2) 0 (some ⟨bt, 0, none⟩) mu wg (mpB m1 [] :: mpS m2 [] :: mpB rm [] :: mpK rb [] :: l))) := by
    refine F29.calls ?_
    unfold F29.go
    refine newX S fun rm H1 E1 S1 => ?_
    clear S
    refine newX (S1.mpNew (Value.int .i64) pv) fun rb H2 E2 S2 => ?_
    clear S1
    refine newX (S2.mpNew (Value.int .i64) pv) fun wg H3 E3 S3 => ?_
    clear S2
    refine newX S3 fun mu H4 E4 S4 => ?_
    clear S3
    refine newX S4 fun rt H5 E5 S5 => ?_
    clear S4
    refine newX S5 fun be H6 E6 S6 => ?_
    clear S5
    refine call_of (newBatch_ok (be := be) (db := db) (lim := lim) (rt := rt) (rm := rm) (rb := rb) (cm := 0) (ver := 0) (mu := some ⟨mu, 0, none⟩) (wg := some ⟨wg, 0, none⟩) (q := q) (c := c) (D := D) (g := g) (l := mpB rm [] :: mpK rb [] :: l) hlim hl hR (S6.to (by
      iterate 6 (apply Ent.pick; (focus (repeat (first | exact Sel.here | apply Sel.there))))
      iterate 2 (apply Ent.drop)
      exact .refl))) ?_
    rintro e H7 ⟨bt, m1, m2, a, rfl, S7⟩
    clear S6
    refine ⟨_, rfl, ?_⟩
    (repeat (first | (refine Step.go ?_; intros) | refine iteB_t (by decide) ?_ | refine iteB_f (by decide) ?_ | (refine Duo.mk (by first | omega | exact rfl | decide) ?_; intros) | (refine Duo.mk (Clo.mk (by kernel_rfl)) ?_; intros)))
    rename_i H8 S8
    clear S7
    exact ⟨be, bt, m1, m2, rt, rm, rb, _, _, a, rfl, S8⟩
  refine call_of h31 ?_
  rintro e H1 ⟨be, bt, m1, m2, rt, rm, rb, mu, wg, a, rfl, S1⟩
  exact ⟨_, rfl, be, bt, m1, m2, rt, rm, rb, mu, wg, a, rfl, S1⟩
end
end Go.Proofs.YtkenjnllegbmjaaGreat

set_option linter.unusedVariables false
set_option linter.unusedSimpArgs false
set_option linter.unnecessarySimpa false
set_option maxRecDepth 100000
namespace Go.Proofs.YtkenjnllegbmjaaGreat
open Go Go.Den Go.Proofs
/-! A row is put, not in order. -/
section
variable {H H0 : Heap} {l : List HP} {g : PH} {n : Int} {s : ByteArray} {f : Bool}
theorem tput2_ok {bt : Nat} {k v : Bs} {R : Ending → Heap → Prop} (hc : CallsH Tryz.prog 266 ⟨[.pointer (some ⟨bt, 0, none⟩), bkT n s f, k.v, v.v, .bool false]⟩ H (fun e H1 => e = .returned (.tuple ⟨[]⟩) ∧ R e H1)) :
    CallsH Tryz.prog 263 ⟨[.pointer (some ⟨bt, 0, none⟩), bkT n s f, k.v, v.v]⟩ H (fun e H1 => e = .returned (.tuple ⟨[]⟩) ∧ R e H1) := by
  refine F263.calls (bucket := .mk 258 (.agg ⟨[.int .i64 n, .string s, .bool f]⟩)) ?_
  unfold F263.go
  refine call_of hc ?_
  rintro e H1 ⟨rfl, h⟩
  exact ⟨_, rfl, rfl, rfl, h⟩
theorem bput2_ok {bt tx be pend m2 : Nat} {m1 : Option Nat} {z : Int} {M2 : List (Int × Bool)} {k v : Bs} {R : Ending → Heap → Prop}
    (S : Sat H (mpS m2 M2 :: pt bt (btO tx be pend m1 (some m2) z) :: l))
    (hc : ∀ H1, Sat H1 (mpS m2 (mset M2 n false) :: pt bt (btO tx be pend m1 (some m2) z) :: l) → CallsH Tryz.prog 267 ⟨[.pointer (some ⟨bt, 3, none⟩), bkT n s f, k.v, v.v]⟩ H1 (fun e H1 => e = .returned (.tuple ⟨[]⟩) ∧ R e H1)) :
    CallsH Tryz.prog 264 ⟨[.pointer (some ⟨bt, 3, none⟩), bkT n s f, k.v, v.v]⟩ H (fun e H1 => e = .returned (.tuple ⟨[]⟩) ∧ R e H1) := by
  refine F264.calls (bucket := .mk 258 (.agg ⟨[.int .i64 n, .string s, .bool f]⟩)) ?_
  unfold F264.go
  refine Step.go ?_
  refine Step.go ?_
  refine idI S fun H1 E1 S1 => ?_
  clear S
  refine Step.go ?_
  refine ⟨E1, ?_⟩
  refine S1.mpSet MI134 n false fun H4 S5 => ?_
  refine call_of (hc H4 S5) ?_
  rintro e H1 ⟨rfl, h⟩
  exact ⟨_, rfl, rfl, rfl, h⟩
theorem uput_ok {bt : Nat} {k v : Bs} {R1 R2 : Heap → Prop} (h1 : CallsH Tryz.prog 266 ⟨[.pointer (some ⟨bt, 0, none⟩), bkT n s f, k.v, v.v, .bool false]⟩ H (fun e H1 => e = .returned (.tuple ⟨[]⟩) ∧ R1 H1))
    (h2 : ∀ H1, R1 H1 → CallsH Tryz.prog 264 ⟨[.pointer (some ⟨bt, 3, none⟩), bkT n s f, k.v, v.v]⟩ H1 (fun e H2 => e = .returned (.tuple ⟨[]⟩) ∧ R2 H2)) :
    CallsH Tryz.prog 258 ⟨[.pointer (some ⟨bt, 0, none⟩), bkT n s f, k.v, v.v]⟩ H (fun e H1 => e = .returned (.tuple ⟨[]⟩) ∧ R2 H1) := by
  refine F258.calls (bucket := .mk 258 (.agg ⟨[.int .i64 n, .string s, .bool f]⟩)) ?_
  unfold F258.go
  refine Step.go ?_
  refine call_of (tput2_ok (R := fun _ H1 => R1 H1) h1) ?_
  rintro e H1 ⟨rfl, r1⟩
  refine ⟨_, rfl, rfl, ?_⟩
  refine call_of (h2 H1 r1) ?_
  rintro e H2 ⟨rfl, r2⟩
  exact ⟨_, rfl, rfl, rfl, r2⟩
end
end Go.Proofs.YtkenjnllegbmjaaGreat
