/- What functions of this seat do, each proved by a walk; no condition. -/
import Derived.Test.YtkenjnllegbmjaaGreatLM6
set_option linter.unusedVariables false
set_option linter.unusedSimpArgs false
set_option linter.unnecessarySimpa false
set_option maxRecDepth 100000
namespace Go.Proofs.YtkenjnllegbmjaaGreat
open Go Go.Den Go.Proofs
/-! The bucket of leases is made, and read. -/
section
variable {H H0 : Heap} {l l' : List HP} {g : PH}
theorem mkBucket_ok {bt tx be db c : Nat} {m1 m2 : Option Nat} {p : Option Addr}
    (S : Sat H (pt bt (btO tx be 0 m1 m2 0) :: txM tx db true false [] p c g l)) :
    CallsH Tryz.prog 74 ⟨[.iface 161 (pv bt)]⟩ H (fun e H1 => e = .returned (.tuple ⟨[]⟩) ∧ ∃ (b : Nat) (q : Option Addr) (c1 : Nat) (g' : PH) (p' : Option Addr) (c' : Nat), PH.sub g g' ∧ BkG g' (newBk b nL q c1) ∧
      Sat H1 (pt bt (btO tx be 1 m1 m2 0) :: txM tx db true false [newBk b nL q c1] p' c' g' l)) := by
  refine F74.calls (tx := .mk 161 (pv bt)) ?_
  unfold F74.go
  refine ⟨by kernel_rfl, ?_⟩
  refine gives_i S lease_b fun H1 E1 S1 => ?_
  clear S
  refine ⟨.mk _ _, rfl, ?_⟩
  refine createI ?_
  refine call_of (ucreate_ok (A := []) (C := []) (s := nL) (n := 3) (f := false) (p := p) (c := c) (by simp) (by decide) (by simp) (by simp) (by simp) (by omega) S1) ?_
  rintro e H2 ⟨rfl, b, q, c1, g', p', c', s1, hb, S2⟩
  refine ⟨_, rfl, rfl, ?_⟩
  exact ⟨rfl, b, q, c1, g', p', c', s1, newBk_G hb, S2⟩
theorem each_ok {tx db c : Nat} {p : Option Addr} {x : BkI} {v : FV} (hx : BkG g x) (hx0 : x.xs = []) (hxn : x.name.s = nL)
    (S : Sat H (txM tx db true false [x] p c g l)) :
    CallsH Tryz.prog 244 ⟨[pv tx, bkT 3 nL false, v.v]⟩ H (fun e H1 => e = .returned .nilIface ∧ ∃ g', PH.sub g g' ∧ Sat H1 (txM tx db true false [x] p c g' l)) := by
  refine F244.calls (bucket := .mk 258 (.agg ⟨[.int .i64 3, .string nL, .bool false]⟩)) ?_
  unfold F244.go
  refine nameI (g := g) (by decide) (S.to (m := has g :: pt tx (txO db true false p [x].length c) :: sl ptrC 299 1 p [x].length c ([x].map BkI.b) :: bkts tx [x] :: l) (by
    iterate 4 (apply Ent.pick; (focus (repeat (first | exact Sel.here | apply Sel.there))))
    exact Ent.refl)) fun r0 c0 H1 g1 E1 s1 hb1 S1 => ?_
  clear S
  refine ⟨_, _, _, rfl, ?_⟩
  have S2 : Sat H1 (txM tx db true false [x] p c g1 l) := S1.to (by
    iterate 4 (apply Ent.pick; (focus (repeat (first | exact Sel.here | apply Sel.there))))
    exact Ent.refl)
  clear S1
  refine gives_i S2 (bucket_ok (nm := ⟨nL, some ⟨r0, 0, none⟩, c0⟩) (i := 0) (x := x) (fun y hy => by simp at hy; subst hy; exact hx.mono s1) hb1 (by simp) rfl hxn (fun j y hj hy => by omega) S2) fun H2 E2 S3 => ?_
  clear S2
  refine ⟨_, rfl, iteB_t rfl ?_⟩
  have hob : H2[x.b]? = some (x.obj tx) := bkts_at (tx := tx) (B := [x]) (by simp) S3 (by simp)
  have h247 : CallsH Tryz.prog 247 ⟨[pv x.b, v.v]⟩ H2 (Gives .nilIface H2) := by
    have S0 := Sat.start H2
    have ao := atOld hob
    refine F247.calls ?_
    unfold F247.go
    (repeat (first | (refine Step.go ?_; intros) | refine iteB_t (by decide) ?_ | refine iteB_f (by decide) ?_ | (refine Duo.mk (by first | omega | exact rfl | decide) ?_; intros) | (refine Duo.mk (Clo.mk (by kernel_rfl)) ?_; intros)))
    refine F247.L0_step ?_
    unfold F247.L0n
    rw [hx0]
    refine iteB_f rfl ?_
    exact ⟨rfl, ExtH.refl H2⟩
  refine gives_i S3 h247 fun H3 E3 S4 => ?_
  refine ⟨.nil, rfl, ?_⟩
  exact ⟨rfl, g1, s1, S4⟩
theorem getAll_ok {bt tx be pend db c : Nat} {m1 m2 : Option Nat} {p : Option Addr} {x : BkI} (hx : BkG g x) (hx0 : x.xs = []) (hxn : x.name.s = nL)
    (S : Sat H (pt bt (btO tx be pend m1 m2 0) :: txM tx db true false [x] p c g l)) :
    CallsH Tryz.prog 75 ⟨[.iface 161 (pv bt)]⟩ H (fun e H1 => ∃ (q : Option Addr) (cc : Nat) (g' : PH), e = .returned (.slice q 0 cc) ∧ PH.sub g g' ∧ Sat H1 (pt bt (btO tx be pend m1 m2 0) :: txM tx db true false [x] p c g' l)) := by
  refine F75.calls (tx := .mk 161 (pv bt)) ?_
  unfold F75.go
  (repeat (first | (refine Step.go ?_; intros) | refine iteB_t (by decide) ?_ | refine iteB_f (by decide) ?_ | (refine Duo.mk (by first | omega | exact rfl | decide) ?_; intros) | (refine Duo.mk (Clo.mk (by kernel_rfl)) ?_; intros)))
  have S1 := ‹Sat _ (pt _ (.cells ⟨[.slice _ _ _]⟩ 209) :: _)›
  rename_i r Ha Sa r1 Hb Sb Hc Sc
  clear Sa Sb S
  refine ⟨by kernel_rfl, ?_⟩
  refine gives_i S1 lease_b fun H4 E4 S4 => ?_
  clear S1 Sc
  refine ⟨.mk _ _, rfl, ?_⟩
  refine eachI ?_
  have h257 : CallsH Tryz.prog 257 ⟨[pv bt, bkT 3 nL false, .func (.func 99) ⟨[]⟩ ⟨[pv r1]⟩]⟩ H4 (fun e H5 => e = .returned .nilIface ∧ ∃ g', PH.sub g g' ∧ Sat H5 (pt r1 (.cells ⟨[.slice (some ⟨r, 0, none⟩) 0 0]⟩ 209) :: pt bt (btO tx be pend m1 m2 0) :: txM tx db true false [x] p c g' l)) := by
    refine F257.calls (bucket := .mk 258 (.agg ⟨[.int .i64 3, .string nL, .bool false]⟩)) (visitor := .mk (.func 99) ⟨[]⟩ ⟨[pv r1]⟩) ?_
    unfold F257.go
    (repeat (first | (refine Step.go ?_; intros) | refine iteB_t (by decide) ?_ | refine iteB_f (by decide) ?_ | (refine Duo.mk (by first | omega | exact rfl | decide) ?_; intros) | (refine Duo.mk (Clo.mk (by kernel_rfl)) ?_; intros)))
    refine call_of (each_ok (v := .mk (.func 99) ⟨[]⟩ ⟨[pv r1]⟩) (db := db) (p := p) (c := c) hx hx0 hxn (l := pt r1 (.cells ⟨[.slice (some ⟨r, 0, none⟩) 0 0]⟩ 209) :: pt bt (btO tx be pend m1 m2 0) :: l) (S4.to ?_)) ?_
    · iterate 6 (apply Ent.pick; (focus (repeat (first | exact Sel.here | apply Sel.there))))
      exact Ent.drop .refl
    rintro e H5 ⟨rfl, g', s1, S5⟩
    refine ⟨.nil, rfl, rfl, g', s1, S5.to ?_⟩
    iterate 6 (apply Ent.pick; (focus (repeat (first | exact Sel.here | apply Sel.there))))
    exact .refl
  refine call_of h257 ?_
  rintro e H5 ⟨rfl, g', s1, S5⟩
  refine ⟨.nil, rfl, ?_⟩
  clear S4
  have hif : ∀ (X Y : Prop), Y → ifNilD (IV.v .nil) (fun b => iteB (!b) X Y) := fun X Y h => h
  refine hif _ _ ?_
  (repeat (first | (refine Step.go ?_; intros) | refine iteB_t (by decide) ?_ | refine iteB_f (by decide) ?_ | (refine Duo.mk (by first | omega | exact rfl | decide) ?_; intros) | (refine Duo.mk (Clo.mk (by kernel_rfl)) ?_; intros)))
  refine ⟨_, _, g', rfl, s1, S5.to (Ent.drop .refl)⟩
end
end Go.Proofs.YtkenjnllegbmjaaGreat

set_option linter.unusedVariables false
set_option linter.unusedSimpArgs false
set_option linter.unnecessarySimpa false
set_option maxRecDepth 100000
namespace Go.Proofs.YtkenjnllegbmjaaGreat
open Go Go.Den Go.Proofs
/-! The bucket is handed over and committed. -/
section
variable {H H0 : Heap} {l l' : List HP} {g : PH}
theorem unlockE_ok {bt tx be db rt rm rb m1 m2 : Nat} {cm ver : Int} {bp mu rx wg : Option Addr}
    (S : Sat H (pt bt (btO tx be 1 (some m1) (some m2) 0) :: pt be (beO cm db 1000 bp rt) :: pt rt (rtO rm ver mu rx rb wg) :: mpB m1 [] :: mpS m2 [] :: l)) :
    CallsH Tryz.prog 97 ⟨[pv bt]⟩ H (fun e H1 => e = .returned (.tuple ⟨[]⟩) ∧ Sat H1 (pt bt (btO tx be 1 (some m1) (some m2) 0) :: pt be (beO cm db 1000 bp rt) :: pt rt (rtO rm (IntKind.wrap .u64 (ver + 1)) mu rx rb wg) :: mpB m1 [] :: mpS m2 [] :: l)) := by
  refine unlock1 (by omega) (by omega) (by omega) S ?_
  intro H1 S1
  refine CallsH.mono (wb0 (S1.to (m := pt bt (btO tx be 1 (some m1) (some m2) 0) :: mpB m1 [] :: mpS m2 [] :: pt rt (rtO rm ver mu rx rb wg) :: pt be (beO cm db 1000 bp rt) :: l) (by
    iterate 5 (apply Ent.pick; (focus (repeat (first | exact Sel.here | apply Sel.there))))
    exact .refl))) ?_
  rintro e H2 ⟨rfl, S2⟩
  refine ⟨rfl, S2.to ?_⟩
  iterate 5 (apply Ent.pick; (focus (repeat (first | exact Sel.here | apply Sel.there))))
  exact .refl
theorem force_ok {bt tx be db rt rm rb m1 m2 rx rn rc n0 dc c : Nat} {cm ver : Int} {mu wg rp dp p : Option Addr} {x : BkI} (hx : BkG g x) (hx0 : x.xs = []) (hxn : x.name.s = nL)
    (S : Sat H (pt bt (btO tx be 1 (some m1) (some m2) 0) :: pt be (beO cm db 1000 (some ⟨bt, 0, none⟩) rt) :: txM tx db true false [x] p c g (pt rx (txO db false false rp rn rc) :: pt db (dbO dp n0 dc) :: pt rt (rtO rm ver mu (some ⟨rx, 0, none⟩) rb wg) :: mpB rm [] :: mpB m1 [] :: mpS m2 [] :: l))) :
    CallsH Tryz.prog 184 ⟨[pv be]⟩ H (fun e H1 => e = .returned (.tuple ⟨[]⟩) ∧ ∃ b : BEf, b.be = be ∧ Sat H1 (b.P l)) := by
  refine F184.calls ?_
  unfold F184.go
  (repeat (first | (refine Step.go ?_; intros) | refine iteB_t (by decide) ?_ | refine iteB_f (by decide) ?_ | (refine Duo.mk (by first | omega | exact rfl | decide) ?_; intros) | (refine Duo.mk (Clo.mk (by kernel_rfl)) ?_; intros)))
  refine call_of (commit37 (α := Cmt g ([x].map BkI.dt) × Nat × Option Addr) (bt := bt) (be := be) (db := db) (lim := 1000) (bp := some ⟨bt, 0, none⟩) (m1 := some m1) (m2 := some m2) (rt := rt)
    (P := fun a => a.1.P bt be db 1000 rt rm a.2.1 (some m1) (some m2) ver (some ⟨bt, 0, none⟩) mu a.2.2 (mpB rm (bufM 3 none) :: bufP none :: mpK a.2.1 [] :: mpB m1 [] :: mpS m2 [] :: l)) (ta := fun a => a.1.x.tx) (cma := fun a => a.1.cm) (ra := fun a => [.map (some rm), .int .u64 ver, .pointer mu, .pointer (some ⟨a.1.y.tx, 0, none⟩), .map (some a.2.1), .pointer a.2.2]) (by omega) (fun a => a.1.ent) (tx := some ⟨tx, 0, none⟩) (pend := 1) (z := 0) (cm := cm) (cs := [.map (some rm), .int .u64 ver, .pointer mu, .pointer (some ⟨rx, 0, none⟩), .map (some rb), .pointer wg])
    (l := txM tx db true false [x] p c g (pt rx (txO db false false rp rn rc) :: pt db (dbO dp n0 dc) :: mpB rm (bufM 3 none) :: bufP none :: mpB m1 [] :: mpS m2 [] :: l)) (S.to ?_) ?_) ?_
  · iterate 10 (apply Ent.pick; (focus (repeat (first | exact Sel.here | apply Sel.there))))
    refine Ent.trans bufP_none ?_
    iterate 3 (apply Ent.pick; (focus (repeat (first | exact Sel.here | apply Sel.there))))
    exact .refl
  · intro H4 S4
    refine CallsH.mono (ucommit_ok (pend := 1) (g := g) (tx := tx) (be := be) (db := db) (lim := 1000) (rt := rt) (m1 := some m1) (m2 := some m2) (z := 0) (cm := cm) (bp := some ⟨bt, 0, none⟩) (n := 3) (B := [x]) (p := p) (c := c) (p0 := dp) (n0 := n0) (c0 := dc) (o := none) (dn := false) (rx := rx) (rp := rp) (rn := rn) (rc := rc) (rm := rm) (rb := rb) (ver := ver) (mu := mu) (wg := wg) (l := mpB m1 [] :: mpS m2 [] :: l) (fun h => by omega) (by omega) (by simp) (fun b hb => by cases hb) (S4.to ?_)) ?_
    · iterate 13 (apply Ent.pick; (focus (repeat (first | exact Sel.here | apply Sel.there))))
      exact .refl
    rintro e H5 ⟨rfl, a, rb', wg', S5⟩
    exact ⟨rfl, ⟨a, rb', wg'⟩, S5⟩
  rintro e H5 ⟨rfl, ⟨a, rb', wg'⟩, S5⟩
  refine ⟨_, rfl, rfl, ?_⟩
  have hd : DtG a.g' x.dt := (hx.mono a.sub).dt
  have ha := a.x.eq
  obtain ⟨x', hx'⟩ : ∃ x', a.x.B = [x'] := by
    have := congrArg List.length ha
    simp at this
    exact List.length_eq_one_iff.1 this
  have hdt : x'.dt = x.dt := by rw [hx'] at ha; simpa using ha
  have hg' : BkG a.g' x' := by
    rw [← hdt] at hd
    exact ⟨hd.nm, hd.rows, hd.kr, hd.srt, hd.cap⟩
  have h0' : x'.xs = [] := by
    have := congrArg DtI.xs hdt
    exact this.trans hx0
  have hn' : x'.name.s = nL := by
    have := congrArg DtI.name hdt
    have h2 : x'.name = x.name := this
    rw [h2]; exact hxn
  refine ⟨rfl, ⟨bt, a.x.tx, db, be, rt, rm, rb', a.x.c, m1, m2, x', a.x.p, mu, some ⟨a.y.tx, 0, none⟩, wg', a.cm, ver, a.g', hg', h0', hn'⟩, rfl, S5.to ?_⟩
  show Ent (a.P bt be db 1000 rt rm rb' (some m1) (some m2) ver (some ⟨bt, 0, none⟩) mu wg' (mpB rm [] :: bufP none :: mpK rb' [] :: mpB m1 [] :: mpS m2 [] :: l)) _
  unfold Cmt.P
  rw [hx']
  iterate 10 (apply Ent.pick; (focus (repeat (first | exact Sel.here | apply Sel.there))))
  iterate 6 (apply Ent.drop)
  exact .refl
end
end Go.Proofs.YtkenjnllegbmjaaGreat

set_option linter.unusedVariables false
set_option linter.unusedSimpArgs false
set_option linter.unnecessarySimpa false
set_option maxRecDepth 100000
namespace Go.Proofs.YtkenjnllegbmjaaGreat
open Go Go.Den Go.Proofs
/-! Steps in any order, each of which makes a piece. -/
theorem AnyO.of {l : List (Nat × Stp)} {L : List HP} {Good : Nat → Value → HP → Prop} {H : Heap} {K : List Value → Heap → Prop} (hn : (l.map Prod.fst).Nodup)
    (step : ∀ i ∈ l.map Prod.fst, ∃ s : Stp, Den.look i l = some s ∧ ∀ (H : Heap) (m : List HP) (K : Value → Heap → Prop), Sat H (L ++ m) → (∀ v p H1, Good i v p → Sat H1 (p :: (L ++ m)) → K v H1) → s H K)
    (S : Sat H L) (k : ∀ (g : Nat → Value) (ps : Nat → HP) (H1 : Heap), (∀ i ∈ l.map Prod.fst, Good i (g i) (ps i)) → Sat H1 (L ++ (l.map Prod.fst).map ps) → K ((l.map Prod.fst).map g) H1) : AnyO l H K := by
  intro π hπ
  have key : ∀ (π D : List Nat) (g : Nat → Value) (ps : Nat → HP) (H : Heap), (D ++ π).Perm (l.map Prod.fst) → (∀ i ∈ D, Good i (g i) (ps i)) → Sat H (L ++ D.map ps) → seqO l π g H fun g H' => K ((l.map Prod.fst).map g) H' := by
    intro π
    induction π with
    | nil =>
      intro D g ps H hp hg S
      rw [List.append_nil] at hp
      refine k g ps H (fun i hi => hg i (hp.mem_iff.2 hi)) (S.to fun k x => SatP.perm ?_ x)
      exact (hp.map ps).append_left L
    | cons i π ih =>
      intro D g ps H hp hg S
      have hi : i ∈ l.map Prod.fst := hp.mem_iff.1 (by simp)
      obtain ⟨s, hs, hst⟩ := step i hi
      simp only [seqO, hs]
      refine hst H (D.map ps) _ S fun v p H1 hG S1 => ?_
      have hnd : (D ++ i :: π).Nodup := hp.nodup_iff.2 hn
      have hiD : i ∉ D := fun h => (List.nodup_append.1 hnd).2.2 i h i (List.mem_cons_self ..) rfl
      refine ih (D ++ [i]) _ (fun j => if j = i then p else ps j) H1 (by simpa using hp) ?_ ?_
      · intro j hj
        rcases List.mem_append.1 hj with hj | hj
        · have : j ≠ i := fun e => hiD (e ▸ hj)
          simp only [if_neg this]
          exact hg j hj
        · obtain rfl := List.mem_singleton.1 hj
          simp only [if_pos]
          exact hG
      · have e : (D ++ [i]).map (fun j => if j = i then p else ps j) = D.map ps ++ [p] := by
          rw [List.map_append]
          congr 1
          · refine List.map_congr_left fun j hj => ?_
            have : j ≠ i := fun e => hiD (e ▸ hj)
            simp only [if_neg this]
          · simp
        rw [e]
        refine S1.to fun k x => SatP.perm ?_ x
        rw [← List.append_assoc]
        exact (List.perm_append_singleton p (L ++ D.map ps)).symm
  exact key π [] _ (fun _ => star []) H (by simpa using hπ) (by simp) (by simpa using S)
end Go.Proofs.YtkenjnllegbmjaaGreat

set_option linter.unusedVariables false
set_option linter.unusedSimpArgs false
set_option linter.unnecessarySimpa false
set_option maxRecDepth 100000
namespace Go.Proofs.YtkenjnllegbmjaaGreat
open Go Go.Den Go.Proofs
/-! A lessor reads what the backend has: nothing. -/
/-- A backend that was just opened over nothing. -/
structure OBf where
  bt : Nat
  tx : Nat
  db : Nat
  be : Nat
  rt : Nat
  rm : Nat
  rb : Nat
  m1 : Nat
  m2 : Nat
  rx : Nat
  rn : Nat
  rc : Nat
  n0 : Nat
  dc : Nat
  c : Nat
  cm : Int
  ver : Int
  mu : Option Addr
  wg : Option Addr
  rp : Option Addr
  dp : Option Addr
  p : Option Addr
  g : PH
abbrev OBf.P (b : OBf) (l : List HP) : List HP :=
  pt b.bt (btO b.tx b.be 0 (some b.m1) (some b.m2) 0) :: pt b.be (beO b.cm b.db 1000 (some ⟨b.bt, 0, none⟩) b.rt) :: txM b.tx b.db true false [] b.p b.c b.g (pt b.rx (txO b.db false false b.rp b.rn b.rc) :: pt b.db (dbO b.dp b.n0 b.dc) :: pt b.rt (rtO b.rm b.ver b.mu (some ⟨b.rx, 0, none⟩) b.rb b.wg) :: mpB b.rm [] :: mpB b.m1 [] :: mpS b.m2 [] :: l)
section
variable {H H0 : Heap} {l l' : List HP} {f : LeF} {rd : Value} {le : Nat}
theorem hinit_ok {r off c : Nat} {p : Option Addr} (h : hcell H ⟨r, off, none⟩ = some (.slice p 0 c)) : CallsH Tryz.prog 77 ⟨[.iface 194 (.pointer (some ⟨r, off, none⟩))]⟩ H (Gives (.tuple ⟨[]⟩) H) := by
  refine F77.calls (h1 := .mk 194 (.pointer (some ⟨r, off, none⟩))) ?_
  unfold F77.go
  refine callI_sl (e := 131) (u := 189) (f := 67) (by kernel_rfl) (by kernel_rfl) (by kernel_rfl) (by kernel_rfl) ?_
  refine ⟨_, _, _, h, ?_⟩
  have h67 : CallsH Tryz.prog 67 ⟨[.slice p 0 c]⟩ H (Gives (.int .i64 0) H) := F67.calls ⟨rfl, ExtH.refl H⟩
  refine g_i h67 fun H1 E1 => ?_
  refine ⟨_, rfl, by decide, ?_⟩
  refine F77.L0_step ?_
  unfold F77.L0n
  refine iteB_f rfl ?_
  exact ⟨rfl, E1⟩
theorem ninit_ok {nt nm c : Nat} {p : Option Addr} (S : Sat H (nqs nt nm p 0 c [] [] l)) : CallsH Tryz.prog 76 ⟨[pv nt]⟩ H (fun e H1 => e = .returned (.tuple ⟨[]⟩) ∧ ∃ nm', Sat H1 (nqs nt nm' p 0 c [] [] l)) := by
  refine F76.calls ?_
  unfold F76.go
  refine nilD_i ?_
  refine gives_i S (hinit_ok (r := nt) (off := 1) (p := p) (c := c) (cellOf (off := 1) (T := 207) S (List.mem_cons_self ..) rfl)) fun H1 E1 S1 => ?_
  clear S
  refine tTup_nil ?_
  refine newX S1 fun nm' H2 E2 S2 => ?_
  clear S1
  have S3 := S2.mpNew (Value.int .i64) pv
  clear S2
  (repeat (first | (refine Step.go ?_; intros) | refine iteB_t (by decide) ?_ | refine iteB_f (by decide) ?_ | (refine Duo.mk (by first | omega | exact rfl | decide) ?_; intros) | (refine Duo.mk (Clo.mk (by kernel_rfl)) ?_; intros)))
  rename_i H3 S4
  clear S3
  refine F76.L0_step ?_
  unfold F76.L0n
  refine iteB_f rfl ?_
  refine ⟨rfl, nm', S4.to ?_⟩
  iterate 3 (apply Ent.pick; (focus (repeat (first | exact Sel.here | apply Sel.there))))
  apply Ent.pick
  · focus (repeat (first | exact Sel.here | apply Sel.there))
  exact Ent.drop .refl
theorem init_ok {b : OBf} {nm c : Nat} {p : Option Addr} (hbe : f.be = b.be) (S : Sat H (pt le (leO f none rd) :: nqs f.nt nm p 0 c [] [] (b.P l))) :
    CallsH Tryz.prog 45 ⟨[pv le]⟩ H (fun e H1 => e = .returned (.tuple ⟨[]⟩) ∧ ∃ (b' : BEf) (nm' : Nat), b'.be = f.be ∧ Sat H1 (pt le (leO f none rd) :: nqs f.nt nm' p 0 c [] [] (b'.P l))) := by
  refine F45.calls ?_
  unfold F45.go
  (repeat (first | (refine Step.go ?_; intros) | refine iteB_t (by decide) ?_ | refine iteB_f (by decide) ?_ | (refine Duo.mk (by first | omega | exact rfl | decide) ?_; intros) | (refine Duo.mk (Clo.mk (by kernel_rfl)) ?_; intros)))
  rw [hbe]
  refine batchI ?_
  refine gives_i S (batch_ok (S.to (m := pt b.be (beO b.cm b.db 1000 (some ⟨b.bt, 0, none⟩) b.rt) :: []) (by
    iterate 1 (apply Ent.pick; (focus (repeat (first | exact Sel.here | apply Sel.there))))
    exact .nil))) fun H1 E1 S1 => ?_
  clear S
  refine ⟨.mk _ _, rfl, ?_⟩
  refine lockI (S1.obj (r := b.bt) (o := btO b.tx b.be 0 (some b.m1) (some b.m2) 0)) fun H2 E2 => ?_
  have S2 := S1.ext E2
  clear S1
  refine tTup_nil ?_
  refine call_of (mkBucket_ok (bt := b.bt) (tx := b.tx) (be := b.be) (db := b.db) (c := b.c) (m1 := some b.m1) (m2 := some b.m2) (p := b.p) (g := b.g) (S2.to (by
    iterate 5 (apply Ent.pick; (focus (repeat (first | exact Sel.here | apply Sel.there))))
    exact .refl))) ?_
  rintro e H3 ⟨rfl, bb, q, c1, g', p', c', s1, hx, S3⟩
  clear S2
  refine tTup_nil ?_
  refine call_of (getAll_ok (bt := b.bt) (tx := b.tx) (be := b.be) (db := b.db) (pend := 1) (c := c') (m1 := some b.m1) (m2 := some b.m2) (p := p') (x := newBk bb nL q c1) hx rfl rfl S3) ?_
  rintro e H4 ⟨q2, cc, g2, rfl, s2, S4⟩
  clear S3
  refine ⟨_, _, _, rfl, ?_⟩
  refine unlockI ?_
  refine call_of (unlockE_ok (bt := b.bt) (tx := b.tx) (be := b.be) (db := b.db) (rt := b.rt) (rm := b.rm) (rb := b.rb) (m1 := b.m1) (m2 := b.m2) (cm := b.cm) (ver := b.ver) (bp := some ⟨b.bt, 0, none⟩) (mu := b.mu) (rx := some ⟨b.rx, 0, none⟩) (wg := b.wg) (S4.to (by
    iterate 5 (apply Ent.pick; (focus (repeat (first | exact Sel.here | apply Sel.there))))
    exact .refl))) ?_
  rintro e H5 ⟨rfl, S5⟩
  clear S4
  refine tTup_nil ?_
  refine F45.L0_step ?_
  unfold F45.L0n
  refine iteB_f rfl ?_
  (repeat (first | (refine Step.go ?_; intros) | refine iteB_t (by decide) ?_ | refine iteB_f (by decide) ?_ | (refine Duo.mk (by first | omega | exact rfl | decide) ?_; intros) | (refine Duo.mk (Clo.mk (by kernel_rfl)) ?_; intros)))
  refine call_of (ninit_ok (nt := f.nt) (nm := nm) (p := p) (c := c) (S5.to (by
    iterate 4 (apply Ent.pick; (focus (repeat (first | exact Sel.here | apply Sel.there))))
    exact .refl))) ?_
  rintro e H6 ⟨rfl, nm', S6⟩
  clear S5
  refine tTup_nil ?_
  refine nilD_i ?_
  have hle := S6.obj (r := le) (o := leO f none rd)
  refine gives_i S6 (hinit_ok (r := le) (off := 3) (p := f.q) (c := f.qc) (hcell_of hle rfl)) fun H7 E7 S7 => ?_
  clear S6
  refine tTup_nil ?_
  (repeat (first | (refine Step.go ?_; intros) | refine iteB_t (by decide) ?_ | refine iteB_f (by decide) ?_ | (refine Duo.mk (by first | omega | exact rfl | decide) ?_; intros) | (refine Duo.mk (Clo.mk (by kernel_rfl)) ?_; intros)))
  rw [hbe]
  refine forceI ?_
  refine call_of (force_ok (bt := b.bt) (tx := b.tx) (db := b.db) (be := b.be) (rt := b.rt) (rm := b.rm) (rb := b.rb) (m1 := b.m1) (m2 := b.m2) (rx := b.rx) (rn := b.rn) (rc := b.rc) (n0 := b.n0) (dc := b.dc) (c := c') (cm := b.cm) (ver := IntKind.wrap .u64 (b.ver + 1)) (mu := b.mu) (wg := b.wg) (rp := b.rp) (dp := b.dp) (p := p') (x := newBk bb nL q c1) (g := g2) (hx.mono s2) rfl rfl (S7.to (by
    iterate 12 (apply Ent.pick; (focus (repeat (first | exact Sel.here | apply Sel.there))))
    exact .refl))) ?_
  rintro e H8 ⟨rfl, b', hb', S8⟩
  refine tTup_nil ?_
  refine ⟨rfl, b', nm', hb', S8.to ?_⟩
  iterate 15 (apply Ent.pick; (focus (repeat (first | exact Sel.here | apply Sel.there))))
  exact .refl
end
end Go.Proofs.YtkenjnllegbmjaaGreat

set_option linter.unusedVariables false
set_option linter.unusedSimpArgs false
set_option linter.unnecessarySimpa false
set_option maxRecDepth 100000
namespace Go.Proofs.YtkenjnllegbmjaaGreat
open Go Go.Den Go.Proofs
/-! A lessor is made. -/
def GoodL : Nat → Value → HP → Prop := fun i v p =>
  if i = 0 ∨ i = 1 then ∃ r, v = .map (some r) ∧ p = mpL r []
  else if i = 2 then ∃ nt nm q, v = pv nt ∧ p = star (nqs nt nm q 0 0 [] [] [])
  else if i = 3 then ∃ q c, v = .slice q 0 c ∧ p = star []
  else if i = 6 then v = .int .i64 0 ∧ p = star []
  else if i = 11 then v = .bool false ∧ p = star []
  else ∃ c, v = .chan c ∧ p = star []
theorem good_map {i : Nat} {v : Value} {p : HP} (h : i = 0 ∨ i = 1) (g : GoodL i v p) : ∃ r, v = .map (some r) ∧ p = mpL r [] := by unfold GoodL at g; rwa [if_pos h] at g
abbrev cfO : Obj := .cells ⟨[.int .i64 0, .int .i64 0, .int .i64 0, .bool false, .int .i64 0]⟩ 61
section
variable {H H0 : Heap} {l l' : List HP} {f : LeF} {rd : Value} {le : Nat}
theorem dropS {p : HP} (S : Sat H (p :: l)) : Sat H (star [] :: l) := (S.to (Ent.drop .refl)).to (Ent.star .refl)
theorem newLessor_ok {b : OBf} {ck : Nat} (S : Sat H (b.P l)) :
    CallsH Tryz.prog 30 ⟨[.pointer none, .iface 116 (pv b.be), pv ck, .agg ⟨[.int .i64 0, .int .i64 0, .int .i64 0, .bool false, .int .i64 0]⟩]⟩ H (fun e H1 => ∃ (le : Nat) (f : LeF) (nm : Nat) (p : Option Addr) (b' : BEf), e = .returned (pv le) ∧ f.ck = ck ∧ f.be = b'.be ∧
      Sat H1 (pt le (leO f none .nilFunc) :: mpL f.lm [] :: nqs f.nt nm p 0 0 [] [] (b'.P l))) := by
  refine F30.calls (b := .mk 116 (pv b.be)) ?_
  unfold F30.go
  (repeat (first | (refine Step.go ?_; intros) | refine iteB_t (by decide) ?_ | refine iteB_f (by decide) ?_ | (refine Duo.mk (by first | omega | exact rfl | decide) ?_; intros) | (refine Duo.mk (Clo.mk (by kernel_rfl)) ?_; intros)))
  rename_i cfg H1 S1
  clear S
  refine F30.L0_step ?_
  unfold F30.L0n
  refine iteB_t rfl ?_
  refine F30.L1_step ?_
  unfold F30.L1n
  refine iteB_t rfl ?_
  refine F30.L2_step ?_
  unfold F30.L2n
  refine AnyO.of (L := pt cfg cfO :: b.P l) (Good := GoodL) (by show [0, 1, 2, 3, 6, 11, 12, 13, 14].Nodup; decide) ?_ S1 ?_
  · intro i hi
    have hi : i ∈ [0, 1, 2, 3, 6, 11, 12, 13, 14] := hi
    simp only [List.mem_cons, List.not_mem_nil, or_false] at hi
    rcases hi with rfl | rfl | rfl | rfl | rfl | rfl | rfl | rfl | rfl
    · refine ⟨_, rfl, fun H m K S k => ?_⟩
      show newD H (.map #[] 0) fun r H2 => K (.map (some r)) H2
      refine newX S fun r H1 E1 S1 => ?_
      exact k _ _ _ ⟨r, rfl, rfl⟩ (S1.mpNew (Value.int .i64) pv)
    · refine ⟨_, rfl, fun H m K S k => ?_⟩
      show newD H (.map #[] 0) fun r H2 => K (.map (some r)) H2
      refine newX S fun r H1 E1 S1 => ?_
      exact k _ _ _ ⟨r, rfl, rfl⟩ (S1.mpNew (Value.int .i64) pv)
    · refine ⟨_, rfl, fun H m K S k => ?_⟩
      refine call_of (new_ok H _ S) ?_
      rintro e H1 ⟨mq, mb, p, rfl, I, S1⟩
      refine ⟨_, rfl, ?_⟩
      exact k _ _ _ ⟨mq, mb, p, rfl, rfl⟩ (S1.to (Ent.star .refl))
    · refine ⟨_, rfl, fun H m K S k => ?_⟩
      show mkD H 8 [(.pointer none)] 189 (0 : Int) (0 : Int) fun r2 k c H8 => K (.slice (some ⟨r2, 0, none⟩) k c) H8
      (repeat (first | (refine Step.go ?_; intros) | refine iteB_t (by decide) ?_ | refine iteB_f (by decide) ?_ | (refine Duo.mk (by first | omega | exact rfl | decide) ?_; intros) | (refine Duo.mk (Clo.mk (by kernel_rfl)) ?_; intros)))
      have S1 := ‹Sat _ (pt _ _ :: (pt cfg cfO :: b.P l ++ m))›
      exact k _ _ _ ⟨_, _, rfl, rfl⟩ ((S1.to (Ent.drop .refl)).to (Ent.star .refl))
    · refine ⟨_, rfl, fun H m K S k => ?_⟩
      have S' : Sat H (pt cfg cfO :: (b.P l ++ m)) := S
      show ldInt H ⟨cfg, 0, none⟩ .i64 fun n => K (.int .i64 n) H
      refine ⟨0, cellOf (off := 0) (T := 61) S' (List.mem_cons_self ..) rfl, ?_⟩
      exact k _ _ _ ⟨rfl, rfl⟩ (S.to (Ent.star .refl))
    · refine ⟨_, rfl, fun H m K S k => ?_⟩
      have S' : Sat H (pt cfg cfO :: (b.P l ++ m)) := S
      show ldBool H ⟨cfg, 3, none⟩ fun b1 => K (.bool b1) H
      refine ⟨false, cellOf (off := 3) (T := 61) S' (List.mem_cons_self ..) rfl, ?_⟩
      exact k _ _ _ ⟨rfl, rfl⟩ (S.to (Ent.star .refl))
    · refine ⟨_, rfl, fun H m K S k => ?_⟩
      refine S.mkChan (t := 135) (el := 106) (d := .both) (ie := Tryz.t106) (by kernel_rfl) (by kernel_rfl) (by omega) (by omega) (by decide) fun ch H2 S2 => ?_
      refine ⟨_, rfl, ?_⟩
      exact k _ _ _ ⟨_, rfl, rfl⟩ ((S2.to (Ent.drop .refl)).to (Ent.star .refl))
    · refine ⟨_, rfl, fun H m K S k => ?_⟩
      refine S.mkChan (t := 100) (el := 97) (d := .both) (ie := Tryz.t97) (by kernel_rfl) (by kernel_rfl) (by omega) (by omega) (by decide) fun ch H2 S2 => ?_
      refine ⟨_, rfl, ?_⟩
      exact k _ _ _ ⟨_, rfl, rfl⟩ ((S2.to (Ent.drop .refl)).to (Ent.star .refl))
    · refine ⟨_, rfl, fun H m K S k => ?_⟩
      refine S.mkChan (t := 100) (el := 97) (d := .both) (ie := Tryz.t97) (by kernel_rfl) (by kernel_rfl) (by omega) (by omega) (by decide) fun ch H2 S2 => ?_
      refine ⟨_, rfl, ?_⟩
      exact k _ _ _ ⟨_, rfl, rfl⟩ ((S2.to (Ent.drop .refl)).to (Ent.star .refl))
  · intro g ps H2 hG S2
    have hG : ∀ i ∈ [0, 1, 2, 3, 6, 11, 12, 13, 14], GoodL i (g i) (ps i) := hG
    obtain ⟨lm, e0, p0⟩ : ∃ r, g 0 = .map (some r) ∧ ps 0 = mpL r [] := hG 0 (by simp)
    obtain ⟨im, e1, p1⟩ : ∃ r, g 1 = .map (some r) ∧ ps 1 = mpL r [] := hG 1 (by simp)
    obtain ⟨nt, nm, q, e2, p2⟩ : ∃ nt nm q, g 2 = pv nt ∧ ps 2 = star (nqs nt nm q 0 0 [] [] []) := hG 2 (by simp)
    obtain ⟨hq, hc, e3, p3⟩ : ∃ q c, g 3 = .slice q 0 c ∧ ps 3 = star [] := hG 3 (by simp)
    obtain ⟨e4, p4⟩ : g 6 = .int .i64 0 ∧ ps 6 = star [] := hG 6 (by simp)
    obtain ⟨e5, p5⟩ : g 11 = .bool false ∧ ps 11 = star [] := hG 11 (by simp)
    obtain ⟨c1, e6, p6⟩ : ∃ c, g 12 = .chan c ∧ ps 12 = star [] := hG 12 (by simp)
    obtain ⟨c2, e7, p7⟩ : ∃ c, g 13 = .chan c ∧ ps 13 = star [] := hG 13 (by simp)
    obtain ⟨c3, e8, p8⟩ : ∃ c, g 14 = .chan c ∧ ps 14 = star [] := hG 14 (by simp)
    have S3 : Sat H2 (pt cfg cfO :: (b.P l ++ [ps 0, ps 1, ps 2, ps 3, ps 6, ps 11, ps 12, ps 13, ps 14])) := S2
    rw [p0, p1, p2, p3, p4, p5, p6, p7, p8] at S3
    refine ⟨g 0, [g 1, g 2, g 3, g 6, g 11, g 12, g 13, g 14], rfl, some lm, e0, ?_⟩
    refine ⟨_, _, rfl, some im, e1, ?_⟩
    refine ⟨_, _, rfl, some ⟨nt, 0, none⟩, e2, ?_⟩
    refine ⟨_, _, rfl, hq, 0, hc, e3, ?_⟩
    refine ⟨_, _, rfl, 0, e4, ?_⟩
    refine ⟨_, _, rfl, false, e5, ?_⟩
    refine ⟨_, _, rfl, c1, e6, ?_⟩
    refine ⟨_, _, rfl, c2, e7, ?_⟩
    refine ⟨_, _, rfl, c3, e8, ?_⟩
    refine ⟨rfl, ?_⟩
    have S3a : Sat H2 (star (nqs nt nm q 0 0 [] [] []) :: mpL lm [] :: b.P l) := by
      refine S3.to (Ent.trans (fun k x => SatP.perm (m := [mpL lm [], mpL im [], star (nqs nt nm q 0 0 [] [] []), star [], star [], star [], star [], star [], star []] ++ (pt cfg cfO :: b.P l)) ?_ x) ?_)
      · exact (List.perm_append_comm (l₁ := pt cfg cfO :: b.P l))
      · show Ent (mpL lm [] :: mpL im [] :: star (nqs nt nm q 0 0 [] [] []) :: star [] :: star [] :: star [] :: star [] :: star [] :: star [] :: pt cfg cfO :: b.P l) _
        iterate 2 (apply Ent.pick; (focus (repeat (first | exact Sel.here | apply Sel.there))))
        iterate 8 (apply Ent.drop)
        exact .refl
    have S4 : Sat H2 (nqs nt nm q 0 0 [] [] (mpL lm [] :: b.P l)) := S3a.to (Ent.starL .refl)
    clear S2 S3
    refine guardB_t rfl ?_
    refine newX S4 fun le H3 E3 S5 => ?_
    clear S4
    refine F30.L3_step ?_
    unfold F30.L3n
    (repeat (first | (refine Step.go ?_; intros) | refine iteB_t (by decide) ?_ | refine iteB_f (by decide) ?_ | (refine Duo.mk (by first | omega | exact rfl | decide) ?_; intros) | (refine Duo.mk (Clo.mk (by kernel_rfl)) ?_; intros)))
    rename_i H4 S6
    clear S5
    refine call_of (init_ok (f := ⟨lm, nt, im, hq, hc, c1, c2, c3, b.be, ck⟩) (b := b) (nm := nm) (p := q) (c := 0) (le := le) (rd := .nilFunc) (l := mpL lm [] :: l) rfl (S6.to ?_)) ?_
    · iterate 17 (apply Ent.pick; (focus (repeat (first | exact Sel.here | apply Sel.there))))
      exact .refl
    rintro e H5 ⟨rfl, b', nm', hb', S7⟩
    refine tTup_nil ?_
    refine ⟨le, ⟨lm, nt, im, hq, hc, c1, c2, c3, b.be, ck⟩, nm', q, b', rfl, rfl, hb'.symm, S7.to ?_⟩
    iterate 16 (apply Ent.pick; (focus (repeat (first | exact Sel.here | apply Sel.there))))
    exact .refl
end
end Go.Proofs.YtkenjnllegbmjaaGreat

set_option linter.unusedVariables false
set_option linter.unusedSimpArgs false
set_option linter.unnecessarySimpa false
set_option maxRecDepth 100000
namespace Go.Proofs.YtkenjnllegbmjaaGreat
open Go Go.Den Go.Proofs
/-! A lessor is opened. -/
section
variable {H H0 : Heap} {l l' : List HP}
theorem has_nil (S : Sat H l) : Sat H (has (fun _ => none) :: l) := by
  refine ⟨⟨fun _ => none, PH.sub.refl, (fun b o h => by cases h), ?_⟩⟩
  exact S.out.mono fun b o h => by rw [PH.minus_none rfl]; exact h
theorem zzOpen_ok {db : Nat} (S : Sat H (pt db (dbO none 0 0) :: l)) : CallsH Tryz.prog 14 ⟨[pv db, .int .i64 1000]⟩ H (fun e H1 => ∃ b : OBf, e = .returned (.iface 116 (pv b.be)) ∧ Sat H1 (b.P l)) := by
  refine CallsH.mono (newBack_ok (lim := 1000) (D := []) (q := none) (c := 0) (g := fun _ => none) (by omega) (by simp) (fun H' _ => .inl rfl) ((has_nil S).to (m := pt db (dbO none 0 0) :: has (fun _ => none) :: l) (by
    iterate 2 (apply Ent.pick; (focus (repeat (first | exact Sel.here | apply Sel.there))))
    exact .refl))) ?_
  rintro e H1 ⟨be, bt, m1, m2, rt, rm, rb, mu, wg, a, rfl, S1⟩
  have hB : a.x.B = [] := by have := a.x.eq; simpa using this
  refine ⟨⟨bt, a.x.tx, db, be, rt, rm, rb, m1, m2, a.y.tx, 0, a.y.c, 0, a.c, a.x.c, a.cm, 0, mu, wg, a.y.p, a.q, a.x.p, a.g'⟩, rfl, S1.to ?_⟩
  show Ent (a.P bt be db 1000 rt rm rb (some m1) (some m2) 0 (some ⟨bt, 0, none⟩) mu wg (mpB m1 [] :: mpS m2 [] :: mpB rm [] :: mpK rb [] :: l)) _
  unfold Cmt.P
  rw [hB]
  iterate 12 (apply Ent.pick; (focus (repeat (first | exact Sel.here | apply Sel.there))))
  iterate 3 (apply Ent.drop)
  exact .refl
theorem zzNew_ok {b : OBf} {ck : Nat} (S : Sat H (b.P l)) :
    CallsH Tryz.prog 15 ⟨[.iface 116 (pv b.be), pv ck, .agg ⟨[.int .i64 0, .int .i64 0, .int .i64 0, .bool false, .int .i64 0]⟩]⟩ H (fun e H1 => ∃ (le : Nat) (f : LeF) (nm : Nat) (p : Option Addr) (b' : BEf), e = .returned (.iface 118 (pv le)) ∧ f.ck = ck ∧ f.be = b'.be ∧
      Sat H1 (pt le (leO f none .nilFunc) :: mpL f.lm [] :: nqs f.nt nm p 0 0 [] [] (b'.P l))) := by
  refine F15.calls (b := .mk 116 (pv b.be)) ?_
  unfold F15.go
  (repeat (first | (refine Step.go ?_; intros) | refine iteB_t (by decide) ?_ | refine iteB_f (by decide) ?_ | (refine Duo.mk (by first | omega | exact rfl | decide) ?_; intros) | (refine Duo.mk (Clo.mk (by kernel_rfl)) ?_; intros)))
  rename_i r H1 S1
  refine call_of (newLessor_ok (b := b) (ck := ck) (l := pt r cfO :: l) (S1.to ?_)) ?_
  · iterate 13 (apply Ent.pick; (focus (repeat (first | exact Sel.here | apply Sel.there))))
    exact .refl
  rintro e H2 ⟨le, f, nm, p, b', rfl, h1, h2, S2⟩
  refine ⟨_, rfl, ?_⟩
  refine ⟨le, f, nm, p, b', rfl, h1, h2, S2.to ?_⟩
  iterate 16 (apply Ent.pick; (focus (repeat (first | exact Sel.here | apply Sel.there))))
  exact Ent.drop .refl
end
end Go.Proofs.YtkenjnllegbmjaaGreat

set_option linter.unusedVariables false
set_option linter.unusedSimpArgs false
set_option linter.unnecessarySimpa false
set_option maxRecDepth 100000
namespace Go.Proofs.YtkenjnllegbmjaaGreat
open Go Go.Den Go.Proofs
/-! The landlord opens his lessor. -/
abbrev xO (db ck : Nat) (be le : Value) : Obj := .cells ⟨[.int .i64 0, .int .i64 0, .int .i64 0, .bool false, .bool false, pv db, be, pv ck, le, .slice none 0 0]⟩ 51
theorem delI {r : Nat} {rd : Fn} {x y : Array Value} {H : Heap} {Q : List PanicEntry → Heap → Prop} {K : Value → Heap → Prop} (k : callD Tryz.prog 200 [pv r, .func rd x y] H Q K) : callI Tryz.prog (.iface 118 (pv r)) "SetRangeDeleter" [.func rd x y] H Q K :=
  callI_i (f := 200) (by kernel_rfl) (by kernel_rfl) (by kernel_rfl) k
section
variable {H H0 : Heap} {l l' : List HP} {x db ck : Nat}
/-- What there is behind an opening. -/
structure Opn (ck : Nat) where
  le : Nat
  f : LeF
  nm : Nat
  p : Option Addr
  b : BEf
  r : Nat
  bv : Value
  hck : f.ck = ck
  hbe : f.be = b.be
abbrev Opn.P (o : Opn ck) (x db : Nat) (l : List HP) : List HP := pt x (xO db ck o.bv (.iface 118 (pv o.le))) :: pt ck (ckO 0) :: pt o.le (leO o.f none (.func (.func 16) ⟨[]⟩ ⟨[pv o.r]⟩)) :: mpL o.f.lm [] :: nqs o.f.nt o.nm o.p 0 0 [] [] (o.b.P l)
theorem open_ok (S : Sat H (pt x (xO db ck .nilIface .nilIface) :: pt ck (ckO 0) :: pt db (dbO none 0 0) :: l)) :
    CallsH Tryz.prog 11 ⟨[pv x]⟩ H (fun e H1 => e = .returned (.tuple ⟨[]⟩) ∧ ∃ o : Opn ck, Sat H1 (o.P x db l)) := by
  refine F11.calls ?_
  unfold F11.go
  refine newX S fun r H1 E1 S1 => ?_
  clear S
  have hopen : CallsH Tryz.prog 14 ⟨[pv db, .int .i64 1000]⟩ H1 (fun e H1 => ∃ b : OBf, e = .returned (.iface 116 (pv b.be)) ∧ Sat H1 (b.P (pt r (.cells ⟨[pv x]⟩ 37) :: pt x (xO db ck .nilIface .nilIface) :: pt ck (ckO 0) :: l))) := zzOpen_ok (S1.to (by
    iterate 4 (apply Ent.pick; (focus (repeat (first | exact Sel.here | apply Sel.there))))
    exact .refl))
  have last : ∀ (bv : Value) (le : Nat) (f : LeF) (nm : Nat) (p : Option Addr) (b' : BEf) (H : Heap), f.ck = ck → f.be = b'.be → Sat H (pt x (xO db ck bv (.iface 118 (pv le))) :: pt r (.cells ⟨[pv x]⟩ 37) :: pt ck (ckO 0) :: pt le (leO f none .nilFunc) :: mpL f.lm [] :: nqs f.nt nm p 0 0 [] [] (b'.P l)) →
      F11.L1 r H (fun e H1 => e = .returned (.tuple ⟨[]⟩) ∧ ∃ o : Opn ck, Sat H1 (o.P x db l)) := by
    intro bv le f nm p b' H h1 h2 S
    refine F11.L1_step ?_
    unfold F11.L1n
    (repeat (first | (refine Step.go ?_; intros) | refine iteB_t (by decide) ?_ | refine iteB_f (by decide) ?_ | (refine Duo.mk (by first | omega | exact rfl | decide) ?_; intros) | (refine Duo.mk (Clo.mk (by kernel_rfl)) ?_; intros)))
    refine delI ?_
    refine call_of (setDel_ok (le := le) (f := f) (dc := none) (rd := .nilFunc) (S.to (m := pt le (leO f none .nilFunc) :: pt x (xO db ck bv (.iface 118 (pv le))) :: pt r (.cells ⟨[pv x]⟩ 37) :: pt ck (ckO 0) :: mpL f.lm [] :: nqs f.nt nm p 0 0 [] [] (b'.P l)) (by
      iterate 4 (apply Ent.pick; (focus (repeat (first | exact Sel.here | apply Sel.there))))
      exact .refl))) ?_
    rintro e H2 ⟨rfl, S2⟩
    clear S
    refine tTup_nil ?_
    (repeat (first | (refine Step.go ?_; intros) | refine iteB_t (by decide) ?_ | refine iteB_f (by decide) ?_ | (refine Duo.mk (by first | omega | exact rfl | decide) ?_; intros) | (refine Duo.mk (Clo.mk (by kernel_rfl)) ?_; intros)))
    refine ⟨rfl, ⟨le, f, nm, p, b', r, bv, h1, h2⟩, S2.to ?_⟩
    iterate 3 (apply Ent.pick; (focus (repeat (first | exact Sel.here | apply Sel.there))))
    exact Ent.drop .refl
  have mid : ∀ (b : OBf) (H : Heap), Sat H (pt x (xO db ck (.iface 116 (pv b.be)) .nilIface) :: pt r (.cells ⟨[pv x]⟩ 37) :: pt ck (ckO 0) :: b.P l) → F11.L0 r H (fun e H1 => e = .returned (.tuple ⟨[]⟩) ∧ ∃ o : Opn ck, Sat H1 (o.P x db l)) := by
    intro b H S
    have hnew : CallsH Tryz.prog 15 ⟨[.iface 116 (pv b.be), pv ck, .agg ⟨[.int .i64 0, .int .i64 0, .int .i64 0, .bool false, .int .i64 0]⟩]⟩ H (fun e H1 => ∃ (le : Nat) (f : LeF) (nm : Nat) (p : Option Addr) (b' : BEf), e = .returned (.iface 118 (pv le)) ∧ f.ck = ck ∧ f.be = b'.be ∧
      Sat H1 (pt le (leO f none .nilFunc) :: mpL f.lm [] :: nqs f.nt nm p 0 0 [] [] (b'.P (pt x (xO db ck (.iface 116 (pv b.be)) .nilIface) :: pt r (.cells ⟨[pv x]⟩ 37) :: pt ck (ckO 0) :: l)))) := zzNew_ok (S.to (by
        iterate 15 (apply Ent.pick; (focus (repeat (first | exact Sel.here | apply Sel.there))))
        exact .refl))
    refine F11.L0_step ?_
    unfold F11.L0n
    have e0 : IntKind.wrap .i64 ((0 : Int) * (1000000000 : Int)) = 0 := by decide
    refine ⟨?_, ?_⟩
    · (repeat (first | (refine Step.go ?_; intros) | refine iteB_t (by decide) ?_ | refine iteB_f (by decide) ?_ | (refine Duo.mk (by first | omega | exact rfl | decide) ?_; intros) | (refine Duo.mk (Clo.mk (by kernel_rfl)) ?_; intros)))
      rw [e0]
      refine call_of hnew ?_
      rintro e H2 ⟨le, f, nm, p, b', rfl, h1, h2, S2⟩
      refine ⟨.mk _ _, rfl, ?_⟩
      refine nilD_i (guardB_t rfl ?_)
      show st1 H2 (Addr.add ⟨x, 0, none⟩ 8) (.iface 118 (pv le)) _
      clear S
      (repeat (first | (refine Step.go ?_; intros) | refine iteB_t (by decide) ?_ | refine iteB_f (by decide) ?_ | (refine Duo.mk (by first | omega | exact rfl | decide) ?_; intros) | (refine Duo.mk (Clo.mk (by kernel_rfl)) ?_; intros)))
      rename_i H3 S3
      refine last (.iface 116 (pv b.be)) le f nm p b' H3 h1 h2 (S3.to ?_)
      iterate 19 (apply Ent.pick; (focus (repeat (first | exact Sel.here | apply Sel.there))))
      exact .refl
    · (repeat (first | (refine Step.go ?_; intros) | refine iteB_t (by decide) ?_ | refine iteB_f (by decide) ?_ | (refine Duo.mk (by first | omega | exact rfl | decide) ?_; intros) | (refine Duo.mk (Clo.mk (by kernel_rfl)) ?_; intros)))
      rw [e0]
      refine call_of hnew ?_
      rintro e H2 ⟨le, f, nm, p, b', rfl, h1, h2, S2⟩
      refine ⟨.mk _ _, rfl, ?_⟩
      clear S
      (repeat (first | (refine Step.go ?_; intros) | refine iteB_t (by decide) ?_ | refine iteB_f (by decide) ?_ | (refine Duo.mk (by first | omega | exact rfl | decide) ?_; intros) | (refine Duo.mk (Clo.mk (by kernel_rfl)) ?_; intros)))
      refine guardB_t rfl ?_
      show st1 H2 (Addr.add ⟨x, 0, none⟩ 8) (.iface 118 (pv le)) _
      (repeat (first | (refine Step.go ?_; intros) | refine iteB_t (by decide) ?_ | refine iteB_f (by decide) ?_ | (refine Duo.mk (by first | omega | exact rfl | decide) ?_; intros) | (refine Duo.mk (Clo.mk (by kernel_rfl)) ?_; intros)))
      rename_i H3 S3
      refine last (.iface 116 (pv b.be)) le f nm p b' H3 h1 h2 (S3.to ?_)
      iterate 19 (apply Ent.pick; (focus (repeat (first | exact Sel.here | apply Sel.there))))
      exact .refl
  refine ⟨?_, ?_⟩
  · (repeat (first | (refine Step.go ?_; intros) | refine iteB_t (by decide) ?_ | refine iteB_f (by decide) ?_ | (refine Duo.mk (by first | omega | exact rfl | decide) ?_; intros) | (refine Duo.mk (Clo.mk (by kernel_rfl)) ?_; intros)))
    refine call_of hopen ?_
    rintro e H2 ⟨b, rfl, S2⟩
    refine ⟨.mk _ _, rfl, ?_⟩
    refine nilD_i (guardB_t rfl ?_)
    show st1 H2 (Addr.add ⟨x, 0, none⟩ 6) (.iface 116 (pv b.be)) _
    clear S1
    (repeat (first | (refine Step.go ?_; intros) | refine iteB_t (by decide) ?_ | refine iteB_f (by decide) ?_ | (refine Duo.mk (by first | omega | exact rfl | decide) ?_; intros) | (refine Duo.mk (Clo.mk (by kernel_rfl)) ?_; intros)))
    rename_i H3 S3
    refine mid b H3 (S3.to ?_)
    iterate 15 (apply Ent.pick; (focus (repeat (first | exact Sel.here | apply Sel.there))))
    exact .refl
  · (repeat (first | (refine Step.go ?_; intros) | refine iteB_t (by decide) ?_ | refine iteB_f (by decide) ?_ | (refine Duo.mk (by first | omega | exact rfl | decide) ?_; intros) | (refine Duo.mk (Clo.mk (by kernel_rfl)) ?_; intros)))
    refine call_of hopen ?_
    rintro e H2 ⟨b, rfl, S2⟩
    refine ⟨.mk _ _, rfl, ?_⟩
    clear S1
    (repeat (first | (refine Step.go ?_; intros) | refine iteB_t (by decide) ?_ | refine iteB_f (by decide) ?_ | (refine Duo.mk (by first | omega | exact rfl | decide) ?_; intros) | (refine Duo.mk (Clo.mk (by kernel_rfl)) ?_; intros)))
    refine guardB_t rfl ?_
    show st1 H2 (Addr.add ⟨x, 0, none⟩ 6) (.iface 116 (pv b.be)) _
    (repeat (first | (refine Step.go ?_; intros) | refine iteB_t (by decide) ?_ | refine iteB_f (by decide) ?_ | (refine Duo.mk (by first | omega | exact rfl | decide) ?_; intros) | (refine Duo.mk (Clo.mk (by kernel_rfl)) ?_; intros)))
    rename_i H3 S3
    refine mid b H3 (S3.to ?_)
    iterate 15 (apply Ent.pick; (focus (repeat (first | exact Sel.here | apply Sel.there))))
    exact .refl
end
end Go.Proofs.YtkenjnllegbmjaaGreat
