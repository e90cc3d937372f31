/- What functions of this seat do, each proved by a walk; no condition. -/
import Derived.Test.YtkkookljlencgaaGreatHM4
set_option linter.unusedVariables false
set_option linter.unusedSimpArgs false
set_option linter.unnecessarySimpa false
set_option maxRecDepth 100000
namespace Go.Proofs.YtkkookljlencgaaGreat
open Go Go.Den Go.Proofs
/-! A backend is opened: its four buckets. -/
abbrev vaO' (lim db had : Nat) : Obj := .cells ⟨[.int .i64 (lim : Int), pv db, .nilIface, .slice none 0 0, .int .i64 0, .map (some had), .string (ByteArray.mk #[])]⟩ 59
section
variable {H H0 : Heap} {l : List HP} {g : PH}
theorem has_nil (S : Sat H l) : Sat H (has (fun _ => none) :: l) := by
  refine ⟨⟨fun _ => none, PH.sub.refl, (fun b o h => by cases h), ?_⟩⟩
  exact S.out.mono fun b o h => by rw [PH.minus_none rfl]; exact h
theorem guardB_t {b : Bool} {X : Prop} (h : b = true) (x : X) : guardB b X := by subst h; exact x
theorem lt_RL : ltS nR nL = true := by kernel_rfl
/-- Buckets are made one by one. -/
theorem mk_bucket {x be bt tx pend db c : Nat} {k n : Int} {s : ByteArray} {b : Bool} {m1 m2 : Option Nat} {p : Option Addr} {A C : List BkI} {R : Ending → Heap → Prop} (hk : k < 4)
    (hb : ∀ H, CallsH Tryz.prog 24 ⟨[.int .i64 k]⟩ H (Gives (bkT n s b) H))
    (hg : ∀ y ∈ A ++ C, BkG g y) (hz : s.size ≤ 1000) (hl : (A ++ C).length ≤ 900) (hlo : ∀ y ∈ A, ltS y.name.s s = true) (hhi : ∀ y ∈ C, ltS s y.name.s = true) (hp : pend ≤ 1000000)
    (S : Sat H (pt bt (btO tx be pend m1 m2 0) :: txM tx db true false (A ++ C) p c g l))
    (h : ∀ (b1 : Nat) (q : Option Addr) (c1 : Nat) (g' : PH) (p' : Option Addr) (c' : Nat) (H1 : Heap), PH.sub g g' → BkG g' (newBk b1 s q c1) → Sat H1 (pt bt (btO tx be (pend + 1) m1 m2 0) :: txM tx db true false (A ++ newBk b1 s q c1 :: C) p' c' g' l) → F12.L0 (some ⟨x, 0, none⟩) (.mk 122 (pv bt)) (IntKind.wrap .i64 (k + 1)) H1 R) :
    F12.L0 (some ⟨x, 0, none⟩) (.mk 122 (pv bt)) k H R := by
  refine F12.L0_step ?_
  unfold F12.L0n
  refine iteB_t (decide_eq_true hk) ?_
  refine ⟨by kernel_rfl, ?_⟩
  refine gives_i S (hb H) fun H1 E1 S1 => ?_
  refine ⟨.mk _ _, rfl, ?_⟩
  refine createI ?_
  refine call_of (ucreate_ok hg hz hl hlo hhi hp S1) ?_
  rintro e H2 ⟨rfl, b1, q, c1, g', p', c', s1, hb1, S2⟩
  refine ⟨_, rfl, rfl, ?_⟩
  exact h b1 q c1 g' p' c' H2 s1 (newBk_G hb1) S2
theorem bkt1_ok (H : Heap) : CallsH Tryz.prog 24 ⟨[.int .i64 1]⟩ H (Gives (bkT 3 nL false) H) := bkt_ok (k := 1)
theorem bkt2_ok (H : Heap) : CallsH Tryz.prog 24 ⟨[.int .i64 2]⟩ H (Gives (bkT 21 nU false) H) := bkt_ok (k := 2)
theorem bkt3_ok (H : Heap) : CallsH Tryz.prog 24 ⟨[.int .i64 3]⟩ H (Gives (bkT 22 nR false) H) := bkt_ok (k := 3)
theorem open_ok {x db had lim : Nat} {M : List (ByteArray × Bool)} (hlim : 4 < lim) (S : Sat H (pt x (vaO' lim db had) :: pt db (dbO none 0 0) :: mpH had M :: l)) :
    CallsH Tryz.prog 12 ⟨[pv x]⟩ H (fun en H1 => en = .returned (.tuple ⟨[]⟩) ∧ ∃ (f : BeF) (v : BeV) (g : PH), f.lim = lim ∧ Good g f v [] [] [] [] ∧ Ph v [] ∧ v.R = none ∧ Sat H1 (vaP x had M (ByteArray.mk #[]) f v g l)) := by
  refine F12.calls ?_
  unfold F12.go
  (repeat (first | (refine Step.go ?_; intros) | refine iteB_t (by decide) ?_ | refine iteB_f (by decide) ?_ | (refine Duo.mk (by first | omega | exact rfl | decide) ?_; intros) | (refine Duo.mk (Clo.mk (by kernel_rfl)) ?_; intros)))
  refine call_of (newBack_ok (lim := lim) (D := []) (q := none) (c := 0) (g := fun _ => none) (by omega) (by simp) (fun H' _ => .inl rfl) ((has_nil S).to (m := pt db (dbO none 0 0) :: has (fun _ => none) :: pt x (vaO' lim db had) :: mpH had M :: l) (by
    iterate 4 (apply Ent.pick; (focus (repeat (first | exact Sel.here | apply Sel.there))))
    exact .refl))) ?_
  rintro en H1 ⟨be, bt, m1, m2, rt, rm, rb, mu, wg, a, rfl, S1⟩
  clear S
  have hB : a.x.B = [] := by have := a.x.eq; simpa using this
  have hB2 : a.y.B = [] := by have := a.y.eq; simpa using this
  refine ⟨.mk 97 (pv be), rfl, ?_⟩
  refine nilD_i ?_
  refine guardB_t rfl ?_
  show st1 H1 (Addr.add ⟨x, 0, none⟩ 2) (.iface 97 (pv be)) _
  (repeat (first | (refine Step.go ?_; intros) | refine iteB_t (by decide) ?_ | refine iteB_f (by decide) ?_ | (refine Duo.mk (by first | omega | exact rfl | decide) ?_; intros) | (refine Duo.mk (Clo.mk (by kernel_rfl)) ?_; intros)))
  rename_i H2 S2x H3 S2
  clear S1 S2x
  refine batchI ?_
  refine gives_i S2 (batch_ok (S2.to (m := pt be (beO a.cm db lim (some ⟨bt, 0, none⟩) rt) :: []) (by
    iterate 1 (apply Ent.pick; (focus (repeat (first | exact Sel.here | apply Sel.there))))
    exact .nil))) fun H4 E4 S4 => ?_
  clear S2
  refine ⟨.mk 122 (pv bt), rfl, ?_⟩
  refine lockI (c := ⟨[.pointer (some ⟨a.x.tx, 0, none⟩), .pointer (some ⟨be, 0, none⟩), .int .i64 0, .map (some m1), .map (some m2), .int .i64 0]⟩) (S4.obj (r := bt) (o := btO a.x.tx be 0 (some m1) (some m2) 0)) fun H5 E5 => ?_
  have S5 := S4.ext E5
  clear S4
  refine ⟨_, rfl, rfl, ?_⟩
  obtain ⟨⟨xt, xB, xp, xc, xe⟩, ⟨yt, yB, yp, yc, ye⟩, g1, q1, c1, cm1, s1, hR1⟩ := a
  dsimp only at *
  subst hB hB2
  have S6 : Sat H5 (pt bt (btO xt be 0 (some m1) (some m2) 0) :: txM xt db true false ([] ++ []) xp xc g1 (pt be (beO cm1 db lim (some ⟨bt, 0, none⟩) rt) :: pt yt (txO db false false yp 0 yc) :: sl ptrC 176 1 yp 0 yc [] :: bkts yt [] :: pt db (dbO q1 0 c1) :: pt rt (rtO rm 0 mu (some ⟨yt, 0, none⟩) rb wg) :: mpB m1 [] :: mpS m2 [] :: mpB rm [] :: mpK rb [] :: pt x (vaO lim db be had (ByteArray.mk #[])) :: mpH had M :: l)) := by
    refine S5.to ?_
    iterate 17 (apply Ent.pick; (focus (repeat (first | exact Sel.here | apply Sel.there))))
    exact .refl
  clear S5
  have e0 : ∀ k : Int, -10 ≤ k → k ≤ 10 → IntKind.wrap .i64 k = k := fun k h1 h2 => wr64 (by omega) (by omega)
  refine mk_bucket (k := 0) (n := 1) (s := nK) (b := true) (by decide) (fun H => bkt0_ok) (fun y h => by cases h) (by decide) (by decide) (fun y h => by cases h) (fun y h => by cases h) (by omega) S6 ?_
  intro bK qK cK g2 p2 d2 H6 s2 gK S7
  clear S6
  rw [e0 _ (by decide) (by decide)]
  refine mk_bucket (k := 0 + 1) (n := 3) (s := nL) (b := false) (by decide) bkt1_ok (A := [newBk bK nK qK cK]) (C := []) (fun y h => by
    have h := List.mem_singleton.1 h
    subst h; exact gK) (by decide) (by simp) (fun y h => by
    have h := List.mem_singleton.1 h
    subst h; exact lt_KL) (fun y h => by cases h) (by omega) S7 ?_
  intro bL qL cL g3 p3 d3 H7 s3 gL S8
  clear S7
  rw [e0 _ (by decide) (by decide)]
  refine mk_bucket (k := 0 + 1 + 1) (n := 21) (s := nU) (b := false) (by decide) bkt2_ok (A := []) (C := [newBk bK nK qK cK, newBk bL nL qL cL]) (fun y h => by
    simp only [List.nil_append, List.mem_cons, List.not_mem_nil, or_false] at h
    rcases h with rfl | rfl
    · exact gK.mono s3
    · exact gL) (by decide) (by simp) (fun y h => by cases h) (fun y h => by
    simp only [List.mem_cons, List.not_mem_nil, or_false] at h
    rcases h with rfl | rfl
    · exact lt_UK
    · exact lt_UL) (by omega) S8 ?_
  intro bU qU cU g4 p4 d4 H8 s4 gU S9
  clear S8
  rw [e0 _ (by decide) (by decide)]
  refine mk_bucket (k := 0 + 1 + 1 + 1) (n := 22) (s := nR) (b := false) (by decide) bkt3_ok (A := []) (C := [newBk bU nU qU cU, newBk bK nK qK cK, newBk bL nL qL cL]) (fun y h => by
    simp only [List.nil_append, List.mem_cons, List.not_mem_nil, or_false] at h
    rcases h with rfl | rfl | rfl
    · exact gU
    · exact gK.mono (s3.trans s4)
    · exact gL.mono s4) (by decide) (by simp) (fun y h => by cases h) (fun y h => by
    simp only [List.mem_cons, List.not_mem_nil, or_false] at h
    rcases h with rfl | rfl | rfl
    · exact lt_RU
    · exact lt_RK
    · exact lt_RL) (by omega) S9 ?_
  intro bR qR cR g5 p5 d5 H9 s5 gR SA
  clear S9
  rw [e0 _ (by decide) (by decide)]
  refine F12.L0_step ?_
  unfold F12.L0n
  refine iteB_f (by decide) ?_
  refine unlockI ?_
  refine call_of (unlock1 (rt := rt) (rm := rm) (rb := rb) (ver := 0) (ver' := IntKind.wrap .u64 (0 + 1)) (mu := mu) (rx := some ⟨yt, 0, none⟩) (wg := wg) (be := be) (tx := xt) (db := db) (lim := lim) (bp := some ⟨bt, 0, none⟩) (m1 := some m1) (m2 := some m2) (cm := cm1) (pend := 0 + 1 + 1 + 1 + 1)
    (l := mpB m1 [] :: mpS m2 [] :: (txM xt db true false ([] ++ newBk bR nR qR cR :: [newBk bU nU qU cU, newBk bK nK qK cK, newBk bL nL qL cL]) p5 d5 g5 (pt yt (txO db false false yp 0 yc) :: sl ptrC 176 1 yp 0 yc [] :: bkts yt [] :: pt db (dbO q1 0 c1) :: mpB rm [] :: mpK rb [] :: pt x (vaO lim db be had (ByteArray.mk #[])) :: mpH had M :: l)))
    (l' := mpB m1 [] :: mpS m2 [] :: (txM xt db true false ([] ++ newBk bR nR qR cR :: [newBk bU nU qU cU, newBk bK nK qK cK, newBk bL nL qL cL]) p5 d5 g5 (pt yt (txO db false false yp 0 yc) :: sl ptrC 176 1 yp 0 yc [] :: bkts yt [] :: pt db (dbO q1 0 c1) :: mpB rm [] :: mpK rb [] :: pt x (vaO lim db be had (ByteArray.mk #[])) :: mpH had M :: l))) (by decide) (by omega) (by decide) (SA.to ?_) ?_) ?_
  · iterate 17 (apply Ent.pick; (focus (repeat (first | exact Sel.here | apply Sel.there))))
    exact .refl
  · intro H10 SB
    refine CallsH.mono (wb0 (tx := xt) (be := be) (pend := 0 + 1 + 1 + 1 + 1) (m1 := m1) (m2 := m2) (rm := rm) (rb := rb) (z := 0) (ver := 0) (mu := mu) (rx := some ⟨yt, 0, none⟩) (wg := wg) (l := pt be (beO cm1 db lim (some ⟨bt, 0, none⟩) rt) :: txM xt db true false ([] ++ newBk bR nR qR cR :: [newBk bU nU qU cU, newBk bK nK qK cK, newBk bL nL qL cL]) p5 d5 g5 (pt yt (txO db false false yp 0 yc) :: sl ptrC 176 1 yp 0 yc [] :: bkts yt [] :: pt db (dbO q1 0 c1) :: mpB rm [] :: mpK rb [] :: pt x (vaO lim db be had (ByteArray.mk #[])) :: mpH had M :: l)) (SB.to ?_)) ?_
    · iterate 4 (apply Ent.pick; (focus (repeat (first | exact Sel.here | apply Sel.there))))
      exact .refl
    rintro e HB ⟨rfl, SC⟩
    refine ⟨rfl, SC.to ?_⟩
    iterate 5 (apply Ent.pick; (focus (repeat (first | exact Sel.here | apply Sel.there))))
    exact .refl
  rintro en HB ⟨rfl, SB⟩
  clear SA
  refine ⟨_, rfl, rfl, ?_⟩
  (repeat (first | (refine Step.go ?_; intros) | refine iteB_t (by decide) ?_ | refine iteB_f (by decide) ?_ | (refine Duo.mk (by first | omega | exact rfl | decide) ?_; intros) | (refine Duo.mk (Clo.mk (by kernel_rfl)) ?_; intros)))
  refine forceI ?_
  have hkw : KeyB (([] ++ newBk bR nR qR cR :: [newBk bU nU qU cU, newBk bK nK qK cK, newBk bL nL qL cL]).map BkI.dt) [] := ⟨_, _, _, _, rfl, rfl, rfl, rfl, rfl, rfl⟩
  refine call_of (forceS0_ok (f := ⟨bt, be, rt, rm, m1, m2, db, lim⟩) (v := ⟨0 + 1 + 1 + 1 + 1, cm1, IntKind.wrap .u64 (0 + 1), mu, wg, rb, xt, [] ++ newBk bR nR qR cR :: [newBk bU nU qU cU, newBk bK nK qK cK, newBk bL nL qL cL], p5, d5, yt, [], yp, yc, q1, c1, [], [], none, none⟩) (g := g5) (A := []) (R := []) (W := []) (l := pt x (vaO lim db be had (ByteArray.mk #[])) :: mpH had M :: l) ?_ hkw (fun h => by cases h) (fun H' _ => .inl rfl) rfl rfl (fun b h => by cases h) (show 0 < lim by omega) (show 0 + 1 + 1 + 1 + 1 ≤ 1000000 by decide) (SB.to ?_)) ?_
  · intro y h
    simp only [List.nil_append, List.mem_cons, List.not_mem_nil, or_false] at h
    rcases h with rfl | rfl | rfl | rfl
    · exact gR
    · exact gU.mono s5
    · exact gK.mono (s3.trans (s4.trans s5))
    · exact gL.mono (s4.trans s5)
  · unfold beP
    dsimp only
    iterate 15 (apply Ent.pick; (focus (repeat (first | exact Sel.here | apply Sel.there))))
    refine Ent.trans ?_ bufP_none
    refine Ent.trans ?_ (bufP_none (l := pt x (vaO lim db be had (ByteArray.mk #[])) :: mpH had M :: l))
    exact .refl
  rintro en HC ⟨rfl, g', v2, s6, G2, h1, h2, h3, h4, SC⟩
  clear SB
  refine ⟨_, rfl, rfl, ?_⟩
  refine lockI (c := ⟨[.pointer (some ⟨v2.wt, 0, none⟩), .pointer (some ⟨be, 0, none⟩), .int .i64 (v2.pend : Int), .map (some m1), .map (some m2), .int .i64 0]⟩) (SC.obj (r := bt) (o := btO v2.wt be v2.pend (some m1) (some m2) 0)) fun HD ED => ?_
  have SD := SC.ext ED
  clear SC
  refine ⟨_, rfl, rfl, rfl, ⟨bt, be, rt, rm, m1, m2, db, lim⟩, v2, g', rfl, G2, ⟨h1, .inl h3, .inl h4, .inl h2⟩, h4, SD.to ?_⟩
  iterate 19 (apply Ent.pick; (focus (repeat (first | exact Sel.here | apply Sel.there))))
  exact .refl
end
end Go.Proofs.YtkkookljlencgaaGreat

set_option linter.unusedVariables false
set_option linter.unusedSimpArgs false
set_option linter.unnecessarySimpa false
set_option maxRecDepth 100000
namespace Go.Proofs.YtkkookljlencgaaGreat
open Go Go.Den Go.Proofs
/-! A backend plays operations, one by one. -/
structure BOp where
  kd : Int
  bk : Int
  sn : Int
  key : ByteArray
  e : ByteArray
  val : ByteArray
  lim : Int
abbrev BOp.cells (o : BOp) : List Value := [.int .i64 o.kd, .int .i64 o.bk, .int .i64 o.sn, .string o.key, .string o.e, .string o.val, .int .i64 o.lim]
structure BAn where
  e : Int
  N : Int
  q : Option Addr
  n : Nat
  c : Nat
  q2 : Option Addr
  n2 : Nat
  c2 : Nat
abbrev BAn.cells (a : BAn) : List Value := [.int .i64 a.e, .int .i64 a.N, .slice a.q a.n a.c, .slice a.q2 a.n2 a.c2]
def an0 : BAn := ⟨0, 0, none, 0, 0, none, 0, 0⟩
section
variable {H H0 : Heap} {l : List HP} {g : PH}
theorem cell_an {X : List BAn} : ∀ v ∈ X.flatMap BAn.cells, isCell v = true := by
  intro v hv
  obtain ⟨a, _, h⟩ := List.mem_flatMap.1 hv
  simp only [List.mem_cons, List.not_mem_nil, or_false] at h
  rcases h with rfl | rfl | rfl | rfl <;> rfl
/-- An operation is played, and its answer put behind the others. -/
theorem step7 {x n c i d : Nat} {p q : Option Addr} {OPS : List BOp} {op : BOp} {AN : List BAn} {α : Type} {φ : α → Prop} {an : α → BAn} {m : List HP} {m' : α → List HP} {R : Ending → Heap → Prop} (hi : OPS[i]? = some op) (hn : OPS.length = n) (hnb : n ≤ 1000) (hbk : op.bk = 0)
    (S : Sat H (sl BOp.cells 29 7 p n c OPS :: sl BAn.cells 46 4 q i d AN :: m))
    (h13 : CallsH Tryz.prog 13 ⟨[pv x, .agg ⟨op.cells⟩]⟩ H (fun en H1 => ∃ a : α, en = .returned (.agg ⟨(an a).cells⟩) ∧ φ a ∧ Sat H1 (sl BOp.cells 29 7 p n c OPS :: sl BAn.cells 46 4 q i d AN :: m' a)))
    (k : ∀ (a : α) (q' : Option Addr) (d' : Nat) (H1 : Heap), φ a → Sat H1 (sl BOp.cells 29 7 p n c OPS :: sl BAn.cells 46 4 q' (i + 1) d' (AN ++ [an a]) :: m' a) → F7.L0 p n c x q' (i + 1) d' ((i + 1 : Nat) : Int) H1 R) :
    F7.L0 p n c x q i d (i : Int) H R := by
  have hlt := lt_of hi
  have hI := HasI.nat hi
  refine F7.L0_step ?_
  unfold F7.L0n
  refine iteB_t (decide_eq_true (by omega)) ?_
  refine Sat.idx (f := BOp.cells) (E := 29) (z := 7) (p := p) (xs := OPS) (n := n) (c := c) S ⟨by omega, by omega, fun r0 o0 hr0 => ?_⟩
  subst hr0
  (repeat (first | (refine Step.go ?_; intros) | refine iteB_t (by decide) ?_ | refine iteB_f (by decide) ?_ | (refine Duo.mk (by first | omega | exact rfl | decide) ?_; intros) | (refine Duo.mk (Clo.mk (by kernel_rfl)) ?_; intros)))
  refine call_of h13 ?_
  rintro en H1 ⟨a, rfl, hφ, S1⟩
  clear S
  refine ⟨_, rfl, _, _, rfl, _, rfl, _, _, rfl, _, rfl, _, _, rfl, _, _, _, rfl, _, _, rfl, _, _, _, rfl, rfl, ?_⟩
  refine newX S1 fun r H2 E2 S2 => ?_
  clear S1
  refine (S2.to (m := sl BAn.cells 46 4 q i d AN :: pt r (.cells ⟨(an a).cells⟩ 46) :: sl BOp.cells 29 7 (some ⟨r0, o0, none⟩) n c OPS :: m' a) (by
    iterate 3 (apply Ent.pick; (focus (repeat (first | exact Sel.here | apply Sel.there))))
    exact .refl)).slApp (ys := [an a]) (q := some ⟨r, 0, none⟩) (d := 1) ?_ rfl (by simp) cell_an rfl (by decide) (by omega) fun q4 c4 H4 S4 => ?_
  · simp only [List.flatMap_cons, List.flatMap_nil, List.append_nil]
    exact cellsAt_one (S2.at_ (List.mem_cons_self ..))
  rw [wr64 (by omega) (by omega), show ((i : Nat) : Int) + 1 = ((i + 1 : Nat) : Int) by omega]
  refine k a q4 c4 H4 hφ (S4.to ?_)
  apply Ent.pick
  · exact .there (.there .here)
  exact Ent.cons (Ent.drop .refl)
end
end Go.Proofs.YtkkookljlencgaaGreat

set_option linter.unusedVariables false
set_option linter.unusedSimpArgs false
set_option linter.unnecessarySimpa false
set_option maxRecDepth 100000
namespace Go.Proofs.YtkkookljlencgaaGreat
open Go Go.Den Go.Proofs
/-! Rows are put, one behind the other. -/
def mOf (A : List Txt) : List (ByteArray × Bool) := A.map fun t => (t.1, true)
def lastK (A : List Txt) : ByteArray := match A.getLast? with | none => ByteArray.mk #[] | some t => t.1
/-- A key that may come behind the others. -/
structure Fine (t : Txt) : Prop where
  nz : t.1.size ≠ 0
  ks : t.1.size ≤ 2147483647
  vs : t.2.size ≤ 2147483647
abbrev putOp (kd : Int) (t : Txt) : BOp := ⟨kd, 0, 0, t.1, ByteArray.mk #[], t.2, 0⟩
theorem ltS_nz {k : ByteArray} (h : k.size ≠ 0) : ltS (ByteArray.mk #[]) k = true := by
  unfold ltS
  rw [ByteArray.toList_eq, ByteArray.toList_eq]
  obtain ⟨⟨l⟩⟩ := k
  cases l with
  | nil => exact absurd rfl h
  | cons a l => rfl
theorem mget_mOf {A : List Txt} {k : ByteArray} (h : ∀ y ∈ A, ltS y.1 k = true) : mget (mOf A) k = none := by
  induction A with
  | nil => rfl
  | cons a A ih =>
    show (if k = a.1 then some true else mget (mOf A) k) = none
    rw [if_neg (by
      intro e
      have := h a (List.mem_cons_self ..)
      rw [← e, ltS_irr] at this; cases this), ih fun y hy => h y (List.mem_cons_of_mem _ hy)]
theorem srt_last {A : List Txt} {t : Txt} (h : SrtT (A ++ [t])) : ∀ y ∈ A, ltS y.1 t.1 = true := by
  intro y hy
  exact (List.pairwise_append.1 h).2.2 y hy t (List.mem_singleton.2 rfl)
theorem last_up {A : List Txt} {t : Txt} (h : SrtT (A ++ [t])) (ht : Fine t) : ltS (lastK A) t.1 = true := by
  unfold lastK
  cases hA : A.getLast? with
  | none => exact ltS_nz ht.nz
  | some y => exact srt_last h y (List.mem_of_getLast? hA)
theorem lastK_snoc {A : List Txt} {t : Txt} : lastK (A ++ [t]) = t.1 := by
  unfold lastK
  simp
section
variable {H H0 : Heap} {l : List HP} {g : PH}
/-- A state of the vault. -/
structure VS where
  A : List Txt
  D : List Txt
  R : List Txt
  W : List Txt
abbrev VS.P (s : VS) (x had : Nat) (f : BeF) (v : BeV) (g : PH) (l : List HP) : List HP := vaP x had (mOf s.A) (lastK s.A) f v g l
theorem keyP {s : VS} {t : Txt} {v : BeV} {f : BeF} (hs : SrtT (s.A ++ [t])) (ht : Fine t) (hA : s.A.length ≤ 1000) (hW : s.W.length < 500) : KeyP t.1 t.2 (lastK s.A) (mOf s.A) s.A s.W :=
  ⟨ht.nz, ht.ks, ht.vs, mget_mOf (srt_last hs), last_up hs ht, srt_last hs, hA, hW⟩
/-- One row. -/
theorem put_st {sq : Bool} {kd : Int} {s : VS} {x had : Nat} {f : BeF} {v : BeV} {t : Txt} (hkd : kd = if sq then 2 else 1) (G : Good g f v s.A s.D s.R s.W) (P : Ph v s.W) (hR : sq = false → v.R = none ∧ s.W = [] ∧ v.M2 = []) (hM : sq = true → v.M2 = []) (hs : SrtT (s.A ++ [t])) (ht : Fine t) (hA : s.A.length ≤ 1000) (hW : s.W.length < 500) (S : Sat H (s.P x had f v g l)) :
    CallsH Tryz.prog 13 ⟨[pv x, .agg ⟨(putOp kd t).cells⟩]⟩ H (fun en H1 => en = .returned ansV0 ∧ ∃ (g' : PH) (v' : BeV), PH.sub g g' ∧ Good g' f v' (s.A ++ [t]) s.D s.R (s.W ++ [t]) ∧ Ph v' (s.W ++ [t]) ∧ (sq = true → v'.M2 = []) ∧ v'.R = v.R ∧ Sat H1 (VS.P ⟨s.A ++ [t], s.D, s.R, s.W ++ [t]⟩ x had f v' g' l)) := by
  have K := keyP (v := v) (f := f) hs ht hA hW
  have hWl := bufC_len G.bW
  refine CallsH.mono (do_put (sq := sq) hkd G K (by rw [P.pend]; omega) S) ?_
  rintro en H1 ⟨rfl, g', v', s1, G', h1, h2, h3, ⟨w', h4⟩, S1⟩
  have hw0 : w'.u ≠ 0 := by
    have := G'.bW
    rw [h4] at this
    have := this.len
    rw [List.length_append] at this
    simp at this
    omega
  refine ⟨rfl, g', v', s1, G', ⟨?_, .inr ⟨w', h4, hw0⟩, ?_, ?_⟩, ?_, h3, ?_⟩
  · rw [h1, P.pend, List.length_append]; rfl
  · rw [h3]; exact P.r
  · cases sq with
    | true => exact .inl (by rw [h2]; exact hM rfl)
    | false =>
      obtain ⟨r1, r2, r3⟩ := hR rfl
      refine .inr ⟨by rw [h2, r3]; rfl, by rw [h3, r1], by rw [r2]; rfl⟩
  · intro hq; rw [h2, hq]; exact hM hq
  · show Sat H1 (vaP x had (mOf (s.A ++ [t])) (lastK (s.A ++ [t])) f v' g' l)
    rw [lastK_snoc]
    have : mOf (s.A ++ [t]) = mset (mOf s.A) t.1 true := by
      rw [mset_none K.new]
      unfold mOf
      rw [List.map_append]
      rfl
    rw [this]
    exact S1
/-- All that are put. -/
theorem puts_loop {x had n c : Nat} {p : Option Addr} {OPS : List BOp} {f : BeF} {R : Ending → Heap → Prop} (hn : OPS.length = n) (hnb : n ≤ 1000) {A0 D R0 W0 T0 : List Txt} {N : Nat} : ∀ (T T1 : List Txt) (i d : Nat) (q : Option Addr) (v : BeV) (g : PH) (H : Heap), (∀ j t, T[j]? = some t → OPS[i + j]? = some (putOp 2 t)) → SrtT (A0 ++ T1 ++ T) → (∀ t ∈ T, Fine t) → (A0 ++ T1 ++ T).length ≤ 900 → (W0 ++ T1 ++ T).length ≤ 490 →
    Good g f v (A0 ++ T1) D R0 (W0 ++ T1) → Ph v (W0 ++ T1) → v.M2 = [] →
    Sat H (VS.P ⟨A0 ++ T1, D, R0, W0 ++ T1⟩ x had f v g (sl BOp.cells 29 7 p n c OPS :: sl BAn.cells 46 4 q i d (List.replicate i an0) :: l)) →
    (∀ (d' : Nat) (q' : Option Addr) (v' : BeV) (g' : PH) (H1 : Heap), Good g' f v' (A0 ++ T1 ++ T) D R0 (W0 ++ T1 ++ T) → Ph v' (W0 ++ T1 ++ T) → v'.M2 = [] → v'.R = v.R → Sat H1 (VS.P ⟨A0 ++ T1 ++ T, D, R0, W0 ++ T1 ++ T⟩ x had f v' g' (sl BOp.cells 29 7 p n c OPS :: sl BAn.cells 46 4 q' (i + T.length) d' (List.replicate (i + T.length) an0) :: l)) → F7.L0 p n c x q' (i + T.length) d' ((i + T.length : Nat) : Int) H1 R) →
    F7.L0 p n c x q i d (i : Int) H R := by
  intro T
  induction T with
  | nil =>
    intro T1 i d q v g H _ _ _ _ _ G P hM S k
    simp only [List.append_nil, List.length_nil, Nat.add_zero] at k
    exact k d q v g H G P hM rfl S
  | cons t T ih =>
    intro T1 i d q v g H hO hs hf hl1 hl2 G P hM S k
    have e1 : ∀ X : List Txt, X ++ T1 ++ t :: T = X ++ (T1 ++ [t]) ++ T := by intro X; simp
    rw [e1] at hs hl1 hl2
    have hs1 : SrtT ((A0 ++ T1) ++ [t]) := by
      rw [List.append_assoc]
      exact (List.pairwise_append.1 hs).1
    refine step7 (op := putOp 2 t) (AN := List.replicate i an0) (α := PH × BeV) (φ := fun a => PH.sub g a.1 ∧ Good a.1 f a.2 (A0 ++ T1 ++ [t]) D R0 (W0 ++ T1 ++ [t]) ∧ Ph a.2 (W0 ++ T1 ++ [t]) ∧ a.2.M2 = [] ∧ a.2.R = v.R) (an := fun _ => an0) (m := VS.P ⟨A0 ++ T1, D, R0, W0 ++ T1⟩ x had f v g l) (m' := fun a => VS.P ⟨A0 ++ T1 ++ [t], D, R0, W0 ++ T1 ++ [t]⟩ x had f a.2 a.1 l) (by simpa using hO 0 t rfl) hn hnb rfl (S.to ?_) ?_ ?_
    · iterate 21 (apply Ent.pick; (focus (repeat (first | exact Sel.here | apply Sel.there))))
      exact .refl
    · refine CallsH.mono (put_st (sq := true) (s := ⟨A0 ++ T1, D, R0, W0 ++ T1⟩) rfl G P (fun h => by cases h) (fun _ => hM) hs1 (hf t (List.mem_cons_self ..)) (by simp at hl1 ⊢; omega) (by simp at hl2 ⊢; omega) S) ?_
      rintro en H1 ⟨rfl, g', v', s1, G', P', hM', hR', S'⟩
      refine ⟨⟨g', v'⟩, rfl, ⟨s1, G', P', hM' rfl, hR'⟩, S'.to ?_⟩
      iterate 21 (apply Ent.pick; (focus (repeat (first | exact Sel.here | apply Sel.there))))
      exact .refl
    · rintro ⟨g', v'⟩ q' d' H1 ⟨s1, G', P', hM', hR'⟩ S'
      have er : List.replicate i an0 ++ [an0] = List.replicate (i + 1) an0 := by rw [List.replicate_succ']
      rw [er] at S'
      dsimp only at *
      refine ih (T1 ++ [t]) (i + 1) d' q' v' g' H1 (fun j y hy => by rw [show i + 1 + j = i + (j + 1) by omega]; exact hO (j + 1) y (by simpa using hy)) hs (fun y hy => hf y (List.mem_cons_of_mem _ hy)) hl1 hl2 (by rw [← List.append_assoc, ← List.append_assoc]; exact G') (by rw [← List.append_assoc]; exact P') hM' ?_ ?_
      · rw [← List.append_assoc, ← List.append_assoc]
        refine S'.to ?_
        iterate 21 (apply Ent.pick; (focus (repeat (first | exact Sel.here | apply Sel.there))))
        exact .refl
      · intro d2 q2 v2 g2 H2 G2 P2 M2 R2 S2
        have el : i + (t :: T).length = i + 1 + T.length := by rw [List.length_cons]; omega
        rw [e1, e1, el] at k
        exact k d2 q2 v2 g2 H2 G2 P2 M2 (by rw [R2, hR']) S2
end
end Go.Proofs.YtkkookljlencgaaGreat

set_option linter.unusedVariables false
set_option linter.unusedSimpArgs false
set_option linter.unnecessarySimpa false
set_option maxRecDepth 100000
namespace Go.Proofs.YtkkookljlencgaaGreat
open Go Go.Den Go.Proofs
/-! A new backend plays operations. -/
abbrev e0 : ByteArray := ByteArray.mk #[]
abbrev comOp : BOp := ⟨9, 0, 0, e0, e0, e0, 0⟩
abbrev unlOp : BOp := ⟨8, 0, 0, e0, e0, e0, 0⟩
abbrev rdOp (k e : ByteArray) (n : Int) : BOp := ⟨5, 0, 0, k, e, e0, n⟩
abbrev anR (T : List Txt) (q : Option Addr) (d : Nat) (q' : Option Addr) (d' : Nat) : BAn := ⟨0, (T.length : Int), q, T.length, d, q', T.length, d'⟩
section
variable {H H0 : Heap} {l : List HP} {g : PH}
/-- What a run's last answer is. -/
def BackR (p : Option Addr) (n c : Nat) (OPS : List BOp) (T : List Txt) (l : List HP) (en : Ending) (H1 : Heap) : Prop :=
  ∃ (q a a' : Option Addr) (d b b' : Nat), en = .returned (.slice q n d) ∧ Sat H1 (sl strC 9 1 a T.length b (T.map (·.1)) :: sl strC 9 1 a' T.length b' (T.map (·.2)) :: sl BAn.cells 46 4 q n d (List.replicate (n - 1) an0 ++ [anR T a b a' b']) :: sl BOp.cells 29 7 p n c OPS :: l)
theorem back_start {lim n c : Nat} {p : Option Addr} {R : Ending → Heap → Prop} (hlim : 4 < lim) (hl2 : lim < 1000000) (S : Sat H l)
    (k : ∀ (x had : Nat) (f : BeF) (v : BeV) (g : PH) (H1 : Heap), f.lim = lim → Good g f v [] [] [] [] → Ph v [] → v.R = none → v.M2 = [] → Sat H1 (VS.P ⟨[], [], [], []⟩ x had f v g l) → F7.L0 p n c x none 0 0 (0 : Int) H1 R) :
    CallsH Tryz.prog 7 ⟨[.int .i64 (lim : Int), .slice p n c]⟩ H R := by
  refine F7.calls ?_
  unfold F7.go
  have h11 : CallsH Tryz.prog 11 ⟨[]⟩ H (fun e H1 => ∃ r, e = .returned (pv r) ∧ Sat H1 (pt r (dbO none 0 0) :: l)) := by
    refine F11.calls ?_
    unfold F11.go
    refine newX S fun r H1 E1 S1 => ?_
    exact ⟨r, rfl, S1⟩
  refine call_of h11 ?_
  rintro e H1 ⟨db, rfl, S1⟩
  clear S
  refine ⟨_, rfl, ?_⟩
  refine newX S1 fun had H2 E2 S2 => ?_
  clear S1
  refine newX (S2.mpNew Value.string Value.bool) fun x H3 E3 S3 => ?_
  clear S2
  rw [if_neg (by omega)] at S3
  refine call_of (open_ok (x := x) (db := db) (had := had) (lim := lim) (M := []) hlim (S3.to (by
    iterate 3 (apply Ent.pick; (focus (repeat (first | exact Sel.here | apply Sel.there))))
    exact .refl))) ?_
  rintro e H4 ⟨rfl, f, v, g, hf, G, P, hR, S4⟩
  clear S3
  refine ⟨_, rfl, rfl, ?_⟩
  have hM : v.M2 = [] := by rcases P.m with h | ⟨_, _, h⟩; exact h; cases h
  exact k x had f v g H4 hf G P hR hM S4
theorem ans_step {x n c i d : Nat} {p q : Option Addr} {OPS : List BOp} {op : BOp} {T : List Txt} (hi : OPS[i]? = some op) (hn : OPS.length = n) (hin : i + 1 = n) (hnb : n ≤ 1000) (hbk : op.bk = 0)
    (S : Sat H (sl BOp.cells 29 7 p n c OPS :: sl BAn.cells 46 4 q i d (List.replicate i an0) :: l))
    (h13 : CallsH Tryz.prog 13 ⟨[pv x, .agg ⟨op.cells⟩]⟩ H (AnsR g T (sl BOp.cells 29 7 p n c OPS :: sl BAn.cells 46 4 q i d (List.replicate i an0) :: l))) :
    F7.L0 p n c x q i d (i : Int) H (BackR p n c OPS T l) := by
  refine step7 (op := op) (AN := List.replicate i an0) (α := (Option Addr × Nat) × (Option Addr × Nat) × PH) (φ := fun _ => True) (an := fun a => anR T a.1.1 a.1.2 a.2.1.1 a.2.1.2) (m := l) (m' := fun a => sl strC 9 1 a.1.1 T.length a.1.2 (T.map (·.1)) :: sl strC 9 1 a.2.1.1 T.length a.2.1.2 (T.map (·.2)) :: has a.2.2 :: l) hi hn hnb hbk S ?_ ?_
  · refine CallsH.mono h13 ?_
    rintro en H1 ⟨q1, q2, d1, d2, g', s1, rfl, S1⟩
    refine ⟨⟨(q1, d1), (q2, d2), g'⟩, rfl, trivial, S1.to ?_⟩
    iterate 2 (apply Ent.pick; (focus (first | exact .here | exact .there .here | exact .there (.there .here) | exact .there (.there (.there .here)) | exact .there (.there (.there (.there .here))))))
    exact .refl
  · rintro ⟨⟨q1, d1⟩, ⟨q2, d2⟩, g'⟩ q' d' H1 _ S1
    refine F7.L0_step ?_
    unfold F7.L0n
    refine iteB_f (decide_eq_false (by omega)) ?_
    refine ⟨q', q1, q2, d', d1, d2, by rw [← hin], ?_⟩
    dsimp only at *
    subst hin
    refine S1.to ?_
    show Ent _ (sl strC 9 1 q1 T.length d1 (T.map (·.1)) :: sl strC 9 1 q2 T.length d2 (T.map (·.2)) :: sl BAn.cells 46 4 q' (i + 1) d' (List.replicate (i + 1 - 1) an0 ++ [anR T q1 d1 q2 d2]) :: sl BOp.cells 29 7 p (i + 1) c OPS :: l)
    rw [show i + 1 - 1 = i by omega]
    refine Ent.pick (.there (.there .here)) ?_
    refine Ent.pick (.there (.there .here)) ?_
    refine Ent.pick (.there .here) ?_
    exact Ent.cons (Ent.drop .refl)
end
end Go.Proofs.YtkkookljlencgaaGreat

set_option linter.unusedVariables false
set_option linter.unusedSimpArgs false
set_option linter.unnecessarySimpa false
set_option maxRecDepth 100000
namespace Go.Proofs.YtkkookljlencgaaGreat
open Go Go.Den Go.Proofs
section
variable {H H0 : Heap} {l : List HP} {g : PH}
theorem srt_app {A B : List Txt} (h : SrtT (A ++ B)) : SrtT A ∧ SrtT B := ⟨(List.pairwise_append.1 h).1, (List.pairwise_append.1 h).2.1⟩
theorem readT_len {k e : ByteArray} {n : Nat} {D R : List Txt} : (readT k e n D R).length ≤ D.length + R.length := by
  have h : ∀ n L, (fromT k e n L).length ≤ L.length := by
    intro n L
    unfold fromT
    rw [List.length_take]
    have h1 := (List.takeWhile_sublist (fun x : Txt => ltS x.1 e) (l := L.dropWhile fun x => ltS x.1 k)).length_le
    have h2 := (List.dropWhile_sublist (fun x : Txt => ltS x.1 k) (l := L)).length_le
    omega
  unfold readT
  split
  · have := h n R; omega
  · rw [List.length_append]
    have h1 := h n R
    have h2 := h (n - (fromT k e n R).length) D
    omega
/-- Rows are put, committed, more rows are put, and handed over; then a range is read. -/
def runOps (T1 T2 : List Txt) (k e : ByteArray) (m : Int) : List BOp := T1.map (putOp 2) ++ comOp :: (T2.map (putOp 2) ++ [unlOp, rdOp k e m])
theorem back_ok {n c lim : Nat} {p : Option Addr} {T1 T2 : List Txt} {k e : ByteArray} {m : Int} (hlim : 1000 < lim) (hl2 : lim < 1000000) (hs : SrtT (T1 ++ T2)) (hf : ∀ t ∈ T1 ++ T2, Fine t) (hl : (T1 ++ T2).length ≤ 400) (hk : k.size ≤ 2147483647) (he : e.size ≤ 2147483648) (he0 : e.size ≠ 0) (hm : m < 2 ^ 63)
    (hn : n = (runOps T1 T2 k e m).length) (S : Sat H (sl BOp.cells 29 7 p n c (runOps T1 T2 k e m) :: l)) :
    CallsH Tryz.prog 7 ⟨[.int .i64 (lim : Int), .slice p n c]⟩ H (BackR p n c (runOps T1 T2 k e m) (readT k e (limN m) T1 T2) l) := by
  have hlen : (runOps T1 T2 k e m).length = T1.length + T2.length + 3 := by unfold runOps; simp; omega
  rw [List.length_append] at hl
  generalize hO : runOps T1 T2 k e m = OPS at *
  have hnb : n ≤ 1000 := by omega
  refine back_start (by omega) hl2 S ?_
  intro x had f v g H1 hfl G P hR hM S1
  have o1 : ∀ j t, T1[j]? = some t → OPS[0 + j]? = some (putOp 2 t) := by
    intro j t hj
    rw [← hO, Nat.zero_add]
    unfold runOps
    rw [List.getElem?_append_left (by rw [List.length_map]; exact lt_of hj), List.getElem?_map, hj]
    rfl
  have o2 : OPS[T1.length]? = some comOp := by
    rw [← hO]; unfold runOps
    rw [List.getElem?_append_right (by rw [List.length_map]; exact Nat.le_refl _), List.length_map, Nat.sub_self]
    rfl
  have o3 : ∀ j t, T2[j]? = some t → OPS[T1.length + 1 + j]? = some (putOp 2 t) := by
    intro j t hj
    rw [← hO]; unfold runOps
    rw [List.getElem?_append_right (by rw [List.length_map]; omega), List.length_map, show T1.length + 1 + j - T1.length = j + 1 by omega, List.getElem?_cons_succ, List.getElem?_append_left (by rw [List.length_map]; exact lt_of hj), List.getElem?_map, hj]
    rfl
  have o4 : OPS[T1.length + 1 + T2.length]? = some unlOp := by
    rw [← hO]; unfold runOps
    rw [List.getElem?_append_right (by rw [List.length_map]; omega), List.length_map, show T1.length + 1 + T2.length - T1.length = T2.length + 1 by omega, List.getElem?_cons_succ, List.getElem?_append_right (by rw [List.length_map]; exact Nat.le_refl _), List.length_map, Nat.sub_self]
    rfl
  have o5 : OPS[T1.length + 1 + T2.length + 1]? = some (rdOp k e m) := by
    rw [← hO]; unfold runOps
    rw [List.getElem?_append_right (by rw [List.length_map]; omega), List.length_map, show T1.length + 1 + T2.length + 1 - T1.length = T2.length + 1 + 1 by omega, List.getElem?_cons_succ, List.getElem?_append_right (by rw [List.length_map]; omega), List.length_map, show T2.length + 1 - T2.length = 1 by omega]
    rfl
  obtain ⟨hs1, hs2⟩ := srt_app hs
  have er : ∀ i, List.replicate i an0 ++ [an0] = List.replicate (i + 1) an0 := fun i => by rw [List.replicate_succ']
  -- the first rows
  refine puts_loop (x := x) (had := had) (OPS := OPS) (f := f) (D := []) (R0 := []) (A0 := []) (W0 := []) (T0 := []) (N := 0) (l := l) (by omega) hnb T1 [] 0 0 none v g H1 o1 (by simpa using hs1) (fun t ht => hf t (List.mem_append_left _ ht)) (by simp; omega) (by simp; omega) G P hM (S1.to ?_) ?_
  · iterate 20 (apply Ent.pick; (focus (repeat (first | exact Sel.here | apply Sel.there))))
    exact Ent.slNil .refl
  intro d1 q1 v1 g1 H2 G1 P1 hM1 hR1 S2
  clear S1
  simp only [List.nil_append, Nat.zero_add] at G1 P1 S2 ⊢
  -- the commit
  refine step7 (op := comOp) (AN := List.replicate T1.length an0) (α := PH × BeV) (φ := fun a => Good a.1 f a.2 T1 T1 [] [] ∧ Ph a.2 []) (an := fun _ => an0) (m := VS.P ⟨T1, [], [], T1⟩ x had f v1 g1 l) (m' := fun a => VS.P ⟨T1, T1, [], []⟩ x had f a.2 a.1 l) o2 (by omega) hnb rfl (S2.to ?_) ?_ ?_
  · iterate 21 (apply Ent.pick; (focus (repeat (first | exact Sel.here | apply Sel.there))))
    exact .refl
  · refine CallsH.mono (do_commit G1 P1 (by rw [hR1, hR]) (by rw [hfl]; omega) S2) ?_
    rintro en H3 ⟨rfl, g', v', s1, G', P', S'⟩
    refine ⟨⟨g', v'⟩, rfl, ⟨G', P'⟩, S'.to ?_⟩
    iterate 21 (apply Ent.pick; (focus (repeat (first | exact Sel.here | apply Sel.there))))
    exact .refl
  rintro ⟨g2, v2⟩ q2 d2 H3 ⟨G2, P2⟩ S3
  clear S2
  dsimp only at *
  rw [er] at S3
  have hM2 : v2.M2 = [] := by rcases P2.m with h | ⟨_, _, h⟩; exact h; cases h
  -- the other rows
  refine puts_loop (x := x) (had := had) (OPS := OPS) (f := f) (D := T1) (R0 := []) (A0 := T1) (W0 := []) (T0 := []) (N := 0) (l := l) (by omega) hnb T2 [] (T1.length + 1) d2 q2 v2 g2 H3 o3 (by simpa using hs) (fun t ht => hf t (List.mem_append_right _ ht)) (by simp; omega) (by simp; omega) (by simpa using G2) (by simpa using P2) hM2 ?_ ?_
  · rw [List.append_nil, List.append_nil]
    refine S3.to ?_
    iterate 21 (apply Ent.pick; (focus (repeat (first | exact Sel.here | apply Sel.there))))
    exact .refl
  intro d3 q3 v3 g3 H4 G3 P3 hM3 hR3 S4
  clear S3
  simp only [List.append_nil, List.nil_append] at G3 P3 S4 ⊢
  -- they are handed over
  refine step7 (op := unlOp) (AN := List.replicate (T1.length + 1 + T2.length) an0) (α := BeV) (φ := fun a => Good g3 f a (T1 ++ T2) T1 T2 []) (an := fun _ => an0) (m := VS.P ⟨T1 ++ T2, T1, [], T2⟩ x had f v3 g3 l) (m' := fun a => VS.P ⟨T1 ++ T2, T1, T2, []⟩ x had f a g3 l) o4 (by omega) hnb rfl (S4.to ?_) ?_ ?_
  · iterate 21 (apply Ent.pick; (focus (repeat (first | exact Sel.here | apply Sel.there))))
    exact .refl
  · refine CallsH.mono (do_unlock G3 P3 (by rw [hfl]; omega) S4) ?_
    rintro en H5 ⟨rfl, v', G', _, _, _, S'⟩
    refine ⟨v', rfl, G', S'.to ?_⟩
    iterate 21 (apply Ent.pick; (focus (repeat (first | exact Sel.here | apply Sel.there))))
    exact .refl
  intro v4 q4 d4 H5 G4 S5
  clear S4
  rw [er] at S5
  -- the range
  refine ans_step (g := g3) (l := l) (op := rdOp k e m) (T := readT k e (limN m) T1 T2) o5 (by omega) (by omega) hnb rfl (S5.to ?_) ?_
  · refine Ent.cons (Ent.cons ?_)
    iterate 19 (refine Ent.drop ?_)
    exact .refl
  · have hrl := readT_len (k := k) (e := e) (n := limN m) (D := T1) (R := T2)
    refine do_read (v := v4) (g := g3) (M := mOf (T1 ++ T2)) (last := lastK (T1 ++ T2)) (had := had) (f := f) (by omega) (show k.size < 2 ^ 63 by omega) (show e.size < 2 ^ 63 by omega) ?_ (S5.to ?_)
    · intro H6 g6 kb q c m2 s6 hk1 hk2 hq S6
      have h := readS_ok (f := f) (v := v4) (n := m) (G4.up s6) (k := kb) (e := ⟨e, q, c⟩) hk2 hq.b he0 hm (fun t ht => (hf t (List.mem_append_left _ ht)).nz) (by omega) hs2 S6
      rw [hk1] at h
      exact h
    · iterate 21 (apply Ent.pick; (focus (repeat (first | exact Sel.here | apply Sel.there))))
      exact .refl
end
end Go.Proofs.YtkkookljlencgaaGreat

set_option linter.unusedVariables false
set_option linter.unusedSimpArgs false
set_option linter.unnecessarySimpa false
set_option maxRecDepth 100000
namespace Go.Proofs.YtkkookljlencgaaGreat
open Go Go.Den Go.Proofs
/-! The short run: one row, committed, read. -/
section
variable {H H0 : Heap} {l : List HP} {g : PH}
abbrev tA : ByteArray := ByteArray.mk #[97]
abbrev tB : ByteArray := ByteArray.mk #[98]
abbrev liveOps : List BOp := [putOp 1 (tA, tB), comOp, rdOp tA e0 0]
theorem live_ok {c : Nat} {p : Option Addr} (S : Sat H (sl BOp.cells 29 7 p 3 c liveOps :: l)) :
    CallsH Tryz.prog 7 ⟨[.int .i64 5, .slice p 3 c]⟩ H (BackR p 3 c liveOps [(tA, tB)] l) := by
  have hF : Fine (tA, tB) := ⟨by decide, by decide, by decide⟩
  refine back_start (lim := 5) (by decide) (by decide) S ?_
  intro x had f v g H1 hfl G P hR hM S1
  -- the row
  refine step7 (OPS := liveOps) (op := putOp 1 (tA, tB)) (AN := []) (i := 0) (α := PH × BeV) (φ := fun a => Good a.1 f a.2 [(tA, tB)] [] [] [(tA, tB)] ∧ Ph a.2 [(tA, tB)] ∧ a.2.R = none) (an := fun _ => an0) (m := VS.P ⟨[], [], [], []⟩ x had f v g l) (m' := fun a => VS.P ⟨[(tA, tB)], [], [], [(tA, tB)]⟩ x had f a.2 a.1 l) rfl rfl (by decide) rfl (S1.to ?_) ?_ ?_
  · refine Ent.pick (r := VS.P ⟨[], [], [], []⟩ x had f v g l) ?_ (Ent.slNil .refl)
    focus (repeat (first | exact Sel.here | apply Sel.there))
  · refine CallsH.mono (put_st (l := sl BOp.cells 29 7 p 3 c liveOps :: sl BAn.cells 46 4 none 0 0 [] :: l) (sq := false) (s := ⟨[], [], [], []⟩) (t := (tA, tB)) (v := v) (g := g) (f := f) (had := had) rfl G P (fun _ => ⟨hR, rfl, hM⟩) (fun h => by cases h) (List.pairwise_singleton ..) hF (by decide) (by decide) (S1.to ?_)) ?_
    · iterate 20 (apply Ent.pick; (focus (repeat (first | exact Sel.here | apply Sel.there))))
      exact Ent.slNil .refl
    rintro en H2 ⟨rfl, g', v', s1, G', P', _, hR', S'⟩
    refine ⟨⟨g', v'⟩, rfl, ⟨G', P', by rw [hR', hR]⟩, S'.to ?_⟩
    iterate 21 (apply Ent.pick; (focus (repeat (first | exact Sel.here | apply Sel.there))))
    exact .refl
  rintro ⟨g1, v1⟩ q1 d1 H2 ⟨G1, P1, hR1⟩ S2
  clear S1
  dsimp only at *
  -- the commit
  refine step7 (OPS := liveOps) (op := comOp) (AN := [an0]) (i := 1) (α := PH × BeV) (φ := fun a => Good a.1 f a.2 [(tA, tB)] [(tA, tB)] [] [] ∧ Ph a.2 []) (an := fun _ => an0) (m := VS.P ⟨[(tA, tB)], [], [], [(tA, tB)]⟩ x had f v1 g1 l) (m' := fun a => VS.P ⟨[(tA, tB)], [(tA, tB)], [], []⟩ x had f a.2 a.1 l) rfl rfl (by decide) rfl S2 ?_ ?_
  · refine CallsH.mono (do_commit (M := mOf [(tA, tB)]) (last := lastK [(tA, tB)]) (had := had) (l := sl BOp.cells 29 7 p 3 c liveOps :: sl BAn.cells 46 4 q1 1 d1 [an0] :: l) G1 P1 hR1 (by rw [hfl]; decide) (S2.to ?_)) ?_
    · iterate 21 (apply Ent.pick; (focus (repeat (first | exact Sel.here | apply Sel.there))))
      exact .refl
    rintro en H3 ⟨rfl, g', v', s1, G', P', S'⟩
    refine ⟨⟨g', v'⟩, rfl, ⟨G', P'⟩, S'.to ?_⟩
    iterate 21 (apply Ent.pick; (focus (repeat (first | exact Sel.here | apply Sel.there))))
    exact .refl
  rintro ⟨g2, v2⟩ q2 d2 H3 ⟨G2, P2⟩ S3
  clear S2
  dsimp only at *
  -- the range
  refine ans_step (g := g2) (l := l) (OPS := liveOps) (i := 2) (op := rdOp tA e0 0) (T := [(tA, tB)]) rfl rfl rfl (by decide) rfl (S3.to ?_) ?_
  · refine Ent.cons (Ent.cons ?_)
    iterate 19 (refine Ent.drop ?_)
    exact .refl
  · refine do_read (v := v2) (g := g2) (M := mOf [(tA, tB)]) (last := lastK [(tA, tB)]) (had := had) (f := f) (by decide) (by decide) (by decide) ?_ (S3.to ?_)
    · intro H6 g6 kb q c m2 s6 hk1 hk2 hq S6
      obtain ⟨rfl, rfl⟩ := hq.z rfl
      have h := read1S_ok (f := f) (v := v2) (n := 0) (t := (tA, tB)) (G2.up s6) (k := kb) hk2 hk1.symm (by rw [hk1]; decide) S6
      exact h
    · iterate 21 (apply Ent.pick; (focus (repeat (first | exact Sel.here | apply Sel.there))))
      exact .refl
end
end Go.Proofs.YtkkookljlencgaaGreat

set_option linter.unusedVariables false
set_option linter.unusedSimpArgs false
set_option linter.unnecessarySimpa false
set_option maxRecDepth 100000
namespace Go.Proofs.YtkkookljlencgaaGreat
open Go Go.Den Go.Proofs
/-! The reference: a row behind all others. -/
abbrev rowC (t : Txt) : List Value := [.string t.1, .string t.2]
theorem cell_row {X : List Txt} : ∀ v ∈ X.flatMap rowC, isCell v = true := by
  intro v hv
  obtain ⟨a, _, h⟩ := List.mem_flatMap.1 hv
  simp only [List.mem_cons, List.not_mem_nil, or_false] at h
  rcases h with rfl | rfl <;> rfl
theorem slP_0 {p : Option Addr} {m z : Nat} : slP p 0 m z = p := by
  unfold slP
  split
  · rfl
  · cases p with
    | none => rfl
    | some a =>
      show some (a.add (0 * z)) = some a
      rw [Nat.zero_mul]
      obtain ⟨b, o, s⟩ := a
      unfold Addr.add
      simp
section
variable {H H0 : Heap} {l : List HP} {g : PH}
theorem emptySl {r : Nat} : Ent (pt r (.cells ⟨[]⟩ 94) :: l) (sl rowC 94 2 (some ⟨r, 0, none⟩) 0 0 [] :: l) :=
  Ent.slClose (xs := []) (pre := []) (sp := []) (f := rowC) (z := 2) (n := 0) (c := 0) (o := 0) rfl (fun _ h => by cases h) (Nat.le_refl _) rfl (by simp)
theorem with_ok {q : Option Addr} {n c : Nat} {xs : List Txt} {key val : ByteArray} (hR : RowsAt rowC 2 H0 q xs) (hn : xs.length = n) (hnc : n ≤ c) (hb : n ≤ 1000) (hlt : ∀ y ∈ xs, ltS y.1 key = true) :
    CallsH Tryz.prog 14 ⟨[.slice q n c, .string key, .string val]⟩ H0 (fun e H1 => ∃ x : Option Addr × Nat, e = .returned (.slice x.1 (n + 1) x.2) ∧ Sat H1 ([sl rowC 94 2 x.1 (n + 1) x.2 (xs ++ [(key, val)])] ++ [old H0])) := by
  refine F14.calls ?_
  unfold F14.go
  have fin : ∀ H, Sat H [old H0] → F14.L1 q n c key val (n : Int) H (fun e H1 => ∃ x : Option Addr × Nat, e = .returned (.slice x.1 (n + 1) x.2) ∧ Sat H1 ([sl rowC 94 2 x.1 (n + 1) x.2 (xs ++ [(key, val)])] ++ [old H0])) := by
    intro H S
    refine F14.L1_step ?_
    unfold F14.L1n
    refine newX S fun r H1 E1 S1 => ?_
    refine ⟨by omega, by omega, ?_⟩
    rw [slP_0, Int.toNat_natCast]
    have S2 := S1.to emptySl
    refine S2.slApp (ys := xs) (d := n) ((hR.ext (S2.old (by simp))).cells (fun _ => rfl)) hn (fun _ _ => rfl) cell_row rfl (by decide) (by omega) fun q1 c1 H2 S3 => ?_
    refine newX S3 fun r1 H3 E3 S4 => ?_
    refine (S4.to ent_swp).slApp (ys := [(key, val)]) (q := some ⟨r1, 0, none⟩) (d := 1) ?_ rfl (fun _ _ => rfl) cell_row rfl (by decide) (by omega) fun q2 c2 H4 S5 => ?_
    · simp only [List.flatMap_cons, List.flatMap_nil, List.append_nil]
      exact cellsAt_one (S4.at_ (List.mem_cons_self ..))
    refine iteB_f (decide_eq_false (by omega)) ?_
    refine F14.L3_step ?_
    unfold F14.L3n
    refine ⟨by omega, by omega, ?_⟩
    rw [Int.toNat_natCast]
    refine S5.slApp (ys := []) (d := n - n) ?_ (by simp) (by simp) (by simp) rfl (by decide) (by omega) fun q3 c3 H5 S6 => ?_
    · intro i v hi; simp at hi
    rw [show 0 + n + 1 + (n - n) = n + 1 by omega] at S6 ⊢
    refine ⟨(q3, c3), rfl, S6.to ?_⟩
    rw [List.nil_append, List.append_nil]
    exact Ent.cons (Ent.drop .refl)
  have loop : ∀ (m i : Nat) (H : Heap), i + m = n → Sat H [old H0] → F14.L0 q n c key val (i : Int) H (fun e H1 => ∃ x : Option Addr × Nat, e = .returned (.slice x.1 (n + 1) x.2) ∧ Sat H1 ([sl rowC 94 2 x.1 (n + 1) x.2 (xs ++ [(key, val)])] ++ [old H0])) := by
    intro m
    induction m with
    | zero =>
      intro i H hi S
      obtain rfl : i = n := by omega
      refine F14.L0_step ?_
      unfold F14.L0n
      refine iteB_f (decide_eq_false (by omega)) ?_
      exact fin H S
    | succ m ih =>
      intro i H hi S
      obtain ⟨x, hx⟩ : ∃ x, xs[i]? = some x := get_of (by omega)
      have hI := HasI.nat hx
      have R0 : RowsC H0 q rowC 2 xs := ⟨hR⟩
      refine F14.L0_step ?_
      unfold F14.L0n
      refine iteB_t (decide_eq_true (by omega)) ?_
      refine R0.idx hn ⟨by omega, by omega, ?_⟩
      intro a ha
      subst ha
      (repeat (first | (refine Step.go ?_; intros) | refine iteB_t (by decide) ?_ | refine iteB_f (by decide) ?_ | (refine Duo.mk (by first | omega | exact rfl | decide) ?_; intros) | (refine Duo.mk (Clo.mk (by kernel_rfl)) ?_; intros)))
      refine iteB_t (hlt x (List.mem_of_getElem? hx)) ?_
      refine F14.L4_step ?_
      unfold F14.L4n
      rw [wr64 (by omega) (by omega), show ((i : Nat) : Int) + 1 = ((i + 1 : Nat) : Int) by omega]
      exact ih (i + 1) H (by omega) S
  exact loop n 0 H0 (by omega) (Sat.start H0)
end
end Go.Proofs.YtkkookljlencgaaGreat

set_option linter.unusedVariables false
set_option linter.unusedSimpArgs false
set_option linter.unnecessarySimpa false
set_option maxRecDepth 100000
namespace Go.Proofs.YtkkookljlencgaaGreat
open Go Go.Den Go.Proofs
/-! The reference: rows between two keys. -/
def inT (k e : ByteArray) (t : Txt) : Bool := !ltS t.1 k && ltS t.1 e
/-- One row more, if it is asked for, and let through. -/
def stepT (k e : ByteArray) (n : Int) (T : List Txt) (t : Txt) : List Txt := if inT k e t && (decide (n ≤ 0) || decide ((T.length : Int) < n)) then T ++ [t] else T
def fromS (k e : ByteArray) (n : Int) (L : List Txt) : List Txt := L.foldl (stepT k e n) []
theorem stepT_len {k e : ByteArray} {n : Int} {T : List Txt} {t : Txt} : (stepT k e n T t).length ≤ T.length + 1 := by
  unfold stepT
  split
  · rw [List.length_append]; simp
  · omega
section
variable {H H0 : Heap} {l : List HP} {g : PH}
theorem within_ok {k f e : ByteArray} (he : e.size ≠ 0) : CallsH Tryz.prog 29 ⟨[.string k, .string f, .string e, .bool true]⟩ H (Gives (.bool (!ltS k f && ltS k e)) H) := by
  refine F29.calls ?_
  unfold F29.go
  refine iteB_f rfl ?_
  refine iteB_f (by rw [eqS_nil]; exact decide_eq_false he) ?_
  refine iteB_i (fun h => ?_) (fun h => ?_)
  · rw [h]; exact ⟨rfl, ExtH.refl H⟩
  · rw [h]; exact ⟨rfl, ExtH.refl H⟩
theorem from_ok {q : Option Addr} {n c : Nat} {xs : List Txt} {k e : ByteArray} {m : Int} (he : e.size ≠ 0) (hR : RowsAt rowC 2 H0 q xs) (hn : xs.length = n) (hb : n ≤ 1000) :
    CallsH Tryz.prog 17 ⟨[.slice q n c, .string k, .string e, .int .i64 m]⟩ H0 (fun en H1 => ∃ x : Option Addr × Nat, en = .returned (.slice x.1 (fromS k e m xs).length x.2) ∧ Sat H1 ([sl rowC 94 2 x.1 (fromS k e m xs).length x.2 (fromS k e m xs)] ++ [old H0])) := by
  refine F17.calls ?_
  unfold F17.go
  have hne : (!eqS e (ByteArray.mk #[])) = true := by rw [eqS_nil, decide_eq_false he]; rfl
  have loop : ∀ (j i : Nat) (T : List Txt) (p : Option Addr) (d : Nat) (H : Heap), i + j = n → T.length ≤ i → T = (xs.take i).foldl (stepT k e m) [] → Sat H (sl rowC 94 2 p T.length d T :: [old H0]) →
      F17.L0 k e m p T.length d q n c (n : Int) (i : Int) H (fun en H1 => ∃ x : Option Addr × Nat, en = .returned (.slice x.1 (fromS k e m xs).length x.2) ∧ Sat H1 ([sl rowC 94 2 x.1 (fromS k e m xs).length x.2 (fromS k e m xs)] ++ [old H0])) := by
    intro j
    induction j with
    | zero =>
      intro i T p d H hi hT hTe S
      refine F17.L0_step ?_
      unfold F17.L0n
      refine iteB_f (decide_eq_false (by omega)) ?_
      have e1 : T = fromS k e m xs := by rw [hTe, List.take_of_length_le (by omega)]; rfl
      rw [← e1]
      exact ⟨(p, d), rfl, S⟩
    | succ j ih =>
      intro i T p d H hi hT hTe S
      obtain ⟨x, hx⟩ : ∃ x, xs[i]? = some x := get_of (by omega)
      have hI := HasI.nat hx
      have R0 : RowsC H0 q rowC 2 xs := ⟨hR⟩
      have et : stepT k e m T x = (xs.take (i + 1)).foldl (stepT k e m) [] := by
        rw [List.take_add_one, hx, List.foldl_append, ← hTe]; rfl
      have next : ∀ (p1 : Option Addr) (d1 : Nat) (H1 : Heap), Sat H1 (sl rowC 94 2 p1 (stepT k e m T x).length d1 (stepT k e m T x) :: [old H0]) → F17.L2 k e m p1 (stepT k e m T x).length d1 q n c (n : Int) (i : Int) H1 (fun en H1 => ∃ x : Option Addr × Nat, en = .returned (.slice x.1 (fromS k e m xs).length x.2) ∧ Sat H1 ([sl rowC 94 2 x.1 (fromS k e m xs).length x.2 (fromS k e m xs)] ++ [old H0])) := by
        intro p1 d1 H1 S1
        refine F17.L2_step ?_
        unfold F17.L2n
        rw [wr64 (by omega) (by omega), show ((i : Nat) : Int) + 1 = ((i + 1 : Nat) : Int) by omega]
        have := stepT_len (k := k) (e := e) (n := m) (T := T) (t := x)
        exact ih (i + 1) _ p1 d1 H1 (by omega) (by omega) et S1
      refine F17.L0_step ?_
      unfold F17.L0n
      refine iteB_t (decide_eq_true (by omega)) ?_
      refine R0.idx hn ⟨by omega, by omega, ?_⟩
      intro a ha
      subst ha
      (repeat (first | (refine Step.go ?_; intros) | refine iteB_t (by decide) ?_ | refine iteB_f (by decide) ?_ | (refine Duo.mk (by first | omega | exact rfl | decide) ?_; intros) | (refine Duo.mk (Clo.mk (by kernel_rfl)) ?_; intros)))
      rename_i r H1 S1 H2 S2 H3 S3
      clear S S1 S2
      rw [hne]
      refine gives_i S3 (within_ok he) fun H4 E4 S4 => ?_
      clear S3
      refine ⟨_, rfl, ?_⟩
      have add : (stepT k e m T x = T ++ [x]) → F17.L1 k e m p T.length d r (some a) n c (n : Int) (i : Int) H4 (fun en H1 => ∃ x : Option Addr × Nat, en = .returned (.slice x.1 (fromS k e m xs).length x.2) ∧ Sat H1 ([sl rowC 94 2 x.1 (fromS k e m xs).length x.2 (fromS k e m xs)] ++ [old H0])) := by
        intro hs
        refine F17.L1_step ?_
        unfold F17.L1n
        (repeat (first | (refine Step.go ?_; intros) | refine iteB_t (by decide) ?_ | refine iteB_f (by decide) ?_ | (refine Duo.mk (by first | omega | exact rfl | decide) ?_; intros) | (refine Duo.mk (Clo.mk (by kernel_rfl)) ?_; intros)))
        rename_i r1 H5 S5
        refine (S5.to (m := sl rowC 94 2 p T.length d T :: pt r1 (.cells ⟨rowC x⟩ 94) :: [old H0]) ?_).slApp (ys := [x]) (q := some ⟨r1, 0, none⟩) (d := 1) ?_ rfl (fun _ _ => rfl) cell_row rfl (by decide) (by omega) fun q2 c2 H6 S6 => ?_
        · iterate 2 (apply Ent.pick; (focus (repeat (first | exact Sel.here | apply Sel.there))))
          exact Ent.drop .refl
        · simp only [List.flatMap_cons, List.flatMap_nil, List.append_nil]
          exact cellsAt_one (S5.at_ (List.mem_cons_self ..))
        have hl : (stepT k e m T x).length = T.length + 1 := by rw [hs, List.length_append]; rfl
        have := next q2 c2 H6 (by
          rw [hl, hs]
          exact S6.to (Ent.cons (Ent.drop .refl)))
        rw [hl] at this
        exact this
      have skip : (stepT k e m T x = T) → F17.L2 k e m p T.length d (some a) n c (n : Int) (i : Int) H4 (fun en H1 => ∃ x : Option Addr × Nat, en = .returned (.slice x.1 (fromS k e m xs).length x.2) ∧ Sat H1 ([sl rowC 94 2 x.1 (fromS k e m xs).length x.2 (fromS k e m xs)] ++ [old H0])) := by
        intro hs
        have := next p d H4 (by rw [hs]; exact S4.to (by
          iterate 1 (apply Ent.pick; (focus (repeat (first | exact Sel.here | apply Sel.there))))
          exact Ent.drop .refl))
        rw [hs] at this
        exact this
      refine iteB_i (fun h => ?_) (fun h => ?_)
      · have hin : inT k e x = true := h
        refine iteB_i (fun h2 => ?_) (fun h2 => ?_)
        · refine add ?_
          unfold stepT
          rw [if_pos (by rw [hin, h2]; rfl)]
        refine iteB_i (fun h3 => ?_) (fun h3 => ?_)
        · refine add ?_
          unfold stepT
          rw [if_pos (by rw [hin, h2, h3]; rfl)]
        · refine skip ?_
          unfold stepT
          rw [if_neg (by rw [hin, h2, h3]; decide)]
      · have hin : inT k e x = false := h
        refine skip ?_
        unfold stepT
        rw [if_neg (by rw [hin]; simp)]
  exact loop n 0 [] none 0 H0 (by omega) (Nat.le_refl _) rfl ((Sat.start H0).to (Ent.slNil .refl))
end
end Go.Proofs.YtkkookljlencgaaGreat
