/- What functions of this seat do, each proved by a walk; no condition. -/
import Derived.Test.YtkkookljlencgaaGreatHM3
set_option linter.unusedVariables false
set_option linter.unusedSimpArgs false
set_option linter.unnecessarySimpa false
set_option maxRecDepth 100000
namespace Go.Proofs.YtkkookljlencgaaGreat
open Go Go.Den Go.Proofs
/-! A commit is forced: the state behind it. -/
section
variable {H H0 : Heap} {l : List HP} {g : PH} {s : ByteArray} {b : Bool}
theorem BkG.of_dt {b0 b : BkI} (h : BkG g b0) (e : b.dt = b0.dt) : BkG g b := by
  have h1 := h.dt
  rw [← e] at h1
  exact ⟨h1.nm, h1.rows, h1.kr, h1.srt, h1.cap⟩
theorem bufM_z {n : Int} {o : Option Buf} : bufM n (o.map Buf.z) = bufM n o := by cases o <;> rfl
theorem TxN.gd {D : List DtI} (x : TxN D) (h : ∀ d ∈ D, DtG g d) : ∀ b ∈ x.B, BkG g b := by
  intro b hb
  have h1 : b.dt ∈ D := by rw [← x.eq]; exact List.mem_map_of_mem hb
  have h2 := h _ h1
  exact ⟨h2.nm, h2.rows, h2.kr, h2.srt, h2.cap⟩
theorem forceS0_ok {f : BeF} {v : BeV} {A R W : List Txt} (hwg : ∀ b ∈ v.wB, BkG g b) (hkw : KeyB (v.wB.map BkI.dt) A) (hsync : v.pend = 0 → v.wB.map BkI.dt = v.D) (hrows : RowsG DtI.cells 2 g v.dp v.D) (hbW : BufC g v.W W) (hbR : BufC g v.R R) (hR : ∀ b, v.R = some b → b.u ≠ 0) (hlim : 0 < f.lim) (hp : v.pend ≤ 1000000)
    (S : Sat H (beP f v g l)) :
    CallsH Tryz.prog 109 ⟨[pv f.be]⟩ H (fun e H1 => e = .returned (.tuple ⟨[]⟩) ∧ ∃ (g' : PH) (v' : BeV), PH.sub g g' ∧ Good g' f v' A A [] W ∧ v'.pend = 0 ∧ v'.M2 = v.M2 ∧ v'.W = v.W ∧ v'.R = v.R.map Buf.z ∧ Sat H1 (beP f v' g' l)) := by
  have hkB : v.wB.length ≤ 1000 := by
    obtain ⟨_, _, _, _, h, _⟩ := hkw.split
    rw [h]; simp
  obtain ⟨pend, cm, ver, mu, wg, rb, wt, wB, wp, wc, rx, rB, rp, rc, dp, dc, DD, M2, Wb, Rb⟩ := v
  dsimp only at *
  have hDD : pend = 0 → DD.length = wB.length ∧ RowsG DtI.cells 2 g dp (wB.map BkI.dt) := by
    intro h
    have h1 := hsync h
    refine ⟨by rw [← h1, List.length_map], ?_⟩
    rw [h1]; exact hrows
  refine F109.calls ?_
  unfold F109.go
  (repeat (first | (refine Step.go ?_; intros) | refine iteB_t (by decide) ?_ | refine iteB_f (by decide) ?_ | (refine Duo.mk (by first | omega | exact rfl | decide) ?_; intros) | (refine Duo.mk (Clo.mk (by kernel_rfl)) ?_; intros)))
  refine call_of (commit37 (α := Cmt g (wB.map BkI.dt) × Nat × Option Addr) (bt := f.bt) (be := f.be) (db := f.db) (lim := f.lim) (bp := some ⟨f.bt, 0, none⟩) (m1 := some f.m1) (m2 := some f.m2) (rt := f.rt)
    (P := fun a => a.1.P f.bt f.be f.db f.lim f.rt f.rm a.2.1 (some f.m1) (some f.m2) ver (some ⟨f.bt, 0, none⟩) mu a.2.2 (mpB f.rm (bufM 1 Rb) :: bufP (Rb.map Buf.z) :: mpK a.2.1 [] :: mpB f.m1 (bufM 1 Wb) :: mpS f.m2 M2 :: bufP Wb :: l)) (ta := fun a => a.1.x.tx) (cma := fun a => a.1.cm) (ra := fun a => [.map (some f.rm), .int .u64 ver, .pointer mu, .pointer (some ⟨a.1.y.tx, 0, none⟩), .map (some a.2.1), .pointer a.2.2]) hlim (fun a => a.1.ent) (tx := some ⟨wt, 0, none⟩) (pend := pend) (z := 0) (cm := cm) (cs := [.map (some f.rm), .int .u64 ver, .pointer mu, .pointer (some ⟨rx, 0, none⟩), .map (some rb), .pointer wg])
    (l := txM wt f.db true false wB wp wc g (pt rx (txO f.db false false rp DD.length rc) :: pt f.db (dbO dp DD.length dc) :: mpB f.rm (bufM 1 Rb) :: bufP Rb :: mpB f.m1 (bufM 1 Wb) :: mpS f.m2 M2 :: bufP Wb :: l)) (S.to ?_) ?_) ?_
  · iterate 14 (apply Ent.pick; (focus (repeat (first | exact Sel.here | apply Sel.there))))
    iterate 3 (apply Ent.drop)
    exact .refl
  · intro H4 S4
    refine CallsH.mono (ucommit_ok (g := g) (tx := wt) (be := f.be) (db := f.db) (lim := f.lim) (rt := f.rt) (m1 := some f.m1) (m2 := some f.m2) (z := 0) (cm := cm) (bp := some ⟨f.bt, 0, none⟩) (n := 1) (B := wB) (p := wp) (c := wc) (p0 := dp) (n0 := DD.length) (c0 := dc) (o := Rb) (dn := false) (rx := rx) (rp := rp) (rn := DD.length) (rc := rc) (rm := f.rm) (rb := rb) (ver := ver) (mu := mu) (wg := wg) (l := mpB f.m1 (bufM 1 Wb) :: mpS f.m2 M2 :: bufP Wb :: l) hDD hp hkB hR (S4.to ?_)) ?_
    · iterate 14 (apply Ent.pick; (focus (repeat (first | exact Sel.here | apply Sel.there))))
      exact .refl
    rintro e H5 ⟨rfl, a, rb', wg', S5⟩
    exact ⟨rfl, ⟨a, rb', wg'⟩, S5⟩
  rintro e H5 ⟨rfl, ⟨a, rb', wg'⟩, S5⟩
  refine ⟨_, rfl, rfl, ?_⟩
  have hdg : ∀ d ∈ wB.map BkI.dt, DtG a.g' d := by
    intro d hd
    obtain ⟨y, hy, rfl⟩ := List.mem_map.1 hd
    exact ((hwg y hy).mono a.sub).dt
  refine ⟨rfl, a.g', ⟨0, a.cm, ver, mu, wg', rb', a.x.tx, a.x.B, a.x.p, a.x.c, a.y.tx, a.y.B, a.y.p, a.y.c, a.q, a.c, wB.map BkI.dt, M2, Wb, Rb.map Buf.z⟩, a.sub, ⟨a.x.gd hdg, hdg, a.rows, a.y.eq, fun _ => a.x.eq, ?_, hkw, hbW.mono a.sub, ?_⟩, rfl, rfl, rfl, rfl, S5.to ?_⟩
  · show KeyB (a.x.B.map BkI.dt) A
    rw [a.x.eq]; exact hkw
  · cases Rb with
    | none => rfl
    | some r => exact ⟨Nat.zero_le _, rfl, (fun x hx => by cases (show x ∈ ([] : List KR) from hx)), hbR.2.2.2⟩
  · show Ent _ (beP f ⟨0, a.cm, ver, mu, wg', rb', a.x.tx, a.x.B, a.x.p, a.x.c, a.y.tx, a.y.B, a.y.p, a.y.c, a.q, a.c, wB.map BkI.dt, M2, Wb, Rb.map Buf.z⟩ a.g' l)
    unfold beP
    dsimp only
    rw [bufM_z]
    iterate 17 (apply Ent.pick; (focus (repeat (first | exact Sel.here | apply Sel.there))))
    exact .refl
theorem forceS_ok {f : BeF} {v : BeV} {A D R W : List Txt} (G : Good g f v A D R W) (hR : ∀ b, v.R = some b → b.u ≠ 0) (hlim : 0 < f.lim) (hp : v.pend ≤ 1000000)
    (S : Sat H (beP f v g l)) :
    CallsH Tryz.prog 109 ⟨[pv f.be]⟩ H (fun e H1 => e = .returned (.tuple ⟨[]⟩) ∧ ∃ (g' : PH) (v' : BeV), PH.sub g g' ∧ Good g' f v' A A [] W ∧ v'.pend = 0 ∧ v'.M2 = v.M2 ∧ v'.W = v.W ∧ v'.R = v.R.map Buf.z ∧ Sat H1 (beP f v' g' l)) :=
  forceS0_ok G.wg G.kw G.sync G.rows G.bW G.bR hR hlim hp S
end
end Go.Proofs.YtkkookljlencgaaGreat

set_option linter.unusedVariables false
set_option linter.unusedSimpArgs false
set_option linter.unnecessarySimpa false
set_option maxRecDepth 100000
namespace Go.Proofs.YtkkookljlencgaaGreat
open Go Go.Den Go.Proofs
/-! The readers' buffer is asked. -/
/-- Of rows those from `k` on, ahead of `e`, at most `n`. -/
def fromT (k e : ByteArray) (n : Nat) (L : List Txt) : List Txt := ((L.dropWhile fun x => ltS x.1 k).takeWhile fun x => ltS x.1 e).take n
def SrtT (L : List Txt) : Prop := L.Pairwise fun a b => ltS a.1 b.1 = true
theorem srt_txt {xs : List KR} : Srt xs ↔ SrtT (xs.map txt) := by
  unfold Srt SrtT
  rw [List.pairwise_map]
  exact Iff.rfl
theorem drop_of_place {k : ByteArray} : ∀ {xs : List KR} {i : Nat}, PlaceP xs k i → xs.drop i = xs.dropWhile fun x => ltS x.k.s k
  | [], i, h => by simp
  | x :: xs, 0, h => by
    have := h.hi 0 x (Nat.le_refl _) rfl
    simp [this]
  | x :: xs, i + 1, h => by
    have h0 := h.lo 0 x (by omega) rfl
    have ih := drop_of_place (xs := xs) (i := i) (k := k) ⟨by have := h.le; simpa using this, fun j y hj hy => h.lo (j + 1) y (by omega) (by simpa using hy), fun j y hj hy => h.hi (j + 1) y (by omega) (by simpa using hy)⟩
    rw [List.drop_succ_cons, ih, List.dropWhile_cons, if_pos h0]
theorem ahead_txt {k e : ByteArray} {n i : Nat} {xs : List KR} (h : PlaceP xs k i) : (ahead e n (xs.drop i)).map txt = fromT k e n (xs.map txt) := by
  unfold ahead fromT
  rw [drop_of_place h, List.map_take]
  congr 1
  have e1 : ∀ l : List KR, (l.takeWhile fun x => ltS x.k.s e).map txt = (l.map txt).takeWhile fun x => ltS x.1 e := by
    intro l
    induction l with
    | nil => rfl
    | cons a l ih =>
      rw [List.map_cons, List.takeWhile_cons, List.takeWhile_cons]
      show List.map txt (if ltS a.k.s e then _ else _) = if ltS a.k.s e then _ else _
      cases ltS a.k.s e with
      | true => simp [ih]
      | false => simp
  have e2 : ∀ l : List KR, (l.dropWhile fun x => ltS x.k.s k).map txt = (l.map txt).dropWhile fun x => ltS x.1 k := by
    intro l
    induction l with
    | nil => rfl
    | cons a l ih =>
      rw [List.map_cons, List.dropWhile_cons, List.dropWhile_cons]
      show List.map txt (if ltS a.k.s k then _ else _) = if ltS a.k.s k then _ else _
      cases ltS a.k.s k with
      | true => simp [ih]
      | false => simp
  rw [e1, e2]
theorem ahead_mem {e : ByteArray} {n i : Nat} {xs : List KR} {x : KR} (h : x ∈ ahead e n (xs.drop i)) : x ∈ xs :=
  List.mem_of_mem_drop ((List.takeWhile_sublist _).mem (List.mem_of_mem_take h))
section
variable {H H0 : Heap} {l : List HP} {g : PH} {s : ByteArray} {b : Bool}
theorem rangeB_ok {rt rm rb lim : Nat} {ver : Int} {mu tx wg : Option Addr} {o : Option Buf} {R : List Txt} {k e : Bs} (hR : BufC g o R) (hs : SrtT R) (hk : BytsG g k) (he : BytsG g e) (he0 : e.s.size ≠ 0) (hl : lim < 2 ^ 63)
    (S : Sat H (pt rt (rtO rm ver mu tx rb wg) :: mpB rm (bufM 1 o) :: bufP o :: has g :: l)) :
    CallsH Tryz.prog 124 ⟨[pv rt, bkT 1 s b, k.v, e.v, .int .i64 (lim : Int)]⟩ H (fun en H2 => ∃ (p p' : Option Addr) (c1 c2 : Nat) (W : List KR), W.map txt = fromT k.s e.s lim R ∧ (∀ r ∈ W, KrG g r) ∧ en = .returned (.tuple ⟨[.slice p W.length c1, .slice p' W.length c2]⟩) ∧ Sat H2 (outP p p' c1 c2 W (pt rt (rtO rm ver mu tx rb wg) :: mpB rm (bufM 1 o) :: bufP o :: has g :: l))) := by
  refine F124.calls (bucket := .mk 131 (.agg ⟨[.int .i64 1, .string s, .bool b]⟩)) ?_
  unfold F124.go
  refine Step.go ?_
  refine Step.go ?_
  refine idI S fun H1 E1 S1 => ?_
  clear S
  refine Step.go ?_
  refine ⟨E1, ?_⟩
  cases o with
  | none =>
    obtain rfl : R = [] := hR
    refine Sat.lookup S1 (fk := Value.int .i64) (fv := pv) (r := rm) (m := []) (by simp [bufM]) MI101 1 (fun v hv => by cases hv) (fun _ => ?_)
    refine ⟨_, rfl, ?_⟩
    refine iteB_f rfl ?_
    refine ⟨none, none, 0, 0, [], by simp [fromT], (fun _ h => by cases h), rfl, S1.to outP_nil⟩
  | some w =>
    obtain ⟨h1, h2, h3, h4⟩ := hR
    refine Sat.lookup S1 (fk := Value.int .i64) (fv := pv) (r := rm) (m := [(1, w.bb)]) (by simp [bufM]) MI101 1 (fun v hv => ?_) (fun h => by simp [mget] at h)
    have hv : v = w.bb := by simpa [mget] using hv.symm
    subst hv
    refine ⟨_, rfl, ?_⟩
    refine iteB_t rfl ?_
    have hsr : Srt (w.Y.take w.u) := by rw [srt_txt, h2]; exact hs
    refine call_of (bufRange_ok (k := k) (e := e) (lim := lim) hsr h3 hk he he0 h4 (by omega) hl (S1.to (m := pt w.bb (bbO w.q w.c w.u) :: bufS w.q w.c w.Y :: has g :: pt rt (rtO rm ver mu tx rb wg) :: mpB rm [(1, w.bb)] :: l) ?_)) ?_
    · refine Ent.trans (m := bufP (some w) :: has g :: pt rt (rtO rm ver mu tx rb wg) :: mpB rm [(1, w.bb)] :: l) ?_ bufP_out
      show Ent (pt rt (rtO rm ver mu tx rb wg) :: mpB rm [(1, w.bb)] :: bufP (some w) :: has g :: l) _
      iterate 4 (apply Ent.pick; (focus (repeat (first | exact Sel.here | apply Sel.there))))
      exact .refl
    rintro en H3 ⟨p, p', c1, c2, i, hP, rfl, S3⟩
    refine ⟨_, rfl, _, _, rfl, _, _, _, rfl, _, _, rfl, _, _, _, rfl, rfl, ?_⟩
    refine ⟨p, p', c1, c2, ahead e.s lim ((w.Y.take w.u).drop i), ?_, (fun r hr => h3 r (ahead_mem hr)), rfl, S3.to ?_⟩
    · rw [ahead_txt hP, h2]
    · refine Ent.cons (Ent.cons ?_)
      refine Ent.trans (bufP_in (b := w)) ?_
      show Ent _ (pt rt (rtO rm ver mu tx rb wg) :: mpB rm [(1, w.bb)] :: bufP (some w) :: has g :: l)
      iterate 4 (apply Ent.pick; (focus (repeat (first | exact Sel.here | apply Sel.there))))
      exact .refl
end
end Go.Proofs.YtkkookljlencgaaGreat

set_option linter.unusedVariables false
set_option linter.unusedSimpArgs false
set_option linter.unnecessarySimpa false
set_option maxRecDepth 100000
namespace Go.Proofs.YtkkookljlencgaaGreat
open Go Go.Den Go.Proofs
/-! A reader's range: what is pending, and what is committed. -/
/-- What a reader is told: so much of what is pending as the limit lets through, and ahead of it what is committed. -/
def readT (k e : ByteArray) (n : Nat) (D R : List Txt) : List Txt :=
  if (fromT k e n R).length = n then fromT k e n R else fromT k e (n - (fromT k e n R).length) D ++ fromT k e n R
theorem fromT_le (k e : ByteArray) (n : Nat) (L : List Txt) : (fromT k e n L).length ≤ n := by
  unfold fromT
  rw [List.length_take]; omega
theorem cell_bs {X : List Bs} : ∀ v ∈ X.flatMap bsC, isCell v = true := by
  intro v hv
  obtain ⟨a, _, h⟩ := List.mem_flatMap.1 hv
  rw [List.mem_singleton.1 h]
  rfl
/-- A limit as a number of rows. -/
def limN (n : Int) : Nat := if n ≤ 0 then 9223372036854775807 else n.toNat
section
variable {H H0 : Heap} {l : List HP} {g : PH} {s : ByteArray} {b : Bool}
theorem key_at {B : List BkI} {D : List DtI} {L : List Txt} (h : B.map BkI.dt = D) (hk : KeyB D L) (hg : ∀ d ∈ D, DtG g d) : ∃ x, B[2]? = some x ∧ BkG g x ∧ x.name.s = nK ∧ x.xs.map txt = L ∧ (∀ y ∈ B, BkG g y) ∧ (∀ (j : Nat) (y : BkI), j < 2 → B[j]? = some y → ltS y.name.s nK = true) := by
  subst h
  have hall : ∀ y ∈ B, BkG g y := by
    intro y hy
    have h2 := hg _ (List.mem_map_of_mem hy)
    exact ⟨h2.nm, h2.rows, h2.kr, h2.srt, h2.cap⟩
  obtain ⟨a, bb, kb, c, rfl, n1, n2, n3, n4, hx⟩ := hk.split
  refine ⟨kb, rfl, hall kb (by simp), n3, hx, hall, ?_⟩
  intro j y hj hy
  match j, hj with
  | 0, _ => cases hy; rw [n1]; exact lt_RK
  | 1, _ => cases hy; rw [n2]; exact lt_UK
/-- What the range gives: the rows, and where their keys and values lie. -/
def RdR (g : PH) (T : List Txt) (l : List HP) (en : Ending) (H2 : Heap) : Prop :=
  ∃ (p p' : Option Addr) (c1 c2 : Nat) (W : List KR) (g' : PH), PH.sub g g' ∧ W.map txt = T ∧ (∀ r ∈ W, KrG g' r) ∧ en = .returned (.tuple ⟨[.slice p W.length c1, .slice p' W.length c2]⟩) ∧ Sat H2 (outP p p' c1 c2 W (has g' :: l))
theorem readL5 {rt rm rb rx lim : Nat} {ver : Int} {mu tx wg : Option Addr} {T : List Txt} {k e : Bs} {W : List KR} {p p' : Option Addr} {c1 c2 : Nat} {x : BkI} {m : List HP}
    (hk : BytsG g k) (he : BytsG g e) (he0 : e.s.size ≠ 0) (hl : lim < 2 ^ 63) (hWl : W.length < lim) (hW : ∀ r ∈ W, KrG g r) (hWn : W.length ≤ 1000) (gx : BkG g x) (hx0 : ∀ y ∈ x.xs, y.k.s.size ≠ 0) (hxn : x.xs.length ≤ 1000)
    (S : Sat H (outP p p' c1 c2 W (pt x.b (x.obj rx) :: has g :: pt rt (rtO rm ver mu tx rb wg) :: l))) :
    F119.L5 (some ⟨rt, 0, none⟩) k.p k.s.size k.c e.p e.s.size e.c (lim : Int) p W.length c1 p' W.length c2 (some ⟨x.b, 0, none⟩) H (RdR g (fromT k.s e.s (lim - W.length) (x.xs.map txt) ++ W.map txt) l) := by
  refine F119.L5_step ?_
  unfold F119.L5n
  obtain ⟨xb, xn, xq, xc, xx, xf⟩ := x
  dsimp only at *
  refine call_of (newCur_ok (b := xb) (tx := rx) (name := xn) (q := xq) (xs := xx) (c := xc) (fl := xf) (S.to (m := pt xb (bkO rx xn xq xx.length xc xf) :: outP p p' c1 c2 W (has g :: pt rt (rtO rm ver mu tx rb wg) :: l)) ?_)) ?_
  · iterate 4 (apply Ent.pick; (focus (repeat (first | exact Sel.here | apply Sel.there))))
    exact .refl
  rintro en H1 ⟨cu, rfl, S1⟩
  clear S
  (repeat (first | (refine Step.go ?_; intros) | refine iteB_t (by decide) ?_ | refine iteB_f (by decide) ?_ | (refine Duo.mk (by first | omega | exact rfl | decide) ?_; intros) | (refine Duo.mk (Clo.mk (by kernel_rfl)) ?_; intros)))
  refine g_i lk52 fun H2 E2 => ?_
  have S2 := S1.ext E2
  clear S1
  refine ⟨_, rfl, rfl, ?_⟩
  rw [wr64 (by omega) (by omega), show (lim : Int) - ((W.length : Nat) : Int) = ((lim - W.length : Nat) : Int) by omega]
  refine call_of (scan_ok (cu := cu) (b := xb) (tx := rx) (c := xc) (q := xq) (xs := xx) (k := k) (e := e) (name := xn) (fl := xf) (i0 := 0) (lim := lim - W.length) gx.rows gx.kr hx0 hk he he0 gx.srt (by omega) (by omega) (by omega) (S2.to (m := pt cu (crO xq xx.length xc 0 xb) :: pt xb (bkO rx xn xq xx.length xc xf) :: has g :: sl bsC 78 1 p W.length c1 (W.map KR.k) :: sl bsC 78 1 p' W.length c2 (W.map KR.v) :: l) ?_)) ?_
  · iterate 5 (apply Ent.pick; (focus (repeat (first | exact Sel.here | apply Sel.there))))
    exact Ent.drop .refl
  rintro en H3 ⟨q, q', d1, d2, i, hP, rfl, S3⟩
  clear S2
  generalize hV : ahead e.s (lim - W.length) (xx.drop i) = V at S3 ⊢
  have hVl : V.length ≤ 1000 := by
    rw [← hV]
    unfold ahead
    rw [List.length_take]
    have h1 := (List.takeWhile_sublist (fun x : KR => ltS x.k.s e.s) (l := xx.drop i)).length_le
    rw [List.length_drop] at h1
    omega
  refine ⟨_, rfl, _, _, rfl, _, _, _, rfl, _, _, rfl, _, _, _, rfl, rfl, ?_⟩
  refine S3.slApp (ys := W.map KR.k) (q := p) (d := W.length) ?_ (List.length_map ..) (by simp) cell_bs rfl (by decide) (by omega) fun q4 c4 H4 S4 => ?_
  · exact (S3.rowsAt (f := bsC) (E := 78) (z := 1) (n := W.length) (k := c1) (p := p) (by simp)).cells (fun _ => rfl)
  clear S3
  have S5 : Sat H4 (sl bsC 78 1 q' V.length d2 (V.map KR.v) :: sl bsC 78 1 q4 (V.length + W.length) c4 (V.map KR.k ++ W.map KR.k) :: has g :: pt xb (bkO rx xn xq xx.length xc xf) :: sl bsC 78 1 p W.length c1 (W.map KR.k) :: sl bsC 78 1 p' W.length c2 (W.map KR.v) :: l) := S4.to ent_swp
  clear S4
  refine S5.slApp (ys := W.map KR.v) (q := p') (d := W.length) ?_ (List.length_map ..) (by simp) cell_bs rfl (by decide) (by omega) fun q5 c5 H5 S6 => ?_
  · exact (S5.rowsAt (f := bsC) (E := 78) (z := 1) (n := W.length) (k := c2) (p := p') (by simp)).cells (fun _ => rfl)
  clear S5
  have hVW : (V ++ W).length = V.length + W.length := List.length_append
  refine ⟨q4, q5, c4, c5, V ++ W, g, PH.sub.refl, ?_, ?_, by rw [hVW], ?_⟩
  · rw [List.map_append, ← hV, ahead_txt hP]
  · intro r hr
    rcases List.mem_append.1 hr with hr | hr
    · rw [← hV] at hr
      exact gx.kr r (ahead_mem hr)
    · exact hW r hr
  · unfold outP
    rw [hVW, List.map_append, List.map_append]
    refine S6.to ?_
    iterate 3 (apply Ent.pick; (focus (repeat (first | exact Sel.here | apply Sel.there))))
    exact Ent.drop (Ent.drop (Ent.drop .refl))
end
end Go.Proofs.YtkkookljlencgaaGreat

set_option linter.unusedVariables false
set_option linter.unusedSimpArgs false
set_option linter.unnecessarySimpa false
set_option maxRecDepth 100000
namespace Go.Proofs.YtkkookljlencgaaGreat
open Go Go.Den Go.Proofs
section
variable {H H0 : Heap} {l : List HP} {g : PH} {s : ByteArray} {b : Bool}
theorem key_split {B : List BkI} {D : List DtI} {L : List Txt} (h : B.map BkI.dt = D) (hk : KeyB D L) : ∃ a bb kb c, B = [a, bb] ++ kb :: [c] ∧ a.name.s = nR ∧ bb.name.s = nU ∧ kb.name.s = nK ∧ kb.xs.map txt = L := by
  subst h
  obtain ⟨a, bb, kb, c, rfl, n1, n2, n3, n4, hx⟩ := hk.split
  exact ⟨a, bb, kb, c, rfl, n1, n2, n3, hx⟩
theorem all_dt {B : List BkI} {D : List DtI} (h : B.map BkI.dt = D) (hg : ∀ d ∈ D, DtG g d) : ∀ y ∈ B, BkG g y := by
  subst h
  intro y hy
  have h2 := hg _ (List.mem_map_of_mem hy)
  exact ⟨h2.nm, h2.rows, h2.kr, h2.srt, h2.cap⟩
/-- What is found of the bucket, and put into the readers' table. -/
theorem readL3 {f : BeF} {v : BeV} {A D R W : List Txt} {lim : Nat} {T : List Txt} {Q : Ending → Heap → Prop} (G : Good g f v A D R W) {k e : Bs} {X : List KR} {p p' : Option Addr} {c1 c2 : Nat} {K : Value → Heap → Prop}
    (hk : BytsG g k) (he : BytsG g e) (he0 : e.s.size ≠ 0) (hl : lim < 2 ^ 63) (hWl : X.length < lim) (hW : ∀ r ∈ X, KrG g r) (hWn : X.length ≤ 1000) (hD0 : ∀ t ∈ D, t.1.size ≠ 0) (hDn : D.length ≤ 1000)
    (S : Sat H (outP p p' c1 c2 X (beP f v g l))) (hK : ∀ (en : Ending) (H2 : Heap), RdR g (fromT k.s e.s (lim - X.length) D ++ X.map txt) l en H2 → Q en H2) :
    callI Tryz.prog (bkT 1 nK b) "Name" [] H nope (fun v6 H7 =>
      tSl v6 fun q2 q2n q2c =>
      andD (ExtH H H7) <|
      callD Tryz.prog 125 [(.pointer (some ⟨v.rx, 0, none⟩)), (.slice q2 q2n q2c)] H7 (panK Q) fun v7 H8 =>
      tPtr v7 fun p5 =>
      nilD (some ⟨f.rt, 0, none⟩) fun a6 =>
      ldMap H8 (Addr.add a6 4) fun m1 =>
      uniD Tryz.prog (Instr.mapUpdate 107 (.map m1) (.int .i64 1) (.pointer p5)) H8 (panK Q) fun H9 =>
      F119.L4 (some ⟨f.rt, 0, none⟩) k.p k.s.size k.c e.p e.s.size e.c (lim : Int) p X.length c1 p' X.length c2 p5 true H9 Q) := by
  obtain ⟨pend, cm, ver, mu, wg, rb, wt, wB, wp, wc, rx, rB, rp, rc, dp, dc, DD, M2, Wb, Rb⟩ := v
  have hreq := G.req
  have hkd := G.kd
  have hdg := G.dg
  dsimp only at *
  obtain ⟨a, bb, kb, c, hB, n1, n2, n3, hx⟩ := key_split hreq hkd
  have hall := all_dt hreq hdg
  have hDl : DD.length = rB.length := by rw [← hreq, List.length_map]
  subst hB
  have S1 : Sat H (has g :: outP p p' c1 c2 X (pt rx (txO f.db false false rp ([a, bb] ++ kb :: [c]).length rc) :: sl ptrC 176 1 rp ([a, bb] ++ kb :: [c]).length rc (([a, bb] ++ kb :: [c]).map BkI.b) :: bkts rx ([a, bb] ++ kb :: [c]) :: pt f.rt (rtO f.rm ver mu (some ⟨rx, 0, none⟩) rb wg) :: mpK rb [] :: l)) := by
    rw [← hDl]
    unfold beP at S
    dsimp only at S
    refine S.to ?_
    iterate 6 (apply Ent.pick; (focus (repeat (first | exact Sel.here | apply Sel.there))))
    apply Ent.drop
    apply Ent.drop
    apply Ent.drop
    apply Ent.drop
    apply Ent.drop
    apply Ent.drop
    apply Ent.pick
    · focus (repeat (first | exact Sel.here | apply Sel.there))
    apply Ent.drop
    apply Ent.drop
    apply Ent.drop
    apply Ent.pick
    · focus (repeat (first | exact Sel.here | apply Sel.there))
    exact Ent.drop (Ent.drop .refl)
  clear S
  refine nameI (g := g) (by decide) S1 fun r0 c0 H1 g1 E1 s1 hb1 S2 => ?_
  clear S1
  refine ⟨_, _, _, rfl, E1, ?_⟩
  refine gives_i S2 (bucket_ok (db := f.db) (wr := false) (dn := false) (B := [a, bb] ++ kb :: [c]) (p := rp) (c := rc) (g := g1) (tx := rx) (l := outP p p' c1 c2 X (pt f.rt (rtO f.rm ver mu (some ⟨rx, 0, none⟩) rb wg) :: mpK rb [] :: l)) (nm := ⟨nK, some ⟨r0, 0, none⟩, c0⟩) (i := 2) (x := kb) (fun y hy => (hall y hy).mono s1) hb1 (by simp) rfl n3 (fun j y hj hy => by
    match j, hj with
    | 0, _ => cases hy; show ltS a.name.s nK = true; rw [n1]; exact lt_RK
    | 1, _ => cases hy; show ltS bb.name.s nK = true; rw [n2]; exact lt_UK) (S2.to (by
    iterate 6 (apply Ent.pick; (focus (repeat (first | exact Sel.here | apply Sel.there))))
    exact .refl))) fun H2 E2 S3 => ?_
  clear S2
  refine ⟨_, rfl, ?_⟩
  (repeat (first | (refine Step.go ?_; intros) | refine iteB_t (by decide) ?_ | refine iteB_f (by decide) ?_ | (refine Duo.mk (by first | omega | exact rfl | decide) ?_; intros) | (refine Duo.mk (Clo.mk (by kernel_rfl)) ?_; intros)))
  refine Sat.mpSet (fk := Value.int .i64) (fv := pv) (m := []) (r := rb) (S3.to (m := mpK rb [] :: bkts rx ([a, bb] ++ kb :: [c]) :: outP p p' c1 c2 X (has g1 :: pt f.rt (rtO f.rm ver mu (some ⟨rx, 0, none⟩) rb wg) :: l)) (by
    iterate 6 (apply Ent.pick; (focus (repeat (first | exact Sel.here | apply Sel.there))))
    exact Ent.drop (Ent.drop .refl))) MI107 1 kb.b fun H3 S4 => ?_
  clear S3
  refine F119.L4_step ?_
  unfold F119.L4n
  refine iteB_f rfl ?_
  refine iteB_f rfl ?_
  have gx := (hall kb (by simp)).mono s1
  refine GoL.mono (readL5 (rt := f.rt) (rm := f.rm) (rb := rb) (rx := rx) (ver := ver) (mu := mu) (wg := wg) (tx := some ⟨rx, 0, none⟩) (T := []) (g := g1) (W := X) (x := kb) (l := l) (m := []) (hk.mono s1) (he.mono s1) he0 hl hWl (fun r hr => (hW r hr).mono s1) hWn gx (fun y hy => hD0 (txt y) (by rw [← hx]; exact List.mem_map_of_mem hy)) (by rw [← hx, List.length_map] at hDn; exact hDn) ((S4.to (Ent.drop bkts_out)).to (by
    iterate 5 (apply Ent.pick; (focus (repeat (first | exact Sel.here | apply Sel.there))))
    exact Ent.drop .refl))) ?_
  rw [hx]
  rintro en H4 ⟨q, q', d1, d2, V, g', h1, h2, h3, h4, h5⟩
  exact hK en H4 ⟨q, q', d1, d2, V, g', s1.trans h1, h2, h3, h4, h5⟩
end
end Go.Proofs.YtkkookljlencgaaGreat

set_option linter.unusedVariables false
set_option linter.unusedSimpArgs false
set_option linter.unnecessarySimpa false
set_option maxRecDepth 100000
namespace Go.Proofs.YtkkookljlencgaaGreat
open Go Go.Den Go.Proofs
section
variable {H H0 : Heap} {l : List HP} {g : PH} {s : ByteArray} {b : Bool}
theorem readL2 {f : BeF} {v : BeV} {A D R W : List Txt} {lim : Nat} (G : Good g f v A D R W) {k e : Bs}
    (hk : BytsG g k) (he : BytsG g e) (he0 : e.s.size ≠ 0) (hl : lim < 2 ^ 63) (hD0 : ∀ t ∈ D, t.1.size ≠ 0) (hDn : D.length ≤ 1000) (hRs : SrtT R)
    (S : Sat H (beP f v g l)) :
    F119.L3 (some ⟨f.rt, 0, none⟩) (.mk 131 (.agg ⟨[.int .i64 1, .string nK, .bool b]⟩)) k.p k.s.size k.c e.p e.s.size e.c (lim : Int) H (RdR g (readT k.s e.s lim D R) l) := by
  refine F119.L3_step ?_
  unfold F119.L3n
  refine nilD_i ?_
  have hRl : ∀ o, BufC g o R → R.length ≤ 500 := by
    intro o ho
    cases o with
    | none => rw [show R = [] from ho]; simp
    | some w => rw [← ho.len]; exact ho.1
  obtain ⟨pend, cm, ver, mu, wg, rb, wt, wB, wp, wc, rx, rB, rp, rc, dp, dc, DD, M2, Wb, Rb⟩ := v
  have hR5 := hRl _ G.bR
  have hbR := G.bR
  dsimp only at hbR
  refine call_of (rangeB_ok (b := b) (s := nK) (rt := f.rt) (rm := f.rm) (rb := rb) (ver := ver) (mu := mu) (tx := some ⟨rx, 0, none⟩) (wg := wg) (lim := lim) (k := k) (e := e) hbR hRs hk he he0 hl (S.to (m := pt f.rt (rtO f.rm ver mu (some ⟨rx, 0, none⟩) rb wg) :: mpB f.rm (bufM 1 Rb) :: bufP Rb :: has g :: pt f.bt (btO wt f.be pend (some f.m1) (some f.m2) 0) :: pt f.be (beO cm f.db f.lim (some ⟨f.bt, 0, none⟩) f.rt) :: pt wt (txO f.db true false wp wB.length wc) :: sl ptrC 176 1 wp wB.length wc (wB.map BkI.b) :: bkts wt wB :: pt rx (txO f.db false false rp DD.length rc) :: sl ptrC 176 1 rp DD.length rc (rB.map BkI.b) :: bkts rx rB :: pt f.db (dbO dp DD.length dc) :: mpB f.m1 (bufM 1 Wb) :: mpS f.m2 M2 :: mpK rb [] :: bufP Wb :: l) (by
    unfold beP
    dsimp only
    iterate 17 (apply Ent.pick; (focus (repeat (first | exact Sel.here | apply Sel.there))))
    exact .refl))) ?_
  rintro en H1 ⟨p, p', c1, c2, X, hX, hXg, rfl, S1⟩
  clear S
  have hXl : X.length = (fromT k.s e.s lim R).length := by rw [← hX, List.length_map]
  have hXR : X.length ≤ 500 := by
    rw [hXl]
    unfold fromT
    rw [List.length_take]
    have h1 := (List.takeWhile_sublist (fun x : Txt => ltS x.1 e.s) (l := R.dropWhile fun x => ltS x.1 k.s)).length_le
    have h2 := (List.dropWhile_sublist (fun x : Txt => ltS x.1 k.s) (l := R)).length_le
    omega
  have hXle : X.length ≤ lim := by rw [hXl]; exact fromT_le ..
  refine ⟨_, rfl, _, _, rfl, _, _, _, rfl, _, _, rfl, _, _, _, rfl, rfl, ?_⟩
  refine iteB_i (fun h => ?_) (fun h => ?_)
  · have h : X.length = lim := by have := eq_of_beq h; omega
    refine ⟨p, p', c1, c2, X, g, PH.sub.refl, ?_, hXg, rfl, S1.to ?_⟩
    · unfold readT
      rw [if_pos (by rw [← hXl]; exact h), hX]
    · iterate 3 (apply Ent.pick; (focus (repeat (first | exact Sel.here | apply Sel.there))))
      iterate 3 (apply Ent.drop)
      iterate 13 (apply Ent.drop)
      exact .refl
  · have h : X.length ≠ lim := by
      intro e1
      rw [e1] at h
      simp at h
    refine idI S1 fun H2 E2 S2 => ?_
    clear S1
    (repeat (first | (refine Step.go ?_; intros) | refine iteB_t (by decide) ?_ | refine iteB_f (by decide) ?_ | (refine Duo.mk (by first | omega | exact rfl | decide) ?_; intros) | (refine Duo.mk (Clo.mk (by kernel_rfl)) ?_; intros)))
    refine g_i lk60 fun H3 E3 => ?_
    have S3 := S2.ext E3
    clear S2
    (repeat (first | (refine Step.go ?_; intros) | refine iteB_t (by decide) ?_ | refine iteB_f (by decide) ?_ | (refine Duo.mk (by first | omega | exact rfl | decide) ?_; intros) | (refine Duo.mk (Clo.mk (by kernel_rfl)) ?_; intros)))
    refine Sat.lookup S3 (fk := Value.int .i64) (fv := pv) (r := rb) (m := []) (by simp) MI107 1 (fun v hv => by cases hv) (fun _ => ?_)
    refine ⟨_, rfl, _, _, rfl, _, rfl, _, _, rfl, _, rfl, rfl, ?_⟩
    (repeat (first | (refine Step.go ?_; intros) | refine iteB_t (by decide) ?_ | refine iteB_f (by decide) ?_ | (refine Duo.mk (by first | omega | exact rfl | decide) ?_; intros) | (refine Duo.mk (Clo.mk (by kernel_rfl)) ?_; intros)))
    refine g_i lk62 fun H4 E4 => ?_
    have S4 := S3.ext E4
    clear S3
    (repeat (first | (refine Step.go ?_; intros) | refine iteB_t (by decide) ?_ | refine iteB_f (by decide) ?_ | (refine Duo.mk (by first | omega | exact rfl | decide) ?_; intros) | (refine Duo.mk (Clo.mk (by kernel_rfl)) ?_; intros)))
    refine g_i lk47 fun H5 E5 => ?_
    have S5 := S4.ext E5
    clear S4
    (repeat (first | (refine Step.go ?_; intros) | refine iteB_t (by decide) ?_ | refine iteB_f (by decide) ?_ | (refine Duo.mk (by first | omega | exact rfl | decide) ?_; intros) | (refine Duo.mk (Clo.mk (by kernel_rfl)) ?_; intros)))
    refine readL3 (v := ⟨pend, cm, ver, mu, wg, rb, wt, wB, wp, wc, rx, rB, rp, rc, dp, dc, DD, M2, Wb, Rb⟩) (l := l) (T := []) (K := fun _ _ => True) (b := b) G (k := k) (e := e) (X := X) hk he he0 hl (by omega) hXg (by omega) hD0 hDn (S5.to ?_) ?_
    · refine Ent.cons (Ent.cons ?_)
      unfold beP
      dsimp only
      iterate 17 (apply Ent.pick; (focus (repeat (first | exact Sel.here | apply Sel.there))))
      exact .refl
    · intro en H6 h6
      unfold readT
      rw [if_neg (by rw [← hXl]; exact h), ← hXl, ← hX]
      exact h6
theorem readS_ok {f : BeF} {v : BeV} {A D R W : List Txt} {n : Int} (G : Good g f v A D R W) {k e : Bs}
    (hk : BytsG g k) (he : BytsG g e) (he0 : e.s.size ≠ 0) (hn : n < 2 ^ 63) (hD0 : ∀ t ∈ D, t.1.size ≠ 0) (hDn : D.length ≤ 1000) (hRs : SrtT R)
    (S : Sat H (beP f v g l)) :
    CallsH Tryz.prog 119 ⟨[pv f.rt, bkT 1 nK true, k.v, e.v, .int .i64 n]⟩ H (RdR g (readT k.s e.s (limN n) D R) l) := by
  refine F119.calls (s1 := .mk 131 (.agg ⟨[.int .i64 1, .string nK, .bool true]⟩)) ?_
  unfold F119.go
  obtain ⟨a, ha⟩ := byts_some he he0 (subOf S (by simp))
  refine iteB_f (by rw [ha]; rfl) ?_
  refine F119.L0_step ?_
  unfold F119.L0n
  have l1 : ∀ lim : Nat, lim < 2 ^ 63 → F119.L1 (some ⟨f.rt, 0, none⟩) (.mk 131 (.agg ⟨[.int .i64 1, .string nK, .bool true]⟩)) k.p k.s.size k.c e.p e.s.size e.c (lim : Int) H (RdR g (readT k.s e.s lim D R) l) := by
    intro lim hl
    refine F119.L1_step ?_
    unfold F119.L1n
    refine iteB_i (fun h => ?_) (fun h => ?_)
    · refine safeI S fun H1 E1 S1 => ?_
      refine ⟨_, rfl, ?_⟩
      refine iteB_f rfl ?_
      exact readL2 G hk he he0 hl hD0 hDn hRs S1
    · exact readL2 G hk he he0 hl hD0 hDn hRs S
  refine iteB_i (fun h => ?_) (fun h => ?_)
  · have h : n ≤ 0 := by simpa using h
    have e1 : limN n = 9223372036854775807 := by unfold limN; rw [if_pos h]
    rw [e1]
    exact l1 9223372036854775807 (by decide)
  · have h : ¬ n ≤ 0 := by simpa using h
    have e1 : limN n = n.toNat := by unfold limN; rw [if_neg h]
    rw [e1]
    have := l1 n.toNat (by omega)
    rwa [show ((n.toNat : Nat) : Int) = n by omega] at this
end
end Go.Proofs.YtkkookljlencgaaGreat

set_option linter.unusedVariables false
set_option linter.unusedSimpArgs false
set_option linter.unnecessarySimpa false
set_option maxRecDepth 100000
namespace Go.Proofs.YtkkookljlencgaaGreat
open Go Go.Den Go.Proofs
/-! One key is asked for; there is just one. -/
section
variable {H H0 : Heap} {l : List HP} {g : PH} {cu b c tx ek kk : Nat} {q : Option Addr} {xs : List KR} {k : Bs} {name : Bs} {fl : Nat} {x : KR}
theorem eq_ok2 {y : Bs} (hy : BytsG g y) (hk : BytsG g k) (S : Sat H l) (hm : pt kk (csO k) ∈ l) (hg : has g ∈ l) :
    CallsH Tryz.prog 133 ⟨[y.v, .pointer (some ⟨kk, 0, none⟩)]⟩ H (Gives (.bool (decide (y.s = k.s))) H) := by
  have hsub := subOf S hg
  have S1 : Sat H (pt kk (csO k) :: []) := by
    obtain ⟨h', a, b⟩ := S.mem hm
    exact ⟨⟨h', a, b, trivial⟩⟩
  refine F133.calls ?_
  unfold F133.go
  (repeat (first | (refine Step.go ?_; intros) | refine iteB_t (by decide) ?_ | refine iteB_f (by decide) ?_ | (refine Duo.mk (by first | omega | exact rfl | decide) ?_; intros) | (refine Duo.mk (Clo.mk (by kernel_rfl)) ?_; intros)))
  refine gives_i S1 (beq_ok (a := y) (b := k) (hy H hsub) (hk H hsub)) fun H2 E2 S2 => ?_
  (repeat (first | (refine Step.go ?_; intros) | refine iteB_t (by decide) ?_ | refine iteB_f (by decide) ?_ | (refine Duo.mk (by first | omega | exact rfl | decide) ?_; intros) | (refine Duo.mk (Clo.mk (by kernel_rfl)) ?_; intros)))
  exact ⟨rfl, E2⟩
theorem place_one {x : KR} {i : Nat} (h : PlaceP [x] x.k.s i) : i = 0 := by
  match i, h with
  | 0, _ => rfl
  | i + 1, h =>
    have := h.lo 0 x (by omega) rfl
    rw [ltS_irr] at this; cases this
theorem scan1_ok {i0 : Int} (hR : RowsG KR.cells 2 g q [x]) (gx : KrG g x) (h0 : x.k.s.size ≠ 0) (hk : BytsG g k) (hxk : x.k.s = k.s)
    (S : Sat H (pt cu (crO q 1 c i0 b) :: pt b (bkO tx name q 1 c fl) :: has g :: l)) :
    CallsH Tryz.prog 127 ⟨[.pointer (some ⟨cu, 0, none⟩), k.v, .slice none 0 0, .int .i64 1]⟩ H (fun en H2 => ∃ (p p' : Option Addr) (c1 c2 : Nat), en = .returned (.tuple ⟨[.slice p 1 c1, .slice p' 1 c2]⟩) ∧ Sat H2 (outP p p' c1 c2 [x] (has g :: l))) := by
  refine F127.calls ?_
  unfold F127.go
  refine newX S fun r H1 E1 S1 => ?_
  clear S
  refine newX S1 fun ek H2 E2 S2 => ?_
  clear S1
  refine iteB_f (decide_eq_false (by omega)) ?_
  refine F127.L0_step ?_
  unfold F127.L0n
  (repeat (first | (refine Step.go ?_; intros) | refine iteB_t (by decide) ?_ | refine iteB_f (by decide) ?_ | (refine Duo.mk (by first | omega | exact rfl | decide) ?_; intros) | (refine Duo.mk (Clo.mk (by kernel_rfl)) ?_; intros)))
  refine F127.L1_step ?_
  unfold F127.L1n
  (repeat (first | (refine Step.go ?_; intros) | refine iteB_t (by decide) ?_ | refine iteB_f (by decide) ?_ | (refine Duo.mk (by first | omega | exact rfl | decide) ?_; intros) | (refine Duo.mk (Clo.mk (by kernel_rfl)) ?_; intros)))
  have S3 : Sat H2 (pt cu (crO q [x].length c i0 b) :: pt b (bkO tx name q [x].length c fl) :: has g :: pt r (csO k) :: l) := S2.to (by
    iterate 4 (apply Ent.pick; (focus (repeat (first | exact Sel.here | apply Sel.there))))
    exact Ent.drop .refl)
  clear S2
  refine call_of (seek_ok (xs := [x]) hR (fun y hy => by rw [List.mem_singleton.1 hy]; exact gx) hk (List.pairwise_singleton ..) (by simp) S3) ?_
  rintro en H3 ⟨i, hP, rfl, S4⟩
  clear S3
  rw [← hxk] at hP
  obtain rfl := place_one hP
  have hc : curV [x][0]? = .tuple ⟨[.slice x.k.p x.k.s.size x.k.c, .slice x.v.p x.v.s.size x.v.c]⟩ := rfl
  rw [hc]
  (repeat (first | (refine Step.go ?_; intros) | refine iteB_t (by decide) ?_ | refine iteB_f (by decide) ?_ | (refine Duo.mk (by first | omega | exact rfl | decide) ?_; intros) | (refine Duo.mk (Clo.mk (by kernel_rfl)) ?_; intros)))
  have hsub := subOf S4 (by simp : has g ∈ _)
  obtain ⟨a, ha⟩ := byts_some gx.k h0 hsub
  refine F127.L2_step ?_
  unfold F127.L2n
  refine iteB_t (by rw [ha]; rfl) ?_
  refine callV_i (by decide_cbv) ?_
  refine gives_i S4 (eq_ok2 (y := x.k) (kk := r) gx.k hk S4 (by simp) (by simp)) fun H5 E5 S5 => ?_
  clear S4
  rw [decide_eq_true hxk]
  (repeat (first | (refine Step.go ?_; intros) | refine iteB_t (by decide) ?_ | refine iteB_f (by decide) ?_ | (refine Duo.mk (by first | omega | exact rfl | decide) ?_; intros) | (refine Duo.mk (Clo.mk (by kernel_rfl)) ?_; intros)))
  refine F127.L3_step ?_
  unfold F127.L3n
  refine newX S5 fun n1 H6 E6 S6 => ?_
  clear S5
  refine (S6.to (m := sl bsC 78 1 none 0 0 [] :: pt n1 (.cells ⟨bsC x.v⟩ 78) :: has g :: l) ?_).slApp (ys := [x.v]) (q := some ⟨n1, 0, none⟩) (d := 1) ?_ rfl (by simp) (by simp [isCell]) rfl (by decide) (by omega) fun q4 c4 H7 S7 => ?_
  · refine Ent.slNil ?_
    apply Ent.pick
    · focus (repeat (first | exact Sel.here | apply Sel.there))
    refine Ent.drop ?_
    refine Ent.drop ?_
    apply Ent.pick
    · focus (repeat (first | exact Sel.here | apply Sel.there))
    exact Ent.drop .refl
  · simp only [List.flatMap_cons, List.flatMap_nil, List.append_nil]
    exact cellsAt_one (S6.at_ (List.mem_cons_self ..))
  clear S6
  refine newX S7 fun n2 H8 E8 S8 => ?_
  clear S7
  refine (S8.to (m := sl bsC 78 1 none 0 0 [] :: pt n2 (.cells ⟨bsC x.k⟩ 78) :: sl bsC 78 1 q4 1 c4 [x.v] :: has g :: l) ?_).slApp (ys := [x.k]) (q := some ⟨n2, 0, none⟩) (d := 1) ?_ rfl (by simp) (by simp [isCell]) rfl (by decide) (by omega) fun q5 c5 H9 S9 => ?_
  · refine Ent.slNil ?_
    iterate 2 (apply Ent.pick; (focus (repeat (first | exact Sel.here | apply Sel.there))))
    exact Ent.drop .refl
  · simp only [List.flatMap_cons, List.flatMap_nil, List.append_nil]
    exact cellsAt_one (S8.at_ (List.mem_cons_self ..))
  clear S8
  refine iteB_t rfl ?_
  refine ⟨q5, q4, c5, c4, rfl, S9.to ?_⟩
  show Ent (sl bsC 78 1 q5 1 c5 [x.k] :: _) (sl bsC 78 1 q5 1 c5 [x.k] :: sl bsC 78 1 q4 1 c4 [x.v] :: has g :: l)
  refine Ent.cons ?_
  exact Ent.drop .refl
end
end Go.Proofs.YtkkookljlencgaaGreat

set_option linter.unusedVariables false
set_option linter.unusedSimpArgs false
set_option linter.unnecessarySimpa false
set_option maxRecDepth 100000
namespace Go.Proofs.YtkkookljlencgaaGreat
open Go Go.Den Go.Proofs
section
variable {H H0 : Heap} {l : List HP} {g : PH} {s : ByteArray} {b : Bool}
theorem bufRange0_ok {bb c : Nat} {q : Option Addr} {Y : List KR} {k : Bs} {lim : Int} (hk : BytsG g k) (hY : Y.length = 512)
    (S : Sat H (pt bb (bbO q c 0) :: bufS q c Y :: has g :: l)) :
    CallsH Tryz.prog 130 ⟨[.pointer (some ⟨bb, 0, none⟩), k.v, .slice none 0 0, .int .i64 lim]⟩ H (fun en H2 => en = .returned (.tuple ⟨[.slice none 0 0, .slice none 0 0]⟩) ∧ Sat H2 (pt bb (bbO q c 0) :: bufS q c Y :: has g :: l)) := by
  refine F130.calls ?_
  unfold F130.go
  refine newX S fun r H1 E1 S1 => ?_
  clear S
  refine newX S1 fun r1 H2 E2 S2 => ?_
  clear S1
  (repeat (first | (refine Step.go ?_; intros) | refine iteB_t (by decide) ?_ | refine iteB_f (by decide) ?_ | (refine Duo.mk (by first | omega | exact rfl | decide) ?_; intros) | (refine Duo.mk (Clo.mk (by kernel_rfl)) ?_; intros)))
  have S3 : Sat H2 (pt r (clO bb) :: pt r1 (csO k) :: pt bb (bbO q c 0) :: bufS q c Y :: has g :: l) := S2.to ent_swp
  clear S2
  refine call_of (search_ok (u := 0) List.Pairwise.nil (fun x h => by cases h) hk hY (by omega) S3) ?_
  rintro en H3 ⟨i, rfl, hP, E3⟩
  have S4 := S3.ext E3
  clear S3
  have := hP.le
  simp only [List.take_zero, List.length_nil] at this
  (repeat (first | (refine Step.go ?_; intros) | refine iteB_t (by decide) ?_ | refine iteB_f (by decide) ?_ | (refine Duo.mk (by first | omega | exact rfl | decide) ?_; intros) | (refine Duo.mk (Clo.mk (by kernel_rfl)) ?_; intros)))
  refine iteB_f (decide_eq_false (by omega)) ?_
  (repeat (first | (refine Step.go ?_; intros) | refine iteB_t (by decide) ?_ | refine iteB_f (by decide) ?_ | (refine Duo.mk (by first | omega | exact rfl | decide) ?_; intros) | (refine Duo.mk (Clo.mk (by kernel_rfl)) ?_; intros)))
  refine iteB_t (decide_eq_true (by omega)) ?_
  exact ⟨rfl, S4.to (Ent.drop (Ent.drop .refl))⟩
theorem rangeB0_ok {rt rm rb : Nat} {ver lim : Int} {mu tx wg : Option Addr} {o : Option Buf} {k : Bs} (hR : BufC g o []) (hk : BytsG g k)
    (S : Sat H (pt rt (rtO rm ver mu tx rb wg) :: mpB rm (bufM 1 o) :: bufP o :: has g :: l)) :
    CallsH Tryz.prog 124 ⟨[pv rt, bkT 1 s b, k.v, .slice none 0 0, .int .i64 lim]⟩ H (fun en H2 => en = .returned (.tuple ⟨[.slice none 0 0, .slice none 0 0]⟩) ∧ Sat H2 (pt rt (rtO rm ver mu tx rb wg) :: mpB rm (bufM 1 o) :: bufP o :: has g :: l)) := by
  refine F124.calls (bucket := .mk 131 (.agg ⟨[.int .i64 1, .string s, .bool b]⟩)) ?_
  unfold F124.go
  refine Step.go ?_
  refine Step.go ?_
  refine idI S fun H1 E1 S1 => ?_
  clear S
  refine Step.go ?_
  refine ⟨E1, ?_⟩
  cases o with
  | none =>
    refine Sat.lookup S1 (fk := Value.int .i64) (fv := pv) (r := rm) (m := []) (by simp [bufM]) MI101 1 (fun v hv => by cases hv) (fun _ => ?_)
    refine ⟨_, rfl, ?_⟩
    refine iteB_f rfl ?_
    exact ⟨rfl, S1⟩
  | some w =>
    have hu : w.u = 0 := hR.len
    obtain ⟨h1, h2, h3, h4⟩ := hR
    refine Sat.lookup S1 (fk := Value.int .i64) (fv := pv) (r := rm) (m := [(1, w.bb)]) (by simp [bufM]) MI101 1 (fun v hv => ?_) (fun h => by simp [mget] at h)
    have hv : v = w.bb := by simpa [mget] using hv.symm
    subst hv
    refine ⟨_, rfl, ?_⟩
    refine iteB_t rfl ?_
    refine call_of (bufRange0_ok (k := k) (lim := lim) (bb := w.bb) (c := w.c) (q := w.q) hk h4 (S1.to (m := pt w.bb (bbO w.q w.c 0) :: bufS w.q w.c w.Y :: has g :: pt rt (rtO rm ver mu tx rb wg) :: mpB rm [(1, w.bb)] :: l) ?_)) ?_
    · rw [← hu]
      refine Ent.trans (m := bufP (some w) :: has g :: pt rt (rtO rm ver mu tx rb wg) :: mpB rm [(1, w.bb)] :: l) ?_ bufP_out
      show Ent (pt rt (rtO rm ver mu tx rb wg) :: mpB rm [(1, w.bb)] :: bufP (some w) :: has g :: l) _
      iterate 4 (apply Ent.pick; (focus (repeat (first | exact Sel.here | apply Sel.there))))
      exact .refl
    rintro en H3 ⟨rfl, S3⟩
    refine ⟨_, rfl, _, _, rfl, _, _, _, rfl, _, _, rfl, _, _, _, rfl, rfl, ?_⟩
    refine ⟨rfl, S3.to ?_⟩
    rw [← hu]
    refine Ent.trans (bufP_in (b := w)) ?_
    show Ent _ (pt rt (rtO rm ver mu tx rb wg) :: mpB rm [(1, w.bb)] :: bufP (some w) :: has g :: l)
    iterate 4 (apply Ent.pick; (focus (repeat (first | exact Sel.here | apply Sel.there))))
    exact .refl
theorem read1S_ok {f : BeF} {v : BeV} {A W : List Txt} {t : Txt} {n : Int} (G : Good g f v A [t] [] W) {k : Bs}
    (hk : BytsG g k) (hkt : t.1 = k.s) (hk0 : k.s.size ≠ 0)
    (S : Sat H (beP f v g l)) :
    CallsH Tryz.prog 119 ⟨[pv f.rt, bkT 1 nK true, k.v, .slice none 0 0, .int .i64 n]⟩ H (RdR g [t] l) := by
  refine F119.calls (s1 := .mk 131 (.agg ⟨[.int .i64 1, .string nK, .bool true]⟩)) ?_
  unfold F119.go
  refine iteB_t rfl ?_
  refine F119.L0_step ?_
  unfold F119.L0n
  refine iteB_f rfl ?_
  refine F119.L1_step ?_
  unfold F119.L1n
  refine iteB_f rfl ?_
  refine F119.L3_step ?_
  unfold F119.L3n
  refine nilD_i ?_
  obtain ⟨pend, cm, ver, mu, wg, rb, wt, wB, wp, wc, rx, rB, rp, rc, dp, dc, DD, M2, Wb, Rb⟩ := v
  have hbR := G.bR
  have hreq := G.req
  have hkd := G.kd
  have hdg := G.dg
  dsimp only at *
  obtain ⟨a, bb, kb, c, hB, n1, n2, n3, hx⟩ := key_split hreq hkd
  have hall := all_dt hreq hdg
  have hDl : DD.length = rB.length := by rw [← hreq, List.length_map]
  subst hB
  refine call_of (rangeB0_ok (b := true) (s := nK) (rt := f.rt) (rm := f.rm) (rb := rb) (ver := ver) (mu := mu) (tx := some ⟨rx, 0, none⟩) (wg := wg) (k := k) (lim := 1) hbR hk (S.to (m := pt f.rt (rtO f.rm ver mu (some ⟨rx, 0, none⟩) rb wg) :: mpB f.rm (bufM 1 Rb) :: bufP Rb :: has g :: pt rx (txO f.db false false rp ([a, bb] ++ kb :: [c]).length rc) :: sl ptrC 176 1 rp ([a, bb] ++ kb :: [c]).length rc (([a, bb] ++ kb :: [c]).map BkI.b) :: bkts rx ([a, bb] ++ kb :: [c]) :: mpK rb [] :: pt f.bt (btO wt f.be pend (some f.m1) (some f.m2) 0) :: pt f.be (beO cm f.db f.lim (some ⟨f.bt, 0, none⟩) f.rt) :: pt wt (txO f.db true false wp wB.length wc) :: sl ptrC 176 1 wp wB.length wc (wB.map BkI.b) :: bkts wt wB :: pt f.db (dbO dp DD.length dc) :: mpB f.m1 (bufM 1 Wb) :: mpS f.m2 M2 :: bufP Wb :: l) (by
    rw [← hDl]
    unfold beP
    dsimp only
    iterate 17 (apply Ent.pick; (focus (repeat (first | exact Sel.here | apply Sel.there))))
    exact .refl))) ?_
  rintro en H1 ⟨rfl, S1⟩
  clear S
  refine ⟨_, rfl, _, _, rfl, _, _, _, rfl, _, _, rfl, _, _, _, rfl, rfl, ?_⟩
  refine iteB_f rfl ?_
  refine idI S1 fun H2 E2 S2 => ?_
  clear S1
  (repeat (first | (refine Step.go ?_; intros) | refine iteB_t (by decide) ?_ | refine iteB_f (by decide) ?_ | (refine Duo.mk (by first | omega | exact rfl | decide) ?_; intros) | (refine Duo.mk (Clo.mk (by kernel_rfl)) ?_; intros)))
  refine g_i lk60 fun H3 E3 => ?_
  have S3 := S2.ext E3
  clear S2
  (repeat (first | (refine Step.go ?_; intros) | refine iteB_t (by decide) ?_ | refine iteB_f (by decide) ?_ | (refine Duo.mk (by first | omega | exact rfl | decide) ?_; intros) | (refine Duo.mk (Clo.mk (by kernel_rfl)) ?_; intros)))
  refine Sat.lookup S3 (fk := Value.int .i64) (fv := pv) (r := rb) (m := []) (by simp) MI107 1 (fun v hv => by cases hv) (fun _ => ?_)
  refine ⟨_, rfl, _, _, rfl, _, rfl, _, _, rfl, _, rfl, rfl, ?_⟩
  (repeat (first | (refine Step.go ?_; intros) | refine iteB_t (by decide) ?_ | refine iteB_f (by decide) ?_ | (refine Duo.mk (by first | omega | exact rfl | decide) ?_; intros) | (refine Duo.mk (Clo.mk (by kernel_rfl)) ?_; intros)))
  refine g_i lk62 fun H4 E4 => ?_
  have S4 := S3.ext E4
  clear S3
  (repeat (first | (refine Step.go ?_; intros) | refine iteB_t (by decide) ?_ | refine iteB_f (by decide) ?_ | (refine Duo.mk (by first | omega | exact rfl | decide) ?_; intros) | (refine Duo.mk (Clo.mk (by kernel_rfl)) ?_; intros)))
  refine g_i lk47 fun H5 E5 => ?_
  have S5 := S4.ext E5
  clear S4
  (repeat (first | (refine Step.go ?_; intros) | refine iteB_t (by decide) ?_ | refine iteB_f (by decide) ?_ | (refine Duo.mk (by first | omega | exact rfl | decide) ?_; intros) | (refine Duo.mk (Clo.mk (by kernel_rfl)) ?_; intros)))
  have S6 : Sat H5 (has g :: pt rx (txO f.db false false rp ([a, bb] ++ kb :: [c]).length rc) :: sl ptrC 176 1 rp ([a, bb] ++ kb :: [c]).length rc (([a, bb] ++ kb :: [c]).map BkI.b) :: bkts rx ([a, bb] ++ kb :: [c]) :: pt f.rt (rtO f.rm ver mu (some ⟨rx, 0, none⟩) rb wg) :: mpK rb [] :: l) := by
    refine S5.to ?_
    iterate 6 (apply Ent.pick; (focus (repeat (first | exact Sel.here | apply Sel.there))))
    iterate 11 (apply Ent.drop)
    exact .refl
  clear S5
  refine nameI (g := g) (by decide) S6 fun r0 c0 H6 g1 E6 s1 hb1 S7 => ?_
  clear S6
  refine ⟨_, _, _, rfl, E6, ?_⟩
  refine gives_i S7 (bucket_ok (db := f.db) (wr := false) (dn := false) (B := [a, bb] ++ kb :: [c]) (p := rp) (c := rc) (g := g1) (tx := rx) (l := (pt f.rt (rtO f.rm ver mu (some ⟨rx, 0, none⟩) rb wg) :: mpK rb [] :: l)) (nm := ⟨nK, some ⟨r0, 0, none⟩, c0⟩) (i := 2) (x := kb) (fun y hy => (hall y hy).mono s1) hb1 (by simp) rfl n3 (fun j y hj hy => by
    match j, hj with
    | 0, _ => cases hy; show ltS a.name.s nK = true; rw [n1]; exact lt_RK
    | 1, _ => cases hy; show ltS bb.name.s nK = true; rw [n2]; exact lt_UK) (S7.to (by
    iterate 4 (apply Ent.pick; (focus (repeat (first | exact Sel.here | apply Sel.there))))
    exact .refl))) fun H7 E7 S8 => ?_
  clear S7
  refine ⟨_, rfl, ?_⟩
  (repeat (first | (refine Step.go ?_; intros) | refine iteB_t (by decide) ?_ | refine iteB_f (by decide) ?_ | (refine Duo.mk (by first | omega | exact rfl | decide) ?_; intros) | (refine Duo.mk (Clo.mk (by kernel_rfl)) ?_; intros)))
  refine Sat.mpSet (fk := Value.int .i64) (fv := pv) (m := []) (r := rb) (S8.to (m := mpK rb [] :: bkts rx ([a, bb] ++ kb :: [c]) :: (has g1 :: pt f.rt (rtO f.rm ver mu (some ⟨rx, 0, none⟩) rb wg) :: l)) (by
    iterate 4 (apply Ent.pick; (focus (repeat (first | exact Sel.here | apply Sel.there))))
    exact Ent.drop (Ent.drop .refl))) MI107 1 kb.b fun H8 S9 => ?_
  clear S8
  refine F119.L4_step ?_
  unfold F119.L4n
  refine iteB_f rfl ?_
  refine iteB_f rfl ?_
  have gx := (hall kb (by simp)).mono s1
  obtain ⟨xb, xn, xq, xc, xx, xf⟩ := kb
  dsimp only at *
  obtain ⟨x, rfl, ht⟩ : ∃ x, xx = [x] ∧ txt x = t := by
    match xx, hx with
    | [x], hx => simp at hx; exact ⟨x, rfl, hx⟩
  have hxk : x.k.s = k.s := by rw [← hkt, ← ht]; rfl
  refine F119.L5_step ?_
  unfold F119.L5n
  refine call_of (newCur_ok (b := xb) (tx := rx) (name := xn) (q := xq) (xs := [x]) (c := xc) (fl := xf) ((S9.to (Ent.drop bkts_out)).to (m := pt xb (bkO rx xn xq [x].length xc xf) :: has g1 :: pt f.rt (rtO f.rm ver mu (some ⟨rx, 0, none⟩) rb wg) :: l) ?_)) ?_
  · iterate 3 (apply Ent.pick; (focus (repeat (first | exact Sel.here | apply Sel.there))))
    exact Ent.drop .refl
  rintro en H9 ⟨cu, rfl, SA⟩
  clear S9
  (repeat (first | (refine Step.go ?_; intros) | refine iteB_t (by decide) ?_ | refine iteB_f (by decide) ?_ | (refine Duo.mk (by first | omega | exact rfl | decide) ?_; intros) | (refine Duo.mk (Clo.mk (by kernel_rfl)) ?_; intros)))
  refine g_i lk52 fun H10 E10 => ?_
  have SB := SA.ext E10
  clear SA
  refine ⟨_, rfl, rfl, ?_⟩
  refine call_of (scan1_ok (cu := cu) (b := xb) (tx := rx) (c := xc) (q := xq) (x := x) (k := k) (name := xn) (fl := xf) (i0 := 0) (g := g1) gx.rows (gx.kr x (List.mem_cons_self ..)) (by rw [hxk]; exact hk0) (hk.mono s1) hxk (SB.to (m := pt cu (crO xq 1 xc 0 xb) :: pt xb (bkO rx xn xq 1 xc xf) :: has g1 :: l) ?_)) ?_
  · iterate 3 (apply Ent.pick; (focus (repeat (first | exact Sel.here | apply Sel.there))))
    exact Ent.drop .refl
  rintro en H11 ⟨q, q', d1, d2, rfl, SC⟩
  clear SB
  refine ⟨_, rfl, _, _, rfl, _, _, _, rfl, _, _, rfl, _, _, _, rfl, rfl, ?_⟩
  have SD : Sat H11 (sl bsC 78 1 q 1 d1 [x.k] :: sl bsC 78 1 q' 1 d2 [x.v] :: has g1 :: l) := SC
  clear SC
  refine SD.slApp (ys := []) (q := none) (d := 0) ?_ rfl (by simp) (by simp) rfl (by decide) (by omega) fun q4 c4 H12 SE => ?_
  · intro i v hi; simp at hi
  clear SD
  refine (SE.to ent_swp).slApp (ys := []) (q := none) (d := 0) ?_ rfl (by simp) (by simp) rfl (by decide) (by omega) fun q5 c5 H13 SF => ?_
  · intro i v hi; simp at hi
  clear SE
  refine ⟨q4, q5, c4, c5, [x], g1, s1, by rw [← ht]; rfl, (fun r hr => by rw [List.mem_singleton.1 hr]; exact gx.kr x (List.mem_cons_self ..)), rfl, SF.to ?_⟩
  show Ent (sl bsC 78 1 q5 1 c5 [x.v] :: sl bsC 78 1 q4 1 c4 [x.k] :: has g1 :: l) (sl bsC 78 1 q4 1 c4 [x.k] :: sl bsC 78 1 q5 1 c5 [x.v] :: has g1 :: l)
  exact ent_swp
end
end Go.Proofs.YtkkookljlencgaaGreat

set_option linter.unusedVariables false
set_option linter.unusedSimpArgs false
set_option linter.unnecessarySimpa false
set_option maxRecDepth 100000
namespace Go.Proofs.YtkkookljlencgaaGreat
open Go Go.Den Go.Proofs
/-! Bytes as texts. -/
abbrev strC (s : ByteArray) : List Value := [.string s]
section
variable {H H0 : Heap} {l : List HP} {g : PH}
theorem cell_str {X : List ByteArray} : ∀ v ∈ X.flatMap strC, isCell v = true := by
  intro v hv
  obtain ⟨a, _, h⟩ := List.mem_flatMap.1 hv
  rw [List.mem_singleton.1 h]
  rfl
theorem texts_ok {p : Option Addr} {n c : Nat} {X : List Bs} (hg : ∀ b ∈ X, BytsG g b) (hn : n ≤ 100000) (hXn : X.length = n) (S : Sat H (sl bsC 78 1 p n c X :: has g :: l)) :
    CallsH Tryz.prog 26 ⟨[.slice p n c]⟩ H (fun e H1 => ∃ (q : Option Addr) (d : Nat), e = .returned (.slice q n d) ∧ Sat H1 (sl strC 9 1 q n d (X.map Bs.s) :: sl bsC 78 1 p n c X :: has g :: l)) := by
  refine F26.calls ?_
  unfold F26.go
  have loop : ∀ (m i : Nat) (q : Option Addr) (d : Nat) (H : Heap), i + m = n → Sat H (sl strC 9 1 q i d ((X.take i).map Bs.s) :: sl bsC 78 1 p n c X :: has g :: l) →
      F26.L0 p n c q i d (i : Int) H (fun e H1 => ∃ (q : Option Addr) (d : Nat), e = .returned (.slice q n d) ∧ Sat H1 (sl strC 9 1 q n d (X.map Bs.s) :: sl bsC 78 1 p n c X :: has g :: l)) := by
    intro m
    induction m with
    | zero =>
      intro i q d H hi S
      obtain rfl : i = n := by omega
      refine F26.L0_step ?_
      unfold F26.L0n
      refine iteB_f (decide_eq_false (by omega)) ?_
      rw [List.take_of_length_le (by omega)] at S
      exact ⟨q, d, rfl, S⟩
    | succ m ih =>
      intro i q d H hi S
      obtain ⟨x, hx⟩ : ∃ x, X[i]? = some x := get_of (by omega)
      have hI := HasI.nat hx
      have hsub := subOf S (by simp : has g ∈ _)
      refine F26.L0_step ?_
      unfold F26.L0n
      refine iteB_t (decide_eq_true (by omega)) ?_
      obtain ⟨ra, oa, rfl⟩ := S.slSome (f := bsC) (E := 78) (z := 1) (p := p) (n := n) (c := c) (xs := X) (by simp) (by omega)
      refine Sat.idx (f := bsC) (E := 78) (z := 1) (xs := X) (n := n) (c := c) S ⟨by omega, by omega, fun r0 o0 hr0 => ?_⟩
      cases hr0
      (repeat (first | (refine Step.go ?_; intros) | refine iteB_t (by decide) ?_ | refine iteB_f (by decide) ?_ | (refine Duo.mk (by first | omega | exact rfl | decide) ?_; intros) | (refine Duo.mk (Clo.mk (by kernel_rfl)) ?_; intros)))
      refine bsD_of rfl (hg x (List.mem_of_getElem? hx) H hsub) ?_
      refine newX S fun n1 H3 E3 S3 => ?_
      refine (S3.to (m := sl strC 9 1 q i d ((X.take i).map Bs.s) :: pt n1 (.cells ⟨strC x.s⟩ 9) :: sl bsC 78 1 (some ⟨ra, oa, none⟩) n c X :: has g :: l) (by
        iterate 4 (apply Ent.pick; (focus (repeat (first | exact Sel.here | apply Sel.there))))
        exact Ent.refl)).slApp (ys := [x.s]) (q := some ⟨n1, 0, none⟩) (d := 1) ?_ rfl (by simp) cell_str rfl (by decide) (by omega) fun q4 c4 H4 S4 => ?_
      · simp only [List.flatMap_cons, List.flatMap_nil, List.append_nil]
        exact cellsAt_one (S3.at_ (List.mem_cons_self ..))
      rw [wr64 (by omega) (by omega), show ((i : Nat) : Int) + 1 = ((i + 1 : Nat) : Int) by omega]
      refine ih (i + 1) q4 c4 H4 (by omega) ?_
      rw [List.take_add_one, hx, List.map_append]
      refine S4.to (Ent.cons ?_)
      exact Ent.drop .refl
  exact loop n 0 none 0 H (by omega) (S.to (Ent.slNil .refl))
end
end Go.Proofs.YtkkookljlencgaaGreat

set_option linter.unusedVariables false
set_option linter.unusedSimpArgs false
set_option linter.unnecessarySimpa false
set_option maxRecDepth 100000
namespace Go.Proofs.YtkkookljlencgaaGreat
open Go Go.Den Go.Proofs
/-! A reader is asked. -/
abbrev beQ (f : BeF) (v : BeV) (l : List HP) : List HP :=
  pt f.bt (btO v.wt f.be v.pend (some f.m1) (some f.m2) 0) :: pt f.be (beO v.cm f.db f.lim (some ⟨f.bt, 0, none⟩) f.rt) :: pt v.wt (txO f.db true false v.wp v.wB.length v.wc) :: sl ptrC 176 1 v.wp v.wB.length v.wc (v.wB.map BkI.b) :: bkts v.wt v.wB :: beR f v l
section
variable {H H0 : Heap} {l : List HP} {g : PH} {f : BeF} {v : BeV}
theorem be_out : Ent (beP f v g l) (has g :: beQ f v l) := by
  iterate 17 (apply Ent.pick; (focus (repeat (first | exact Sel.here | apply Sel.there))))
  exact .refl
theorem be_in : Ent (has g :: beQ f v l) (beP f v g l) := by
  iterate 17 (apply Ent.pick; (focus (repeat (first | exact Sel.here | apply Sel.there))))
  exact .refl
/-- An end of a range, as bytes. -/
structure EndB (g : PH) (s : ByteArray) (q : Option Addr) (c : Nat) : Prop where
  b : BytsG g ⟨s, q, c⟩
  z : s.size = 0 → q = none ∧ c = 0
theorem EndB.mono {g g' : PH} {s : ByteArray} {q : Option Addr} {c : Nat} (h : EndB g s q c) (hs : PH.sub g g') : EndB g' s q c := ⟨h.b.mono hs, h.z⟩
theorem bytesOf_ok {s : ByteArray} (hs : s.size < 2 ^ 63) (S : Sat H (has g :: l)) : CallsH Tryz.prog 25 ⟨[.string s]⟩ H (fun e H1 => ∃ (q : Option Addr) (c : Nat) (g' : PH), e = .returned (.slice q s.size c) ∧ ExtH H H1 ∧ PH.sub g g' ∧ EndB g' s q c ∧ Sat H1 (has g' :: l)) := by
  refine F25.calls ?_
  unfold F25.go
  refine iteB_i (fun h => ?_) (fun h => ?_)
  · rw [eqS_nil] at h
    have h : s.size = 0 := of_decide_eq_true h
    refine ⟨none, 0, g, by rw [h], ExtH.refl H, PH.sub.refl, ⟨?_, fun _ => ⟨rfl, rfl⟩⟩, S⟩
    obtain ⟨⟨L⟩⟩ := s
    have : L = [] := List.length_eq_zero_iff.1 h
    subst this
    intro H' _ i w hi
    simp [bytesOf] at hi
  · rw [eqS_nil] at h
    have h : s.size ≠ 0 := of_decide_eq_false h
    refine sbG hs S fun r c H1 g' E1 s1 hb S1 => ?_
    exact ⟨some ⟨r, 0, none⟩, c, g', rfl, E1, s1, ⟨hb, fun h0 => absurd h0 h⟩, S1⟩
/-- What a reader answers. -/
def AnsR (g : PH) (T : List Txt) (l : List HP) (en : Ending) (H2 : Heap) : Prop :=
  ∃ (q q' : Option Addr) (d d' : Nat) (g' : PH), PH.sub g g' ∧ en = .returned (.agg ⟨[.int .i64 0, .int .i64 (T.length : Int), .slice q T.length d, .slice q' T.length d']⟩) ∧ Sat H2 (sl strC 9 1 q T.length d (T.map (·.1)) :: sl strC 9 1 q' T.length d' (T.map (·.2)) :: has g' :: l)
theorem AnsR.up {g0 : PH} {T : List Txt} {en : Ending} {H2 : Heap} (h : AnsR g T l en H2) (hs : PH.sub g0 g) : AnsR g0 T l en H2 := by
  obtain ⟨q, q', d, d', g', h1, h2, h3⟩ := h
  exact ⟨q, q', d, d', g', hs.trans h1, h2, h3⟩
theorem readA {r : Nat} {T : List Txt} (hT : T.length ≤ 100000) {p p' : Option Addr} {c1 c2 : Nat} {W : List KR} (hW : W.map txt = T) (hg : ∀ x ∈ W, KrG g x)
    (S : Sat H (outP p p' c1 c2 W (has g :: pt r (.cells ⟨[.int .i64 0, .int .i64 0, .slice none 0 0, .slice none 0 0]⟩ 46) :: l))) :
    F27.L1 r p W.length c1 p' W.length c2 H (AnsR g T l) := by
  have hl : W.length = T.length := by rw [← hW, List.length_map]
  refine F27.L1_step ?_
  unfold F27.L1n
  refine call_of (texts_ok (X := W.map KR.k) (g := g) (fun b hb => by
    obtain ⟨x, hx, rfl⟩ := List.mem_map.1 hb
    exact (hg x hx).k) (by omega) (List.length_map ..) (S.to (m := sl bsC 78 1 p W.length c1 (W.map KR.k) :: has g :: sl bsC 78 1 p' W.length c2 (W.map KR.v) :: pt r (.cells ⟨[.int .i64 0, .int .i64 0, .slice none 0 0, .slice none 0 0]⟩ 46) :: l) (by
    iterate 4 (apply Ent.pick; (focus (repeat (first | exact Sel.here | apply Sel.there))))
    exact .refl))) ?_
  rintro en H1 ⟨q, d, rfl, S1⟩
  clear S
  refine ⟨_, _, _, rfl, ?_⟩
  refine call_of (texts_ok (X := W.map KR.v) (g := g) (fun b hb => by
    obtain ⟨x, hx, rfl⟩ := List.mem_map.1 hb
    exact (hg x hx).v) (by omega) (List.length_map ..) (S1.to (m := sl bsC 78 1 p' W.length c2 (W.map KR.v) :: has g :: sl strC 9 1 q W.length d ((W.map KR.k).map Bs.s) :: pt r (.cells ⟨[.int .i64 0, .int .i64 0, .slice none 0 0, .slice none 0 0]⟩ 46) :: l) (by
    apply Ent.pick
    · exact .there (.there (.there .here))
    iterate 2 (apply Ent.pick; (focus (repeat (first | exact Sel.here | apply Sel.there))))
    · exact .drop (Ent.pick (by (repeat (first | exact Sel.here | apply Sel.there))) .refl)))) ?_
  rintro en H2 ⟨q', d', rfl, S2⟩
  clear S1
  refine ⟨_, _, _, rfl, ?_⟩
  (repeat (first | (refine Step.go ?_; intros) | refine iteB_t (by decide) ?_ | refine iteB_f (by decide) ?_ | (refine Duo.mk (by first | omega | exact rfl | decide) ?_; intros) | (refine Duo.mk (Clo.mk (by kernel_rfl)) ?_; intros)))
  have e1 : (W.map KR.k).map Bs.s = T.map (·.1) := by rw [← hW, List.map_map, List.map_map]; rfl
  have e2 : (W.map KR.v).map Bs.s = T.map (·.2) := by rw [← hW, List.map_map, List.map_map]; rfl
  have SD := ‹Sat _ (_ :: _)›
  refine ⟨q, q', d, d', g, PH.sub.refl, by rw [hl], ?_⟩
  rw [← e1, ← e2, ← hl]
  refine SD.to ?_
  iterate 3 (apply Ent.pick; (focus (repeat (first | exact Sel.here | apply Sel.there))))
  exact Ent.drop (Ent.drop .refl)
theorem bkt0_ok : CallsH Tryz.prog 24 ⟨[.int .i64 0]⟩ H (Gives (bkT 1 nK true) H) := bkt_ok (k := 0)
theorem bytes_i {s : ByteArray} {Q : List PanicEntry → Heap → Prop} {K : Value → Heap → Prop} (hs : s.size < 2 ^ 63) (S : Sat H (has g :: l)) (k : ∀ (q : Option Addr) (c : Nat) (g' : PH) (H1 : Heap), ExtH H H1 → PH.sub g g' → EndB g' s q c → Sat H1 (has g' :: l) → K (.slice q s.size c) H1) : callD Tryz.prog 25 [.string s] H Q K := by
  refine call_of (bytesOf_ok hs S) ?_
  rintro en H1 ⟨q, c, g', rfl, E1, s1, hq, S1⟩
  exact k q c g' H1 E1 s1 hq S1
theorem read27_ok {key e : ByteArray} {n k2 sn : Int} {val : ByteArray} {T : List Txt} (hT : T.length ≤ 100000) (hks : key.size < 2 ^ 63) (hes : e.size < 2 ^ 63) (G : ∀ (H1 : Heap) (g1 : PH) (k : Bs) (q : Option Addr) (c : Nat) (m : List HP), PH.sub g g1 → k.s = key → BytsG g1 k → EndB g1 e q c → Sat H1 (beP f v g1 m) → CallsH Tryz.prog 119 ⟨[pv f.rt, bkT 1 nK true, k.v, .slice q e.size c, .int .i64 n]⟩ H1 (RdR g1 T m))
    (S : Sat H (beP f v g l)) :
    CallsH Tryz.prog 27 ⟨[.iface 100 (pv f.rt), .agg ⟨[.int .i64 k2, .int .i64 0, .int .i64 sn, .string key, .string e, .string val, .int .i64 n]⟩]⟩ H (AnsR g T l) := by
  refine F27.calls (tx := .mk 100 (pv f.rt)) ?_
  unfold F27.go
  refine newX S fun o H1 E1 S1 => ?_
  clear S
  refine newX S1 fun r H2 E2 S2 => ?_
  clear S1
  (repeat (first | (refine Step.go ?_; intros) | refine iteB_t (by decide) ?_ | refine iteB_f (by decide) ?_ | (refine Duo.mk (by first | omega | exact rfl | decide) ?_; intros) | (refine Duo.mk (Clo.mk (by kernel_rfl)) ?_; intros)))
  have S3 : Sat H2 (has g :: beQ f v (pt r (.cells ⟨[.int .i64 0, .int .i64 0, .slice none 0 0, .slice none 0 0]⟩ 46) :: pt o (.cells ⟨[.int .i64 k2, .int .i64 0, .int .i64 sn, .string key, .string e, .string val, .int .i64 n]⟩ 29) :: l)) := by
    refine S2.to ?_
    iterate 19 (apply Ent.pick; (focus (repeat (first | exact Sel.here | apply Sel.there))))
    exact .refl
  clear S2
  have fin : ∀ (H5 : Heap) (g1 : PH) (k : Bs) (q : Option Addr) (c : Nat), PH.sub g g1 → k.s = key → BytsG g1 k → EndB g1 e q c → Sat H5 (has g1 :: beQ f v (pt r (.cells ⟨[.int .i64 0, .int .i64 0, .slice none 0 0, .slice none 0 0]⟩ 46) :: pt o (.cells ⟨[.int .i64 k2, .int .i64 0, .int .i64 sn, .string key, .string e, .string val, .int .i64 n]⟩ 29) :: l)) →
      callI Tryz.prog (.iface 100 (pv f.rt)) "UnsafeRange" [bkT 1 nK true, k.v, .slice q e.size c, .int .i64 n] H5 (panK (AnsR g T l)) fun v2 H4 =>
      tTup v2 fun l0 =>
      tCons l0 fun c1 l1 =>
      tSl c1 fun q1 q1n q1c =>
      tCons l1 fun c2 l2 =>
      tSl c2 fun q2 q2n q2c =>
      tNil l2 <|
      F27.L1 r q1 q1n q1c q2 q2n q2c H4 (AnsR g T l) := by
    intro H5 g1 k q c s1 hk1 hk2 hq S5
    refine rangeI ?_
    refine call_of (G H5 g1 k q c _ s1 hk1 hk2 hq (S5.to be_in)) ?_
    rintro en H6 ⟨p, p', c1, c2, W, g', s2, hW, hg, rfl, S6⟩
    refine ⟨_, rfl, _, _, rfl, _, _, _, rfl, _, _, rfl, _, _, _, rfl, rfl, ?_⟩
    refine GoL.mono (readA hT hW hg (S6.to (m := outP p p' c1 c2 W (has g' :: pt r (.cells ⟨[.int .i64 0, .int .i64 0, .slice none 0 0, .slice none 0 0]⟩ 46) :: l)) ?_)) ?_
    · iterate 4 (apply Ent.pick; (focus (repeat (first | exact Sel.here | apply Sel.there))))
      exact Ent.drop .refl
    · intro en H7 h7
      exact h7.up (s1.trans s2)
  refine F27.L0_step ?_
  unfold F27.L0n
  refine ⟨?_, ?_, ?_⟩
  · refine ⟨by kernel_rfl, ?_⟩
    (repeat (first | (refine Step.go ?_; intros) | refine iteB_t (by decide) ?_ | refine iteB_f (by decide) ?_ | (refine Duo.mk (by first | omega | exact rfl | decide) ?_; intros) | (refine Duo.mk (Clo.mk (by kernel_rfl)) ?_; intros)))
    refine gives_i S3 bkt0_ok fun H3 E3 S4 => ?_
    refine ⟨.mk _ _, rfl, E3, ?_⟩
    refine sbG hks S4 fun r1 c1 H4 g1 E4 s1 hk1 S5 => ?_
    refine bytes_i hes S5 fun q c g2 H5 E5 s2 hq S6 => ?_
    refine ⟨_, _, _, rfl, E5, ?_⟩
    exact fin H5 g2 ⟨key, some ⟨r1, 0, none⟩, c1⟩ q c (s1.trans s2) rfl (hk1.mono s2) hq S6
  · refine ⟨by kernel_rfl, ?_⟩
    (repeat (first | (refine Step.go ?_; intros) | refine iteB_t (by decide) ?_ | refine iteB_f (by decide) ?_ | (refine Duo.mk (by first | omega | exact rfl | decide) ?_; intros) | (refine Duo.mk (Clo.mk (by kernel_rfl)) ?_; intros)))
    refine gives_i S3 bkt0_ok fun H3 E3 S4 => ?_
    refine ⟨.mk _ _, rfl, E3, ?_⟩
    refine bytes_i hes S4 fun q c g2 H5 E5 s2 hq S6 => ?_
    refine ⟨_, _, _, rfl, E5, ?_⟩
    refine sbG hks S6 fun r1 c1 H4 g1 E4 s1 hk1 S5 => ?_
    exact fin H4 g1 ⟨key, some ⟨r1, 0, none⟩, c1⟩ q c (s2.trans s1) rfl hk1 (hq.mono s1) S5
  · refine ⟨by kernel_rfl, ?_⟩
    iterate 4 refine Step.go ?_
    refine sbG hks S3 fun r1 c1 H4 g1 E4 s1 hk1 S5 => ?_
    refine gives_i S5 bkt0_ok fun H3 E3 S4 => ?_
    refine ⟨.mk _ _, rfl, E3, ?_⟩
    refine bytes_i hes S4 fun q c g2 H5 E5 s2 hq S6 => ?_
    refine ⟨_, _, _, rfl, E5, ?_⟩
    exact fin H5 g2 ⟨key, some ⟨r1, 0, none⟩, c1⟩ q c (s1.trans s2) rfl (hk1.mono s2) hq S6
end
end Go.Proofs.YtkkookljlencgaaGreat

set_option linter.unusedVariables false
set_option linter.unusedSimpArgs false
set_option linter.unnecessarySimpa false
set_option maxRecDepth 100000
namespace Go.Proofs.YtkkookljlencgaaGreat
open Go Go.Den Go.Proofs
/-! An operation begins. -/
abbrev vaO (lim db be had : Nat) (last : ByteArray) : Obj := .cells ⟨[.int .i64 (lim : Int), pv db, .iface 97 (pv be), .slice none 0 0, .int .i64 0, .map (some had), .string last]⟩ 59
abbrev opO (kd sn : Int) (key e val : ByteArray) (n : Int) : Obj := .cells ⟨[.int .i64 kd, .int .i64 0, .int .i64 sn, .string key, .string e, .string val, .int .i64 n]⟩ 29
abbrev opV (kd sn : Int) (key e val : ByteArray) (n : Int) : Value := .agg ⟨[.int .i64 kd, .int .i64 0, .int .i64 sn, .string key, .string e, .string val, .int .i64 n]⟩
abbrev ansO : Obj := .cells ⟨[.int .i64 0, .int .i64 0, .slice none 0 0, .slice none 0 0]⟩ 46
abbrev mpH (r : Nat) (M : List (ByteArray × Bool)) : HP := mp Value.string Value.bool r M
abbrev vaP (x had : Nat) (M : List (ByteArray × Bool)) (last : ByteArray) (f : BeF) (v : BeV) (g : PH) (l : List HP) : List HP := pt x (vaO f.lim f.db f.be had last) :: mpH had M :: beP f v g l
theorem MI54 : MapT Tryz.prog 54 Value.string Value.bool (.bool false) := ⟨9, 4, by kernel_rfl, KeyT.string (by kernel_rfl), by kernel_rfl⟩
section
variable {H H0 : Heap} {l : List HP} {g : PH} {f : BeF} {v : BeV} {x had : Nat} {M : List (ByteArray × Bool)} {last : ByteArray} {kd sn n : Int} {key e val : ByteArray}
theorem batch_ok {cm : Int} {db lim rt be : Nat} {bp : Option Addr} (S : Sat H (pt be (beO cm db lim bp rt) :: l)) : CallsH Tryz.prog 107 ⟨[pv be]⟩ H (Gives (.iface 122 (.pointer bp)) H) := by
  refine F107.calls ?_
  unfold F107.go
  (repeat (first | (refine Step.go ?_; intros) | refine iteB_t (by decide) ?_ | refine iteB_f (by decide) ?_ | (refine Duo.mk (by first | omega | exact rfl | decide) ?_; intros) | (refine Duo.mk (Clo.mk (by kernel_rfl)) ?_; intros)))
  exact ⟨rfl, ExtH.refl H⟩
theorem do_go {R : Ending → Heap → Prop} (S : Sat H (vaP x had M last f v g l))
    (k : ∀ (r r1 r2 : Nat) (H1 : Heap), Sat H1 (pt r2 ansO :: pt r1 ansO :: pt r (opO kd sn key e val n) :: vaP x had M last f v g l) → (if kd = 1 ∨ kd = 2 then F13.L4 (some ⟨x, 0, none⟩) r r1 r2 (.mk 122 (pv f.bt)) (.mk 131 (.agg ⟨[.int .i64 1, .string nK, .bool true]⟩)) H1 R else F13.L1 (some ⟨x, 0, none⟩) r r1 r2 (.mk 122 (pv f.bt)) (.mk 131 (.agg ⟨[.int .i64 1, .string nK, .bool true]⟩)) kd H1 R)) :
    CallsH Tryz.prog 13 ⟨[pv x, opV kd sn key e val n]⟩ H R := by
  refine F13.calls ?_
  unfold F13.go
  refine newX S fun r H1 E1 S1 => ?_
  clear S
  refine newX S1 fun r1 H2 E2 S2 => ?_
  clear S1
  refine newX S2 fun r2 H3 E3 S3 => ?_
  clear S2
  (repeat (first | (refine Step.go ?_; intros) | refine iteB_t (by decide) ?_ | refine iteB_f (by decide) ?_ | (refine Duo.mk (by first | omega | exact rfl | decide) ?_; intros) | (refine Duo.mk (Clo.mk (by kernel_rfl)) ?_; intros)))
  rename_i H4 S4 H5 S5 H6 S6 H7 S7
  clear S3 S4 S5 S6
  refine batchI ?_
  refine gives_i S7 (batch_ok (S7.to (m := pt f.be (beO v.cm f.db f.lim (some ⟨f.bt, 0, none⟩) f.rt) :: []) (by
    iterate 1 (apply Ent.pick; (focus (repeat (first | exact Sel.here | apply Sel.there))))
    exact .nil))) fun H8 E8 S8 => ?_
  clear S7
  refine ⟨.mk 122 (pv f.bt), rfl, ?_⟩
  (repeat (first | (refine Step.go ?_; intros) | refine iteB_t (by decide) ?_ | refine iteB_f (by decide) ?_ | (refine Duo.mk (by first | omega | exact rfl | decide) ?_; intros) | (refine Duo.mk (Clo.mk (by kernel_rfl)) ?_; intros)))
  refine F13.L0_step ?_
  unfold F13.L0n
  (repeat (first | (refine Step.go ?_; intros) | refine iteB_t (by decide) ?_ | refine iteB_f (by decide) ?_ | (refine Duo.mk (by first | omega | exact rfl | decide) ?_; intros) | (refine Duo.mk (Clo.mk (by kernel_rfl)) ?_; intros)))
  refine gives_i S8 bkt0_ok fun H9 E9 S9 => ?_
  clear S8
  refine ⟨.mk _ _, rfl, ?_⟩
  (repeat (first | (refine Step.go ?_; intros) | refine iteB_t (by decide) ?_ | refine iteB_f (by decide) ?_ | (refine Duo.mk (by first | omega | exact rfl | decide) ?_; intros) | (refine Duo.mk (Clo.mk (by kernel_rfl)) ?_; intros)))
  have h := k r r1 r2 H9 S9
  refine iteB_i (fun h1 => ?_) (fun h1 => ?_)
  · have h1 : kd = 1 := by simpa using h1
    subst h1
    refine iteB_t rfl ?_
    exact h
  have h1 : kd ≠ 1 := by simpa using h1
  refine iteB_i (fun h2 => ?_) (fun h2 => ?_)
  · have h2 : kd = 2 := by simpa using h2
    subst h2
    exact h
  have h2 : kd ≠ 2 := by simpa using h2
  rw [if_neg (by omega)] at h
  exact h
end
end Go.Proofs.YtkkookljlencgaaGreat

set_option linter.unusedVariables false
set_option linter.unusedSimpArgs false
set_option linter.unnecessarySimpa false
set_option maxRecDepth 100000
namespace Go.Proofs.YtkkookljlencgaaGreat
open Go Go.Den Go.Proofs
/-! What is written is handed over; a commit. -/
abbrev ansV0 : Value := .agg ⟨[.int .i64 0, .int .i64 0, .slice none 0 0, .slice none 0 0]⟩
section
variable {H H0 : Heap} {l : List HP} {g : PH} {f : BeF} {v : BeV} {x had : Nat} {M : List (ByteArray × Bool)} {last : ByteArray} {kd sn n : Int} {key e val : ByteArray} {A D R W : List Txt}
theorem do_unlock (G : Good g f v A D R W) (P : Ph v W) (hlim : W.length < f.lim) (S : Sat H (vaP x had M last f v g l)) :
    CallsH Tryz.prog 13 ⟨[pv x, opV 8 sn key e val n]⟩ H (fun en H1 => en = .returned ansV0 ∧ ∃ v' : BeV, Good g f v' A D W [] ∧ v'.pend = v.pend ∧ v'.M2 = [] ∧ (v.R = none → v'.W = none ∧ ∀ b, v'.R = some b → b.u ≠ 0) ∧ Sat H1 (vaP x had M last f v' g l)) := by
  refine do_go S fun r r1 r2 H1 S1 => ?_
  clear S
  rw [if_neg (by decide)]
  refine F13.L1_step ?_
  unfold F13.L1n
  iterate 5 (refine iteB_f rfl ?_)
  refine iteB_t rfl ?_
  refine unlockI ?_
  refine call_of (unlockS_ok G P hlim (S1.to (m := beP f v g (pt r2 ansO :: pt r1 ansO :: pt r (opO 8 sn key e val n) :: pt x (vaO f.lim f.db f.be had last) :: mpH had M :: l)) (by
    iterate 22 (apply Ent.pick; (focus (repeat (first | exact Sel.here | apply Sel.there))))
    exact .refl))) ?_
  rintro en H2 ⟨rfl, v', G', h1, h2, h3, S2⟩
  clear S1
  refine ⟨_, rfl, rfl, ?_⟩
  refine lockI (c := ⟨[.pointer (some ⟨v'.wt, 0, none⟩), .pointer (some ⟨f.be, 0, none⟩), .int .i64 (v'.pend : Int), .map (some f.m1), .map (some f.m2), .int .i64 0]⟩) (S2.obj (r := f.bt) (o := btO v'.wt f.be v'.pend (some f.m1) (some f.m2) 0)) fun H3 E3 => ?_
  have S3 := S2.ext E3
  clear S2
  refine ⟨_, rfl, rfl, ?_⟩
  (repeat (first | (refine Step.go ?_; intros) | refine iteB_t (by decide) ?_ | refine iteB_f (by decide) ?_ | (refine Duo.mk (by first | omega | exact rfl | decide) ?_; intros) | (refine Duo.mk (Clo.mk (by kernel_rfl)) ?_; intros)))
  rename_i H4 S4 H5 S5 H6 S6 H7 S7
  clear S3 S4 S5 S6
  refine ⟨rfl, v', G', h1, h2, h3, S7.to ?_⟩
  iterate 19 (apply Ent.pick; (focus (repeat (first | exact Sel.here | apply Sel.there))))
  exact Ent.drop (Ent.drop (Ent.drop .refl))
end
end Go.Proofs.YtkkookljlencgaaGreat

set_option linter.unusedVariables false
set_option linter.unusedSimpArgs false
set_option linter.unnecessarySimpa false
set_option maxRecDepth 100000
namespace Go.Proofs.YtkkookljlencgaaGreat
open Go Go.Den Go.Proofs
section
variable {H H0 : Heap} {l : List HP} {g : PH} {f : BeF} {v : BeV} {x had : Nat} {M : List (ByteArray × Bool)} {last : ByteArray} {kd sn n : Int} {key e val : ByteArray} {A D R W : List Txt}
theorem bufC_len {o : Option Buf} {L : List Txt} (h : BufC g o L) : L.length ≤ 500 := by
  cases o with
  | none => rw [show L = [] from h]; simp
  | some w => rw [← h.len]; exact h.1
theorem do_commit (G : Good g f v A D R W) (P : Ph v W) (hR0 : v.R = none) (hlim : W.length < f.lim) (S : Sat H (vaP x had M last f v g l)) :
    CallsH Tryz.prog 13 ⟨[pv x, opV 9 sn key e val n]⟩ H (fun en H1 => en = .returned ansV0 ∧ ∃ (g' : PH) (v' : BeV), PH.sub g g' ∧ Good g' f v' A A [] [] ∧ Ph v' [] ∧ Sat H1 (vaP x had M last f v' g' l)) := by
  have hWl := bufC_len G.bW
  refine do_go S fun r r1 r2 H1 S1 => ?_
  clear S
  rw [if_neg (by decide)]
  refine F13.L1_step ?_
  unfold F13.L1n
  iterate 6 (refine iteB_f rfl ?_)
  refine iteB_t rfl ?_
  refine unlockI ?_
  refine call_of (unlockS_ok G P hlim (S1.to (m := beP f v g (pt r2 ansO :: pt r1 ansO :: pt r (opO 9 sn key e val n) :: pt x (vaO f.lim f.db f.be had last) :: mpH had M :: l)) (by
    iterate 22 (apply Ent.pick; (focus (repeat (first | exact Sel.here | apply Sel.there))))
    exact .refl))) ?_
  rintro en H2 ⟨rfl, v', G', h1, h2, h3, S2⟩
  clear S1
  obtain ⟨h3, h4⟩ := h3 hR0
  refine ⟨_, rfl, rfl, ?_⟩
  (repeat (first | (refine Step.go ?_; intros) | refine iteB_t (by decide) ?_ | refine iteB_f (by decide) ?_ | (refine Duo.mk (by first | omega | exact rfl | decide) ?_; intros) | (refine Duo.mk (Clo.mk (by kernel_rfl)) ?_; intros)))
  refine forceI ?_
  refine call_of (forceS_ok G' h4 (by omega) (by rw [h1, P.pend]; omega) S2) ?_
  rintro en H3 ⟨rfl, g', v2, s1, G2, p1, p2, p3, p4, S3⟩
  clear S2
  refine ⟨_, rfl, rfl, ?_⟩
  refine lockI (c := ⟨[.pointer (some ⟨v2.wt, 0, none⟩), .pointer (some ⟨f.be, 0, none⟩), .int .i64 (v2.pend : Int), .map (some f.m1), .map (some f.m2), .int .i64 0]⟩) (S3.obj (r := f.bt) (o := btO v2.wt f.be v2.pend (some f.m1) (some f.m2) 0)) fun H4 E4 => ?_
  have S4 := S3.ext E4
  clear S3
  refine ⟨_, rfl, rfl, ?_⟩
  (repeat (first | (refine Step.go ?_; intros) | refine iteB_t (by decide) ?_ | refine iteB_f (by decide) ?_ | (refine Duo.mk (by first | omega | exact rfl | decide) ?_; intros) | (refine Duo.mk (Clo.mk (by kernel_rfl)) ?_; intros)))
  rename_i H5 S5 H6 S6 H7 S7 H8 S8
  clear S4 S5 S6 S7
  refine ⟨rfl, g', v2, s1, G2, ⟨p1, .inl (by rw [p3, h3]), ?_, .inl (by rw [p2, h2])⟩, S8.to ?_⟩
  · rw [p4]
    cases v'.R with
    | none => exact .inl rfl
    | some b => exact .inr ⟨b.z, rfl, rfl⟩
  · iterate 19 (apply Ent.pick; (focus (repeat (first | exact Sel.here | apply Sel.there))))
    exact Ent.drop (Ent.drop (Ent.drop .refl))
theorem do_read {T : List Txt} (hT : T.length ≤ 100000) (hks : key.size < 2 ^ 63) (hes : e.size < 2 ^ 63) (h119 : ∀ (H1 : Heap) (g1 : PH) (k : Bs) (q : Option Addr) (c : Nat) (m : List HP), PH.sub g g1 → k.s = key → BytsG g1 k → EndB g1 e q c → Sat H1 (beP f v g1 m) → CallsH Tryz.prog 119 ⟨[pv f.rt, bkT 1 nK true, k.v, .slice q e.size c, .int .i64 n]⟩ H1 (RdR g1 T m))
    (S : Sat H (vaP x had M last f v g l)) :
    CallsH Tryz.prog 13 ⟨[pv x, opV 5 sn key e val n]⟩ H (AnsR g T l) := by
  refine do_go S fun r r1 r2 H1 S1 => ?_
  clear S
  rw [if_neg (by decide)]
  refine F13.L1_step ?_
  unfold F13.L1n
  iterate 2 (refine iteB_f rfl ?_)
  refine iteB_t rfl ?_
  (repeat (first | (refine Step.go ?_; intros) | refine iteB_t (by decide) ?_ | refine iteB_f (by decide) ?_ | (refine Duo.mk (by first | omega | exact rfl | decide) ?_; intros) | (refine Duo.mk (Clo.mk (by kernel_rfl)) ?_; intros)))
  refine readI ?_
  have h110 : CallsH Tryz.prog 110 ⟨[pv f.be]⟩ H1 (Gives (.iface 100 (pv f.rt)) H1) := by
    have SS := S1.to (m := [pt f.be (beO v.cm f.db f.lim (some ⟨f.bt, 0, none⟩) f.rt)]) (by
      iterate 1 (apply Ent.pick; (focus (repeat (first | exact Sel.here | apply Sel.there))))
      exact .nil)
    refine F110.calls ?_
    unfold F110.go
    (repeat (first | (refine Step.go ?_; intros) | refine iteB_t (by decide) ?_ | refine iteB_f (by decide) ?_ | (refine Duo.mk (by first | omega | exact rfl | decide) ?_; intros) | (refine Duo.mk (Clo.mk (by kernel_rfl)) ?_; intros)))
    exact ⟨rfl, ExtH.refl H1⟩
  refine gives_i S1 h110 fun H2 E2 S2 => ?_
  clear S1
  refine ⟨.mk 100 (pv f.rt), rfl, E2, ?_⟩
  refine call_of (read27_ok (l := pt r2 ansO :: pt r1 ansO :: l) hT hks hes h119 (S2.to ?_)) ?_
  · iterate 19 (apply Ent.pick; (focus (repeat (first | exact Sel.here | apply Sel.there))))
    exact Ent.drop (Ent.drop (Ent.drop .refl))
  rintro en H3 ⟨q, q', d, d', g', s1, rfl, S3⟩
  clear S2
  refine ⟨_, rfl, _, _, rfl, _, rfl, _, _, rfl, _, rfl, _, _, rfl, _, _, _, rfl, _, _, rfl, _, _, _, rfl, rfl, ?_⟩
  (repeat (first | (refine Step.go ?_; intros) | refine iteB_t (by decide) ?_ | refine iteB_f (by decide) ?_ | (refine Duo.mk (by first | omega | exact rfl | decide) ?_; intros) | (refine Duo.mk (Clo.mk (by kernel_rfl)) ?_; intros)))
  have SD := ‹Sat _ (_ :: _)›
  refine ⟨q, q', d, d', g', s1, rfl, SD.to ?_⟩
  iterate 3 (apply Ent.pick; (focus (repeat (first | exact Sel.here | apply Sel.there))))
  exact Ent.drop (Ent.drop .refl)
end
end Go.Proofs.YtkkookljlencgaaGreat

set_option linter.unusedVariables false
set_option linter.unusedSimpArgs false
set_option linter.unnecessarySimpa false
set_option maxRecDepth 100000
namespace Go.Proofs.YtkkookljlencgaaGreat
open Go Go.Den Go.Proofs
/-! A row is put. -/
section
variable {H H0 : Heap} {l : List HP} {g : PH} {f : BeF} {v : BeV} {x had : Nat} {M : List (ByteArray × Bool)} {last : ByteArray} {kd sn n : Int} {key e val : ByteArray} {A D R W : List Txt}
theorem Good.up {g' : PH} (G : Good g f v A D R W) (hs : PH.sub g g') : Good g' f v A D R W :=
  ⟨fun b hb => (G.wg b hb).mono hs, fun d hd => (G.dg d hd).mono hs, G.rows.mono hs, G.req, G.sync, G.kw, G.kd, G.bW.mono hs, G.bR.mono hs⟩
/-- What a key must be. -/
structure KeyP (key val last : ByteArray) (M : List (ByteArray × Bool)) (A W : List Txt) : Prop where
  nz : key.size ≠ 0
  ks : key.size ≤ 2147483647
  vs : val.size ≤ 2147483647
  new : mget M key = none
  up : ltS last key = true
  lt : ∀ y ∈ A, ltS y.1 key = true
  A : A.length ≤ 1000
  W : W.length < 500
theorem do_put {sq : Bool} (hkd : kd = if sq then 2 else 1) (G : Good g f v A D R W) (K : KeyP key val last M A W) (hp : v.pend ≤ 1000000) (S : Sat H (vaP x had M last f v g l)) :
    CallsH Tryz.prog 13 ⟨[pv x, opV kd sn key e val n]⟩ H (fun en H1 => en = .returned ansV0 ∧ ∃ (g' : PH) (v' : BeV), PH.sub g g' ∧ Good g' f v' (A ++ [(key, val)]) D R (W ++ [(key, val)]) ∧ v'.pend = v.pend + 1 ∧ v'.M2 = (if sq then v.M2 else mset v.M2 1 false) ∧ v'.R = v.R ∧ (∃ w', v'.W = some w') ∧ Sat H1 (vaP x had (mset M key true) key f v' g' l)) := by
  refine do_go S fun r r1 r2 H1 S1 => ?_
  clear S
  rw [if_pos (by subst hkd; cases sq <;> simp)]
  have he0 : eqS key (ByteArray.mk #[]) = false := by rw [eqS_nil]; exact decide_eq_false K.nz
  have hcmp : (ltS key last || eqS key last) = false := by
    have h := ltS_flip key last
    rw [K.up] at h
    cases hh : (ltS key last || eqS key last) with
    | false => rfl
    | true => rw [hh] at h; simp at h
  have l5 : ∀ H2, Sat H2 (pt r2 ansO :: pt r1 ansO :: pt r (opO kd sn key e val n) :: vaP x had M last f v g l) → F13.L5 (some ⟨x, 0, none⟩) r r1 r2 (.mk 122 (pv f.bt)) (.mk 131 (.agg ⟨[.int .i64 1, .string nK, .bool true]⟩)) H2 (fun en H1 => en = .returned ansV0 ∧ ∃ (g' : PH) (v' : BeV), PH.sub g g' ∧ Good g' f v' (A ++ [(key, val)]) D R (W ++ [(key, val)]) ∧ v'.pend = v.pend + 1 ∧ v'.M2 = (if sq then v.M2 else mset v.M2 1 false) ∧ v'.R = v.R ∧ (∃ w', v'.W = some w') ∧ Sat H1 (vaP x had (mset M key true) key f v' g' l)) := by
    intro H2 S2
    refine F13.L5_step ?_
    unfold F13.L5n
    (repeat (first | (refine Step.go ?_; intros) | refine iteB_t (by decide) ?_ | refine iteB_f (by decide) ?_ | (refine Duo.mk (by first | omega | exact rfl | decide) ?_; intros) | (refine Duo.mk (Clo.mk (by kernel_rfl)) ?_; intros)))
    refine Sat.mpSet (fk := Value.string) (fv := Value.bool) (m := M) (r := had) (S2.to (m := mpH had M :: pt r2 ansO :: pt r1 ansO :: pt r (opO kd sn key e val n) :: pt x (vaO f.lim f.db f.be had last) :: beP f v g l) (by
      iterate 5 (apply Ent.pick; (focus (repeat (first | exact Sel.here | apply Sel.there))))
      exact .refl)) MI54 key true fun H3 S3 => ?_
    clear S2
    (repeat (first | (refine Step.go ?_; intros) | refine iteB_t (by decide) ?_ | refine iteB_f (by decide) ?_ | (refine Duo.mk (by first | omega | exact rfl | decide) ?_; intros) | (refine Duo.mk (Clo.mk (by kernel_rfl)) ?_; intros)))
    rename_i H4 S4
    clear S3
    rw [K.up, if_pos rfl] at S4
    have S5 : Sat H4 (has g :: beQ f v (mpH had (mset M key true) :: pt r2 ansO :: pt r1 ansO :: pt r (opO kd sn key e val n) :: pt x (vaO f.lim f.db f.be had key) :: l)) := by
      refine (S4.to (m := beP f v g (mpH had (mset M key true) :: pt r2 ansO :: pt r1 ansO :: pt r (opO kd sn key e val n) :: pt x (vaO f.lim f.db f.be had key) :: l)) ?_).to be_out
      iterate 22 (apply Ent.pick; (focus (repeat (first | exact Sel.here | apply Sel.there))))
      exact .refl
    clear S4
    have last : ∀ (H8 : Heap) (g2 : PH) (M2 : List (Int × Bool)), PH.sub g g2 → M2 = (if sq then v.M2 else mset v.M2 1 false) → PutR g2 f v M2 A D R W (key, val) (mpH had (mset M key true) :: pt r2 ansO :: pt r1 ansO :: pt r (opO kd sn key e val n) :: pt x (vaO f.lim f.db f.be had key) :: l) H8 → ∃ (g' : PH) (v' : BeV), PH.sub g g' ∧ Good g' f v' (A ++ [(key, val)]) D R (W ++ [(key, val)]) ∧ v'.pend = v.pend + 1 ∧ v'.M2 = (if sq then v.M2 else mset v.M2 1 false) ∧ v'.R = v.R ∧ (∃ w', v'.W = some w') ∧ Sat H8 (beP f v' g' (mpH had (mset M key true) :: pt r2 ansO :: pt r1 ansO :: pt r (opO kd sn key e val n) :: pt x (vaO f.lim f.db f.be had key) :: l)) := by
      rintro H8 g2 M2 s2 hM ⟨g', v', s3, G', p1, p2, p3, p4, SS⟩
      exact ⟨g', v', s2.trans s3, G', p1, by rw [p2, hM], p3, p4, SS⟩
    refine F13.L6_step ?_
    unfold F13.L6n
    cases sq with
    | false =>
      obtain rfl : kd = 1 := hkd
      iterate 1 refine Step.go ?_
      refine iteB_t rfl ?_
      iterate 1 refine Step.go ?_
      refine sbG (by have := K.ks; omega) S5 fun q1 c1 H6 g1 E6 s1 hk1 S6 => ?_
      clear S5
      iterate 1 refine Step.go ?_
      refine sbG (by have := K.vs; omega) S6 fun q2 c2 H7 g2 E7 s2 hv1 S7 => ?_
      clear S6
      refine putI ?_
      have Gx : Good g2 f v A D R W := G.up (s1.trans s2)
      refine call_of (putS_ok (b := true) (k := ⟨key, some ⟨q1, 0, none⟩, c1⟩) (w := ⟨val, some ⟨q2, 0, none⟩, c2⟩) Gx (hk1.mono s2) hv1 (by have := K.A; omega) K.lt K.nz (by have := K.ks; show key.size ≤ _; omega) (by have := K.vs; show val.size ≤ _; omega) hp K.W (S7.to be_in)) ?_
      rintro en H8 ⟨rfl, PR⟩
      obtain ⟨g', v', t1, G', p1, p2, p3, p4, S8⟩ := last H8 g2 (mset v.M2 1 false) (s1.trans s2) rfl PR
      clear S7
      refine ⟨_, rfl, rfl, ?_⟩
      (repeat (first | (refine Step.go ?_; intros) | refine iteB_t (by decide) ?_ | refine iteB_f (by decide) ?_ | (refine Duo.mk (by first | omega | exact rfl | decide) ?_; intros) | (refine Duo.mk (Clo.mk (by kernel_rfl)) ?_; intros)))
      rename_i HA SA HB SB HC SC HD SD
      clear SA SB SC S8
      refine ⟨rfl, g', v', t1, G', p1, p2, p3, p4, SD.to ?_⟩
      iterate 19 (apply Ent.pick; (focus (repeat (first | exact Sel.here | apply Sel.there))))
      exact Ent.drop (Ent.drop (Ent.drop .refl))
    | true =>
      obtain rfl : kd = 2 := hkd
      iterate 1 refine Step.go ?_
      refine iteB_f rfl ?_
      iterate 1 refine Step.go ?_
      refine sbG (by have := K.ks; omega) S5 fun q1 c1 H6 g1 E6 s1 hk1 S6 => ?_
      clear S5
      iterate 1 refine Step.go ?_
      refine sbG (by have := K.vs; omega) S6 fun q2 c2 H7 g2 E7 s2 hv1 S7 => ?_
      clear S6
      refine seqI ?_
      have Gx : Good g2 f v A D R W := G.up (s1.trans s2)
      refine call_of (seqS_ok (b := true) (k := ⟨key, some ⟨q1, 0, none⟩, c1⟩) (w := ⟨val, some ⟨q2, 0, none⟩, c2⟩) Gx (hk1.mono s2) hv1 (by have := K.A; omega) K.lt K.nz (by have := K.ks; show key.size ≤ _; omega) (by have := K.vs; show val.size ≤ _; omega) hp K.W (S7.to be_in)) ?_
      rintro en H8 ⟨rfl, PR⟩
      obtain ⟨g', v', t1, G', p1, p2, p3, p4, S8⟩ := last H8 g2 v.M2 (s1.trans s2) rfl PR
      clear S7
      refine ⟨_, rfl, rfl, ?_⟩
      (repeat (first | (refine Step.go ?_; intros) | refine iteB_t (by decide) ?_ | refine iteB_f (by decide) ?_ | (refine Duo.mk (by first | omega | exact rfl | decide) ?_; intros) | (refine Duo.mk (Clo.mk (by kernel_rfl)) ?_; intros)))
      rename_i HA SA HB SB HC SC HD SD
      clear SA SB SC S8
      refine ⟨rfl, g', v', t1, G', p1, p2, p3, p4, SD.to ?_⟩
      iterate 19 (apply Ent.pick; (focus (repeat (first | exact Sel.here | apply Sel.there))))
      exact Ent.drop (Ent.drop (Ent.drop .refl))
  refine F13.L4_step ?_
  unfold F13.L4n
  (repeat (first | (refine Step.go ?_; intros) | refine iteB_t (by decide) ?_ | refine iteB_f (by decide) ?_ | (refine Duo.mk (by first | omega | exact rfl | decide) ?_; intros) | (refine Duo.mk (Clo.mk (by kernel_rfl)) ?_; intros)))
  refine iteB_f he0 ?_
  (repeat (first | (refine Step.go ?_; intros) | refine iteB_t (by decide) ?_ | refine iteB_f (by decide) ?_ | (refine Duo.mk (by first | omega | exact rfl | decide) ?_; intros) | (refine Duo.mk (Clo.mk (by kernel_rfl)) ?_; intros)))
  refine Sat.lookup S1 (fk := Value.string) (fv := Value.bool) (r := had) (m := M) (by simp) MI54 key (fun v hv => by rw [K.new] at hv; cases hv) (fun _ => ?_)
  refine ⟨_, rfl, ?_⟩
  refine iteB_f rfl ?_
  (repeat (first | (refine Step.go ?_; intros) | refine iteB_t (by decide) ?_ | refine iteB_f (by decide) ?_ | (refine Duo.mk (by first | omega | exact rfl | decide) ?_; intros) | (refine Duo.mk (Clo.mk (by kernel_rfl)) ?_; intros)))
  cases sq with
  | false =>
    obtain rfl : kd = 1 := hkd
    refine iteB_f rfl ?_
    exact l5 _ S1
  | true =>
    obtain rfl : kd = 2 := hkd
    refine iteB_t rfl ?_
    (repeat (first | (refine Step.go ?_; intros) | refine iteB_t (by decide) ?_ | refine iteB_f (by decide) ?_ | (refine Duo.mk (by first | omega | exact rfl | decide) ?_; intros) | (refine Duo.mk (Clo.mk (by kernel_rfl)) ?_; intros)))
    refine iteB_f hcmp ?_
    exact l5 _ S1
end
end Go.Proofs.YtkkookljlencgaaGreat
