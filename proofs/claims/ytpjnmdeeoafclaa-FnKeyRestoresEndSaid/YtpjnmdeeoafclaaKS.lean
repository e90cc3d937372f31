/- What functions of this seat do, each proved by a walk; no condition. -/
import Derived.Test.YtpjnmdeeoafclaaKR
set_option linter.unusedVariables false
set_option linter.unusedSimpArgs false
namespace Go.Proofs.Ytpjnmdeeoafclaa
open Go Go.Den Go.Proofs
/-! One operation. -/
/-- An answer. -/
structure An where
  ok : Bool
  mod : Rv
  cr : Rv
  ver : Int
  revs : List Rv
  md : Rv
  G : List Gn
/-- An answer as it stands. -/
structure KA where
  ok : Bool
  mod : Rv
  cr : Rv
  ver : Int
  revs : List Rv
  rp : Option Addr
  rc : Nat
  md : Rv
  gp : Option Addr
  gc : Nat
  X : List GX
abbrev KA.cells (x : KA) : List Value := [.bool x.ok, .int .i64 x.mod.1, .int .i64 x.mod.2, .int .i64 x.cr.1, .int .i64 x.cr.2, .int .i64 x.ver, .slice x.rp x.revs.length x.rc, .int .i64 x.md.1, .int .i64 x.md.2, .slice x.gp x.X.length x.gc]
def KA.an (x : KA) : An := ⟨x.ok, x.mod, x.cr, x.ver, x.revs, x.md, x.X.map gx⟩
abbrev kaP (_ : Nat) (x : KA) : HP := star [sl rvC 31 2 x.rp x.revs.length x.rc x.revs, sl GS.cells 69 4 x.gp x.X.length x.gc (x.X.map (·.1)), star (bigs (rvT 31) 0 x.X)]
abbrev ka0 : List Value := [.bool false, .int .i64 0, .int .i64 0, .int .i64 0, .int .i64 0, .int .i64 0, .slice none 0 0, .int .i64 0, .int .i64 0, .slice none 0 0]
section
variable {kb : Nat} {key : Value} {md : Rv} {G : List Gn} {l : List HP} {H : Heap}
theorem keyed_tail {r s4 s5 : Nat} {ok : Bool} {mod cr : Rv} {ver : Int} {revs : List Rv} {rp : Option Addr} {rc : Nat} (hG : GOk G)
    (S : KiS H kb key md G (pt r (.cells ⟨[.pointer (some ⟨kb, 0, none⟩)]⟩ 57) :: pt s4 (.cells ⟨ka0⟩ 42) :: pt s5 (.cells ⟨[.bool ok, .int .i64 mod.1, .int .i64 mod.2, .int .i64 cr.1, .int .i64 cr.2, .int .i64 ver, .slice rp revs.length rc, .int .i64 0, .int .i64 0, .slice none 0 0]⟩ 42) :: sl rvC 31 2 rp revs.length rc revs :: l)) :
    F22.L0 r s4 s5 H (fun e H1 => ∃ x : KA, x.an = ⟨ok, mod, cr, ver, revs, md, G⟩ ∧ e = .returned (.agg ⟨x.cells⟩) ∧ KiS H1 kb key md G (kaP 0 x :: l)) := by
  refine F22.L0_step ?_
  unfold F22.L0n
  have S0 := S
  obtain ⟨p, n, c, X, rfl, S⟩ := S
  have hr : ∀ x ∈ X, x.2.length < 100000 := fun x hx => (hG.2 (gx x) (List.mem_map_of_mem hx)).2
  have hn : X.length < 100000 := by have := hG.1; simpa using this
  (repeat (first | (refine Step.go ?_; intros) | refine iteB_t (by decide) ?_ | refine iteB_f (by decide) ?_ | (refine Duo.mk (by first | omega | exact rfl | decide) ?_; intros) | (refine Duo.mk (Clo.mk (by kernel_rfl)) ?_; intros)))
  refine call_of (mDump hG S0) ?_
  rintro e H1 ⟨q, k, Y, rfl, hY, p1, n1, c1, X1, hX1, S1⟩
  (repeat (first | (refine Step.go ?_; intros) | refine iteB_t (by decide) ?_ | refine iteB_f (by decide) ?_ | (refine Duo.mk (by first | omega | exact rfl | decide) ?_; intros) | (refine Duo.mk (Clo.mk (by kernel_rfl)) ?_; intros)))
  have S2 : Sat H1 (dmp 84 60 q Y.length k Y (kis kb key md p1 n1 c1 X1 (pt r (.cells ⟨[.pointer (some ⟨kb, 0, none⟩)]⟩ 57) :: pt s4 (.cells ⟨ka0⟩ 42) :: pt s5 (.cells ⟨[.bool ok, .int .i64 mod.1, .int .i64 mod.2, .int .i64 cr.1, .int .i64 cr.2, .int .i64 ver, .slice rp revs.length rc, .int .i64 0, .int .i64 0, .slice none 0 0]⟩ 42) :: sl rvC 31 2 rp revs.length rc revs :: l))) := S1.to Fits.out
  have hYl : Y.length < 100000 := by have := congrArg List.length hY; simp at this; omega
  have hYr : ∀ x ∈ Y, x.2.length < 100000 := fun x hx => (hG.2 (gx x) (by rw [← hY]; exact List.mem_map_of_mem hx)).2
  refine grow_i S2 (dumpOut_ok (md := md) (c := k) (GsAt.of S2) hYl hYr) ?_
  rintro ⟨⟨⟨gp, gc⟩, Z⟩, hZ⟩ H2 E2 S3
  dsimp only at hZ
  simp only [List.cons_append, List.nil_append, DI.l, DI.v, List.length_map] at S3 ⊢
  have hZl : Z.length = Y.length := by have := congrArg List.length hZ; simpa using this
  (repeat (first | (refine Step.go ?_; intros) | refine iteB_t (by decide) ?_ | refine iteB_f (by decide) ?_ | (refine Duo.mk (by first | omega | exact rfl | decide) ?_; intros) | (refine Duo.mk (Clo.mk (by kernel_rfl)) ?_; intros)))
  rename_i H4 S4
  refine ⟨⟨ok, mod, cr, ver, revs, rp, rc, md, gp, gc, Z⟩, ?_, ?_, ?_⟩
  · unfold KA.an; rw [hZ, hY]
  · simp only [KA.cells, hZl]
  · refine ⟨p1, n1, c1, X1, hX1, ?_⟩
    have S5 : Sat H4 (sl rvC 31 2 rp revs.length rc revs :: sl GS.cells 69 4 gp Y.length gc (Z.map (·.1)) :: star (bigs (rvT 31) 0 Z) :: kis kb key md p1 n1 c1 X1 l) := S4.to Fits.out
    rw [← hZl] at S5
    have S6 : Sat H4 (kaP 0 ⟨ok, mod, cr, ver, revs, rp, rc, md, gp, gc, Z⟩ :: kis kb key md p1 n1 c1 X1 l) := S5.to (.star (by simp only [List.cons_append, List.nil_append]; exact .refl))
    exact S6.to Fits.out
theorem ifNil_nil {k : Bool → Prop} (h : k true) : ifNilD IV.nil.v k := h
theorem ifNil_mk {t : TypeId} {v : Value} {k : Bool → Prop} (h : k false) : ifNilD (IV.mk t v).v k := h
structure KO where
  k : Int
  rev : Rv
  cr : Rv
  ver : Int
  t : Int
abbrev KO.cells (o : KO) : List Value := [.int .i64 o.k, .int .i64 o.rev.1, .int .i64 o.rev.2, .int .i64 o.cr.1, .int .i64 o.cr.2, .int .i64 o.ver, .int .i64 o.t]
abbrev z0 : Rv := (0, 0)
def kop (md : Rv) (G : List Gn) (o : KO) : An :=
  if o.k = 1 then ⟨true, z0, z0, 0, [], o.rev, putGs G o.rev⟩
  else if o.k = 2 then (if (G.getLastD g0).2.2 = [] then ⟨false, z0, z0, 0, [], md, G⟩ else ⟨true, z0, z0, 0, [], o.rev, putGs G o.rev ++ [g0]⟩)
  else if o.k = 3 then ⟨true, z0, z0, 0, [], o.rev, [(o.ver, o.cr, [o.rev])]⟩
  else if o.k = 4 then ⟨true, z0, z0, 0, [], o.rev, [(1, (0, 0), [o.rev]), g0]⟩
  else if o.k = 5 then (match getG o.t G with | none => ⟨false, z0, z0, 0, [], md, G⟩ | some x => ⟨true, x.1, x.2.1, x.2.2, [], md, G⟩)
  else if o.k = 6 then ⟨false, z0, z0, 0, sinceG o.t G, md, G⟩
  else if o.k = 7 then ⟨false, z0, z0, 0, (cpM o.t G []).map (·.1), md, compactG o.t G⟩
  else if o.k = 8 then ⟨false, z0, z0, 0, (keepM o.t G []).map (·.1), md, G⟩
  else if o.k = 9 then ⟨decide (G.map (·.2.2) = [[]]), z0, z0, 0, [], md, G⟩
  else ⟨false, z0, z0, 0, [], md, G⟩
/-- The lives are such that something may be asked of them. -/
structure Asks (G : List Gn) : Prop where
  ne : G ≠ []
  ne2 : G.map (·.2.2) ≠ [[]]
  ne3 : ∀ i x, G[i]? = some x → i + 1 < G.length → x.2.2 ≠ []
  tot : (G.flatMap (·.2.2)).length < 1000000
  pos : ∀ x ∈ G, ∀ r ∈ x.2.2, r.1 ≠ 0
structure KPre (md : Rv) (G : List Gn) (o : KO) : Prop where
  ok : GOk G
  ok2 : GOk (kop md G o).G
  put : o.k = 1 → gtB o.rev md = true
  tomb : o.k = 2 → (G.getLastD g0).2.2 ≠ [] → gtB o.rev md = true
  rest : o.k = 3 ∨ o.k = 4 → G = []
  asks : o.k = 2 ∨ (5 ≤ o.k ∧ o.k ≤ 8) → Asks G
theorem cpM_len {t : Int} : (cpM t G []).length ≤ 1 := by
  unfold cpM wkM
  split
  · simp
  · simp [mset]
theorem mdel_len {m : List (Rv × Unit)} {k : Rv} (h : m.length ≤ 1) : (mdel m k).length ≤ 1 := by
  cases m with
  | nil => exact h
  | cons a m =>
    have : m = [] := List.eq_nil_of_length_eq_zero (by simp at h; rw [h]; rfl)
    subst this
    obtain ⟨a, u⟩ := a
    unfold mdel
    split
    · simp
    · simp [mdel]
theorem keepM_len {t : Int} : (keepM t G []).length ≤ 1 := by
  unfold keepM
  split
  · exact cpM_len
  · split
    · exact mdel_len cpM_len
    · exact cpM_len
theorem sStep_ge {t : Int} : ∀ {rs : List Rv} {st : List Rv × Int}, (rs.foldl (sStep t) st).1.length ≤ st.1.length + rs.length := by
  intro rs
  induction rs with
  | nil => intro st; exact Nat.le_refl _
  | cons r rs ih =>
    intro st
    have h2 := ih (st := sStep t st r)
    have h3 := sStep_len (t := t) (st := st) (r := r)
    simp only [List.foldl_cons, List.length_cons]
    omega
theorem sinceG_len {t : Int} (h : (G.flatMap (·.2.2)).length < 1000000) : (sinceG t G).length < 1000000 := by
  have h1 := sStep_ge (t := t) (rs := (G.drop (sgi t G (G.length - 1))).flatMap (·.2.2)) (st := ([], 0))
  have e1 : G.flatMap (·.2.2) = (G.take (sgi t G (G.length - 1))).flatMap (·.2.2) ++ (G.drop (sgi t G (G.length - 1))).flatMap (·.2.2) := by
    rw [← List.flatMap_append, List.take_append_drop]
  rw [e1, List.length_append] at h
  unfold sinceG
  simp only [List.length_nil, Nat.zero_add] at h1
  omega
theorem keyed_ok {o : KO} (P : KPre md G o) (S : KiS H kb key md G l) : CallsH Try.prog 22 ⟨[zV kb, .agg ⟨o.cells⟩]⟩ H
    (fun e H1 => ∃ x : KA, x.an = kop md G o ∧ e = .returned (.agg ⟨x.cells⟩) ∧ KiS H1 kb key (kop md G o).md (kop md G o).G (kaP 0 x :: l)) := by
  obtain ⟨ok, ok2, hput, htomb, hrest, hask⟩ := P
  obtain ⟨p, n, c, X, hX, S⟩ := S
  refine F22.calls ?_
  unfold F22.go
  (repeat (first | (refine Step.go ?_; intros) | refine iteB_t (by decide) ?_ | refine iteB_f (by decide) ?_ | (refine Duo.mk (by first | omega | exact rfl | decide) ?_; intros) | (refine Duo.mk (Clo.mk (by kernel_rfl)) ?_; intros)))
  rename_i r _ _ r1 _ _ s4 _ _ s5 _ _ _ _ _ _ _ _ _ _ _ _ _ _ _ _ _ _ _ _ H1 S1
  have S2 : KiS H1 kb key md G (pt r (.cells ⟨[.pointer (some ⟨kb, 0, none⟩)]⟩ 57) :: pt s4 (.cells ⟨ka0⟩ 42) :: pt s5 (.cells ⟨ka0⟩ 42) :: pt r1 (.cells ⟨o.cells⟩ 39) :: l) := ⟨p, n, c, X, hX, S1.to Fits.out⟩
  clear S1
  have fin : ∀ (ok : Bool) (mod cr : Rv) (ver : Int) (revs : List Rv) (rp : Option Addr) (rc : Nat) (md' : Rv) (G' : List Gn) (H' : Heap), kop md G o = ⟨ok, mod, cr, ver, revs, md', G'⟩ →
      KiS H' kb key md' G' (pt r (.cells ⟨[.pointer (some ⟨kb, 0, none⟩)]⟩ 57) :: pt s4 (.cells ⟨ka0⟩ 42) :: pt s5 (.cells ⟨[.bool ok, .int .i64 mod.1, .int .i64 mod.2, .int .i64 cr.1, .int .i64 cr.2, .int .i64 ver, .slice rp revs.length rc, .int .i64 0, .int .i64 0, .slice none 0 0]⟩ 42) :: sl rvC 31 2 rp revs.length rc revs :: pt r1 (.cells ⟨o.cells⟩ 39) :: l) →
      F22.L0 r s4 s5 H' (fun e H1 => ∃ x : KA, x.an = kop md G o ∧ e = .returned (.agg ⟨x.cells⟩) ∧ KiS H1 kb key (kop md G o).md (kop md G o).G (kaP 0 x :: l)) := by
    intro ok mod cr ver revs rp rc md' G' H' hk S3
    rw [hk] at ok2 ⊢
    refine GoL.mono (keyed_tail ok2 S3) ?_
    rintro e H2 ⟨x, h1, h2, S4⟩
    exact ⟨x, h1, h2, S4.to (.cons (.drop .refl))⟩
  have fin0 : ∀ (ok : Bool) (mod cr : Rv) (ver : Int) (md' : Rv) (G' : List Gn) (H' : Heap), kop md G o = ⟨ok, mod, cr, ver, [], md', G'⟩ →
      KiS H' kb key md' G' (pt r (.cells ⟨[.pointer (some ⟨kb, 0, none⟩)]⟩ 57) :: pt s4 (.cells ⟨ka0⟩ 42) :: pt s5 (.cells ⟨[.bool ok, .int .i64 mod.1, .int .i64 mod.2, .int .i64 cr.1, .int .i64 cr.2, .int .i64 ver, .slice none 0 0, .int .i64 0, .int .i64 0, .slice none 0 0]⟩ 42) :: pt r1 (.cells ⟨o.cells⟩ 39) :: l) →
      F22.L0 r s4 s5 H' (fun e H1 => ∃ x : KA, x.an = kop md G o ∧ e = .returned (.agg ⟨x.cells⟩) ∧ KiS H1 kb key (kop md G o).md (kop md G o).G (kaP 0 x :: l)) := by
    intro ok mod cr ver md' G' H' hk S3
    exact fin ok mod cr ver [] none 0 md' G' H' hk (S3.to (.cons (.cons (.cons (.slNil .refl)))))
  obtain ⟨p, n, c, X, hX, S1⟩ := S2
  refine iteB_i (fun h1 => ?_) (fun h1 => ?_)
  · have h1 := eq_of_beq h1
    have ek : kop md G o = ⟨true, z0, z0, 0, [], o.rev, putGs G o.rev⟩ := by unfold kop; rw [if_pos h1]
    (repeat (first | (refine Step.go ?_; intros) | refine iteB_t (by decide) ?_ | refine iteB_f (by decide) ?_ | (refine Duo.mk (by first | omega | exact rfl | decide) ?_; intros) | (refine Duo.mk (Clo.mk (by kernel_rfl)) ?_; intros)))
    refine gives_i S1 (revIn_ok (r := o.rev)) ?_
    intro H2 E2 S3
    (repeat (first | (refine Step.go ?_; intros) | refine iteB_t (by decide) ?_ | refine iteB_f (by decide) ?_ | (refine Duo.mk (by first | omega | exact rfl | decide) ?_; intros) | (refine Duo.mk (Clo.mk (by kernel_rfl)) ?_; intros)))
    refine call_of (mPut ok (hput h1) ⟨p, n, c, X, hX, S3⟩) ?_
    rintro e H3 ⟨rfl, p, n, c, X, hX, S4⟩
    (repeat (first | (refine Step.go ?_; intros) | refine iteB_t (by decide) ?_ | refine iteB_f (by decide) ?_ | (refine Duo.mk (by first | omega | exact rfl | decide) ?_; intros) | (refine Duo.mk (Clo.mk (by kernel_rfl)) ?_; intros)))
    rename_i H5 S5
    exact fin0 _ _ _ _ _ _ H5 ek ⟨p, n, c, X, hX, S5⟩
  have n1 : ¬ o.k = 1 := by simpa using h1
  refine iteB_i (fun h2 => ?_) (fun h2 => ?_)
  · have h2 := eq_of_beq h2
    have A := hask (.inl h2)
    have ek : kop md G o = (if (G.getLastD g0).2.2 = [] then ⟨false, z0, z0, 0, [], md, G⟩ else ⟨true, z0, z0, 0, [], o.rev, putGs G o.rev ++ [g0]⟩) := by unfold kop; rw [if_neg n1, if_pos h2]
    (repeat (first | (refine Step.go ?_; intros) | refine iteB_t (by decide) ?_ | refine iteB_f (by decide) ?_ | (refine Duo.mk (by first | omega | exact rfl | decide) ?_; intros) | (refine Duo.mk (Clo.mk (by kernel_rfl)) ?_; intros)))
    refine gives_i S1 (revIn_ok (r := o.rev)) ?_
    intro H2 E2 S3
    (repeat (first | (refine Step.go ?_; intros) | refine iteB_t (by decide) ?_ | refine iteB_f (by decide) ?_ | (refine Duo.mk (by first | omega | exact rfl | decide) ?_; intros) | (refine Duo.mk (Clo.mk (by kernel_rfl)) ?_; intros)))
    refine call_of (mTomb ok A.ne A.ne2 (htomb h2) ⟨p, n, c, X, hX, S3⟩) ?_
    intro e H3 h
    by_cases h0 : (G.getLastD g0).2.2 = []
    · rw [if_pos h0] at h ek
      obtain ⟨⟨v, rfl⟩, p, n, c, X, hX, S4⟩ := h
      (repeat (first | (refine Step.go ?_; intros) | refine iteB_t (by decide) ?_ | refine iteB_f (by decide) ?_ | (refine Duo.mk (by first | omega | exact rfl | decide) ?_; intros) | (refine Duo.mk (Clo.mk (by kernel_rfl)) ?_; intros)))
      refine ifNil_mk ?_
      (repeat (first | (refine Step.go ?_; intros) | refine iteB_t (by decide) ?_ | refine iteB_f (by decide) ?_ | (refine Duo.mk (by first | omega | exact rfl | decide) ?_; intros) | (refine Duo.mk (Clo.mk (by kernel_rfl)) ?_; intros)))
      rename_i H5 S5
      exact fin0 _ _ _ _ _ _ H5 ek ⟨p, n, c, X, hX, S5⟩
    · rw [if_neg h0] at h ek
      obtain ⟨rfl, p, n, c, X, hX, S4⟩ := h
      (repeat (first | (refine Step.go ?_; intros) | refine iteB_t (by decide) ?_ | refine iteB_f (by decide) ?_ | (refine Duo.mk (by first | omega | exact rfl | decide) ?_; intros) | (refine Duo.mk (Clo.mk (by kernel_rfl)) ?_; intros)))
      refine ifNil_nil ?_
      (repeat (first | (refine Step.go ?_; intros) | refine iteB_t (by decide) ?_ | refine iteB_f (by decide) ?_ | (refine Duo.mk (by first | omega | exact rfl | decide) ?_; intros) | (refine Duo.mk (Clo.mk (by kernel_rfl)) ?_; intros)))
      rename_i H5 S5
      exact fin0 _ _ _ _ _ _ H5 ek ⟨p, n, c, X, hX, S5⟩
  have n2 : ¬ o.k = 2 := by simpa using h2
  refine iteB_i (fun h3 => ?_) (fun h3 => ?_)
  · have h3 := eq_of_beq h3
    obtain rfl := hrest (.inl h3)
    have ek : kop md [] o = ⟨true, z0, z0, 0, [], o.rev, [(o.ver, o.cr, [o.rev])]⟩ := by unfold kop; rw [if_neg n1, if_neg n2, if_pos h3]
    (repeat (first | (refine Step.go ?_; intros) | refine iteB_t (by decide) ?_ | refine iteB_f (by decide) ?_ | (refine Duo.mk (by first | omega | exact rfl | decide) ?_; intros) | (refine Duo.mk (Clo.mk (by kernel_rfl)) ?_; intros)))
    refine gives_i S1 (revIn_ok (r := o.cr)) ?_
    intro H2 E2 S3
    (repeat (first | (refine Step.go ?_; intros) | refine iteB_t (by decide) ?_ | refine iteB_f (by decide) ?_ | (refine Duo.mk (by first | omega | exact rfl | decide) ?_; intros) | (refine Duo.mk (Clo.mk (by kernel_rfl)) ?_; intros)))
    refine gives_i S3 (revIn_ok (r := o.rev)) ?_
    intro H3 E3 S4
    (repeat (first | (refine Step.go ?_; intros) | refine iteB_t (by decide) ?_ | refine iteB_f (by decide) ?_ | (refine Duo.mk (by first | omega | exact rfl | decide) ?_; intros) | (refine Duo.mk (Clo.mk (by kernel_rfl)) ?_; intros)))
    refine call_of (mRestore ⟨p, n, c, X, hX, S4⟩) ?_
    rintro e H4 ⟨rfl, p, n, c, X, hX, S4⟩
    (repeat (first | (refine Step.go ?_; intros) | refine iteB_t (by decide) ?_ | refine iteB_f (by decide) ?_ | (refine Duo.mk (by first | omega | exact rfl | decide) ?_; intros) | (refine Duo.mk (Clo.mk (by kernel_rfl)) ?_; intros)))
    rename_i H5 S5
    exact fin0 _ _ _ _ _ _ H5 ek ⟨p, n, c, X, hX, S5⟩
  have n3 : ¬ o.k = 3 := by simpa using h3
  refine iteB_i (fun h4 => ?_) (fun h4 => ?_)
  · have h4 := eq_of_beq h4
    obtain rfl := hrest (.inr h4)
    have ek : kop md [] o = ⟨true, z0, z0, 0, [], o.rev, [(1, (0, 0), [o.rev]), g0]⟩ := by unfold kop; rw [if_neg n1, if_neg n2, if_neg n3, if_pos h4]
    (repeat (first | (refine Step.go ?_; intros) | refine iteB_t (by decide) ?_ | refine iteB_f (by decide) ?_ | (refine Duo.mk (by first | omega | exact rfl | decide) ?_; intros) | (refine Duo.mk (Clo.mk (by kernel_rfl)) ?_; intros)))
    refine gives_i S1 (revIn_ok (r := o.rev)) ?_
    intro H2 E2 S3
    (repeat (first | (refine Step.go ?_; intros) | refine iteB_t (by decide) ?_ | refine iteB_f (by decide) ?_ | (refine Duo.mk (by first | omega | exact rfl | decide) ?_; intros) | (refine Duo.mk (Clo.mk (by kernel_rfl)) ?_; intros)))
    refine call_of (mRestTomb ⟨p, n, c, X, hX, S3⟩) ?_
    rintro e H3 ⟨rfl, p, n, c, X, hX, S4⟩
    (repeat (first | (refine Step.go ?_; intros) | refine iteB_t (by decide) ?_ | refine iteB_f (by decide) ?_ | (refine Duo.mk (by first | omega | exact rfl | decide) ?_; intros) | (refine Duo.mk (Clo.mk (by kernel_rfl)) ?_; intros)))
    rename_i H5 S5
    exact fin0 _ _ _ _ _ _ H5 ek ⟨p, n, c, X, hX, S5⟩
  have n4 : ¬ o.k = 4 := by simpa using h4
  refine iteB_i (fun h5 => ?_) (fun h5 => ?_)
  · have h5 := eq_of_beq h5
    have A := hask (.inr ⟨by omega, by omega⟩)
    have ek : kop md G o = (match getG o.t G with | none => ⟨false, z0, z0, 0, [], md, G⟩ | some x => ⟨true, x.1, x.2.1, x.2.2, [], md, G⟩) := by unfold kop; rw [if_neg n1, if_neg n2, if_neg n3, if_neg n4, if_pos h5]
    (repeat (first | (refine Step.go ?_; intros) | refine iteB_t (by decide) ?_ | refine iteB_f (by decide) ?_ | (refine Duo.mk (by first | omega | exact rfl | decide) ?_; intros) | (refine Duo.mk (Clo.mk (by kernel_rfl)) ?_; intros)))
    refine call_of (mGet ok A.ne A.ne2 ⟨p, n, c, X, hX, S1⟩) ?_
    rintro e H2 ⟨h, p, n, c, X, hX, S3⟩
    cases hg : getG o.t G with
    | none =>
      rw [hg] at h ek
      obtain ⟨v, rfl⟩ := h
      unfold rvV
      (repeat (first | (refine Step.go ?_; intros) | refine iteB_t (by decide) ?_ | refine iteB_f (by decide) ?_ | (refine Duo.mk (by first | omega | exact rfl | decide) ?_; intros) | (refine Duo.mk (Clo.mk (by kernel_rfl)) ?_; intros)))
      refine ifNil_mk ?_
      (repeat (first | (refine Step.go ?_; intros) | refine iteB_t (by decide) ?_ | refine iteB_f (by decide) ?_ | (refine Duo.mk (by first | omega | exact rfl | decide) ?_; intros) | (refine Duo.mk (Clo.mk (by kernel_rfl)) ?_; intros)))
      refine gives_i ‹_› (revOut_ok (r := z0)) ?_
      intro H5 E5 S5
      (repeat (first | (refine Step.go ?_; intros) | refine iteB_t (by decide) ?_ | refine iteB_f (by decide) ?_ | (refine Duo.mk (by first | omega | exact rfl | decide) ?_; intros) | (refine Duo.mk (Clo.mk (by kernel_rfl)) ?_; intros)))
      refine gives_i S5 (revOut_ok (r := z0)) ?_
      intro H6 E6 S6
      (repeat (first | (refine Step.go ?_; intros) | refine iteB_t (by decide) ?_ | refine iteB_f (by decide) ?_ | (refine Duo.mk (by first | omega | exact rfl | decide) ?_; intros) | (refine Duo.mk (Clo.mk (by kernel_rfl)) ?_; intros)))
      rename_i H7 S7
      exact fin0 _ _ _ _ _ _ H7 ek ⟨p, n, c, X, hX, S7.to Fits.out⟩
    | some x =>
      rw [hg] at h ek
      obtain rfl := h
      unfold rvV
      (repeat (first | (refine Step.go ?_; intros) | refine iteB_t (by decide) ?_ | refine iteB_f (by decide) ?_ | (refine Duo.mk (by first | omega | exact rfl | decide) ?_; intros) | (refine Duo.mk (Clo.mk (by kernel_rfl)) ?_; intros)))
      refine ifNil_nil ?_
      (repeat (first | (refine Step.go ?_; intros) | refine iteB_t (by decide) ?_ | refine iteB_f (by decide) ?_ | (refine Duo.mk (by first | omega | exact rfl | decide) ?_; intros) | (refine Duo.mk (Clo.mk (by kernel_rfl)) ?_; intros)))
      refine gives_i ‹_› (revOut_ok (r := x.1)) ?_
      intro H5 E5 S5
      (repeat (first | (refine Step.go ?_; intros) | refine iteB_t (by decide) ?_ | refine iteB_f (by decide) ?_ | (refine Duo.mk (by first | omega | exact rfl | decide) ?_; intros) | (refine Duo.mk (Clo.mk (by kernel_rfl)) ?_; intros)))
      refine gives_i S5 (revOut_ok (r := x.2.1)) ?_
      intro H6 E6 S6
      (repeat (first | (refine Step.go ?_; intros) | refine iteB_t (by decide) ?_ | refine iteB_f (by decide) ?_ | (refine Duo.mk (by first | omega | exact rfl | decide) ?_; intros) | (refine Duo.mk (Clo.mk (by kernel_rfl)) ?_; intros)))
      rename_i H7 S7
      exact fin0 _ _ _ _ _ _ H7 ek ⟨p, n, c, X, hX, S7.to Fits.out⟩
  have n5 : ¬ o.k = 5 := by simpa using h5
  refine iteB_i (fun h6 => ?_) (fun h6 => ?_)
  · have h6 := eq_of_beq h6
    have A := hask (.inr ⟨by omega, by omega⟩)
    have ek : kop md G o = ⟨false, z0, z0, 0, sinceG o.t G, md, G⟩ := by unfold kop; rw [if_neg n1, if_neg n2, if_neg n3, if_neg n4, if_neg n5, if_pos h6]
    (repeat (first | (refine Step.go ?_; intros) | refine iteB_t (by decide) ?_ | refine iteB_f (by decide) ?_ | (refine Duo.mk (by first | omega | exact rfl | decide) ?_; intros) | (refine Duo.mk (Clo.mk (by kernel_rfl)) ?_; intros)))
    refine call_of (mSince ok A.tot A.pos A.ne A.ne2 ⟨p, n, c, X, hX, S1⟩) ?_
    rintro e H2 ⟨q, m, k, rfl, p, n, c, X, hX, S3⟩
    have S4 : Sat H2 (sl rvC 60 2 q m k (sinceG o.t G) :: kis kb key md p n c X (pt r (.cells ⟨[.pointer (some ⟨kb, 0, none⟩)]⟩ 57) :: pt s4 (.cells ⟨ka0⟩ 42) :: pt s5 (.cells ⟨ka0⟩ 42) :: pt r1 (.cells ⟨o.cells⟩ 39) :: l)) := S3.to Fits.out
    clear S3
    have hm := (S4.slLen (List.mem_cons_self ..)).1
    have hm2 := sinceG_len (t := o.t) A.tot
    subst hm
    (repeat (first | (refine Step.go ?_; intros) | refine iteB_t (by decide) ?_ | refine iteB_f (by decide) ?_ | (refine Duo.mk (by first | omega | exact rfl | decide) ?_; intros) | (refine Duo.mk (Clo.mk (by kernel_rfl)) ?_; intros)))
    refine grow_i S4 (revsOut_ok (rs := sinceG o.t G) (S4.rowsAt (List.mem_cons_self ..)) rfl hm2) ?_
    rintro ⟨q2, k2⟩ H3 E3 S5
    simp only [List.cons_append, List.nil_append] at S5 ⊢
    (repeat (first | (refine Step.go ?_; intros) | refine iteB_t (by decide) ?_ | refine iteB_f (by decide) ?_ | (refine Duo.mk (by first | omega | exact rfl | decide) ?_; intros) | (refine Duo.mk (Clo.mk (by kernel_rfl)) ?_; intros)))
    rename_i H7 S7
    exact fin _ _ _ _ _ q2 k2 _ _ H7 ek ⟨p, n, c, X, hX, S7.to Fits.out⟩
  have n6 : ¬ o.k = 6 := by simpa using h6
  refine iteB_i (fun h7 => ?_) (fun h7 => ?_)
  · have h7 := eq_of_beq h7
    have A := hask (.inr ⟨by omega, by omega⟩)
    have ek : kop md G o = ⟨false, z0, z0, 0, (cpM o.t G []).map (·.1), md, compactG o.t G⟩ := by unfold kop; rw [if_neg n1, if_neg n2, if_neg n3, if_neg n4, if_neg n5, if_neg n6, if_pos h7]
    (repeat (first | (refine Step.go ?_; intros) | refine iteB_t (by decide) ?_ | refine iteB_f (by decide) ?_ | (refine Duo.mk (by first | omega | exact rfl | decide) ?_; intros) | (refine Duo.mk (Clo.mk (by kernel_rfl)) ?_; intros)))
    refine call_of (mCompact ok A.ne A.ne2 A.ne3 ⟨p, n, c, X, hX, S1⟩) ?_
    rintro e H2 ⟨mr, rfl, p, n, c, X, hX, S3⟩
    have S4 : Sat H2 (rmp mr (cpM o.t G []) :: kis kb key md p n c X (pt r (.cells ⟨[.pointer (some ⟨kb, 0, none⟩)]⟩ 57) :: pt s4 (.cells ⟨ka0⟩ 42) :: pt s5 (.cells ⟨ka0⟩ 42) :: pt r1 (.cells ⟨o.cells⟩ 39) :: l)) := S3.to Fits.out
    clear S3
    (repeat (first | (refine Step.go ?_; intros) | refine iteB_t (by decide) ?_ | refine iteB_f (by decide) ?_ | (refine Duo.mk (by first | omega | exact rfl | decide) ?_; intros) | (refine Duo.mk (Clo.mk (by kernel_rfl)) ?_; intros)))
    refine call_of (kept_ok cpM_len S4) ?_
    rintro e H3 ⟨q2, k2, rfl, S5⟩
    (repeat (first | (refine Step.go ?_; intros) | refine iteB_t (by decide) ?_ | refine iteB_f (by decide) ?_ | (refine Duo.mk (by first | omega | exact rfl | decide) ?_; intros) | (refine Duo.mk (Clo.mk (by kernel_rfl)) ?_; intros)))
    rename_i H7 S7
    rw [show (cpM o.t G []).length = ((cpM o.t G []).map (·.1)).length by simp] at S7
    exact fin _ _ _ _ _ q2 k2 _ _ H7 ek ⟨p, n, c, X, hX, S7.to Fits.out⟩
  have n7 : ¬ o.k = 7 := by simpa using h7
  refine iteB_i (fun h8 => ?_) (fun h8 => ?_)
  · have h8 := eq_of_beq h8
    have A := hask (.inr ⟨by omega, by omega⟩)
    have ek : kop md G o = ⟨false, z0, z0, 0, (keepM o.t G []).map (·.1), md, G⟩ := by unfold kop; rw [if_neg n1, if_neg n2, if_neg n3, if_neg n4, if_neg n5, if_neg n6, if_neg n7, if_pos h8]
    (repeat (first | (refine Step.go ?_; intros) | refine iteB_t (by decide) ?_ | refine iteB_f (by decide) ?_ | (refine Duo.mk (by first | omega | exact rfl | decide) ?_; intros) | (refine Duo.mk (Clo.mk (by kernel_rfl)) ?_; intros)))
    refine call_of (mKeep ok A.ne A.ne2 A.ne3 ⟨p, n, c, X, hX, S1⟩) ?_
    rintro e H2 ⟨mr, rfl, p, n, c, X, hX, S3⟩
    have S4 : Sat H2 (rmp mr (keepM o.t G []) :: kis kb key md p n c X (pt r (.cells ⟨[.pointer (some ⟨kb, 0, none⟩)]⟩ 57) :: pt s4 (.cells ⟨ka0⟩ 42) :: pt s5 (.cells ⟨ka0⟩ 42) :: pt r1 (.cells ⟨o.cells⟩ 39) :: l)) := S3.to Fits.out
    clear S3
    (repeat (first | (refine Step.go ?_; intros) | refine iteB_t (by decide) ?_ | refine iteB_f (by decide) ?_ | (refine Duo.mk (by first | omega | exact rfl | decide) ?_; intros) | (refine Duo.mk (Clo.mk (by kernel_rfl)) ?_; intros)))
    refine call_of (kept_ok keepM_len S4) ?_
    rintro e H3 ⟨q2, k2, rfl, S5⟩
    (repeat (first | (refine Step.go ?_; intros) | refine iteB_t (by decide) ?_ | refine iteB_f (by decide) ?_ | (refine Duo.mk (by first | omega | exact rfl | decide) ?_; intros) | (refine Duo.mk (Clo.mk (by kernel_rfl)) ?_; intros)))
    rename_i H7 S7
    rw [show (keepM o.t G []).length = ((keepM o.t G []).map (·.1)).length by simp] at S7
    exact fin _ _ _ _ _ q2 k2 _ _ H7 ek ⟨p, n, c, X, hX, S7.to Fits.out⟩
  have n8 : ¬ o.k = 8 := by simpa using h8
  refine iteB_i (fun h9 => ?_) (fun h9 => ?_)
  · have h9 := eq_of_beq h9
    have ek : kop md G o = ⟨decide (G.map (·.2.2) = [[]]), z0, z0, 0, [], md, G⟩ := by unfold kop; rw [if_neg n1, if_neg n2, if_neg n3, if_neg n4, if_neg n5, if_neg n6, if_neg n7, if_neg n8, if_pos h9]
    (repeat (first | (refine Step.go ?_; intros) | refine iteB_t (by decide) ?_ | refine iteB_f (by decide) ?_ | (refine Duo.mk (by first | omega | exact rfl | decide) ?_; intros) | (refine Duo.mk (Clo.mk (by kernel_rfl)) ?_; intros)))
    refine call_of (mEmpty ⟨p, n, c, X, hX, S1⟩) ?_
    rintro e H2 ⟨rfl, p, n, c, X, hX, S3⟩
    (repeat (first | (refine Step.go ?_; intros) | refine iteB_t (by decide) ?_ | refine iteB_f (by decide) ?_ | (refine Duo.mk (by first | omega | exact rfl | decide) ?_; intros) | (refine Duo.mk (Clo.mk (by kernel_rfl)) ?_; intros)))
    rename_i H7 S7
    exact fin0 _ _ _ _ _ _ H7 ek ⟨p, n, c, X, hX, S7⟩
  have n9 : ¬ o.k = 9 := by simpa using h9
  have ek : kop md G o = ⟨false, z0, z0, 0, [], md, G⟩ := by unfold kop; rw [if_neg n1, if_neg n2, if_neg n3, if_neg n4, if_neg n5, if_neg n6, if_neg n7, if_neg n8, if_neg n9]
  exact fin0 _ _ _ _ _ _ H1 ek ⟨p, n, c, X, hX, S1⟩
end
end Go.Proofs.Ytpjnmdeeoafclaa
