/- What functions of this seat do, each proved by a walk; no condition. -/
import Derived.Test.YtpjnmdeeoafclaaKS
import Derived.Test.YtpjnmdeeoafclaaKT
set_option linter.unusedVariables false
set_option linter.unusedSimpArgs false
namespace Go.Proofs.Ytpjnmdeeoafclaa
open Go Go.Den Go.Proofs
/-! A key's index at work. -/
def krun (md : Rv) (G : List Gn) : List KO → List An
  | [] => []
  | o :: os => kop md G o :: krun (kop md G o).md (kop md G o).G os
def KPres (md : Rv) (G : List Gn) : List KO → Prop
  | [] => True
  | o :: os => KPre md G o ∧ KPres (kop md G o).md (kop md G o).G os
theorem fine_sat {g : FuncId} {first cap : List Value} {H : Heap} {l : List HP} {ι : Type} {m : ι → List HP} {φ : ι → Prop} (hg : fnOk Try.prog g = true) (S : Sat H l)
    (hc : ∀ r H1, Sat H1 (pt r (.cells ⟨[.bool false]⟩ 4) :: l) → CallsH Try.prog g ⟨first ++ cap⟩ H1 (fun e H2 => (∃ v, e = .returned v) ∧ ∃ x, φ x ∧ Sat H2 (pt r (.cells ⟨[.bool false]⟩ 4) :: m x))) :
    CallsH Try.prog 20 ⟨[.func (.func g) ⟨first⟩ ⟨cap⟩]⟩ H (fun e H2 => e = .returned (.bool true) ∧ ∃ x, φ x ∧ Sat H2 (m x)) := by
  refine fine_ok g first cap H _ ?_ hg
  rintro r H1 rfl rfl
  refine CallsH.mono (hc _ _ (S.push _)) ?_
  rintro e H2 ⟨⟨v, rfl⟩, x, hx, S2⟩
  refine ⟨S2.at_ (List.mem_cons_self ..), fun H3 u => ⟨rfl, x, hx, (S2.upd u).to (.drop .refl)⟩⟩
abbrev kaL (q : Option Addr) (n k : Nat) (xs : List KA) (l : List HP) : List HP := sl KA.cells 42 10 q n k xs :: star (bigs kaP 0 xs) :: l
theorem bigs_ka : ∀ {X : List KA} {k : Nat}, bigs kaP k X = X.map (kaP 0) := by
  intro X
  induction X with
  | nil => intro k; rfl
  | cons x X ih => intro k; unfold bigs; rw [ih]; rfl
theorem ka_snoc {Y : List KA} {y : KA} {l : List HP} : Ent (kaP 0 y :: star (bigs kaP 0 Y) :: l) (star (bigs kaP 0 (Y ++ [y])) :: l) := by
  rw [bigs_ka, bigs_ka, List.map_append]
  refine Ent.trans (Ent.consStar) ?_
  exact .starPerm (List.perm_append_comm (l₁ := [kaP 0 y]))
section
variable {kb : Nat} {key : Value} {l : List HP} {H0 : Heap} {s : Option Addr} {c : Nat} {ops : List KO}
abbrev kst (r1 r4 r3 kb : Nat) (s : Option Addr) (n c : Nat) (q : Option Addr) (i k : Nat) (xs : List KA) (l : List HP) : List HP := pt r1 (.cells ⟨[.slice s n c]⟩ 22) :: pt r4 (.cells ⟨[.slice q i k]⟩ 24) :: pt r3 (.cells ⟨[.pointer (some ⟨kb, 0, none⟩)]⟩ 57) :: kaL q i k xs l
theorem key_loop [O : OldAt l H0] [R0 : RowsC H0 s KO.cells 7 ops] {r1 r4 r3 : Nat} (hn : ops.length < 1000000) : ∀ (d i : Nat) (Z : Int) (md : Rv) (G : List Gn) (xs : List KA) (q : Option Addr) (k : Nat) (H : Heap), i + d = ops.length → Z = (i : Int) → xs.length = i → KPres md G (ops.drop i) →
    KiS H kb key md G (kst r1 r4 r3 kb s ops.length c q i k xs l) →
    G21.L0 ⟨r1, 0, none⟩ ⟨r4, 0, none⟩ ⟨r3, 0, none⟩ Z H (fun e H1 => (∃ v, e = .returned v) ∧ ∃ xs' q' k' md' G', xs'.map KA.an = xs.map KA.an ++ krun md G (ops.drop i) ∧ KiS H1 kb key md' G' (kst r1 r4 r3 kb s ops.length c q' xs'.length k' xs' l)) := by
  intro d
  induction d with
  | zero =>
    intro i Z md G xs q k H hi hZ hx hP S
    subst hZ
    subst hx
    have S0 := S
    obtain ⟨p, n, c1, X, hX, S⟩ := S
    refine G21.L0_step ?_
    unfold G21.L0n
    (repeat (first | (refine Step.go ?_; intros) | refine iteB_t (by decide) ?_ | refine iteB_f (by decide) ?_ | (refine Duo.mk (by first | omega | exact rfl | decide) ?_; intros) | (refine Duo.mk (Clo.mk (by kernel_rfl)) ?_; intros)))
    refine iteB_f (by rw [decide_eq_false_iff_not]; omega) ?_
    rw [List.drop_eq_nil_of_le (by omega)]
    exact ⟨⟨_, rfl⟩, xs, q, k, md, G, by simp [krun], S0⟩
  | succ d ih =>
    intro i Z md G xs q k H hi hZ hx hP S
    subst hZ
    obtain ⟨o, ho⟩ := get_of (l := ops) (i := i) (by omega)
    have ed : ops.drop i = o :: ops.drop (i + 1) := by
      have h5 := List.getElem?_eq_some_iff.1 ho
      rw [List.drop_eq_getElem_cons h5.1, h5.2]
    rw [ed] at hP ⊢
    obtain ⟨hP1, hP2⟩ := hP
    have A1 : HasI ops (i : Int) o := ⟨by simpa using ho⟩
    have w1 : IntKind.wrap .i64 ((i : Int) + 1) = ((i + 1 : Nat) : Int) := by rw [wr (by omega) (by omega)]; omega
    have nxt : ∀ (x : KA) (q' : Option Addr) (k' : Nat) (H' : Heap), x.an = kop md G o → KiS H' kb key (kop md G o).md (kop md G o).G (kst r1 r4 r3 kb s ops.length c q' (i + 1) k' (xs ++ [x]) l) →
        G21.L1 ⟨r1, 0, none⟩ ⟨r4, 0, none⟩ ⟨r3, 0, none⟩ (i : Int) H' (fun e H1 => (∃ v, e = .returned v) ∧ ∃ xs' q' k' md' G', xs'.map KA.an = xs.map KA.an ++ krun md G (o :: ops.drop (i + 1)) ∧ KiS H1 kb key md' G' (kst r1 r4 r3 kb s ops.length c q' xs'.length k' xs' l)) := by
      intro x q' k' H' hxa S'
      refine G21.L1_step ?_
      unfold G21.L1n
      rw [w1]
      refine GoL.mono (ih (i + 1) _ _ _ (xs ++ [x]) q' k' H' (by omega) rfl (by simp [hx]) hP2 S') ?_
      rintro e H1 ⟨h1, xs', q2, k2, md2, G2, h2, S2⟩
      refine ⟨h1, xs', q2, k2, md2, G2, ?_, S2⟩
      rw [h2, List.map_append, List.append_assoc]
      show _ ++ ([x.an] ++ _) = _
      rw [hxa]
      rfl
    have S0 := S
    obtain ⟨p, n, c1, X, hX, S⟩ := S
    refine G21.L0_step ?_
    unfold G21.L0n
    (repeat (first | (refine Step.go ?_; intros) | refine iteB_t (by decide) ?_ | refine iteB_f (by decide) ?_ | (refine Duo.mk (by first | omega | exact rfl | decide) ?_; intros) | (refine Duo.mk (Clo.mk (by kernel_rfl)) ?_; intros)))
    refine iteB_t (by rw [decide_eq_true_iff]; omega) ?_
    refine ⟨?_, ?_⟩
    · (repeat (first | (refine Step.go ?_; intros) | refine iteB_t (by decide) ?_ | refine iteB_f (by decide) ?_ | (refine Duo.mk (by first | omega | exact rfl | decide) ?_; intros) | (refine Duo.mk (Clo.mk (by kernel_rfl)) ?_; intros)))
      refine R0.idx rfl ⟨by omega, by omega, ?_⟩
      rintro a rfl
      (repeat (first | (refine Step.go ?_; intros) | refine iteB_t (by decide) ?_ | refine iteB_f (by decide) ?_ | (refine Duo.mk (by first | omega | exact rfl | decide) ?_; intros) | (refine Duo.mk (Clo.mk (by kernel_rfl)) ?_; intros)))
      refine call_of (keyed_ok hP1 S0) ?_
      rintro e H1 ⟨x, hxa, rfl, p2, n2, c2, X2, hX2, S2⟩
      have EN : Enc KA.cells x.cells x := ⟨rfl⟩
      (repeat (first | (refine Step.go ?_; intros) | refine iteB_t (by decide) ?_ | refine iteB_f (by decide) ?_ | (refine Duo.mk (by first | omega | exact rfl | decide) ?_; intros) | (refine Duo.mk (Clo.mk (by kernel_rfl)) ?_; intros)))
      rename_i q' k' _ _ H2 S3
      refine nxt x q' k' H2 hxa ⟨p2, n2, c2, X2, hX2, ?_⟩
      have S4 : Sat H2 (kaP 0 x :: star (bigs kaP 0 xs) :: sl KA.cells 42 10 q' (i + 1) k' (xs ++ [x]) :: kis kb key (kop md G o).md p2 n2 c2 X2 (pt r1 (.cells ⟨[.slice (some a) ops.length c]⟩ 22) :: pt r4 (.cells ⟨[.slice q' (i + 1) k']⟩ 24) :: pt r3 (.cells ⟨[.pointer (some ⟨kb, 0, none⟩)]⟩ 57) :: l)) := S3.to Fits.out
      exact (S4.to ka_snoc).to Fits.out
    · (repeat (first | (refine Step.go ?_; intros) | refine iteB_t (by decide) ?_ | refine iteB_f (by decide) ?_ | (refine Duo.mk (by first | omega | exact rfl | decide) ?_; intros) | (refine Duo.mk (Clo.mk (by kernel_rfl)) ?_; intros)))
      refine R0.idx rfl ⟨by omega, by omega, ?_⟩
      rintro a rfl
      (repeat (first | (refine Step.go ?_; intros) | refine iteB_t (by decide) ?_ | refine iteB_f (by decide) ?_ | (refine Duo.mk (by first | omega | exact rfl | decide) ?_; intros) | (refine Duo.mk (Clo.mk (by kernel_rfl)) ?_; intros)))
      refine call_of (keyed_ok hP1 S0) ?_
      rintro e H1 ⟨x, hxa, rfl, p2, n2, c2, X2, hX2, S2⟩
      have EN : Enc KA.cells x.cells x := ⟨rfl⟩
      (repeat (first | (refine Step.go ?_; intros) | refine iteB_t (by decide) ?_ | refine iteB_f (by decide) ?_ | (refine Duo.mk (by first | omega | exact rfl | decide) ?_; intros) | (refine Duo.mk (Clo.mk (by kernel_rfl)) ?_; intros)))
      rename_i q' k' _ _ H2 S3
      refine nxt x q' k' H2 hxa ⟨p2, n2, c2, X2, hX2, ?_⟩
      have S4 : Sat H2 (kaP 0 x :: star (bigs kaP 0 xs) :: sl KA.cells 42 10 q' (i + 1) k' (xs ++ [x]) :: kis kb key (kop md G o).md p2 n2 c2 X2 (pt r1 (.cells ⟨[.slice (some a) ops.length c]⟩ 22) :: pt r4 (.cells ⟨[.slice q' (i + 1) k']⟩ 24) :: pt r3 (.cells ⟨[.pointer (some ⟨kb, 0, none⟩)]⟩ 57) :: l)) := S3.to Fits.out
      exact (S4.to ka_snoc).to Fits.out
theorem key_ok {H : Heap} {md : Rv} {p : Option Addr} {pc : Nat} {X : List GX} {kt : ByteArray} (hn : ops.length < 1000000) (hG : GsAt H p X) (hX : X.length < 100000) (hr : ∀ x ∈ X, x.2.length < 100000) (hR : RowsAt KO.cells 7 H s ops) (hP : KPres md (X.map gx) ops) (hk : kt.size < 4611686018427387904) :
    CallsH Try.prog 9 ⟨[.string kt, .agg ⟨[.int .i64 md.1, .int .i64 md.2, .slice p X.length pc]⟩, .slice s ops.length c]⟩ H
      (fun e H1 => ∃ q k xs, xs.map KA.an = krun md (X.map gx) ops ∧ e = .returned (.tuple ⟨[.slice q xs.length k, .bool true]⟩) ∧ Sat H1 (kaL q xs.length k xs [old H])) := by
  have R0 : RowsC H s KO.cells 7 ops := ⟨hR⟩
  have S := Sat.start H
  refine F9.calls ?_
  unfold F9.go
  (repeat (first | (refine Step.go ?_; intros) | refine iteB_t (by decide) ?_ | refine iteB_f (by decide) ?_ | (refine Duo.mk (by first | omega | exact rfl | decide) ?_; intros) | (refine Duo.mk (Clo.mk (by kernel_rfl)) ?_; intros)))
  rename_i rd _ _ r1 _ _ kr kc H2 _ S2
  have E2 : ExtH H H2 := Sat.grown
  refine grow_i S2 (dumpIn_ok (md := md) (c := pc) (hG.ext E2) hX hr) ?_
  rintro ⟨⟨⟨gp, gc⟩, Z⟩, hZ⟩ H3 E3 S3
  dsimp only at hZ
  simp only [List.cons_append, List.nil_append, DI.l, DI.v, List.length_map] at S3 ⊢
  have hZl : Z.length = X.length := by have := congrArg List.length hZ; simpa using this
  have hZr : ∀ x ∈ Z, x.2.length < 100000 := by
    intro x hx
    have h1 : gx x ∈ X.map gx := by rw [← hZ]; exact List.mem_map_of_mem hx
    obtain ⟨y, hy, hy2⟩ := List.mem_map.1 h1
    have := hr y hy
    have e : x.2 = y.2 := by have := congrArg (fun g : Gn => g.2.2) hy2; exact this.symm
    rw [e]; exact this
  rw [← hZl] at S3 ⊢
  (repeat (first | (refine Step.go ?_; intros) | refine iteB_t (by decide) ?_ | refine iteB_f (by decide) ?_ | (refine Duo.mk (by first | omega | exact rfl | decide) ?_; intros) | (refine Duo.mk (Clo.mk (by kernel_rfl)) ?_; intros)))
  refine grow_i S3 (newKey_ok (md := md) (c := gc) (GsAt.of (T := 84) (U := 60) (n := Z.length) (c := gc) S3) (by omega) hZr) ?_
  rintro ⟨⟨⟨kb, q1, k1⟩, Y⟩, hY⟩ H4 E4 S4
  dsimp only at hY
  simp only [List.cons_append, List.nil_append, KI.l] at S4 ⊢
  (repeat (first | (refine Step.go ?_; intros) | refine iteB_t (by decide) ?_ | refine iteB_f (by decide) ?_ | (refine Duo.mk (by first | omega | exact rfl | decide) ?_; intros) | (refine Duo.mk (Clo.mk (by kernel_rfl)) ?_; intros)))
  rename_i r3 _ _ _ _ r4 H5 S5
  have S6 : Sat H5 (star (bigs kaP 0 []) :: pt r1 (.cells ⟨[.slice s ops.length c]⟩ 22) :: pt r4 (.cells ⟨[.slice none 0 0]⟩ 24) :: pt r3 (.cells ⟨[.pointer (some ⟨kb, 0, none⟩)]⟩ 57) :: kis kb (.slice (some ⟨kr, 0, none⟩) kt.size kc) md q1 (Z.map gx).length k1 Y [old H]) := S5.to (.star (by simp only [bigs, List.nil_append]; exact Fits.out))
  have S7 : Sat H5 (sl KA.cells 42 10 none 0 0 [] :: star (bigs kaP 0 []) :: pt r1 (.cells ⟨[.slice s ops.length c]⟩ 22) :: pt r4 (.cells ⟨[.slice none 0 0]⟩ 24) :: pt r3 (.cells ⟨[.pointer (some ⟨kb, 0, none⟩)]⟩ 57) :: kis kb (.slice (some ⟨kr, 0, none⟩) kt.size kc) md q1 (Z.map gx).length k1 Y [old H]) := S6.to (.slNil .refl)
  refine call_of (fine_sat (ι := Option Addr × Nat × List KA) (φ := fun x => x.2.2.map KA.an = krun md (X.map gx) ops) (m := fun x => pt r4 (.cells ⟨[.slice x.1 x.2.2.length x.2.1]⟩ 24) :: kaL x.1 x.2.2.length x.2.1 x.2.2 [old H]) (by kernel_rfl) S7 ?_) ?_
  · intro r H6 S8
    have S9 : KiS H6 kb (.slice (some ⟨kr, 0, none⟩) kt.size kc) md (X.map gx) (kst r1 r4 r3 kb s ops.length c none 0 0 [] (pt r (.cells ⟨[.bool false]⟩ 4) :: [old H])) := ⟨q1, (Z.map gx).length, k1, Y, by rw [hY, hZ], S8.to Fits.out⟩
    refine G21.calls ?_
    unfold G21.go
    refine GoL.mono (key_loop (H0 := H) hn ops.length 0 0 md (X.map gx) [] none 0 H6 (by omega) rfl rfl (by rw [List.drop_zero]; exact hP) S9) ?_
    rintro e H7 ⟨h1, xs', q', k', md', G', h2, p9, n9, c9, X9, hX9, S10⟩
    refine ⟨h1, (q', k', xs'), by rw [h2, List.drop_zero]; rfl, S10.to Fits.out⟩
  · rintro e H6 ⟨rfl, ⟨q, k, xs⟩, hx, S8⟩
    dsimp only at hx S8
    (repeat (first | (refine Step.go ?_; intros) | refine iteB_t (by decide) ?_ | refine iteB_f (by decide) ?_ | (refine Duo.mk (by first | omega | exact rfl | decide) ?_; intros) | (refine Duo.mk (Clo.mk (by kernel_rfl)) ?_; intros)))
    exact ⟨q, k, xs, hx, rfl, S8.to (.drop .refl)⟩
end
end Go.Proofs.Ytpjnmdeeoafclaa
