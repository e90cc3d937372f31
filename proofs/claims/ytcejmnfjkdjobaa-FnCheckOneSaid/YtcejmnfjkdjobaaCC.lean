/- What functions of this seat do, each proved by a walk; no condition. -/
import Derived.Test.YtcejmnfjkdjobaaCB
import Derived.Test.YtcejmnfjkdjobaaDen3
set_option linter.unusedVariables false
set_option linter.unusedSimpArgs false
set_option linter.unnecessarySimpa false
namespace Go.Proofs.Ytcejmnfjkdjobaa
open Go Go.Den Go.Proofs
/-! Key-values, as data and in memory. -/
theorem wr {i : Int} (h0 : -9223372036854775808 ≤ i) (h1 : i < 9223372036854775808) : IntKind.wrap .i64 i = i := wr64 h0 h1
theorem get_of {α : Type} {l : List α} {i : Nat} (h : i < l.length) : ∃ x, l[i]? = some x := ⟨l[i], List.getElem?_eq_getElem h⟩
structure KV where
  key : ByteArray
  val : ByteArray
  cr : Int
  md : Int
  ver : Int
  lease : Int
abbrev KV.cells (x : KV) : List Value := [.string x.key, .string x.val, .int .i64 x.cr, .int .i64 x.md, .int .i64 x.ver, .int .i64 x.lease]
instance {a b : ByteArray} {c d e f : Int} : Enc KV.cells [.string a, .string b, .int .i64 c, .int .i64 d, .int .i64 e, .int .i64 f] ⟨a, b, c, d, e, f⟩ := ⟨rfl⟩
structure KM where
  kv : KV
  b : Nat
  kb : Nat
  kc : Nat
  vb : Nat
  vc : Nat
abbrev byO (s : ByteArray) (c : Nat) : Obj := .cells ⟨bytesOf s.data.toList ++ List.replicate (c - s.size) (.int .u8 0)⟩ 5 (c, c + 1)
abbrev KM.obj (x : KM) : Obj := .cells ⟨[.slice (some ⟨x.kb, 0, none⟩) x.kv.key.size x.kc, .int .i64 x.kv.cr, .int .i64 x.kv.md, .int .i64 x.kv.ver, .slice (some ⟨x.vb, 0, none⟩) x.kv.val.size x.vc, .int .i64 x.kv.lease]⟩ 165
abbrev kmL (x : KM) : List HP := [pt x.b x.obj, pt x.kb (byO x.kv.key x.kc), pt x.vb (byO x.kv.val x.vc)]
def kmP (_ : Nat) (x : KM) : HP := star (kmL x)
abbrev KM.cells (x : KM) : List Value := [.pointer (some ⟨x.b, 0, none⟩)]
/-- A key-value as it stands in memory. -/
def KmAt (H : Heap) (x : KM) : Prop := H[x.b]? = some x.obj ∧ H[x.kb]? = some (byO x.kv.key x.kc) ∧ H[x.vb]? = some (byO x.kv.val x.vc)
theorem KmAt.ext {H H1 : Heap} {x : KM} (h : KmAt H x) (e : ExtH H H1) : KmAt H1 x := ⟨e.block_some h.1, e.block_some h.2.1, e.block_some h.2.2⟩
theorem bigs_km : ∀ {X : List KM} {k : Nat}, bigs kmP k X = X.map (kmP 0) := by
  intro X
  induction X with
  | nil => intro k; rfl
  | cons x X ih => intro k; unfold bigs; rw [ih]; rfl
theorem km_snoc {Y : List KM} {y : KM} {l : List HP} : Ent (kmP 0 y :: star (bigs kmP 0 Y) :: l) (star (bigs kmP 0 (Y ++ [y])) :: l) := by
  rw [bigs_km, bigs_km, List.map_append]
  refine Ent.trans (Ent.consStar) ?_
  exact .starPerm (List.perm_append_comm (l₁ := [kmP 0 y]))
theorem kmAt_of {H : Heap} {X : List KM} {l : List HP} (S : Sat H l) (hm : star (bigs kmP 0 X) ∈ l) : ∀ x ∈ X, KmAt H x := by
  intro x hx
  have hmem : kmP 0 x ∈ bigs kmP 0 X := by rw [bigs_km]; exact List.mem_map_of_mem hx
  have key : ∀ (r : Nat) (o : Obj), pt r o ∈ kmL x → H[r]? = some o := by
    intro r o h
    obtain ⟨g, h1, h2⟩ := S.mem hm
    obtain ⟨g2, h3, h4⟩ := SatP.mem (show SatP g (bigs kmP 0 X) from h1) hmem
    obtain ⟨g3, h5, h6⟩ := SatP.mem (show SatP g2 (kmL x) from h3) h
    exact h2 _ _ (h4 _ _ (h6 _ _ h5))
  exact ⟨key _ _ (by simp [kmL]), key _ _ (by simp [kmL]), key _ _ (by simp [kmL])⟩
def Kz (x : KV) : Prop := x.key.size < 2 ^ 62 ∧ x.val.size < 2 ^ 62
abbrev MI (x : KV) := {m : KM // m.kv = x}
theorem kvIn_ok {x : KV} {H : Heap} (hz : Kz x) : CallsH Try.prog 57 [.agg ⟨x.cells⟩].toArray H (fun e H1 => ∃ m : MI x, e = .returned (.pointer (some ⟨m.1.b, 0, none⟩)) ∧ Sat H1 (kmL m.1 ++ [old H])) := by
  obtain ⟨h1, h2⟩ := hz
  have S := Sat.start H
  refine F57.calls ?_
  unfold F57.go
  (repeat (first | (refine Step.go ?_; intros) | refine iteB_t (by decide) ?_ | refine iteB_f (by decide) ?_ | (refine Duo.mk (by first | omega | exact rfl | decide) ?_; intros) | (refine Duo.mk (Clo.mk (by kernel_rfl)) ?_; intros)))
  rename_i rx H1 S1 rk ck H2 hk S2 rv cv H3 hv S3 rb H4 S4
  exact ⟨⟨⟨x, rb, rk, ck, rv, cv⟩, rfl⟩, rfl, S4.to (m := [pt rb (KM.obj ⟨x, rb, rk, ck, rv, cv⟩), pt rk (byO x.key ck), pt rv (byO x.val cv), old H]) Fits.out⟩
abbrev KsI (l : List KV) := {x : (Option Addr × Nat) × List KM // x.2.map (·.kv) = l}
section
variable {H0 : Heap} {p : Option Addr} {n c : Nat} {l : List KV}
theorem kvsIn_loop [R0 : RowsC H0 p KV.cells 6 l] (hl : l.length = n) (hn : n < 1000000) (hz : ∀ x ∈ l, Kz x) : ∀ (d i : Nat) (X : List KM) (q : Option Addr) (k : Nat) (H : Heap), i + d = n → X.map (·.kv) = l.take i → Sat H [sl KM.cells 111 1 q i k X, star (bigs kmP 0 X), old H0] →
    F27.L0 p n c q i k (i : Int) H (fun e H1 => ∃ x : KsI l, e = .returned (.slice x.1.1.1 n x.1.1.2) ∧ Sat H1 ([sl KM.cells 111 1 x.1.1.1 n x.1.1.2 x.1.2, star (bigs kmP 0 x.1.2)] ++ [old H0])) := by
  intro d
  induction d with
  | zero =>
    intro i X q k H hi hX S
    refine F27.L0_step ?_
    unfold F27.L0n
    refine iteB_f (by rw [decide_eq_false_iff_not]; omega) ?_
    obtain rfl : i = n := by omega
    rw [← hl, List.take_length] at hX
    exact ⟨⟨((q, k), X), hX⟩, rfl, S⟩
  | succ d ih =>
    intro i X q k H hi hX S
    obtain ⟨x, hxi⟩ := get_of (l := l) (i := i) (by omega)
    have hzx := hz x (List.mem_of_getElem? hxi)
    have A1 : HasI l (i : Int) x := ⟨by simpa using hxi⟩
    have w1 : IntKind.wrap .i64 ((i : Int) + 1) = ((i + 1 : Nat) : Int) := by rw [wr (by omega) (by omega)]; omega
    refine F27.L0_step ?_
    unfold F27.L0n
    refine iteB_t (by rw [decide_eq_true_iff]; omega) ?_
    refine R0.idx hl ⟨by omega, by omega, ?_⟩
    rintro a rfl
    (repeat (first | (refine Step.go ?_; intros) | refine iteB_t (by decide) ?_ | refine iteB_f (by decide) ?_ | (refine Duo.mk (by first | omega | exact rfl | decide) ?_; intros) | (refine Duo.mk (Clo.mk (by kernel_rfl)) ?_; intros)))
    refine grow_i S (kvIn_ok hzx) ?_
    rintro ⟨m, hm⟩ H2 E2 S2
    dsimp only [kmL] at S2
    simp only [List.cons_append, List.nil_append] at S2 ⊢
    have EN : Enc KM.cells [.pointer (some ⟨m.b, 0, none⟩)] m := ⟨rfl⟩
    (repeat (first | (refine Step.go ?_; intros) | refine iteB_t (by decide) ?_ | refine iteB_f (by decide) ?_ | (refine Duo.mk (by first | omega | exact rfl | decide) ?_; intros) | (refine Duo.mk (Clo.mk (by kernel_rfl)) ?_; intros)))
    rename_i q' k' H4 S4
    rw [w1]
    refine ih (i + 1) (X ++ [m]) q' k' H4 (by omega) ?_ ?_
    · rw [List.map_append, hX, List.take_add_one, hxi]
      simp [hm]
    · have S5 : Sat H4 (pt m.b m.obj :: pt m.kb (byO m.kv.key m.kc) :: pt m.vb (byO m.kv.val m.vc) :: star (bigs kmP 0 X) :: sl KM.cells 111 1 q' (i + 1) k' (X ++ [m]) :: [old H0]) := S4.to Fits.out
      have S6 : Sat H4 (kmP 0 m :: star (bigs kmP 0 X) :: sl KM.cells 111 1 q' (i + 1) k' (X ++ [m]) :: [old H0]) := S5.to (.star (by simp only [kmL, List.cons_append, List.nil_append]; exact .refl))
      exact (S6.to km_snoc).to Fits.out
theorem kvsIn_ok {H : Heap} (hR : RowsAt KV.cells 6 H p l) (hl : l.length = n) (hn : n < 1000000) (hz : ∀ x ∈ l, Kz x) : CallsH Try.prog 27 ⟨[.slice p n c]⟩ H (fun e H1 => ∃ x : KsI l, e = .returned (.slice x.1.1.1 n x.1.1.2) ∧ Sat H1 ([sl KM.cells 111 1 x.1.1.1 n x.1.1.2 x.1.2, star (bigs kmP 0 x.1.2)] ++ [old H])) := by
  have R0 : RowsC H p KV.cells 6 l := ⟨hR⟩
  have S := Sat.start H
  refine F27.calls ?_
  unfold F27.go
  have S1 : Sat H (star (bigs kmP 0 []) :: [old H]) := S.to (.star (by simp only [bigs, List.nil_append]; exact .refl))
  exact kvsIn_loop hl hn hz n 0 [] none 0 H (by omega) rfl (S1.to (.slNil .refl))
/-- Out of memory again. -/
theorem kvOf_ok {H : Heap} {x : KM} (h : KmAt H x) : CallsH Try.prog 55 ⟨[.pointer (some ⟨x.b, 0, none⟩)]⟩ H (Gives (.agg ⟨x.kv.cells⟩) H) := by
  have S := Sat.start H
  have A1 := atOld h.1
  have A2 := atOld h.2.1
  have A3 := atOld h.2.2
  refine F55.calls ?_
  unfold F55.go
  (repeat (first | (refine Step.go ?_; intros) | refine iteB_t (by decide) ?_ | refine iteB_f (by decide) ?_ | (refine Duo.mk (by first | omega | exact rfl | decide) ?_; intros) | (refine Duo.mk (Clo.mk (by kernel_rfl)) ?_; intros)))
  exact ⟨rfl, Sat.grown⟩
abbrev PA := Option Addr × Nat
theorem kvsOf_loop {X : List KM} [R0 : RowsC H0 p KM.cells 1 X] (hX : ∀ x ∈ X, KmAt H0 x) (hl : X.length = n) (hn : n < 1000000) : ∀ (d i : Nat) (q : Option Addr) (k : Nat) (H : Heap), i + d = n → Sat H [sl KV.cells 27 6 q i k ((X.take i).map (·.kv)), old H0] →
    F25.L0 p n c q i k (i : Int) H (fun e H1 => ∃ x : PA, e = .returned (.slice x.1 n x.2) ∧ Sat H1 ([sl KV.cells 27 6 x.1 n x.2 (X.map (·.kv))] ++ [old H0])) := by
  intro d
  induction d with
  | zero =>
    intro i q k H hi S
    refine F25.L0_step ?_
    unfold F25.L0n
    refine iteB_f (by rw [decide_eq_false_iff_not]; omega) ?_
    obtain rfl : i = n := by omega
    rw [← hl, List.take_length] at S
    rw [hl] at S
    exact ⟨(q, k), rfl, S⟩
  | succ d ih =>
    intro i q k H hi S
    obtain ⟨x, hxi⟩ := get_of (l := X) (i := i) (by omega)
    have hx := hX x (List.mem_of_getElem? hxi)
    have E : ExtH H0 H := Sat.grown
    have A1 : HasI X (i : Int) x := ⟨by simpa using hxi⟩
    have w1 : IntKind.wrap .i64 ((i : Int) + 1) = ((i + 1 : Nat) : Int) := by rw [wr (by omega) (by omega)]; omega
    refine F25.L0_step ?_
    unfold F25.L0n
    refine iteB_t (by rw [decide_eq_true_iff]; omega) ?_
    refine R0.idx hl ⟨by omega, by omega, ?_⟩
    rintro a rfl
    (repeat (first | (refine Step.go ?_; intros) | refine iteB_t (by decide) ?_ | refine iteB_f (by decide) ?_ | (refine Duo.mk (by first | omega | exact rfl | decide) ?_; intros) | (refine Duo.mk (Clo.mk (by kernel_rfl)) ?_; intros)))
    refine gives_i S (kvOf_ok (hx.ext E)) ?_
    intro H2 E2 S2
    (repeat (first | (refine Step.go ?_; intros) | refine iteB_t (by decide) ?_ | refine iteB_f (by decide) ?_ | (refine Duo.mk (by first | omega | exact rfl | decide) ?_; intros) | (refine Duo.mk (Clo.mk (by kernel_rfl)) ?_; intros)))
    rename_i q' k' H4 S4
    rw [w1]
    refine ih (i + 1) q' k' H4 (by omega) ?_
    rw [List.take_add_one, hxi, List.map_append]
    exact S4.to (m := [sl KV.cells 27 6 q' (i + 1) k' ((X.take i).map (·.kv) ++ [x.kv]), old H0]) Fits.out
theorem kvsOf_ok {H : Heap} {X : List KM} (hR : RowsAt KM.cells 1 H p X) (hX : ∀ x ∈ X, KmAt H x) (hl : X.length = n) (hn : n < 1000000) : CallsH Try.prog 25 ⟨[.slice p n c]⟩ H (fun e H1 => ∃ x : PA, e = .returned (.slice x.1 n x.2) ∧ Sat H1 ([sl KV.cells 27 6 x.1 n x.2 (X.map (·.kv))] ++ [old H])) := by
  have R0 : RowsC H p KM.cells 1 X := ⟨hR⟩
  have S := Sat.start H
  refine F25.calls ?_
  unfold F25.go
  exact kvsOf_loop hX hl hn n 0 none 0 H (by omega) (S.to (.slNil .refl))
end
end Go.Proofs.Ytcejmnfjkdjobaa
