/- What functions of this seat do, each proved by a walk; no condition. -/
import Derived.Test.YtcejmnfjkdjobaaCG
set_option linter.unusedVariables false
set_option linter.unusedSimpArgs false
set_option linter.unnecessarySimpa false
namespace Go.Proofs.Ytcejmnfjkdjobaa
open Go Go.Den Go.Proofs
/-! Requests. -/
structure RQ where
  kind : Int
  key : ByteArray
  endd : ByteArray
  value : ByteArray
  lease : Int
  rev : Int
  limit : Int
  so : Int
  st : Int
  m0 : Int
  m1 : Int
  m2 : Int
  m3 : Int
  keysOnly : Bool
  countOnly : Bool
  prev : Bool
  igV : Bool
  igL : Bool
  c0 : Option Addr
  c1 : Nat
  c2 : Nat
  t0 : Option Addr
  t1 : Nat
  t2 : Nat
  e0 : Option Addr
  e1 : Nat
  e2 : Nat
abbrev RQ.cells (r : RQ) : List Value := [.int .i64 r.kind, .string r.key, .string r.endd, .string r.value, .int .i64 r.lease, .int .i64 r.rev, .int .i64 r.limit, .int .i64 r.so, .int .i64 r.st, .int .i64 r.m0, .int .i64 r.m1, .int .i64 r.m2, .int .i64 r.m3, .bool r.keysOnly, .bool r.countOnly, .bool r.prev, .bool r.igV, .bool r.igL, .slice r.c0 r.c1 r.c2, .slice r.t0 r.t1 r.t2, .slice r.e0 r.e1 r.e2]
def o32 (n : Int) : Int := if n < -2147483648 then -1 else if n > 2147483647 then -1 else n
section
variable {H : Heap}
theorem o32_ok (n : Int) : CallsH Try.prog 59 ⟨[.int .i64 n]⟩ H (Gives (.int .i32 (o32 n)) H) := by
  refine F59.calls ?_
  unfold F59.go
  unfold o32
  refine iteB_i (fun h => ?_) (fun h => ?_)
  · rw [if_pos (of_decide_eq_true h)]; exact ⟨rfl, ExtH.refl H⟩
  · have h := of_decide_eq_false h
    refine iteB_i (fun h2 => ?_) (fun h2 => ?_)
    · rw [if_neg h, if_pos (of_decide_eq_true h2)]; exact ⟨rfl, ExtH.refl H⟩
    · have h2 := of_decide_eq_false h2
      rw [if_neg h, if_neg h2, wr32 (by omega) (by omega)]
      exact ⟨rfl, ExtH.refl H⟩
abbrev SLI := Option Addr × Nat × Nat
theorem bytesOf_ok {s : ByteArray} (hs : s.size < 2 ^ 62) : CallsH Try.prog 58 ⟨[.string s]⟩ H (fun e H1 => ∃ x : SLI, e = .returned (.slice x.1 x.2.1 x.2.2) ∧ Sat H1 ([] ++ [old H])) := by
  have S := Sat.start H
  refine F58.calls ?_
  unfold F58.go
  refine iteB_i (fun h => ?_) (fun h => ?_)
  · exact ⟨(none, 0, 0), rfl, S⟩
  · (repeat (first | (refine Step.go ?_; intros) | refine iteB_t (by decide) ?_ | refine iteB_f (by decide) ?_ | (refine Duo.mk (by first | omega | exact rfl | decide) ?_; intros) | (refine Duo.mk (Clo.mk (by kernel_rfl)) ?_; intros)))
    rename_i r c H1 hc S1
    exact ⟨(some ⟨r, 0, none⟩, s.size, c), rfl, S1.to (.drop .refl)⟩
structure RI where
  b : Nat
  k : Nat
  kc : Nat
  p : Option Addr
  n : Nat
  c : Nat
abbrev rgO (r : RQ) (x : RI) : Obj := .cells ⟨[.slice (some ⟨x.k, 0, none⟩) r.key.size x.kc, .slice x.p x.n x.c, .int .i64 r.limit, .int .i64 r.rev, .int .i32 (o32 r.so), .int .i32 (o32 r.st), .bool r.prev, .bool r.keysOnly, .bool r.countOnly, .int .i64 r.m0, .int .i64 r.m1, .int .i64 r.m2, .int .i64 r.m3]⟩ 123
theorem rangeIn_ok {r : RQ} (h1 : r.key.size < 2 ^ 62) (h2 : r.endd.size < 2 ^ 62) : CallsH Try.prog 28 ⟨[.agg ⟨r.cells⟩]⟩ H (fun e H1 => ∃ x : RI, e = .returned (.pointer (some ⟨x.b, 0, none⟩)) ∧ Sat H1 ([pt x.b (rgO r x)] ++ [old H])) := by
  have S := Sat.start H
  refine F28.calls ?_
  unfold F28.go
  (repeat (first | (refine Step.go ?_; intros) | refine iteB_t (by decide) ?_ | refine iteB_f (by decide) ?_ | (refine Duo.mk (by first | omega | exact rfl | decide) ?_; intros) | (refine Duo.mk (Clo.mk (by kernel_rfl)) ?_; intros)))
  rename_i r0 H1 S1
  refine ⟨?_, ?_, ?_, ?_⟩
  · (repeat (first | (refine Step.go ?_; intros) | refine iteB_t (by decide) ?_ | refine iteB_f (by decide) ?_ | (refine Duo.mk (by first | omega | exact rfl | decide) ?_; intros) | (refine Duo.mk (Clo.mk (by kernel_rfl)) ?_; intros)))
    rename_i k kc H2 hk S2
    refine grow_i S2 (bytesOf_ok h2) ?_
    rintro ⟨p, n, c⟩ H3 E3 S3
    dsimp only at S3 ⊢
    simp only [List.nil_append] at S3
    (repeat (first | (refine Step.go ?_; intros) | refine iteB_t (by decide) ?_ | refine iteB_f (by decide) ?_ | (refine Duo.mk (by first | omega | exact rfl | decide) ?_; intros) | (refine Duo.mk (Clo.mk (by kernel_rfl)) ?_; intros)))
    refine gives_i S3 (o32_ok r.so) ?_
    intro H4 E4 S4
    (repeat (first | (refine Step.go ?_; intros) | refine iteB_t (by decide) ?_ | refine iteB_f (by decide) ?_ | (refine Duo.mk (by first | omega | exact rfl | decide) ?_; intros) | (refine Duo.mk (Clo.mk (by kernel_rfl)) ?_; intros)))
    refine gives_i S4 (o32_ok r.st) ?_
    intro H5 E5 S5
    (repeat (first | (refine Step.go ?_; intros) | refine iteB_t (by decide) ?_ | refine iteB_f (by decide) ?_ | (refine Duo.mk (by first | omega | exact rfl | decide) ?_; intros) | (refine Duo.mk (Clo.mk (by kernel_rfl)) ?_; intros)))
    rename_i b H6 S6
    exact ⟨⟨b, k, kc, p, n, c⟩, rfl, S6.to (m := [pt b (rgO r ⟨b, k, kc, p, n, c⟩), old H]) Fits.out⟩
  · (repeat (first | (refine Step.go ?_; intros) | refine iteB_t (by decide) ?_ | refine iteB_f (by decide) ?_ | (refine Duo.mk (by first | omega | exact rfl | decide) ?_; intros) | (refine Duo.mk (Clo.mk (by kernel_rfl)) ?_; intros)))
    refine grow_i S1 (bytesOf_ok h2) ?_
    rintro ⟨p, n, c⟩ H3 E3 S3
    dsimp only at S3 ⊢
    simp only [List.nil_append] at S3
    (repeat (first | (refine Step.go ?_; intros) | refine iteB_t (by decide) ?_ | refine iteB_f (by decide) ?_ | (refine Duo.mk (by first | omega | exact rfl | decide) ?_; intros) | (refine Duo.mk (Clo.mk (by kernel_rfl)) ?_; intros)))
    rename_i k kc H2 hk S2
    refine gives_i S2 (o32_ok r.so) ?_
    intro H4 E4 S4
    (repeat (first | (refine Step.go ?_; intros) | refine iteB_t (by decide) ?_ | refine iteB_f (by decide) ?_ | (refine Duo.mk (by first | omega | exact rfl | decide) ?_; intros) | (refine Duo.mk (Clo.mk (by kernel_rfl)) ?_; intros)))
    refine gives_i S4 (o32_ok r.st) ?_
    intro H5 E5 S5
    (repeat (first | (refine Step.go ?_; intros) | refine iteB_t (by decide) ?_ | refine iteB_f (by decide) ?_ | (refine Duo.mk (by first | omega | exact rfl | decide) ?_; intros) | (refine Duo.mk (Clo.mk (by kernel_rfl)) ?_; intros)))
    rename_i b H6 S6
    exact ⟨⟨b, k, kc, p, n, c⟩, rfl, S6.to (m := [pt b (rgO r ⟨b, k, kc, p, n, c⟩), old H]) Fits.out⟩
  · (repeat (first | (refine Step.go ?_; intros) | refine iteB_t (by decide) ?_ | refine iteB_f (by decide) ?_ | (refine Duo.mk (by first | omega | exact rfl | decide) ?_; intros) | (refine Duo.mk (Clo.mk (by kernel_rfl)) ?_; intros)))
    refine grow_i S1 (bytesOf_ok h2) ?_
    rintro ⟨p, n, c⟩ H3 E3 S3
    dsimp only at S3 ⊢
    simp only [List.nil_append] at S3
    (repeat (first | (refine Step.go ?_; intros) | refine iteB_t (by decide) ?_ | refine iteB_f (by decide) ?_ | (refine Duo.mk (by first | omega | exact rfl | decide) ?_; intros) | (refine Duo.mk (Clo.mk (by kernel_rfl)) ?_; intros)))
    refine gives_i S3 (o32_ok r.so) ?_
    intro H4 E4 S4
    (repeat (first | (refine Step.go ?_; intros) | refine iteB_t (by decide) ?_ | refine iteB_f (by decide) ?_ | (refine Duo.mk (by first | omega | exact rfl | decide) ?_; intros) | (refine Duo.mk (Clo.mk (by kernel_rfl)) ?_; intros)))
    rename_i k kc H2 hk S2
    refine gives_i S2 (o32_ok r.st) ?_
    intro H5 E5 S5
    (repeat (first | (refine Step.go ?_; intros) | refine iteB_t (by decide) ?_ | refine iteB_f (by decide) ?_ | (refine Duo.mk (by first | omega | exact rfl | decide) ?_; intros) | (refine Duo.mk (Clo.mk (by kernel_rfl)) ?_; intros)))
    rename_i b H6 S6
    exact ⟨⟨b, k, kc, p, n, c⟩, rfl, S6.to (m := [pt b (rgO r ⟨b, k, kc, p, n, c⟩), old H]) Fits.out⟩
  · (repeat (first | (refine Step.go ?_; intros) | refine iteB_t (by decide) ?_ | refine iteB_f (by decide) ?_ | (refine Duo.mk (by first | omega | exact rfl | decide) ?_; intros) | (refine Duo.mk (Clo.mk (by kernel_rfl)) ?_; intros)))
    refine grow_i S1 (bytesOf_ok h2) ?_
    rintro ⟨p, n, c⟩ H3 E3 S3
    dsimp only at S3 ⊢
    simp only [List.nil_append] at S3
    (repeat (first | (refine Step.go ?_; intros) | refine iteB_t (by decide) ?_ | refine iteB_f (by decide) ?_ | (refine Duo.mk (by first | omega | exact rfl | decide) ?_; intros) | (refine Duo.mk (Clo.mk (by kernel_rfl)) ?_; intros)))
    refine gives_i S3 (o32_ok r.so) ?_
    intro H4 E4 S4
    (repeat (first | (refine Step.go ?_; intros) | refine iteB_t (by decide) ?_ | refine iteB_f (by decide) ?_ | (refine Duo.mk (by first | omega | exact rfl | decide) ?_; intros) | (refine Duo.mk (Clo.mk (by kernel_rfl)) ?_; intros)))
    refine gives_i S4 (o32_ok r.st) ?_
    intro H5 E5 S5
    (repeat (first | (refine Step.go ?_; intros) | refine iteB_t (by decide) ?_ | refine iteB_f (by decide) ?_ | (refine Duo.mk (by first | omega | exact rfl | decide) ?_; intros) | (refine Duo.mk (Clo.mk (by kernel_rfl)) ?_; intros)))
    rename_i k kc H2 hk S2 b H6 S6
    exact ⟨⟨b, k, kc, p, n, c⟩, rfl, S6.to (m := [pt b (rgO r ⟨b, k, kc, p, n, c⟩), old H]) Fits.out⟩
/-! Sorting. -/
def sortI (bb tg : Int) (X : List KM) : List KM := if tg = 0 ∧ bb ≤ 1 then X else if bb = 2 then isort (fun x y => ahead tg y.kv x.kv) [] X else isort (fun x y => ahead tg x.kv y.kv) [] X
section
variable {q : Option Addr} {n c rr : Nat} {X : List KM} {L : List HP} {bb tg : Int} {R : Ending → Heap → Prop}
theorem l2_ok {T tt : Nat} {f : FuncId} {r1 r : Nat} (hk : Kind T tt f tg) (hn : n ≤ 12) (hN : ∀ x ∈ X, Near x.kv) (hb : (bb = 1 ∧ tg ≠ 0) ∨ bb = 2) (S : Sat H (soL tt r1 r q n c X L X)) (k : ∀ H1, Sat H1 (sl KM.cells 111 1 q n c (sortI bb tg X) :: star (bigs kmP 0 X) :: L) → R (.returned (.tuple ⟨[]⟩)) H1) : F56.L2 bb (.mk T (.pointer (some ⟨r1, 0, none⟩))) H R := by
  have hl := (S.slLen (List.mem_cons_of_mem _ (List.mem_cons_of_mem _ (List.mem_cons_self ..)))).1
  refine F56.L2_step ?_
  unfold F56.L2n
  rcases hb with ⟨rfl, ht⟩ | rfl
  · refine iteB_t rfl ?_
    refine callD_i (sort_ok (srt_plain hk (by omega)) hn hl (fun z hz => ⟨hz, hN z hz⟩) S) ?_
    rintro e H1 ⟨rfl, S1⟩
    (repeat (first | (refine Step.go ?_; intros) | refine iteB_t (by decide) ?_ | refine iteB_f (by decide) ?_ | (refine Duo.mk (by first | omega | exact rfl | decide) ?_; intros) | (refine Duo.mk (Clo.mk (by kernel_rfl)) ?_; intros)))
    refine k H1 ?_
    unfold sortI
    rw [if_neg (by rintro ⟨h, _⟩; exact ht h), if_neg (by decide)]
    exact S1.to Fits.out
  · refine iteB_f rfl ?_
    refine iteB_t rfl ?_
    refine callD_i (S := fun e H1 => ∃ r2, e = .returned (.iface 231 (.pointer (some ⟨r2, 0, none⟩))) ∧ Sat H1 (reL T r2 tt r1 r q n c X L X)) ?_ ?_
    · refine F76.calls ?_
      unfold F76.go
      show guardB true (newD H (.cells ⟨[.iface T (.pointer (some ⟨r1, 0, none⟩))]⟩ 233) _)
      refine Step.go ?_
      refine Step.go ?_
      intro r2 H1 S1
      exact ⟨r2, rfl, S1⟩
    · rintro e H1 ⟨r2, rfl, S1⟩
      (repeat (first | (refine Step.go ?_; intros) | refine iteB_t (by decide) ?_ | refine iteB_f (by decide) ?_ | (refine Duo.mk (by first | omega | exact rfl | decide) ?_; intros) | (refine Duo.mk (Clo.mk (by kernel_rfl)) ?_; intros)))
      refine callD_i (sort_ok (srt_rev hk (by omega)) hn hl (fun z hz => ⟨hz, hN z hz⟩) S1) ?_
      rintro e H2 ⟨rfl, S2⟩
      (repeat (first | (refine Step.go ?_; intros) | refine iteB_t (by decide) ?_ | refine iteB_f (by decide) ?_ | (refine Duo.mk (by first | omega | exact rfl | decide) ?_; intros) | (refine Duo.mk (Clo.mk (by kernel_rfl)) ?_; intros)))
      refine k H2 ?_
      unfold sortI
      rw [if_neg (by rintro ⟨_, h⟩; omega), if_pos rfl]
      exact S2.to Fits.out
end
end
end Go.Proofs.Ytcejmnfjkdjobaa
