/- What functions of this seat do, each proved by a walk; no condition. -/
import Derived.Test.YtcejmnfjkdjobaaCF
set_option linter.unusedVariables false
set_option linter.unusedSimpArgs false
set_option linter.unnecessarySimpa false
namespace Go.Proofs.Ytcejmnfjkdjobaa
open Go Go.Den Go.Proofs
/-! The five sorters, and each turned about. -/
def LessOk (tt : Nat) (f : FuncId) (tg : Int) : Prop := ∀ {H : Heap} {r1 r : Nat} {q : Option Addr} {n c : Nat} {X : List KM} {i j : Nat} {x y : KM}, SoAt H tt r1 r q n c X → X[i]? = some x → X[j]? = some y → Near x.kv → Near y.kv → CallsH Try.prog f ⟨[.pointer (some ⟨r1, 0, none⟩), .int .i64 i, .int .i64 j]⟩ H (Gives (.bool (ahead tg x.kv y.kv)) H)
/-- A sorter's type: its tables, its own comparison. -/
structure Kind (T tt : Nat) (f : FuncId) (tg : Int) : Prop where
  len : embF Try.prog T "Len" = some (0, 171, some (139, true))
  swap : embF Try.prog T "Swap" = some (0, 171, some (141, true))
  less : mthOk Try.prog T "Less" f true = true
  ptr : ptrT Try.prog T = true
  fn : fnOk Try.prog f = true
  ok : LessOk tt f tg
theorem kindKey : Kind 170 175 140 0 := ⟨by kernel_rfl, by kernel_rfl, by kernel_rfl, by kernel_rfl, by kernel_rfl, fun h a b _ _ => lessKey h a b⟩
theorem kindVer : Kind 176 177 144 1 := ⟨by kernel_rfl, by kernel_rfl, by kernel_rfl, by kernel_rfl, by kernel_rfl, fun h a b c d => lessVer h a b c d⟩
theorem kindCr : Kind 178 179 145 2 := ⟨by kernel_rfl, by kernel_rfl, by kernel_rfl, by kernel_rfl, by kernel_rfl, fun h a b c d => lessCr h a b c d⟩
theorem kindMd : Kind 180 181 146 3 := ⟨by kernel_rfl, by kernel_rfl, by kernel_rfl, by kernel_rfl, by kernel_rfl, fun h a b c d => lessMd h a b c d⟩
theorem kindVal : Kind 182 183 147 4 := ⟨by kernel_rfl, by kernel_rfl, by kernel_rfl, by kernel_rfl, by kernel_rfl, fun h a b _ _ => lessVal h a b⟩
theorem und169 : ∃ ms, Try.prog.underlying 169 = some (.interface ms) := by
  have h : (match Try.prog.underlying 169 with | some (.interface _) => true | _ => false) = true := by kernel_rfl
  split at h
  · rename_i ms hm; exact ⟨ms, hm⟩
  · cases h
def ifStruct (P : Program) (T : TypeId) : Bool := (match P.underlying T with | some (.struct _) => true | _ => false) && (match flatD P 8 T with | [.interface _] => true | _ => false) && P.cellsOf T == 1
theorem ldD_one {P : Program} {T : TypeId} {H : Heap} {a : Addr} {i : IV} {k : Value → Prop} (h : ifStruct P T = true) (hc : hcell H (a.add 0) = some i.v) (hk : k (.agg ⟨[i.v]⟩)) : ldD P T a H k := by
  unfold ifStruct at h
  simp only [Bool.and_eq_true, beq_iff_eq] at h
  obtain ⟨⟨h1, h2⟩, hz⟩ := h
  split at h1
  · rename_i fs hu
    split at h2
    · rename_i ms h8
      unfold ldD
      rw [hu]
      dsimp only
      rw [h8, hz]
      exact ⟨i, hc, hk⟩
    · cases h2
  · cases h1
theorem st233 : ifStruct Try.prog 233 = true := by kernel_rfl
theorem pt171 : ptrT Try.prog 171 = true := by kernel_rfl
abbrev soL (tt r1 r : Nat) (q : Option Addr) (n c : Nat) (X0 : List KM) (L : List HP) (X : List KM) : List HP := pt r1 (.cells ⟨[.pointer (some ⟨r, 0, none⟩)]⟩ tt) :: pt r (.cells ⟨[.slice q n c]⟩ 173) :: sl KM.cells 111 1 q n c X :: star (bigs kmP 0 X0) :: L
abbrev reL (T r2 : Nat) (tt r1 r : Nat) (q : Option Addr) (n c : Nat) (X0 : List KM) (L : List HP) (X : List KM) : List HP := pt r2 (.cells ⟨[.iface T (.pointer (some ⟨r1, 0, none⟩))]⟩ 233) :: soL tt r1 r q n c X0 L X
section
variable {T tt r1 r r2 : Nat} {f : FuncId} {tg : Int} {q : Option Addr} {n c : Nat} {X0 : List KM} {L : List HP} {H : Heap} {X : List KM}
theorem soAt_of {l : List HP} (S : Sat H l) (h1 : pt r1 (.cells ⟨[.pointer (some ⟨r, 0, none⟩)]⟩ tt) ∈ l) (h2 : pt r (.cells ⟨[.slice q n c]⟩ 173) ∈ l) (h3 : sl KM.cells 111 1 q n c X ∈ l) (h4 : star (bigs kmP 0 X0) ∈ l) (hs : ∀ x ∈ X, x ∈ X0) : SoAt H tt r1 r q n c X :=
  ⟨S.at_ h1, S.at_ h2, S.rowsAt h3, (S.slLen h3).1, fun x hx => kmAt_of S h4 x (hs x hx)⟩
theorem hcell0 {b : Nat} {v : Value} {vs : List Value} {E : TypeId} {fr : Nat × Nat} (h : H[b]? = some (.cells ⟨v :: vs⟩ E fr)) : hcell H (Addr.add ⟨b, 0, none⟩ 0) = some v := by
  rw [add_mk]; exact hcell_of h rfl
theorem get_pair {A C : List KM} {x y : KM} {i : Nat} (hA : A.length = i) : (A ++ y :: x :: C)[i + 1]? = some x ∧ (A ++ y :: x :: C)[i]? = some y := by
  subst hA
  constructor
  · rw [List.getElem?_append_right (by omega)]
    have : A.length + 1 - A.length = 1 := by omega
    rw [this]; rfl
  · rw [List.getElem?_append_right (by omega), Nat.sub_self]; rfl
theorem srt_plain (hk : Kind T tt f tg) (hn : n < 1000000) : Srt (.mk T (.pointer (some ⟨r1, 0, none⟩))) (soL tt r1 r q n c X0 L) (fun x y => ahead tg x.kv y.kv) n (fun z => z ∈ X0 ∧ Near z.kv) := by
  constructor
  · intro H X Q K hl hG S k
    have A := soAt_of (X0 := X0) S (List.mem_cons_self ..) (List.mem_cons_of_mem _ (List.mem_cons_self ..)) (List.mem_cons_of_mem _ (List.mem_cons_of_mem _ (List.mem_cons_self ..))) (List.mem_cons_of_mem _ (List.mem_cons_of_mem _ (List.mem_cons_of_mem _ (List.mem_cons_self ..)))) (fun x hx => (hG x hx).1)
    refine callI_m (method_emb hk.len pt171 (hcell0 A.top)) (by kernel_rfl) ?_
    exact gives_i S (soLen A.in_) fun H1 E1 S1 => k H1 S1
  · intro H A C x y i Q K hA hl hG S k
    have B := soAt_of (X0 := X0) S (List.mem_cons_self ..) (List.mem_cons_of_mem _ (List.mem_cons_self ..)) (List.mem_cons_of_mem _ (List.mem_cons_of_mem _ (List.mem_cons_self ..))) (List.mem_cons_of_mem _ (List.mem_cons_of_mem _ (List.mem_cons_of_mem _ (List.mem_cons_self ..)))) (fun x hx => (hG x hx).1)
    obtain ⟨g1, g2⟩ := get_pair (C := C) (x := x) (y := y) hA
    refine callI_i hk.less hk.ptr hk.fn ?_
    have := hk.ok B g1 g2 (hG x (by simp)).2 (hG y (by simp)).2
    rw [Int.natCast_add] at this
    exact gives_i S this fun H1 E1 S1 => k H1 S1
  · intro H A C x y i Q K hA hl hG S k
    have B := soAt_of (X0 := X0) S (List.mem_cons_self ..) (List.mem_cons_of_mem _ (List.mem_cons_self ..)) (List.mem_cons_of_mem _ (List.mem_cons_of_mem _ (List.mem_cons_self ..))) (List.mem_cons_of_mem _ (List.mem_cons_of_mem _ (List.mem_cons_of_mem _ (List.mem_cons_self ..)))) (fun x hx => (hG x hx).1)
    refine callI_m (method_emb hk.swap pt171 (hcell0 B.top)) (by kernel_rfl) ?_
    refine callD_i (swap_ok rfl hA hn (S.to (m := pt r (.cells ⟨[.slice q n c]⟩ 173) :: sl KM.cells 111 1 q n c (A ++ y :: x :: C) :: pt r1 (.cells ⟨[.pointer (some ⟨r, 0, none⟩)]⟩ tt) :: star (bigs kmP 0 X0) :: L) Fits.out)) ?_
    rintro e H1 ⟨rfl, S1⟩
    exact k H1 (S1.to Fits.out)
theorem revLess_ok (hk : Kind T tt f tg) {i j : Nat} {x y : KM} (hi : X[i]? = some x) (hj : X[j]? = some y) (nx : Near x.kv) (ny : Near y.kv) (h : SoAt H tt r1 r q n c X) : CallsH Try.prog 148 ⟨[.agg ⟨[.iface T (.pointer (some ⟨r1, 0, none⟩))]⟩, .int .i64 i, .int .i64 j]⟩ H (Gives (.bool (ahead tg y.kv x.kv)) H) := by
  have S := Sat.start H
  refine F148.calls (r_0 := .mk T (.pointer (some ⟨r1, 0, none⟩))) ?_
  unfold F148.go
  refine Step.go ?_
  intro r9 H1 S1
  have E1 : ExtH H H1 := Sat.grown
  refine ⟨.mk T (.pointer (some ⟨r1, 0, none⟩)), hcell_of (S1.at_ (List.mem_cons_self ..)) rfl, ?_⟩
  refine callI_i hk.less hk.ptr hk.fn ?_
  refine gives_i S1 (hk.ok (h.ext E1) hj hi ny nx) ?_
  intro H2 E2 S2
  (repeat (first | (refine Step.go ?_; intros) | refine iteB_t (by decide) ?_ | refine iteB_f (by decide) ?_ | (refine Duo.mk (by first | omega | exact rfl | decide) ?_; intros) | (refine Duo.mk (Clo.mk (by kernel_rfl)) ?_; intros)))
  exact ⟨rfl, Sat.grown⟩
set_option maxRecDepth 100000 in
theorem srt_rev (hk : Kind T tt f tg) (hn : n < 1000000) : Srt (.mk 231 (.pointer (some ⟨r2, 0, none⟩))) (reL T r2 tt r1 r q n c X0 L) (fun x y => ahead tg y.kv x.kv) n (fun z => z ∈ X0 ∧ Near z.kv) := by
  have so : ∀ {H : Heap} {X : List KM}, Sat H (reL T r2 tt r1 r q n c X0 L X) → (∀ z ∈ X, z ∈ X0 ∧ Near z.kv) → SoAt H tt r1 r q n c X := fun S hG =>
    soAt_of (X0 := X0) S (List.mem_cons_of_mem _ (List.mem_cons_self ..)) (List.mem_cons_of_mem _ (List.mem_cons_of_mem _ (List.mem_cons_self ..))) (List.mem_cons_of_mem _ (List.mem_cons_of_mem _ (List.mem_cons_of_mem _ (List.mem_cons_self ..)))) (List.mem_cons_of_mem _ (List.mem_cons_of_mem _ (List.mem_cons_of_mem _ (List.mem_cons_of_mem _ (List.mem_cons_self ..))))) (fun x hx => (hG x hx).1)
  constructor
  · intro H X Q K hl hG S k
    have A := so S hG
    refine und169.elim fun ms hms => ?_
    refine callI_m (method_embI (ft := 169) (off := 0) (by kernel_rfl) hms (hcell0 (S.at_ (List.mem_cons_self ..))) (method_emb (n := Try.prog.types.size + 98) hk.len pt171 (hcell0 A.top))) (by kernel_rfl) ?_
    exact gives_i S (soLen A.in_) fun H1 E1 S1 => k H1 S1
  · intro H A C x y i Q K hA hl hG S k
    have B := so S hG
    obtain ⟨g1, g2⟩ := get_pair (C := C) (x := x) (y := y) hA
    refine callI_at (e := 233) (f := 148) (by kernel_rfl) (by kernel_rfl) (by kernel_rfl) ?_
    have hc : hcell H (Addr.add ⟨r2, 0, none⟩ 0) = some (.iface T (.pointer (some ⟨r1, 0, none⟩))) := hcell0 (S.at_ (List.mem_cons_self ..))
    refine ldD_one st233 (i := .mk T (.pointer (some ⟨r1, 0, none⟩))) hc ?_
    have := revLess_ok hk g1 g2 (hG x (by simp)).2 (hG y (by simp)).2 B
    rw [Int.natCast_add] at this
    exact gives_i S this fun H1 E1 S1 => k H1 S1
  · intro H A C x y i Q K hA hl hG S k
    have B := so S hG
    refine und169.elim fun ms hms => ?_
    refine callI_m (method_embI (ft := 169) (off := 0) (by kernel_rfl) hms (hcell0 (S.at_ (List.mem_cons_self ..))) (method_emb (n := Try.prog.types.size + 98) hk.swap pt171 (hcell0 B.top))) (by kernel_rfl) ?_
    refine callD_i (swap_ok rfl hA hn (S.to (m := pt r (.cells ⟨[.slice q n c]⟩ 173) :: sl KM.cells 111 1 q n c (A ++ y :: x :: C) :: pt r2 (.cells ⟨[.iface T (.pointer (some ⟨r1, 0, none⟩))]⟩ 233) :: pt r1 (.cells ⟨[.pointer (some ⟨r, 0, none⟩)]⟩ tt) :: star (bigs kmP 0 X0) :: L) Fits.out)) ?_
    rintro e H1 ⟨rfl, S1⟩
    exact k H1 (S1.to Fits.out)
end
end Go.Proofs.Ytcejmnfjkdjobaa
