/- What functions of this seat do, each proved by a walk; no condition. -/
import Derived.Test.YtobolifgehagfaaJM3
set_option linter.unusedVariables false
set_option linter.unusedSimpArgs false
set_option linter.unnecessarySimpa false
namespace Go.Proofs.Ytobolifgehagfaa
open Go Go.Den Go.Proofs
/-! The plain list of intervals. -/
section
variable {α : Type} {f : α → List Value} {E : TypeId} {z n c : Nat} {p : Option Addr} {xs : List α} {H : Heap} {l m : List HP}
theorem slCells {h : PH} (a : sl f E z p n c xs h) (hs : PH.sub h (PH.of H)) {i : Nat} (hi : i ≤ n) : cellsAt H (slP p i c z) ((xs.drop i).flatMap f) := by
  obtain ⟨a1, a2, a3, a4⟩ := a
  intro j v hj
  rcases a4 with ⟨rfl, rfl⟩ | ⟨r, pre, sp, rfl, hl, hb⟩
  · have : xs = [] := List.eq_nil_of_length_eq_zero (by omega)
    subst this
    simp at hj
  · by_cases hc : c = i
    · have : xs.drop i = [] := List.drop_eq_nil_of_le (by omega)
      rw [this] at hj
      simp at hj
    · refine ⟨_, by unfold slP; rw [if_neg hc]; rfl, ?_⟩
      show hcell H (((⟨r, pre.length, none⟩ : Addr).add (i * z)).add j) = some v
      rw [add_mk, add_mk]
      refine hcell_of (hs _ _ hb) ?_
      rw [← flat_drop a2, List.getElem?_drop] at hj
      rw [List.append_assoc, List.getElem?_append_right (by omega)]
      rw [show pre.length + i * z + j - pre.length = i * z + j by omega]
      rw [List.getElem?_append_left (lt_of hj)]
      exact hj
theorem slCells_of (S : Sat H l) (hm : sl f E z p n c xs ∈ l) {i : Nat} (hi : i ≤ n) : cellsAt H (slP p i c z) ((xs.drop i).flatMap f) := by
  obtain ⟨h, a, hs⟩ := S.mem hm
  exact slCells a hs hi
end

theorem cells_take {α : Type} {f : α → List Value} {H : Heap} {p : Option Addr} {xs : List α} {i : Nat} (h : cellsAt H p (xs.flatMap f)) : cellsAt H p ((xs.take i).flatMap f) := by
  intro j v hj
  refine h j v ?_
  have e : xs.flatMap f = (xs.take i).flatMap f ++ (xs.drop i).flatMap f := by rw [← List.flatMap_append, List.take_append_drop]
  rw [e, List.getElem?_append_left (lt_of hj)]
  exact hj
abbrev pcC (x : SP × Int) : List Value := [.string x.1.b, .string x.1.e, .bool x.1.p, .int .i64 x.1.f, .int .i64 x.1.t, .int .i64 x.2]
def plainX (x : SP × Int) : SP × Int := (plainS x.1, x.2)
theorem plainX_B (x : SP × Int) : (plainX x).1.B = x.1.B := rfl
theorem plainX_E (x : SP × Int) : (plainX x).1.E = x.1.E := rfl
theorem ahead_plain {o : Int} {s : SP} {x : SP × Int} : aheadS o s (plainX x).1 = aheadS o s x.1 := rfl
theorem ahead_plain2 {o : Int} {s : SP} {x : SP × Int} : aheadS o (plainX x).1 s = aheadS o x.1 s := rfl
theorem meet_plain {o : Int} {s : SP} {x : SP × Int} : meetS o (plainX x).1 s = meetS o x.1 s := rfl
/-- Where an interval is put. -/
theorem putP_at {o : Int} {z : SP × Int} : ∀ {L : List (SP × Int)} {i : Nat}, i ≤ L.length → (∀ j x, L[j]? = some x → j < i → aheadS o z.1 x.1 = false) → (∀ x, L[i]? = some x → aheadS o z.1 x.1 = true) → putP o z L = L.take i ++ z :: L.drop i
  | [], i, hi, _, _ => by
    obtain rfl : i = 0 := by simpa using hi
    rfl
  | x :: L, 0, hi, h1, h2 => by rw [putP, if_pos (h2 x rfl)]; rfl
  | x :: L, i + 1, hi, h1, h2 => by
    rw [putP, if_neg (by rw [h1 0 x rfl (by omega)]; simp), putP_at (i := i) (by simpa using hi) (fun j y hj hlt => h1 (j + 1) y (by simpa using hj) (by omega)) (fun y hy => h2 y (by simpa using hy))]
    rfl
section
variable {H : Heap} {l : List HP} {o : Int}
abbrev pcO (o : Int) (p : Option Addr) (n c : Nat) : Obj := .cells ⟨[.int .i64 o, .slice p n c]⟩ 57
def SzX (x : SP × Int) : Prop := x.1.b.size ≤ 2147483647
theorem put_loop {z : SP × Int} {L : List (SP × Int)} {pr sb : Nat} {p : Option Addr} {n c : Nat} {R : Ending → Heap → Prop} (hL : ∀ x ∈ L, SzX x) (hz : SzX z) (hn : n ≤ 100000)
    (next : ∀ (i : Nat) H1, i ≤ n → putP o z L = L.take i ++ z :: L.drop i → Sat H1 (pt sb (.cells ⟨z.1.cells⟩ 35) :: pt pr (pcO o p n c) :: sl pcC 71 6 p n c (L.map plainX) :: l) → F38.L1 (some (aA pr)) z.2 sb (i : Nat) H1 R) :
    ∀ (k i : Nat) (H : Heap), i + k = n → (∀ j x, L[j]? = some x → j < i → aheadS o z.1 x.1 = false) → Sat H (pt sb (.cells ⟨z.1.cells⟩ 35) :: pt pr (pcO o p n c) :: sl pcC 71 6 p n c (L.map plainX) :: l) →
      F38.L0 (some (aA pr)) z.2 sb (i : Nat) H R := by
  intro k
  induction k with
  | zero =>
    intro i H hk hi S
    have hlen := (Sat.slLen S (.tail _ (.tail _ (.head _)))).1
    rw [List.length_map] at hlen
    refine F38.L0_step ?_
    unfold F38.L0n
    (iterate 2 (refine Step.go ?_; intros))
    refine iteB_f (by simp; omega) ?_
    exact next i H (by omega) (putP_at (by omega) hi (fun x hx => by rw [List.getElem?_eq_none (by omega)] at hx; cases hx)) S
  | succ k ih =>
    intro i H hk hi S
    have hlen := (Sat.slLen S (.tail _ (.tail _ (.head _)))).1
    rw [List.length_map] at hlen
    obtain ⟨x, hx⟩ : ∃ x, L[i]? = some x := get_of (by omega)
    have hI : HasI (L.map plainX) ((i : Nat) : Int) (plainX x) := HasI.nat (by rw [List.getElem?_map, hx]; rfl)
    refine F38.L0_step ?_
    unfold F38.L0n
    (iterate 2 (refine Step.go ?_; intros))
    refine iteB_t (by simp; omega) ?_
    (repeat (first | (refine Step.go ?_; intros) | refine iteB_t (by decide) ?_ | refine iteB_f (by decide) ?_ | (refine Duo.mk (by first | omega | exact rfl | decide) ?_; intros) | (refine Duo.mk (Clo.mk (by kernel_rfl)) ?_; intros)))
    refine Sat.idx (f := pcC) (E := 71) (z := 6) S ⟨by omega, by omega, fun r0 o0 hr => ?_⟩
    subst hr
    (repeat (first | (refine Step.go ?_; intros) | refine iteB_t (by decide) ?_ | refine iteB_f (by decide) ?_ | (refine Duo.mk (by first | omega | exact rfl | decide) ?_; intros) | (refine Duo.mk (Clo.mk (by kernel_rfl)) ?_; intros)))
    refine gives_i S (ahead_ok (o := o) (s := z.1) (t := (plainX x).1) hz (hL x (List.mem_of_getElem? hx))) ?_
    intro H1 E1 S1
    (repeat (first | (refine Step.go ?_; intros) | refine iteB_t (by decide) ?_ | refine iteB_f (by decide) ?_ | (refine Duo.mk (by first | omega | exact rfl | decide) ?_; intros) | (refine Duo.mk (Clo.mk (by kernel_rfl)) ?_; intros)))
    rw [ahead_plain]
    refine iteB_i (fun h => ?_) (fun h => ?_)
    · refine F38.L2_step ?_
      unfold F38.L2n
      rw [wr (by omega) (by omega)]
      have ei : ((i : Nat) : Int) + 1 = ((i + 1 : Nat) : Int) := by omega
      rw [ei]
      refine ih (i + 1) H1 (by omega) (fun j y hj hlt => ?_) S1
      by_cases hji : j = i
      · subst hji; rw [hx] at hj; cases hj; simpa using h
      · exact hi j y hj (by omega)
    · exact next i H1 (by omega) (putP_at (by omega) hi (fun y hy => by rw [hx] at hy; cases hy; simpa using h)) S1
abbrev pcZ : List Value := [.string (ByteArray.mk #[]), .string (ByteArray.mk #[]), .bool false, .int .i64 (0 : Int), .int .i64 (0 : Int), .int .i64 (0 : Int)]
theorem pc_isC (y : SP × Int) : ∀ v ∈ pcC y, isCell v = true := by
  intro v hv
  simp only [pcC, List.mem_cons, List.not_mem_nil, or_false] at hv
  rcases hv with rfl | rfl | rfl | rfl | rfl | rfl <;> rfl
theorem app1 {z : SP × Int} {A : List (SP × Int)} {p1 : Option Addr} {k c1 r1 : Nat} {m : List HP} {K : Option Addr → Nat → Nat → Heap → Prop} (hk : k ≤ 1000000)
    (S : Sat H (pt r1 (.cells ⟨pcC z⟩ 71) :: sl pcC 71 6 p1 k c1 A :: m)) (next : ∀ p' c' H1, Sat H1 (sl pcC 71 6 p' (k + 1) c' (A ++ [z]) :: m) → K p' (k + 1) c' H1) :
    apD H 6 64 pcZ 71 p1 k c1 (some ⟨r1, 0, none⟩) 1 K := by
  have S4 := S.bring (c := sl pcC 71 6 p1 k c1 A) (by (repeat (first | exact Sel.here | apply Sel.there)))
  refine S4.slApp (ys := [z]) (d := 1) ?_ rfl (by simp) (by simp [isCell]) rfl (by decide) (by omega) (fun p' c' H1 S1 => next p' c' H1 (S1.to (Ent.cons (Ent.drop .refl))))
  simp only [List.flatMap_cons, List.flatMap_nil, List.append_nil]
  exact cellsAt_one (S.at_ (List.mem_cons_self ..))
theorem app2 {A M : List (SP × Int)} {p p1 : Option Addr} {i k c1 n c : Nat} {m r : List HP} {K : Option Addr → Nat → Nat → Heap → Prop} (hk : k ≤ 1000000) (hn : n ≤ 1000000) (hi : i ≤ n) (S : Sat H (sl pcC 71 6 p1 k c1 A :: m)) (s : Sel (sl pcC 71 6 p n c M) m r)
    (next : ∀ p' c' H1, Sat H1 (sl pcC 71 6 p' (k + (n - i)) c' (A ++ M.drop i) :: m) → K p' (k + (n - i)) c' H1) :
    apD H 6 64 pcZ 71 p1 k c1 (slP p i c 6) (n - i) K := by
  have hm : sl pcC 71 6 p n c M ∈ m := s.perm.mem_iff.2 (List.mem_cons_self ..)
  have hl := (Sat.slLen S (List.mem_cons_of_mem _ hm)).1
  refine S.slApp (ys := M.drop i) (d := n - i) (slCells_of S (List.mem_cons_of_mem _ hm) hi) (by simp; omega) (fun _ _ => rfl) ?_ rfl (by decide) (by omega) next
  intro v hv
  obtain ⟨y, _, hv⟩ := List.mem_flatMap.1 hv
  exact pc_isC y v hv
theorem put_ok {z : SP × Int} {L : List (SP × Int)} {pr : Nat} {p : Option Addr} {n c : Nat} (hL : ∀ x ∈ L, SzX x) (hz : SzX z) (hn : n ≤ 100000) (S : Sat H (pt pr (pcO o p n c) :: sl pcC 71 6 p n c (L.map plainX) :: l)) :
    CallsH Try.prog 38 ⟨[pA pr, .agg ⟨z.1.cells⟩, .int .i64 z.2]⟩ H (fun e H1 => e = .returned (.tuple ⟨[]⟩) ∧ ∃ p' c', Sat H1 (pt pr (pcO o p' (n + 1) c') :: sl pcC 71 6 p' (n + 1) c' ((putP o z L).map plainX) :: l)) := by
  have hlen := (Sat.slLen S (.tail _ (.head _))).1
  rw [List.length_map] at hlen
  have hnc := (Sat.slLen S (.tail _ (.head _))).2
  refine F38.calls ?_
  unfold F38.go
  (repeat (first | (refine Step.go ?_; intros) | refine iteB_t (by decide) ?_ | refine iteB_f (by decide) ?_ | (refine Duo.mk (by first | omega | exact rfl | decide) ?_; intros) | (refine Duo.mk (Clo.mk (by kernel_rfl)) ?_; intros)))
  rename_i sb H1 S1
  refine put_loop (o := o) (z := z) (L := L) (l := l) (p := p) (c := c) (pr := pr) hL hz hn ?_ n 0 H1 (by omega) (fun j x _ h => by omega) (S1.to Fits.out)
  clear S S1
  intro i H2 hi hp S2
  refine F38.L1_step ?_
  unfold F38.L1n
  (repeat (first | (refine Step.go ?_; intros) | refine iteB_t (by decide) ?_ | refine iteB_f (by decide) ?_ | (refine Duo.mk (by first | omega | exact rfl | decide) ?_; intros) | (refine Duo.mk (Clo.mk (by kernel_rfl)) ?_; intros)))
  rename_i r H3 S3
  rw [Int.toNat_natCast, slP_zero]
  have T3 : Sat H3 (sl pcC 71 6 (some ⟨r, 0, none⟩) 0 0 [] :: pt sb (.cells ⟨z.1.cells⟩ 35) :: pt pr (pcO o p n c) :: sl pcC 71 6 p n c (L.map plainX) :: l) := S3.to (Ent.slClose (f := pcC) (pre := []) (xs := []) (sp := []) rfl (by simp) (Nat.le_refl _) rfl (by simp))
  refine T3.slApp (ys := (L.map plainX).take i) (d := i) (cells_take ?_) (by simp; omega) (fun _ _ => rfl) ?_ rfl (by decide) (by omega) ?_
  · have := slCells_of (i := 0) T3 (.tail _ (.tail _ (.tail _ (.head _)))) (by omega)
    rw [slP_zero, List.drop_zero] at this
    exact this
  · intro v hv
    obtain ⟨y, _, hv⟩ := List.mem_flatMap.1 hv
    exact pc_isC y v hv
  intro p1 c1 H4 S4
  rw [Nat.zero_add, List.nil_append] at S4
  have fin : ∀ p' c' H, Sat H (sl pcC 71 6 p' (0 + i + 1 + (n - i)) c' ((L.map plainX).take i ++ [plainX z] ++ (L.map plainX).drop i) :: pt sb (.cells ⟨z.1.cells⟩ 35) :: pt pr (pcO o p n c) :: sl pcC 71 6 p n c (L.map plainX) :: l) →
      st1 H (Addr.add (aA pr) 1) (.slice p' (0 + i + 1 + (n - i)) c') fun H7 => (fun e H1 => e = Ending.returned (.tuple ⟨[]⟩) ∧ ∃ p' c', Sat H1 (pt pr (pcO o p' (n + 1) c') :: sl pcC 71 6 p' (n + 1) c' ((putP o z L).map plainX) :: l)) (.returned (.tuple ⟨[]⟩)) H7 := by
    intro p' c' H S
    have e1 : 0 + i + 1 + (n - i) = n + 1 := by omega
    have e2 : (L.map plainX).take i ++ [plainX z] ++ (L.map plainX).drop i = (putP o z L).map plainX := by
      rw [hp, List.map_append, List.map_cons, List.map_take, List.map_drop]; simp
    rw [e1, e2] at S
    rw [e1]
    (repeat (first | (refine Step.go ?_; intros) | refine iteB_t (by decide) ?_ | refine iteB_f (by decide) ?_ | (refine Duo.mk (by first | omega | exact rfl | decide) ?_; intros) | (refine Duo.mk (Clo.mk (by kernel_rfl)) ?_; intros)))
    rename_i H9 S9
    exact ⟨rfl, p', c', S9.to Fits.out⟩
  have S4 : Sat H4 (sl pcC 71 6 p1 (0 + i) c1 ((L.map plainX).take i) :: pt sb (.cells ⟨z.1.cells⟩ 35) :: pt pr (pcO o p n c) :: sl pcC 71 6 p n c (L.map plainX) :: l) := by rw [Nat.zero_add]; exact S4
  refine ⟨?_, ?_, ?_⟩
  · (repeat (first | (refine Step.go ?_; intros) | refine iteB_t (by decide) ?_ | refine iteB_f (by decide) ?_ | (refine Duo.mk (by first | omega | exact rfl | decide) ?_; intros) | (refine Duo.mk (Clo.mk (by kernel_rfl)) ?_; intros)))
    refine gives_i S4 (plain_ok hz) ?_
    intro H5 E5 S5
    (repeat (first | (refine Step.go ?_; intros) | refine iteB_t (by decide) ?_ | refine iteB_f (by decide) ?_ | (refine Duo.mk (by first | omega | exact rfl | decide) ?_; intros) | (refine Duo.mk (Clo.mk (by kernel_rfl)) ?_; intros)))
    rename_i r1 H6 S6
    refine app1 (z := plainX z) (by omega) S6 fun p2 c2 H7 S7 => ?_
    rw [Int.toNat_natCast]
    refine app2 (by omega) (by omega) hi S7 (by (repeat (first | exact Sel.here | apply Sel.there))) fun p3 c3 H8 S8 => ?_
    (iterate 1 (refine Step.go ?_; intros))
    exact fin p3 c3 H8 S8
  · (repeat (first | (refine Step.go ?_; intros) | refine iteB_t (by decide) ?_ | refine iteB_f (by decide) ?_ | (refine Duo.mk (by first | omega | exact rfl | decide) ?_; intros) | (refine Duo.mk (Clo.mk (by kernel_rfl)) ?_; intros)))
    refine gives_i S4 (plain_ok hz) ?_
    intro H5 E5 S5
    (repeat (first | (refine Step.go ?_; intros) | refine iteB_t (by decide) ?_ | refine iteB_f (by decide) ?_ | (refine Duo.mk (by first | omega | exact rfl | decide) ?_; intros) | (refine Duo.mk (Clo.mk (by kernel_rfl)) ?_; intros)))
    (repeat (first | (refine Step.go ?_; intros) | refine iteB_t (by decide) ?_ | refine iteB_f (by decide) ?_ | (refine Duo.mk (by first | omega | exact rfl | decide) ?_; intros) | (refine Duo.mk (Clo.mk (by kernel_rfl)) ?_; intros)))
    rename_i r1 H6 S6
    refine app1 (z := plainX z) (by omega) S6 fun p2 c2 H7 S7 => ?_
    rw [Int.toNat_natCast]
    refine app2 (by omega) (by omega) hi S7 (by (repeat (first | exact Sel.here | apply Sel.there))) fun p3 c3 H8 S8 => ?_
    (iterate 1 (refine Step.go ?_; intros))
    exact fin p3 c3 H8 S8
  · (repeat (first | (refine Step.go ?_; intros) | refine iteB_t (by decide) ?_ | refine iteB_f (by decide) ?_ | (refine Duo.mk (by first | omega | exact rfl | decide) ?_; intros) | (refine Duo.mk (Clo.mk (by kernel_rfl)) ?_; intros)))
    refine gives_i S4 (plain_ok hz) ?_
    intro H5 E5 S5
    (repeat (first | (refine Step.go ?_; intros) | refine iteB_t (by decide) ?_ | refine iteB_f (by decide) ?_ | (refine Duo.mk (by first | omega | exact rfl | decide) ?_; intros) | (refine Duo.mk (Clo.mk (by kernel_rfl)) ?_; intros)))
    rename_i r1 H6 S6
    refine app1 (z := plainX z) (by omega) S6 fun p2 c2 H7 S7 => ?_
    (repeat (first | (refine Step.go ?_; intros) | refine iteB_t (by decide) ?_ | refine iteB_f (by decide) ?_ | (refine Duo.mk (by first | omega | exact rfl | decide) ?_; intros) | (refine Duo.mk (Clo.mk (by kernel_rfl)) ?_; intros)))
    rw [Int.toNat_natCast]
    refine app2 (by omega) (by omega) hi S7 (by (repeat (first | exact Sel.here | apply Sel.there))) fun p3 c3 H8 S8 => ?_
    (iterate 1 (refine Step.go ?_; intros))
    exact fin p3 c3 H8 S8
end
end Go.Proofs.Ytobolifgehagfaa

set_option linter.unusedVariables false
set_option linter.unusedSimpArgs false
set_option linter.unnecessarySimpa false
namespace Go.Proofs.Ytobolifgehagfaa
open Go Go.Den Go.Proofs
/-! The plain list is asked. -/
def sameS (o : Int) (s t : SP) : Bool := !aheadS o s t && !aheadS o t s
def hasP (o : Int) (y : EN) (L : List (SP × Int)) : Bool := L.any fun x => !ltE o y x.1.B && ltE o y x.1.E
def innerX (o : Int) (s : SP) (x : SP × Int) : Bool := !ltE o x.1.E s.B && ltE o x.1.E s.E
def covP (o : Int) (s : SP) (L : List (SP × Int)) : Bool := hasP o s.B L && L.all fun x => !innerX o s x || hasP o x.1.E L
def foundP (o : Int) (s : SP) (L : List (SP × Int)) : Bool := L.any fun x => sameS o x.1 s
theorem cmp_le {o : Int} {x y : EN} : decide (cmpE o x y ≤ 0) = !ltE o y x := by rw [← cmpE_pos, Bool.eq_iff_iff]; simp
section
variable {H H0 : Heap} {l : List HP} {o : Int}
theorem same_ok {s t : SP} (z1 : s.b.size ≤ 2147483647) (z2 : t.b.size ≤ 2147483647) : CallsH Try.prog 29 ⟨[.int .i64 o, .agg ⟨s.cells⟩, .agg ⟨t.cells⟩]⟩ H (Gives (.bool (sameS o s t)) H) := by
  have S := Sat.start H
  refine F29.calls ?_
  unfold F29.go
  unfold sameS
  (repeat (first | (refine Step.go ?_; intros) | refine iteB_t (by decide) ?_ | refine iteB_f (by decide) ?_ | (refine Duo.mk (by first | omega | exact rfl | decide) ?_; intros) | (refine Duo.mk (Clo.mk (by kernel_rfl)) ?_; intros)))
  rename_i r _ _ r1 H2 S2
  refine gives_i S2 (ahead_ok z1 z2) ?_
  intro H3 E3 S3
  (repeat (first | (refine Step.go ?_; intros) | refine iteB_t (by decide) ?_ | refine iteB_f (by decide) ?_ | (refine Duo.mk (by first | omega | exact rfl | decide) ?_; intros) | (refine Duo.mk (Clo.mk (by kernel_rfl)) ?_; intros)))
  refine iteB_i (fun h => ?_) (fun h => ?_)
  · rw [h]
    (repeat (first | (refine Step.go ?_; intros) | refine iteB_t (by decide) ?_ | refine iteB_f (by decide) ?_ | (refine Duo.mk (by first | omega | exact rfl | decide) ?_; intros) | (refine Duo.mk (Clo.mk (by kernel_rfl)) ?_; intros)))
    refine gives_i S3 (ahead_ok z2 z1) ?_
    intro H4 E4 S4
    (repeat (first | (refine Step.go ?_; intros) | refine iteB_t (by decide) ?_ | refine iteB_f (by decide) ?_ | (refine Duo.mk (by first | omega | exact rfl | decide) ?_; intros) | (refine Duo.mk (Clo.mk (by kernel_rfl)) ?_; intros)))
    exact ⟨rfl, Sat.grown⟩
  · rw [h]
    exact ⟨rfl, Sat.grown⟩
section
variable {pr : Nat} {p : Option Addr} {n c : Nat} {L : List (SP × Int)} (hB : H0[pr]? = some (pcO o p n c)) (hR : RowsAt pcC 6 H0 p (L.map plainX)) (hn : L.length = n) (hb : n ≤ 100000)
include hB hR hn hb
theorem has_loop (y : EN) : ∀ (k i : Nat) (H : Heap), i + k = n → ExtH H0 H → hasP o y L = hasP o y (L.drop i) →
    F86.L0 (some (aA pr)) y.1 y.2 p n c (n : Nat) (i : Nat) H (Gives (.bool (hasP o y L)) H0) := by
  intro k
  induction k with
  | zero =>
    intro i H hk E hd
    refine F86.L0_step ?_
    unfold F86.L0n
    refine iteB_f (by simp; omega) ?_
    rw [hd, List.drop_eq_nil_of_le (by omega)]
    exact ⟨rfl, E⟩
  | succ k ih =>
    intro i H hk E hd
    have S := (Sat.start H0).ext E
    have A := atOld hB
    have R0 : RowsC H0 p pcC 6 (L.map plainX) := ⟨hR⟩
    obtain ⟨x, hx⟩ : ∃ x, L[i]? = some x := get_of (by omega)
    have hI : HasI (L.map plainX) ((i : Nat) : Int) (plainX x) := HasI.nat (by rw [List.getElem?_map, hx]; rfl)
    have hdr : L.drop i = x :: L.drop (i + 1) := by
      have h9 := List.drop_eq_getElem_cons (l := L) (i := i) (by omega)
      rw [List.getElem?_eq_getElem (by omega)] at hx
      cases hx; exact h9
    have next : ∀ H1, ExtH H0 H1 → (!ltE o y x.1.B && ltE o y x.1.E) = false → F86.L1 (some (aA pr)) y.1 y.2 p n c (n : Nat) (i : Nat) H1 (Gives (.bool (hasP o y L)) H0) := by
      intro H1 E1 hf
      refine F86.L1_step ?_
      unfold F86.L1n
      rw [wr (by omega) (by omega), show ((i : Nat) : Int) + 1 = ((i + 1 : Nat) : Int) by omega]
      refine ih (i + 1) H1 (by omega) E1 ?_
      rw [hd, hdr]
      unfold hasP
      rw [List.any_cons, hf, Bool.false_or]
    refine F86.L0_step ?_
    unfold F86.L0n
    refine iteB_t (by simp; omega) ?_
    refine R0.idx (by simp [hn]) ⟨by omega, by omega, ?_⟩
    intro a ha
    subst ha
    (repeat (first | (refine Step.go ?_; intros) | refine iteB_t (by decide) ?_ | refine iteB_f (by decide) ?_ | (refine Duo.mk (by first | omega | exact rfl | decide) ?_; intros) | (refine Duo.mk (Clo.mk (by kernel_rfl)) ?_; intros)))
    refine gives_i (by assumption) (ends_ok o (plainX x).1.b y.1 (plainX x).1.f y.2) ?_
    intro H1 E1 S1
    (repeat (first | (refine Step.go ?_; intros) | refine iteB_t (by decide) ?_ | refine iteB_f (by decide) ?_ | (refine Duo.mk (by first | omega | exact rfl | decide) ?_; intros) | (refine Duo.mk (Clo.mk (by kernel_rfl)) ?_; intros)))
    rw [cmp_le]
    refine iteB_i (fun h => ?_) (fun h => ?_)
    · (repeat (first | (refine Step.go ?_; intros) | refine iteB_t (by decide) ?_ | refine iteB_f (by decide) ?_ | (refine Duo.mk (by first | omega | exact rfl | decide) ?_; intros) | (refine Duo.mk (Clo.mk (by kernel_rfl)) ?_; intros)))
      refine gives_i S1 (ends_ok o y.1 (plainX x).1.e y.2 (plainX x).1.t) ?_
      intro H2 E2 S2
      (repeat (first | (refine Step.go ?_; intros) | refine iteB_t (by decide) ?_ | refine iteB_f (by decide) ?_ | (refine Duo.mk (by first | omega | exact rfl | decide) ?_; intros) | (refine Duo.mk (Clo.mk (by kernel_rfl)) ?_; intros)))
      rw [cmpE_neg]
      have h : (!ltE o y x.1.B) = true := h
      refine iteB_i (fun h2 => ?_) (fun h2 => ?_)
      · have h2 : ltE o y x.1.E = true := h2
        rw [hd, hdr]
        unfold hasP
        rw [List.any_cons, h, h2]
        exact ⟨rfl, Sat.grown⟩
      · exact next H2 Sat.grown (by rw [h]; exact h2)
    · exact next H1 Sat.grown (by have h : (!ltE o y x.1.B) = false := h; rw [h]; rfl)
theorem has_ok (y : EN) {H : Heap} (E : ExtH H0 H) : CallsH Try.prog 86 ⟨[pA pr, .string y.1, .int .i64 y.2]⟩ H (Gives (.bool (hasP o y L)) H0) := by
  have S := (Sat.start H0).ext E
  have A := atOld hB
  refine F86.calls ?_
  unfold F86.go
  (repeat (first | (refine Step.go ?_; intros) | refine iteB_t (by decide) ?_ | refine iteB_f (by decide) ?_ | (refine Duo.mk (by first | omega | exact rfl | decide) ?_; intros) | (refine Duo.mk (Clo.mk (by kernel_rfl)) ?_; intros)))
  exact has_loop hB hR hn hb y n 0 H (by omega) E rfl
theorem cov_loop {s : SP} (hz : s.b.size ≤ 2147483647) {sb : Nat} : ∀ (k i : Nat) (H : Heap) (l : List HP), i + k = n → Sat H (pt sb (.cells ⟨(plainS s).cells⟩ 35) :: old H0 :: l) → hasP o s.B L = true → covP o s L = ((L.drop i).all fun x => !innerX o s x || hasP o x.1.E L) →
    F65.L0 (some (aA pr)) sb p n c (n : Nat) (i : Nat) H (Gives (.bool (covP o s L)) H0) := by
  intro k
  induction k with
  | zero =>
    intro i H l hk S hh hd
    refine F65.L0_step ?_
    unfold F65.L0n
    refine iteB_f (by simp; omega) ?_
    rw [hd, List.drop_eq_nil_of_le (by omega)]
    exact ⟨rfl, Sat.grown⟩
  | succ k ih =>
    intro i H l hk S hh hd
    have A := atOld hB
    have R0 : RowsC H0 p pcC 6 (L.map plainX) := ⟨hR⟩
    obtain ⟨x, hx⟩ : ∃ x, L[i]? = some x := get_of (by omega)
    have hI : HasI (L.map plainX) ((i : Nat) : Int) (plainX x) := HasI.nat (by rw [List.getElem?_map, hx]; rfl)
    have hdr : L.drop i = x :: L.drop (i + 1) := by
      have h9 := List.drop_eq_getElem_cons (l := L) (i := i) (by omega)
      rw [List.getElem?_eq_getElem (by omega)] at hx
      cases hx; exact h9
    have next : ∀ H1 l', Sat H1 (pt sb (.cells ⟨(plainS s).cells⟩ 35) :: old H0 :: l') → (!innerX o s x || hasP o x.1.E L) = true → F65.L2 (some (aA pr)) sb p n c (n : Nat) (i : Nat) H1 (Gives (.bool (covP o s L)) H0) := by
      intro H1 l' S1 hf
      refine F65.L2_step ?_
      unfold F65.L2n
      rw [wr (by omega) (by omega), show ((i : Nat) : Int) + 1 = ((i + 1 : Nat) : Int) by omega]
      refine ih (i + 1) H1 l' (by omega) S1 hh ?_
      rw [hd, hdr, List.all_cons, hf, Bool.true_and]
    have l1 : ∀ H1 rb l' v, Sat H1 (pt rb (.cells ⟨pcC (plainX x)⟩ 71) :: pt sb (.cells ⟨(plainS s).cells⟩ 35) :: old H0 :: l') → v = innerX o s x → F65.L1 (some (aA pr)) sb rb v p n c (n : Nat) (i : Nat) H1 (Gives (.bool (covP o s L)) H0) := by
      rintro H1 rb l' v S1 rfl
      refine F65.L1_step ?_
      unfold F65.L1n
      refine iteB_i (fun h => ?_) (fun h => ?_)
      · (repeat (first | (refine Step.go ?_; intros) | refine iteB_t (by decide) ?_ | refine iteB_f (by decide) ?_ | (refine Duo.mk (by first | omega | exact rfl | decide) ?_; intros) | (refine Duo.mk (Clo.mk (by kernel_rfl)) ?_; intros)))
        have E1 : ExtH H0 H1 := Sat.grown
        refine gives_i S1 (has_ok (H0 := H1) (E1.block_some hB) (hR.ext E1) hn hb x.1.E (ExtH.refl H1)) ?_
        intro H2 E2 S2
        (repeat (first | (refine Step.go ?_; intros) | refine iteB_t (by decide) ?_ | refine iteB_f (by decide) ?_ | (refine Duo.mk (by first | omega | exact rfl | decide) ?_; intros) | (refine Duo.mk (Clo.mk (by kernel_rfl)) ?_; intros)))
        refine iteB_i (fun h2 => ?_) (fun h2 => ?_)
        · have h2 : hasP o x.1.E L = false := by simpa using h2
          rw [hd, hdr, List.all_cons, h, h2]
          exact ⟨rfl, Sat.grown⟩
        · have h2 : hasP o x.1.E L = true := by simpa using h2
          exact next H2 _ (S2.to (Ent.drop .refl)) (by rw [h2, Bool.or_true])
      · exact next H1 _ (S1.to (Ent.drop .refl)) (by rw [h]; rfl)
    refine F65.L0_step ?_
    unfold F65.L0n
    refine iteB_t (by simp; omega) ?_
    refine R0.idx (by simp [hn]) ⟨by omega, by omega, ?_⟩
    intro a ha
    subst ha
    (repeat (first | (refine Step.go ?_; intros) | refine iteB_t (by decide) ?_ | refine iteB_f (by decide) ?_ | (refine Duo.mk (by first | omega | exact rfl | decide) ?_; intros) | (refine Duo.mk (Clo.mk (by kernel_rfl)) ?_; intros)))
    rename_i rb _ _ _ _ _ _ _ _ _ _ _ _ H1 S1
    refine gives_i S1 (ends_ok o (plainS s).b (plainX x).1.e (plainS s).f (plainX x).1.t) ?_
    intro H2 E2 S2
    (repeat (first | (refine Step.go ?_; intros) | refine iteB_t (by decide) ?_ | refine iteB_f (by decide) ?_ | (refine Duo.mk (by first | omega | exact rfl | decide) ?_; intros) | (refine Duo.mk (Clo.mk (by kernel_rfl)) ?_; intros)))
    rw [cmp_le]
    refine iteB_i (fun h => ?_) (fun h => ?_)
    · (repeat (first | (refine Step.go ?_; intros) | refine iteB_t (by decide) ?_ | refine iteB_f (by decide) ?_ | (refine Duo.mk (by first | omega | exact rfl | decide) ?_; intros) | (refine Duo.mk (Clo.mk (by kernel_rfl)) ?_; intros)))
      refine gives_i S2 (ends_ok o (plainX x).1.e (plainS s).e (plainX x).1.t (plainS s).t) ?_
      intro H3 E3 S3
      (repeat (first | (refine Step.go ?_; intros) | refine iteB_t (by decide) ?_ | refine iteB_f (by decide) ?_ | (refine Duo.mk (by first | omega | exact rfl | decide) ?_; intros) | (refine Duo.mk (Clo.mk (by kernel_rfl)) ?_; intros)))
      rw [cmpE_neg]
      refine l1 H3 rb l _ (S3.to Fits.out) ?_
      have h : (!ltE o x.1.E s.B) = true := h
      unfold innerX
      rw [h, Bool.true_and]
      rfl
    · refine l1 H2 rb l _ (S2.to Fits.out) ?_
      have h : (!ltE o x.1.E s.B) = false := h
      unfold innerX
      rw [h]; rfl
theorem cov_ok {s : SP} (hz : s.b.size ≤ 2147483647) : CallsH Try.prog 65 ⟨[pA pr, .agg ⟨s.cells⟩]⟩ H0 (Gives (.bool (covP o s L)) H0) := by
  have S := Sat.start H0
  have A := atOld hB
  refine F65.calls ?_
  unfold F65.go
  (repeat (first | (refine Step.go ?_; intros) | refine iteB_t (by decide) ?_ | refine iteB_f (by decide) ?_ | (refine Duo.mk (by first | omega | exact rfl | decide) ?_; intros) | (refine Duo.mk (Clo.mk (by kernel_rfl)) ?_; intros)))
  rename_i r H1 S1
  refine gives_i S1 (plain_ok hz) ?_
  intro H2 E2 S2
  (repeat (first | (refine Step.go ?_; intros) | refine iteB_t (by decide) ?_ | refine iteB_f (by decide) ?_ | (refine Duo.mk (by first | omega | exact rfl | decide) ?_; intros) | (refine Duo.mk (Clo.mk (by kernel_rfl)) ?_; intros)))
  rename_i sb _ _ _ _ _ _ _ _ _ _ H3 S3
  have E3 : ExtH H0 H3 := Sat.grown
  refine gives_i S3 (has_ok (H0 := H3) (E3.block_some hB) (hR.ext E3) hn hb s.B (ExtH.refl H3)) ?_
  intro H4 E4 S4
  (repeat (first | (refine Step.go ?_; intros) | refine iteB_t (by decide) ?_ | refine iteB_f (by decide) ?_ | (refine Duo.mk (by first | omega | exact rfl | decide) ?_; intros) | (refine Duo.mk (Clo.mk (by kernel_rfl)) ?_; intros)))
  refine iteB_i (fun h => ?_) (fun h => ?_)
  · have h : hasP o s.B L = false := by simpa using h
    unfold covP
    rw [h]
    exact ⟨rfl, Sat.grown⟩
  · have h : hasP o s.B L = true := by simpa using h
    (repeat (first | (refine Step.go ?_; intros) | refine iteB_t (by decide) ?_ | refine iteB_f (by decide) ?_ | (refine Duo.mk (by first | omega | exact rfl | decide) ?_; intros) | (refine Duo.mk (Clo.mk (by kernel_rfl)) ?_; intros)))
    refine cov_loop hB hR hn hb hz n 0 H4 [pt r (.cells ⟨s.cells⟩ 35)] (by omega) (S4.to Fits.out) h ?_
    rw [covP, h, Bool.true_and]
    rfl
theorem find_loopP {s : SP} (hz : s.b.size ≤ 2147483647) (hL : ∀ x ∈ L, SzX x) {sb : Nat} : ∀ (k i : Nat) (H : Heap) (l : List HP), i + k = n → Sat H (pt sb (.cells ⟨s.cells⟩ 35) :: old H0 :: l) → foundP o s L = foundP o s (L.drop i) →
    F62.L0 (some (aA pr)) sb p n c (n : Nat) (i : Nat) H (fun e H1 => ∃ v : Int, e = .returned (.int .i64 v) ∧ ExtH H0 H1 ∧ (foundP o s L = true → 0 ≤ v ∧ v < n) ∧ (foundP o s L = false → v = -1)) := by
  intro k
  induction k with
  | zero =>
    intro i H l hk S hd
    refine F62.L0_step ?_
    unfold F62.L0n
    refine iteB_f (by simp; omega) ?_
    rw [hd, List.drop_eq_nil_of_le (by omega)]
    exact ⟨-1, rfl, Sat.grown, fun h => by simp [foundP] at h, fun _ => rfl⟩
  | succ k ih =>
    intro i H l hk S hd
    have A := atOld hB
    have R0 : RowsC H0 p pcC 6 (L.map plainX) := ⟨hR⟩
    obtain ⟨x, hx⟩ : ∃ x, L[i]? = some x := get_of (by omega)
    have hI : HasI (L.map plainX) ((i : Nat) : Int) (plainX x) := HasI.nat (by rw [List.getElem?_map, hx]; rfl)
    have hdr : L.drop i = x :: L.drop (i + 1) := by
      have h9 := List.drop_eq_getElem_cons (l := L) (i := i) (by omega)
      rw [List.getElem?_eq_getElem (by omega)] at hx
      cases hx; exact h9
    have e0 : foundP o s (L.drop i) = (sameS o x.1 s || foundP o s (L.drop (i + 1))) := by
      rw [hdr]; unfold foundP; rw [List.any_cons]
    refine F62.L0_step ?_
    unfold F62.L0n
    refine iteB_t (by simp; omega) ?_
    refine R0.idx (by simp [hn]) ⟨by omega, by omega, ?_⟩
    intro a ha
    subst ha
    (repeat (first | (refine Step.go ?_; intros) | refine iteB_t (by decide) ?_ | refine iteB_f (by decide) ?_ | (refine Duo.mk (by first | omega | exact rfl | decide) ?_; intros) | (refine Duo.mk (Clo.mk (by kernel_rfl)) ?_; intros)))
    rename_i rb _ _ _ _ _ _ _ _ _ _ _ _ H1 S1
    refine gives_i S1 (same_ok (s := (plainX x).1) (t := s) (hL x (List.mem_of_getElem? hx)) hz) ?_
    intro H2 E2 S2
    (repeat (first | (refine Step.go ?_; intros) | refine iteB_t (by decide) ?_ | refine iteB_f (by decide) ?_ | (refine Duo.mk (by first | omega | exact rfl | decide) ?_; intros) | (refine Duo.mk (Clo.mk (by kernel_rfl)) ?_; intros)))
    refine iteB_i (fun h => ?_) (fun h => ?_)
    · have h : sameS o x.1 s = true := h
      refine ⟨_, rfl, Sat.grown, fun _ => by omega, fun h2 => ?_⟩
      rw [hd, e0, h] at h2; simp at h2
    · have h : sameS o x.1 s = false := h
      rw [wr (by omega) (by omega), show ((i : Nat) : Int) + 1 = ((i + 1 : Nat) : Int) by omega]
      refine ih (i + 1) H2 l (by omega) (S2.to (Ent.drop .refl)) ?_
      rw [hd, e0, h, Bool.false_or]
theorem findP_ok {s : SP} (hz : s.b.size ≤ 2147483647) (hL : ∀ x ∈ L, SzX x) : CallsH Try.prog 62 ⟨[pA pr, .agg ⟨s.cells⟩]⟩ H0 (fun e H1 => ∃ v : Int, e = .returned (.int .i64 v) ∧ ExtH H0 H1 ∧ (foundP o s L = true → 0 ≤ v ∧ v < n) ∧ (foundP o s L = false → v = -1)) := by
  have S := Sat.start H0
  have A := atOld hB
  refine F62.calls ?_
  unfold F62.go
  (repeat (first | (refine Step.go ?_; intros) | refine iteB_t (by decide) ?_ | refine iteB_f (by decide) ?_ | (refine Duo.mk (by first | omega | exact rfl | decide) ?_; intros) | (refine Duo.mk (Clo.mk (by kernel_rfl)) ?_; intros)))
  rename_i r H1 S1
  exact find_loopP hB hR hn hb hz hL n 0 H1 [] (by omega) S1 rfl
end
end
end Go.Proofs.Ytobolifgehagfaa

set_option linter.unusedVariables false
set_option linter.unusedSimpArgs false
set_option linter.unnecessarySimpa false
namespace Go.Proofs.Ytobolifgehagfaa
open Go Go.Den Go.Proofs
/-! The plain list's answers. -/
section
variable {H H0 : Heap} {l : List HP} {o : Int}
theorem appSp {x : SP} {A : List SP} {p : Option Addr} {k c r : Nat} {m1 : List HP} {K : Option Addr → Nat → Nat → Heap → Prop} (hk : k ≤ 1000000) (S : Sat H l) (s1 : Sel (sl SP.cells 35 5 p k c A) l m1) (hr : H[r]? = some (.cells ⟨x.cells⟩ 35))
    (next : ∀ p' c' H1, Sat H1 (sl SP.cells 35 5 p' (k + 1) c' (A ++ [x]) :: m1) → K p' (k + 1) c' H1) :
    apD H 5 56 [.string (ByteArray.mk #[]), .string (ByteArray.mk #[]), .bool false, .int .i64 (0 : Int), .int .i64 (0 : Int)] 35 p k c (some ⟨r, 0, none⟩) 1 K := by
  refine (S.bring s1).slApp (ys := [x]) (d := 1) ?_ rfl (by simp) (by simp [isCell]) rfl (by decide) (by omega) next
  simp only [List.flatMap_cons, List.flatMap_nil, List.append_nil]
  exact cellsAt_one hr
theorem appIn {x : Int} {A : List Int} {p : Option Addr} {k c r : Nat} {m1 : List HP} {K : Option Addr → Nat → Nat → Heap → Prop} (hk : k ≤ 1000000) (S : Sat H l) (s1 : Sel (sl inC 3 1 p k c A) l m1) (hr : H[r]? = some (.cells ⟨inC x⟩ 3))
    (next : ∀ p' c' H1, Sat H1 (sl inC 3 1 p' (k + 1) c' (A ++ [x]) :: m1) → K p' (k + 1) c' H1) :
    apD H 1 8 [.int .i64 (0 : Int)] 3 p k c (some ⟨r, 0, none⟩) 1 K := by
  refine (S.bring s1).slApp (ys := [x]) (d := 1) ?_ rfl (by simp) (by simp [isCell]) rfl (by decide) (by omega) next
  simp only [List.flatMap_cons, List.flatMap_nil, List.append_nil]
  exact cellsAt_one hr
theorem listed_loop {xs : List (SP × Int)} {q : Option Addr} {qc : Nat} (hR : RowsAt pcC 6 H0 q xs) (hx : xs.length ≤ 1000000) {r4 ra : Nat} : ∀ (k i : Nat) (lp vp : Option Addr) (lc vc : Nat) (H : Heap) (l : List HP), i + k = xs.length →
    Sat H (pt ra (ansO false 0 0 lp i lc vp i vc) :: pt r4 (ansO false 0 0 none 0 0 none 0 0) :: sl SP.cells 35 5 lp i lc ((xs.take i).map (·.1)) :: sl inC 3 1 vp i vc ((xs.take i).map (·.2)) :: old H0 :: l) →
    F63.L0 0 r4 ra q xs.length qc (xs.length : Nat) (i : Nat) H (fun e H1 => ∃ lp lc vp vc, e = .returned (ansV false 0 0 lp xs.length lc vp xs.length vc) ∧ Sat H1 [sl SP.cells 35 5 lp xs.length lc (xs.map (·.1)), sl inC 3 1 vp xs.length vc (xs.map (·.2)), old H0]) := by
  intro k
  induction k with
  | zero =>
    intro i lp vp lc vc H l hk S
    obtain rfl : i = xs.length := by omega
    rw [List.take_length] at S
    refine F63.L0_step ?_
    unfold F63.L0n
    refine iteB_f (by simp) ?_
    (repeat (first | (refine Step.go ?_; intros) | refine iteB_t (by decide) ?_ | refine iteB_f (by decide) ?_ | (refine Duo.mk (by first | omega | exact rfl | decide) ?_; intros) | (refine Duo.mk (Clo.mk (by kernel_rfl)) ?_; intros)))
    exact ⟨lp, lc, vp, vc, rfl, Sat.to (by assumption) Fits.out⟩
  | succ k ih =>
    intro i lp vp lc vc H l hk S
    have R0 : RowsC H0 q pcC 6 xs := ⟨hR⟩
    obtain ⟨x, hxi⟩ : ∃ x, xs[i]? = some x := get_of (by omega)
    have hI : HasI xs ((i : Nat) : Int) x := HasI.nat hxi
    refine F63.L0_step ?_
    unfold F63.L0n
    refine iteB_t (by simp; omega) ?_
    refine R0.idx rfl ⟨by omega, by omega, ?_⟩
    intro a ha
    subst ha
    (repeat (first | (refine Step.go ?_; intros) | refine iteB_t (by decide) ?_ | refine iteB_f (by decide) ?_ | (refine Duo.mk (by first | omega | exact rfl | decide) ?_; intros) | (refine Duo.mk (Clo.mk (by kernel_rfl)) ?_; intros)))
    rename_i rx _ _ _ _ _ _ _ _ _ _ _ _ H1 S1
    clear S
    refine F63.L1_step ?_
    unfold F63.L1n
    have fin : ∀ lp' lc' vp' vc' H2 l', Sat H2 (pt ra (ansO false 0 0 lp' (i + 1) lc' vp' (i + 1) vc') :: pt r4 (ansO false 0 0 none 0 0 none 0 0) :: sl SP.cells 35 5 lp' (i + 1) lc' ((xs.take i).map (·.1) ++ [x.1]) :: sl inC 3 1 vp' (i + 1) vc' ((xs.take i).map (·.2) ++ [x.2]) :: old H0 :: l') → 
        F63.L2 0 r4 ra (some a) xs.length qc (xs.length : Nat) (i : Nat) H2 (fun e H1 => ∃ lp lc vp vc, e = .returned (ansV false 0 0 lp xs.length lc vp xs.length vc) ∧ Sat H1 [sl SP.cells 35 5 lp xs.length lc (xs.map (·.1)), sl inC 3 1 vp xs.length vc (xs.map (·.2)), old H0]) := by
      intro lp' lc' vp' vc' H2 l' S2
      refine F63.L2_step ?_
      unfold F63.L2n
      rw [wr (by omega) (by omega), show ((i : Nat) : Int) + 1 = ((i + 1 : Nat) : Int) by omega]
      refine ih (i + 1) lp' vp' lc' vc' H2 l' (by omega) ?_
      have et : xs.take (i + 1) = xs.take i ++ [x] := by
        rw [List.take_add_one, hxi]; rfl
      rw [et, List.map_append, List.map_append]
      exact S2
    repeat' (refine And.intro ?_ ?_)
    all_goals
      ((repeat (first | (refine Step.go ?_; intros) | refine iteB_t (by decide) ?_ | refine iteB_f (by decide) ?_ | (refine Duo.mk (by first | omega | exact rfl | decide) ?_; intros) | (refine Duo.mk (Clo.mk (by kernel_rfl)) ?_; intros)))
       refine appSp (x := x.1) (by omega) (by assumption) (by (repeat (first | exact Sel.here | apply Sel.there))) (Sat.obj (by assumption)) ?_
       intro lp1 lc1 _ _
       (repeat (first | (refine Step.go ?_; intros) | refine iteB_t (by decide) ?_ | refine iteB_f (by decide) ?_ | (refine Duo.mk (by first | omega | exact rfl | decide) ?_; intros) | (refine Duo.mk (Clo.mk (by kernel_rfl)) ?_; intros)))
       refine appIn (x := x.2) (by omega) (by assumption) (by (repeat (first | exact Sel.here | apply Sel.there))) (Sat.obj (by assumption)) ?_
       intro vp1 vc1 _ _
       (repeat (first | (refine Step.go ?_; intros) | refine iteB_t (by decide) ?_ | refine iteB_f (by decide) ?_ | (refine Duo.mk (by first | omega | exact rfl | decide) ?_; intros) | (refine Duo.mk (Clo.mk (by kernel_rfl)) ?_; intros)))
       exact fin lp1 lc1 vp1 vc1 _ l (Sat.to (by assumption) Fits.out))
theorem listed_ok {xs : List (SP × Int)} {q : Option Addr} {qc : Nat} (hR : RowsAt pcC 6 H0 q xs) (hx : xs.length ≤ 1000000) : CallsH Try.prog 63 ⟨[.slice q xs.length qc, .int .i64 0]⟩ H0 (fun e H1 => ∃ lp lc vp vc, e = .returned (ansV false 0 0 lp xs.length lc vp xs.length vc) ∧ Sat H1 [sl SP.cells 35 5 lp xs.length lc (xs.map (·.1)), sl inC 3 1 vp xs.length vc (xs.map (·.2)), old H0]) := by
  have S := Sat.start H0
  refine F63.calls ?_
  unfold F63.go
  (repeat (first | (refine Step.go ?_; intros) | refine iteB_t (by decide) ?_ | refine iteB_f (by decide) ?_ | (refine Duo.mk (by first | omega | exact rfl | decide) ?_; intros) | (refine Duo.mk (Clo.mk (by kernel_rfl)) ?_; intros)))
  rename_i r4 _ _ ra H1 S1
  refine listed_loop hR hx xs.length 0 none none 0 0 H1 [] (by omega) ?_
  refine S1.to ?_
  iterate 2 (apply Ent.pick; (focus (repeat (first | exact Sel.here | apply Sel.there))))
  exact Ent.slNil (Ent.slNil .refl)
section
variable {pr : Nat} {p : Option Addr} {n c : Nat} {L : List (SP × Int)} (hB : H0[pr]? = some (pcO o p n c)) (hR : RowsAt pcC 6 H0 p (L.map plainX)) (hn : L.length = n) (hb : n ≤ 100000)
include hB hR hn hb
theorem meeting_loop {s : SP} (hz : s.b.size ≤ 2147483647) (hL : ∀ x ∈ L, SzX x) {sb : Nat} : ∀ (k i m : Nat) (q : Option Addr) (d : Nat) (H : Heap) (l : List HP), i + k = n → m = ((L.take i).filter (meetX o s)).length →
    Sat H (pt sb (.cells ⟨s.cells⟩ 35) :: sl pcC 71 6 q m d (((L.take i).filter (meetX o s)).map plainX) :: old H0 :: l) →
    F64.L0 (some (aA pr)) sb q m d p n c (n : Nat) (i : Nat) H (fun e H1 => ∃ q d, e = .returned (.slice q (L.filter (meetX o s)).length d) ∧ Sat H1 [sl pcC 71 6 q (L.filter (meetX o s)).length d ((L.filter (meetX o s)).map plainX), old H0]) := by
  intro k
  induction k with
  | zero =>
    intro i m q d H l hk hm S
    refine F64.L0_step ?_
    unfold F64.L0n
    refine iteB_f (by simp; omega) ?_
    rw [List.take_of_length_le (by omega)] at hm S
    subst hm
    exact ⟨q, d, rfl, S.to Fits.out⟩
  | succ k ih =>
    intro i m q d H l hk hm S
    have A := atOld hB
    have R0 : RowsC H0 p pcC 6 (L.map plainX) := ⟨hR⟩
    obtain ⟨x, hx⟩ : ∃ x, L[i]? = some x := get_of (by omega)
    have hI : HasI (L.map plainX) ((i : Nat) : Int) (plainX x) := HasI.nat (by rw [List.getElem?_map, hx]; rfl)
    have et : L.take (i + 1) = L.take i ++ [x] := by
      rw [List.take_add_one, hx]; rfl
    have hml : m ≤ n := by
      have h1 := List.length_filter_le (meetX o s) (L.take i)
      have h2 := List.length_take_le i L
      omega
    have next : ∀ m' q' d' H1 l', m' = ((L.take (i + 1)).filter (meetX o s)).length → Sat H1 (pt sb (.cells ⟨s.cells⟩ 35) :: sl pcC 71 6 q' m' d' (((L.take (i + 1)).filter (meetX o s)).map plainX) :: old H0 :: l') →
        F64.L1 (some (aA pr)) sb q' m' d' p n c (n : Nat) (i : Nat) H1 (fun e H1 => ∃ q d, e = .returned (.slice q (L.filter (meetX o s)).length d) ∧ Sat H1 [sl pcC 71 6 q (L.filter (meetX o s)).length d ((L.filter (meetX o s)).map plainX), old H0]) := by
      intro m' q' d' H1 l' hm' S1
      refine F64.L1_step ?_
      unfold F64.L1n
      rw [wr (by omega) (by omega), show ((i : Nat) : Int) + 1 = ((i + 1 : Nat) : Int) by omega]
      exact ih (i + 1) m' q' d' H1 l' (by omega) hm' S1
    refine F64.L0_step ?_
    unfold F64.L0n
    refine iteB_t (by simp; omega) ?_
    refine R0.idx (by simp [hn]) ⟨by omega, by omega, ?_⟩
    intro a ha
    subst ha
    (repeat (first | (refine Step.go ?_; intros) | refine iteB_t (by decide) ?_ | refine iteB_f (by decide) ?_ | (refine Duo.mk (by first | omega | exact rfl | decide) ?_; intros) | (refine Duo.mk (Clo.mk (by kernel_rfl)) ?_; intros)))
    rename_i rb _ _ _ _ _ _ _ _ _ _ _ _ H1 S1
    refine gives_i S1 (meet_ok (s := (plainX x).1) (t := s) (hL x (List.mem_of_getElem? hx)) hz) ?_
    intro H2 E2 S2
    (repeat (first | (refine Step.go ?_; intros) | refine iteB_t (by decide) ?_ | refine iteB_f (by decide) ?_ | (refine Duo.mk (by first | omega | exact rfl | decide) ?_; intros) | (refine Duo.mk (Clo.mk (by kernel_rfl)) ?_; intros)))
    refine iteB_i (fun h => ?_) (fun h => ?_)
    · have h : meetX o s x = true := h
      have ef : (L.take (i + 1)).filter (meetX o s) = (L.take i).filter (meetX o s) ++ [x] := by
        rw [et, List.filter_append, List.filter_cons, if_pos h]; rfl
      (repeat (first | (refine Step.go ?_; intros) | refine iteB_t (by decide) ?_ | refine iteB_f (by decide) ?_ | (refine Duo.mk (by first | omega | exact rfl | decide) ?_; intros) | (refine Duo.mk (Clo.mk (by kernel_rfl)) ?_; intros)))
      rename_i r1 H3 S3
      refine app1 (z := plainX x) (k := m) (A := ((L.take i).filter (meetX o s)).map plainX) (m := pt rb (.cells ⟨pcC (plainX x)⟩ 71) :: pt sb (.cells ⟨s.cells⟩ 35) :: old H0 :: l) (by omega) (S3.to Fits.out) fun q' d' H4 S4 => ?_
      refine next (m + 1) q' d' H4 [] (by rw [ef, List.length_append, hm]; rfl) ?_
      rw [ef, List.map_append]
      refine S4.to ?_
      iterate 3 (apply Ent.pick; (focus (repeat (first | exact Sel.here | apply Sel.there))))
      exact Ent.nil
    · have h : meetX o s x = false := h
      have ef : (L.take (i + 1)).filter (meetX o s) = (L.take i).filter (meetX o s) := by
        rw [et, List.filter_append, List.filter_cons, if_neg (by rw [h]; simp)]; simp
      exact next m q d H2 [] (by rw [ef]; exact hm) (by rw [ef]; exact S2.to Fits.out)
theorem meeting_ok {s : SP} (hz : s.b.size ≤ 2147483647) (hL : ∀ x ∈ L, SzX x) : CallsH Try.prog 64 ⟨[pA pr, .agg ⟨s.cells⟩]⟩ H0 (fun e H1 => ∃ q d, e = .returned (.slice q (L.filter (meetX o s)).length d) ∧ Sat H1 [sl pcC 71 6 q (L.filter (meetX o s)).length d ((L.filter (meetX o s)).map plainX), old H0]) := by
  have S := Sat.start H0
  have A := atOld hB
  refine F64.calls ?_
  unfold F64.go
  (repeat (first | (refine Step.go ?_; intros) | refine iteB_t (by decide) ?_ | refine iteB_f (by decide) ?_ | (refine Duo.mk (by first | omega | exact rfl | decide) ?_; intros) | (refine Duo.mk (Clo.mk (by kernel_rfl)) ?_; intros)))
  rename_i sb H1 S1
  refine meeting_loop hB hR hn hb hz hL n 0 0 none 0 H1 [] (by omega) rfl ?_
  refine S1.to ?_
  apply Ent.pick
  · (repeat (first | exact Sel.here | apply Sel.there))
  exact Ent.slNil .refl
end
end
end Go.Proofs.Ytobolifgehagfaa

set_option linter.unusedVariables false
set_option linter.unusedSimpArgs false
set_option linter.unnecessarySimpa false
namespace Go.Proofs.Ytobolifgehagfaa
open Go Go.Den Go.Proofs
/-! One operation of the plain list. -/
section
variable {H0 : Heap} {o : Int} {pr : Nat} {p : Option Addr} {n c : Nat} {L : List (SP × Int)} (hB : H0[pr]? = some (pcO o p n c)) (hR : RowsAt pcC 6 H0 p (L.map plainX)) (hn : L.length = n) (hb : n ≤ 100000)
include hB hR hn hb
theorem do_find {s : SP} {v m : Int} (hz : s.b.size ≤ 2147483647) (hL : ∀ x ∈ L, SzX x) : CallsH Try.prog 36 ⟨[pA pr, .agg ⟨opC 3 s v m none 0 0 none 0 0⟩]⟩ H0 (fun e H1 => ∃ lp ln lc vp vn vc, e = .returned (ansV (foundP o s L) 0 0 lp ln lc vp vn vc) ∧ ExtH H0 H1) := by
  have S := Sat.start H0
  have A := atOld hB
  refine F36.calls ?_
  unfold F36.go
  (repeat (first | (refine Step.go ?_; intros) | refine iteB_t (by decide) ?_ | refine iteB_f (by decide) ?_ | (refine Duo.mk (by first | omega | exact rfl | decide) ?_; intros) | (refine Duo.mk (Clo.mk (by kernel_rfl)) ?_; intros)))
  rename_i r _ _ r1 H1 S1
  have E1 : ExtH H0 H1 := Sat.grown
  refine callD_i (findP_ok (H0 := H1) (E1.block_some hB) (hR.ext E1) hn hb hz hL) ?_
  rintro e H2 ⟨v, rfl, E2, f1, f2⟩
  have S2 := Sat.later S1 E2
  (repeat (first | (refine Step.go ?_; intros) | refine iteB_t (by decide) ?_ | refine iteB_f (by decide) ?_ | (refine Duo.mk (by first | omega | exact rfl | decide) ?_; intros) | (refine Duo.mk (Clo.mk (by kernel_rfl)) ?_; intros)))
  cases hf : foundP o s L with
  | true =>
    have hv := f1 hf
    refine iteB_t (by simp; omega) ?_
    obtain ⟨i, rfl⟩ : ∃ i : Nat, v = (i : Int) := ⟨v.toNat, by omega⟩
    obtain ⟨x, hx⟩ : ∃ x, L[i]? = some x := get_of (by omega)
    have hI : HasI (L.map plainX) ((i : Nat) : Int) (plainX x) := HasI.nat (by rw [List.getElem?_map, hx]; rfl)
    have R0 : RowsC H0 p pcC 6 (L.map plainX) := ⟨hR⟩
    refine ⟨?_, ?_⟩
    all_goals
      ((repeat (first | (refine Step.go ?_; intros) | refine iteB_t (by decide) ?_ | refine iteB_f (by decide) ?_ | (refine Duo.mk (by first | omega | exact rfl | decide) ?_; intros) | (refine Duo.mk (Clo.mk (by kernel_rfl)) ?_; intros)))
       refine R0.idx (by simp [hn]) ⟨by omega, by omega, ?_⟩
       rintro a ha
       subst ha
       (repeat (first | (refine Step.go ?_; intros) | refine iteB_t (by decide) ?_ | refine iteB_f (by decide) ?_ | (refine Duo.mk (by first | omega | exact rfl | decide) ?_; intros) | (refine Duo.mk (Clo.mk (by kernel_rfl)) ?_; intros)))
       exact ⟨_, _, _, _, _, _, rfl, Sat.grown⟩)
  | false =>
    have hv := f2 hf
    subst hv
    (repeat (first | (refine Step.go ?_; intros) | refine iteB_t (by decide) ?_ | refine iteB_f (by decide) ?_ | (refine Duo.mk (by first | omega | exact rfl | decide) ?_; intros) | (refine Duo.mk (Clo.mk (by kernel_rfl)) ?_; intros)))
    exact ⟨_, _, _, _, _, _, rfl, Sat.grown⟩
theorem do_stab {s : SP} {v m : Int} (hz : s.b.size ≤ 2147483647) (hL : ∀ x ∈ L, SzX x) : CallsH Try.prog 36 ⟨[pA pr, .agg ⟨opC 4 s v m none 0 0 none 0 0⟩]⟩ H0 (fun e H1 => ∃ lp lc vp vc, e = .returned (ansV false 0 0 lp (L.filter (meetX o s)).length lc vp (L.filter (meetX o s)).length vc) ∧
    Sat H1 [sl SP.cells 35 5 lp (L.filter (meetX o s)).length lc ((L.filter (meetX o s)).map fun x => plainS x.1), sl inC 3 1 vp (L.filter (meetX o s)).length vc ((L.filter (meetX o s)).map (·.2)), old H0]) := by
  have S := Sat.start H0
  have A := atOld hB
  refine F36.calls ?_
  unfold F36.go
  (repeat (first | (refine Step.go ?_; intros) | refine iteB_t (by decide) ?_ | refine iteB_f (by decide) ?_ | (refine Duo.mk (by first | omega | exact rfl | decide) ?_; intros) | (refine Duo.mk (Clo.mk (by kernel_rfl)) ?_; intros)))
  rename_i r _ _ r1 H1 S1
  have E1 : ExtH H0 H1 := Sat.grown
  refine callD_i (findP_ok (H0 := H1) (E1.block_some hB) (hR.ext E1) hn hb hz hL) ?_
  rintro e H2 ⟨v, rfl, E2, f1, f2⟩
  have S2 := Sat.later S1 E2
  (repeat (first | (refine Step.go ?_; intros) | refine iteB_t (by decide) ?_ | refine iteB_f (by decide) ?_ | (refine Duo.mk (by first | omega | exact rfl | decide) ?_; intros) | (refine Duo.mk (Clo.mk (by kernel_rfl)) ?_; intros)))
  have E12 := E1.trans E2
  refine callD_i (meeting_ok (H0 := H2) (E12.block_some hB) (hR.ext E12) hn hb hz hL) ?_
  rintro e H3 ⟨q, d, rfl, S3⟩
  have E3 : ExtH H2 H3 := Sat.grown
  have S4 := Sat.onto (m := [sl pcC 71 6 q (L.filter (meetX o s)).length d ((L.filter (meetX o s)).map plainX)]) S3 S2
  simp only [List.cons_append, List.nil_append] at S4
  clear S3
  (repeat (first | (refine Step.go ?_; intros) | refine iteB_t (by decide) ?_ | refine iteB_f (by decide) ?_ | (refine Duo.mk (by first | omega | exact rfl | decide) ?_; intros) | (refine Duo.mk (Clo.mk (by kernel_rfl)) ?_; intros)))
  have hfl := List.length_filter_le (meetX o s) L
  have hR4 := S4.rowsAt (List.mem_cons_self ..)
  have hcall := listed_ok (H0 := H3) (xs := (L.filter (meetX o s)).map plainX) (q := q) (qc := d) hR4 (by simp; omega)
  rw [List.length_map, List.map_map, List.map_map] at hcall
  refine callD_i hcall ?_
  rintro e H5 ⟨lp, lc, vp, vc, rfl, S5⟩
  have S6 := Sat.onto (m := [sl SP.cells 35 5 lp (L.filter (meetX o s)).length lc ((L.filter (meetX o s)).map fun x => plainS x.1), sl inC 3 1 vp (L.filter (meetX o s)).length vc ((L.filter (meetX o s)).map (·.2))]) S5 S4
  simp only [List.cons_append, List.nil_append] at S6
  clear S5 S4
  (repeat (first | (refine Step.go ?_; intros) | refine iteB_t (by decide) ?_ | refine iteB_f (by decide) ?_ | (refine Duo.mk (by first | omega | exact rfl | decide) ?_; intros) | (refine Duo.mk (Clo.mk (by kernel_rfl)) ?_; intros)))
  exact ⟨lp, lc, vp, vc, rfl, Sat.to (by assumption) Fits.out⟩
theorem do_cov {s : SP} {v m : Int} (hz : s.b.size ≤ 2147483647) (hL : ∀ x ∈ L, SzX x) : CallsH Try.prog 36 ⟨[pA pr, .agg ⟨opC 7 s v m none 0 0 none 0 0⟩]⟩ H0 (fun e H1 => e = .returned (ansV (covP o s L) 0 0 none 0 0 none 0 0) ∧ ExtH H0 H1) := by
  have S := Sat.start H0
  have A := atOld hB
  refine F36.calls ?_
  unfold F36.go
  (repeat (first | (refine Step.go ?_; intros) | refine iteB_t (by decide) ?_ | refine iteB_f (by decide) ?_ | (refine Duo.mk (by first | omega | exact rfl | decide) ?_; intros) | (refine Duo.mk (Clo.mk (by kernel_rfl)) ?_; intros)))
  rename_i r _ _ r1 H1 S1
  have E1 : ExtH H0 H1 := Sat.grown
  refine callD_i (findP_ok (H0 := H1) (E1.block_some hB) (hR.ext E1) hn hb hz hL) ?_
  rintro e H2 ⟨v, rfl, E2, f1, f2⟩
  have S2 := Sat.later S1 E2
  (repeat (first | (refine Step.go ?_; intros) | refine iteB_t (by decide) ?_ | refine iteB_f (by decide) ?_ | (refine Duo.mk (by first | omega | exact rfl | decide) ?_; intros) | (refine Duo.mk (Clo.mk (by kernel_rfl)) ?_; intros)))
  have E12 := E1.trans E2
  refine gives_i S2 (cov_ok (H0 := H2) (E12.block_some hB) (hR.ext E12) hn hb hz) ?_
  intro H3 E3 S3
  (repeat (first | (refine Step.go ?_; intros) | refine iteB_t (by decide) ?_ | refine iteB_f (by decide) ?_ | (refine Duo.mk (by first | omega | exact rfl | decide) ?_; intros) | (refine Duo.mk (Clo.mk (by kernel_rfl)) ?_; intros)))
  exact ⟨rfl, Sat.grown⟩
end
end Go.Proofs.Ytobolifgehagfaa

set_option linter.unusedVariables false
set_option linter.unusedSimpArgs false
set_option linter.unnecessarySimpa false
namespace Go.Proofs.Ytobolifgehagfaa
open Go Go.Den Go.Proofs
section
variable {H : Heap}
theorem fit37 {b e : ByteArray} {p : Bool} : CallsH Try.prog 34 ⟨[.agg ⟨[.string b, .string e, .bool p]⟩]⟩ H (fun e' H1 => ExtH H H1 ∧ ∃ r, e' = .returned (.bool r) ∧ (r = true → b.size ≤ 2147483647 ∧ e.size ≤ 2147483647)) := by
  have S := Sat.start H
  refine F34.calls ?_
  unfold F34.go
  (repeat (first | (refine Step.go ?_; intros) | refine iteB_t (by decide) ?_ | refine iteB_f (by decide) ?_ | (refine Duo.mk (by first | omega | exact rfl | decide) ?_; intros) | (refine Duo.mk (Clo.mk (by kernel_rfl)) ?_; intros)))
  refine iteB_i (fun h => ⟨Sat.grown, _, rfl, by simp⟩) (fun h1 => ?_)
  have h1 := of_decide_eq_false h1
  (repeat (first | (refine Step.go ?_; intros) | refine iteB_t (by decide) ?_ | refine iteB_f (by decide) ?_ | (refine Duo.mk (by first | omega | exact rfl | decide) ?_; intros) | (refine Duo.mk (Clo.mk (by kernel_rfl)) ?_; intros)))
  refine iteB_i (fun h => ⟨Sat.grown, _, rfl, by simp⟩) (fun h2 => ?_)
  have h2 := of_decide_eq_false h2
  exact ⟨Sat.grown, _, rfl, fun _ => ⟨by omega, by omega⟩⟩
theorem fit36 (s : SP) : CallsH Try.prog 15 ⟨[.agg ⟨s.cells⟩]⟩ H (fun e' H1 => ExtH H H1 ∧ ∃ r, e' = .returned (.bool r) ∧ (r = true → Sz s)) := by
  have S := Sat.start H
  refine F15.calls ?_
  unfold F15.go
  (repeat (first | (refine Step.go ?_; intros) | refine iteB_t (by decide) ?_ | refine iteB_f (by decide) ?_ | (refine Duo.mk (by first | omega | exact rfl | decide) ?_; intros) | (refine Duo.mk (Clo.mk (by kernel_rfl)) ?_; intros)))
  rename_i r H1 S1
  have E1 : ExtH H H1 := Sat.grown
  refine callD_i fit37 ?_
  rintro e H2 ⟨E2, b, rfl, hb⟩
  (repeat (first | (refine Step.go ?_; intros) | refine iteB_t (by decide) ?_ | refine iteB_f (by decide) ?_ | (refine Duo.mk (by first | omega | exact rfl | decide) ?_; intros) | (refine Duo.mk (Clo.mk (by kernel_rfl)) ?_; intros)))
  refine iteB_i (fun h => ⟨E1.trans E2, _, rfl, by simp⟩) (fun h => ?_)
  exact ⟨E1.trans E2, _, rfl, fun _ => hb (by simpa using h)⟩
/-- What the law asks of a span. -/
def GoodS (o : Int) (s : SP) : Prop := ltE o s.B s.E = true ∧ NumOk o s
theorem spanOf_ok {o : Int} (s : SP) (hz : Sz s) (hrange : o = 3 → s.p = false → ltE o s.B s.E = true → True) : CallsH Try.prog 37 ⟨[.int .i64 o, .agg ⟨s.cells⟩]⟩ H (fun e' H1 => ExtH H H1 ∧ ∃ r, e' = .returned (.bool r) ∧ (r = true → GoodS o s)) := by
  have S := Sat.start H
  refine F37.calls ?_
  unfold F37.go
  (repeat (first | (refine Step.go ?_; intros) | refine iteB_t (by decide) ?_ | refine iteB_f (by decide) ?_ | (refine Duo.mk (by first | omega | exact rfl | decide) ?_; intros) | (refine Duo.mk (Clo.mk (by kernel_rfl)) ?_; intros)))
  rename_i r H1 S1
  refine gives_i S1 (proper_ok s hz) ?_
  intro H2 E2 S2
  (repeat (first | (refine Step.go ?_; intros) | refine iteB_t (by decide) ?_ | refine iteB_f (by decide) ?_ | (refine Duo.mk (by first | omega | exact rfl | decide) ?_; intros) | (refine Duo.mk (Clo.mk (by kernel_rfl)) ?_; intros)))
  refine iteB_i (fun h => ?_) (fun h => ⟨Sat.grown, _, rfl, by simp⟩)
  have h : ltE o s.B s.E = true := h
  refine iteB_i (fun h3 => ?_) (fun h3 => ?_)
  · have h3 : ¬ o = 3 := by simpa using h3
    exact ⟨Sat.grown, _, rfl, fun _ => ⟨h, fun e => absurd e h3⟩⟩
  have h3 : o = 3 := by simpa using h3
  (repeat (first | (refine Step.go ?_; intros) | refine iteB_t (by decide) ?_ | refine iteB_f (by decide) ?_ | (refine Duo.mk (by first | omega | exact rfl | decide) ?_; intros) | (refine Duo.mk (Clo.mk (by kernel_rfl)) ?_; intros)))
  refine iteB_i (fun hp => ?_) (fun hp => ⟨Sat.grown, _, rfl, by simp⟩)
  have hp : s.p = false := by simpa using hp
  (repeat (first | (refine Step.go ?_; intros) | refine iteB_t (by decide) ?_ | refine iteB_f (by decide) ?_ | (refine Duo.mk (by first | omega | exact rfl | decide) ?_; intros) | (refine Duo.mk (Clo.mk (by kernel_rfl)) ?_; intros)))
  refine iteB_i (fun h4 => ?_) (fun h4 => ⟨Sat.grown, _, rfl, by simp⟩)
  have h4 := of_decide_eq_true h4
  (repeat (first | (refine Step.go ?_; intros) | refine iteB_t (by decide) ?_ | refine iteB_f (by decide) ?_ | (refine Duo.mk (by first | omega | exact rfl | decide) ?_; intros) | (refine Duo.mk (Clo.mk (by kernel_rfl)) ?_; intros)))
  refine ⟨Sat.grown, _, rfl, fun h5 => ⟨h, fun _ => ⟨hp, ?_⟩⟩⟩
  have h5 := of_decide_eq_true h5
  have hlt : s.f < s.t := by
    unfold ltE at h
    rw [if_pos h3] at h
    exact of_decide_eq_true h
  unfold near
  exact ⟨⟨by omega, by omega⟩, ⟨by omega, by omega⟩⟩
theorem trProper_ok {o k : Int} (hk : k ≠ 8 ∧ k ≠ 9) (s : SP) (v m : Int) (hz : Sz s) : CallsH Try.prog 35 ⟨[.int .i64 o, .agg ⟨opC k s v m none 0 0 none 0 0⟩]⟩ H (fun e' H1 => ExtH H H1 ∧ ∃ r, e' = .returned (.bool r) ∧ (r = true → GoodS o s)) := by
  have S := Sat.start H
  refine F35.calls ?_
  unfold F35.go
  (repeat (first | (refine Step.go ?_; intros) | refine iteB_t (by decide) ?_ | refine iteB_f (by decide) ?_ | (refine Duo.mk (by first | omega | exact rfl | decide) ?_; intros) | (refine Duo.mk (Clo.mk (by kernel_rfl)) ?_; intros)))
  rename_i r H1 S1
  refine F35.L0_step ?_
  unfold F35.L0n
  (repeat (first | (refine Step.go ?_; intros) | refine iteB_t (by decide) ?_ | refine iteB_f (by decide) ?_ | (refine Duo.mk (by first | omega | exact rfl | decide) ?_; intros) | (refine Duo.mk (Clo.mk (by kernel_rfl)) ?_; intros)))
  refine iteB_f (by simpa using hk.1) ?_
  (repeat (first | (refine Step.go ?_; intros) | refine iteB_t (by decide) ?_ | refine iteB_f (by decide) ?_ | (refine Duo.mk (by first | omega | exact rfl | decide) ?_; intros) | (refine Duo.mk (Clo.mk (by kernel_rfl)) ?_; intros)))
  refine iteB_f (by simpa using hk.2) ?_
  refine F35.L1_step ?_
  unfold F35.L1n
  (repeat (first | (refine Step.go ?_; intros) | refine iteB_t (by decide) ?_ | refine iteB_f (by decide) ?_ | (refine Duo.mk (by first | omega | exact rfl | decide) ?_; intros) | (refine Duo.mk (Clo.mk (by kernel_rfl)) ?_; intros)))
  rename_i rb H2 S2
  have S3 : Sat H2 (sl SP.cells 35 5 (some ⟨rb, 0, none⟩) 1 1 [s] :: [old H]) := (S2.to (m := [pt rb (.cells ⟨[.string s.b, .string s.e, .bool s.p, .int .i64 s.f, .int .i64 s.t]⟩ 35), old H]) Fits.out).to (Ent.slClose (f := SP.cells) (pre := []) (xs := [s]) (sp := []) rfl (by intro x hx; simp at hx; subst hx; rfl) (Nat.le_refl _) rfl (by simp))
  refine S3.slApp (ys := []) (q := none) (by intro j v hj; simp at hj) rfl (by simp) (by simp) rfl (by decide) (by decide) ?_
  intro p' c' H3 S4
  have S4 : Sat H3 [sl SP.cells 35 5 p' 1 c' [s], old H] := S4
  obtain ⟨r', o', rfl⟩ := S4.slSome (List.mem_cons_self ..) (by decide)
  have I0 : HasI [s] (0 : Int) s := ⟨rfl⟩
  refine F35.L2_step ?_
  unfold F35.L2n
  refine iteB_t rfl ?_
  (repeat (first | (refine Step.go ?_; intros) | refine iteB_t (by decide) ?_ | refine iteB_f (by decide) ?_ | (refine Duo.mk (by first | omega | exact rfl | decide) ?_; intros) | (refine Duo.mk (Clo.mk (by kernel_rfl)) ?_; intros)))
  rename_i H4 S5
  have E4 : ExtH H H4 := Sat.grown
  refine callD_i (spanOf_ok s hz (fun _ _ _ => trivial)) ?_
  rintro e H5 ⟨E5, b, rfl, hb⟩
  (repeat (first | (refine Step.go ?_; intros) | refine iteB_t (by decide) ?_ | refine iteB_f (by decide) ?_ | (refine Duo.mk (by first | omega | exact rfl | decide) ?_; intros) | (refine Duo.mk (Clo.mk (by kernel_rfl)) ?_; intros)))
  refine iteB_i (fun h => ⟨E4.trans E5, _, rfl, by simp⟩) (fun h => ?_)
  refine F35.L2_step ?_
  unfold F35.L2n
  refine iteB_f rfl ?_
  exact ⟨E4.trans E5, _, rfl, fun _ => hb (by simpa using h)⟩
end
end Go.Proofs.Ytobolifgehagfaa

set_option linter.unusedVariables false
set_option linter.unusedSimpArgs false
set_option linter.unnecessarySimpa false
namespace Go.Proofs.Ytobolifgehagfaa
open Go Go.Den Go.Proofs
/-! A tree filled with intervals, as the laws do it. -/
section
variable {H H0 : Heap} {o : Int}
theorem fit38 {xs : List SP} {p : Option Addr} {n c : Nat} (hR : RowsAt SP.cells 5 H0 p xs) (hn : xs.length = n) : CallsH Try.prog 14 ⟨[.slice p n c]⟩ H0 (fun e' H1 => ExtH H0 H1 ∧ ∃ r, e' = .returned (.bool r) ∧ (r = true → n ≤ 2147483647 ∧ ∀ x ∈ xs, Sz x)) := by
  refine F14.calls ?_
  unfold F14.go
  refine iteB_i (fun h => ⟨ExtH.refl _, _, rfl, fun h => by cases h⟩) (fun h => ?_)
  have hnb : n ≤ 2147483647 := by have := of_decide_eq_false h; omega
  have R0 : RowsC H0 p SP.cells 5 xs := ⟨hR⟩
  have loop : ∀ (k i : Nat) (H : Heap), i + k = n → ExtH H0 H → (∀ j x, xs[j]? = some x → j < i → Sz x) → F14.L0 p n c (n : Nat) (i : Nat) H (fun e' H1 => ExtH H0 H1 ∧ ∃ r, e' = .returned (.bool r) ∧ (r = true → n ≤ 2147483647 ∧ ∀ x ∈ xs, Sz x)) := by
    intro k
    induction k with
    | zero =>
      intro i H hk E hi
      refine F14.L0_step ?_
      unfold F14.L0n
      refine iteB_f (by simp; omega) ?_
      refine ⟨E, _, rfl, fun _ => ⟨hnb, fun x hx => ?_⟩⟩
      obtain ⟨j, hj⟩ := List.getElem?_of_mem hx
      exact hi j x hj (by have := lt_of hj; omega)
    | succ k ih =>
      intro i H hk E hi
      have S := (Sat.start H0).ext E
      obtain ⟨x, hx⟩ : ∃ x, xs[i]? = some x := get_of (by omega)
      have hI := HasI.nat hx
      refine F14.L0_step ?_
      unfold F14.L0n
      refine iteB_t (by simp; omega) ?_
      refine R0.idx hn ⟨by omega, by omega, ?_⟩
      intro a ha
      subst ha
      (repeat (first | (refine Step.go ?_; intros) | refine iteB_t (by decide) ?_ | refine iteB_f (by decide) ?_ | (refine Duo.mk (by first | omega | exact rfl | decide) ?_; intros) | (refine Duo.mk (Clo.mk (by kernel_rfl)) ?_; intros)))
      rename_i H1 S1
      have E1 : ExtH H0 H1 := Sat.grown
      refine callD_i (fit36 x) ?_
      rintro e H2 ⟨E2, r, rfl, hr⟩
      (repeat (first | (refine Step.go ?_; intros) | refine iteB_t (by decide) ?_ | refine iteB_f (by decide) ?_ | (refine Duo.mk (by first | omega | exact rfl | decide) ?_; intros) | (refine Duo.mk (Clo.mk (by kernel_rfl)) ?_; intros)))
      refine iteB_i (fun h => ⟨E1.trans E2, _, rfl, fun h => by cases h⟩) (fun h => ?_)
      have hz := hr (by simpa using h)
      rw [wr (by omega) (by omega), show ((i : Nat) : Int) + 1 = ((i + 1 : Nat) : Int) by omega]
      refine ih (i + 1) H2 (by omega) (E1.trans E2) fun j y hj hlt => ?_
      by_cases hji : j = i
      · subst hji; rw [hx] at hj; cases hj; exact hz
      · exact hi j y hj (by omega)
  exact loop n 0 H0 (by omega) (ExtH.refl _) (fun j x _ h => by omega)
/-- What is known of the intervals that were put in. -/
structure Chosen (o : Int) (ch : List (SP × Int)) : Prop where
  good : ∀ x ∈ ch, GoodX o x
theorem putP_mem {z x : SP × Int} : ∀ {L : List (SP × Int)}, x ∈ putP o z L ↔ x = z ∨ x ∈ L
  | [] => by simp [putP]
  | y :: L => by
    rw [putP]
    split
    · simp
    · simp only [List.mem_cons, putP_mem (L := L)]
      constructor
      · rintro (h | h | h)
        · exact .inr (.inl h)
        · exact .inl h
        · exact .inr (.inr h)
      · rintro (h | h | h)
        · exact .inr (.inl h)
        · exact .inl h
        · exact .inr (.inr h)
theorem putAll_mem {x : SP × Int} : ∀ {ch L : List (SP × Int)}, x ∈ putAll o L ch → x ∈ ch ∨ x ∈ L
  | [], L, h => .inr h
  | y :: ch, L, h => by
    rcases putAll_mem (ch := ch) h with h | h
    · exact .inl (List.mem_cons_of_mem _ h)
    · rcases putP_mem.1 h with rfl | h
      · exact .inl (List.mem_cons_self ..)
      · exact .inr h
theorem opr_isC (y : OPr) : ∀ v ∈ y.cells, isCell v = true := by
  intro v hv
  simp only [OPr.cells, opC, List.mem_cons, List.not_mem_nil, or_false] at hv
  rcases hv with rfl | rfl | rfl | rfl | rfl | rfl | rfl | rfl | rfl | rfl <;> rfl
abbrev opZ : List Value := [.int .i64 (0 : Int), .string (ByteArray.mk #[]), .string (ByteArray.mk #[]), .bool false, .int .i64 (0 : Int), .int .i64 (0 : Int), .int .i64 (0 : Int), .int .i64 (0 : Int), .slice none 0 0, .slice none 0 0]
theorem appOp {x : OPr} {A : List OPr} {l : List HP} {p : Option Addr} {k c r : Nat} {m1 : List HP} {K : Option Addr → Nat → Nat → Heap → Prop} (hk : k ≤ 1000000) (S : Sat H l) (s1 : Sel (sl OPr.cells 44 10 p k c A) l m1) (hr : H[r]? = some (.cells ⟨x.cells⟩ 44))
    (next : ∀ p' c' H1, Sat H1 (sl OPr.cells 44 10 p' (k + 1) c' (A ++ [x]) :: m1) → K p' (k + 1) c' H1) :
    apD H 10 128 opZ 44 p k c (some ⟨r, 0, none⟩) 1 K := by
  refine (S.bring s1).slApp (ys := [x]) (d := 1) ?_ rfl (by simp) (by simp [isCell]) rfl (by decide) (by omega) next
  simp only [List.flatMap_cons, List.flatMap_nil, List.append_nil]
  exact cellsAt_one hr
/-- How filling ends. -/
def FillEnd (o : Int) (H0 : Heap) (e : Ending) (H1 : Heap) : Prop :=
  (ExtH H0 H1 ∧ e = .returned (.tuple ⟨[.slice none 0 0, .pointer none, .bool false]⟩)) ∨
  ∃ (ch : List (SP × Int)) (op : Option Addr) (oc pr : Nat) (p : Option Addr) (c : Nat) (b : Bool), e = .returned (.tuple ⟨[.slice op ch.length oc, pA pr, .bool b]⟩) ∧ (∀ x ∈ ch, GoodX o x) ∧ ch.length ≤ 200 ∧ (b = true → 0 ≤ o ∧ o ≤ 3) ∧
    Sat H1 [sl OPr.cells 44 10 op ch.length oc (ch.map insO), pt pr (pcO o p ch.length c), sl pcC 71 6 p ch.length c ((putAll o [] ch).map plainX), old H0]
theorem filled_loop {xs : List SP} {q : Option Addr} {n qc : Nat} (hR : RowsAt SP.cells 5 H0 q xs) (hn : xs.length = n) (hz : ∀ x ∈ xs, Sz x) {pr : Nat} : ∀ (k i : Nat) (ch : List (SP × Int)) (op p : Option Addr) (oc c : Nat) (H : Heap) (l : List HP), i + k = n → ch.length ≤ i → i ≤ 200 → (∀ x ∈ ch, GoodX o x) →
    Sat H (sl OPr.cells 44 10 op ch.length oc (ch.map insO) :: pt pr (pcO o p ch.length c) :: sl pcC 71 6 p ch.length c ((putAll o [] ch).map plainX) :: old H0 :: l) →
    F19.L0 o pr op ch.length oc q n qc (n : Nat) (i : Nat) H (FillEnd o H0) := by
  intro k
  induction k with
  | zero =>
    intro i ch op p oc c H l hk hci hi hg S
    refine F19.L0_step ?_
    unfold F19.L0n
    refine iteB_f (by simp; omega) ?_
    refine iteB_i (fun h => ?_) (fun h => ?_)
    · have h := of_decide_eq_true h
      exact .inr ⟨ch, op, oc, pr, p, c, _, rfl, hg, by omega, fun h2 => ⟨by omega, of_decide_eq_true h2⟩, S.to Fits.out⟩
    · exact .inr ⟨ch, op, oc, pr, p, c, _, rfl, hg, by omega, (fun h2 => by cases h2), S.to Fits.out⟩
  | succ k ih =>
    intro i ch op p oc c H l hk hci hi hg S
    have R0 : RowsC H0 q SP.cells 5 xs := ⟨hR⟩
    obtain ⟨x, hx⟩ : ∃ x, xs[i]? = some x := get_of (by omega)
    have hI := HasI.nat hx
    have hzx := hz x (List.mem_of_getElem? hx)
    have hszL : ∀ y ∈ putAll o [] ch, SzX y := fun y hy => by
      rcases putAll_mem hy with h | h
      · exact (hg y h).1.1
      · cases h
    refine F19.L0_step ?_
    unfold F19.L0n
    refine iteB_t (by simp; omega) ?_
    refine R0.idx hn ⟨by omega, by omega, ?_⟩
    intro a ha
    subst ha
    (repeat (first | (refine Step.go ?_; intros) | refine iteB_t (by decide) ?_ | refine iteB_f (by decide) ?_ | (refine Duo.mk (by first | omega | exact rfl | decide) ?_; intros) | (refine Duo.mk (Clo.mk (by kernel_rfl)) ?_; intros)))
    rename_i r _ _ _ _ _ _ _ _ _ _ H1 S1
    refine iteB_i (fun h => .inl ⟨Sat.grown, rfl⟩) (fun h => ?_)
    have hi2 := of_decide_eq_false h
    (repeat (first | (refine Step.go ?_; intros) | refine iteB_t (by decide) ?_ | refine iteB_f (by decide) ?_ | (refine Duo.mk (by first | omega | exact rfl | decide) ?_; intros) | (refine Duo.mk (Clo.mk (by kernel_rfl)) ?_; intros)))
    refine callD_i (spanOf_ok x hzx (fun _ _ _ => trivial)) ?_
    rintro e H2 ⟨E2, r2, rfl, hr2⟩
    have S2 := Sat.later S1 E2
    clear S1
    (repeat (first | (refine Step.go ?_; intros) | refine iteB_t (by decide) ?_ | refine iteB_f (by decide) ?_ | (refine Duo.mk (by first | omega | exact rfl | decide) ?_; intros) | (refine Duo.mk (Clo.mk (by kernel_rfl)) ?_; intros)))
    refine iteB_i (fun h => .inl ⟨Sat.grown, rfl⟩) (fun h => ?_)
    obtain ⟨g1, g2⟩ := hr2 (by simpa using h)
    have gx : GoodX o (x, (i : Int)) := ⟨hzx, g2, g1⟩
    refine F19.L1_step ?_
    unfold F19.L1n
    (repeat (first | (refine Step.go ?_; intros) | refine iteB_t (by decide) ?_ | refine iteB_f (by decide) ?_ | (refine Duo.mk (by first | omega | exact rfl | decide) ?_; intros) | (refine Duo.mk (Clo.mk (by kernel_rfl)) ?_; intros)))
    refine callD_i (do_find (H0 := H2) (o := o) (pr := pr) (p := p) (n := ch.length) (c := c) (L := putAll o [] ch) S2.obj (S2.rowsAt (f := pcC) (E := 71) (z := 6) (n := ch.length) (k := c) (by simp)) (by rw [putAll_len]; simp) (by omega) (s := x) (v := 0) (m := 0) hzx.1 hszL) ?_
    rintro e H3 ⟨lp, ln, lc, vp, vn, vc, rfl, E3⟩
    have S3 := Sat.later S2 E3
    clear S2
    (repeat (first | (refine Step.go ?_; intros) | refine iteB_t (by decide) ?_ | refine iteB_f (by decide) ?_ | (refine Duo.mk (by first | omega | exact rfl | decide) ?_; intros) | (refine Duo.mk (Clo.mk (by kernel_rfl)) ?_; intros)))
    have again : ∀ (ch' : List (SP × Int)) (op' p' : Option Addr) (oc' c' : Nat) (H4 : Heap) (l4 : List HP), ch'.length ≤ i + 1 → (∀ x ∈ ch', GoodX o x) →
        Sat H4 (sl OPr.cells 44 10 op' ch'.length oc' (ch'.map insO) :: pt pr (pcO o p' ch'.length c') :: sl pcC 71 6 p' ch'.length c' ((putAll o [] ch').map plainX) :: old H0 :: l4) →
        F19.L2 o pr op' ch'.length oc' (some a) n qc (n : Nat) (i : Nat) H4 (FillEnd o H0) := by
      intro ch' op' p' oc' c' H4 l4 hl hg' S4
      refine F19.L2_step ?_
      unfold F19.L2n
      rw [wr (by omega) (by omega), show ((i : Nat) : Int) + 1 = ((i + 1 : Nat) : Int) by omega]
      exact ih (i + 1) ch' op' p' oc' c' H4 l4 (by omega) hl (by omega) hg' S4
    refine iteB_i (fun h => ?_) (fun h => ?_)
    · exact again ch op p oc c H3 l (by omega) hg (S3.to Fits.out)
    · (repeat (first | (refine Step.go ?_; intros) | refine iteB_t (by decide) ?_ | refine iteB_f (by decide) ?_ | (refine Duo.mk (by first | omega | exact rfl | decide) ?_; intros) | (refine Duo.mk (Clo.mk (by kernel_rfl)) ?_; intros)))
      rename_i r3 H4 S4
      refine appOp (x := insO (x, (i : Int))) (by omega) S4 (by (repeat (first | exact Sel.here | apply Sel.there))) (Sat.obj S4) ?_
      intro op' oc' H5 S5
      (repeat (first | (refine Step.go ?_; intros) | refine iteB_t (by decide) ?_ | refine iteB_f (by decide) ?_ | (refine Duo.mk (by first | omega | exact rfl | decide) ?_; intros) | (refine Duo.mk (Clo.mk (by kernel_rfl)) ?_; intros)))
      refine callD_i (put_ok (o := o) (z := (x, (i : Int))) (L := putAll o [] ch) (pr := pr) (p := p) (n := ch.length) (c := c) (l := sl OPr.cells 44 10 op' (ch.length + 1) oc' (ch.map insO ++ [insO (x, (i : Int))]) :: old H0 :: l) hszL hzx.1 (by omega) (S5.to Fits.out)) ?_
      rintro e H6 ⟨rfl, p', c', S6⟩
      (repeat (first | (refine Step.go ?_; intros) | refine iteB_t (by decide) ?_ | refine iteB_f (by decide) ?_ | (refine Duo.mk (by first | omega | exact rfl | decide) ?_; intros) | (refine Duo.mk (Clo.mk (by kernel_rfl)) ?_; intros)))
      have hlen : (ch ++ [(x, (i : Int))]).length = ch.length + 1 := by simp
      have := again (ch ++ [(x, (i : Int))]) op' p' oc' c' H6 l (by omega) (fun y hy => by
        rcases List.mem_append.1 hy with hy | hy
        · exact hg y hy
        · simp at hy; subst hy; exact gx) (by
        rw [hlen, putAll_snoc, List.map_append]
        refine S6.to ?_
        iterate 4 (apply Ent.pick; (focus (repeat (first | exact Sel.here | apply Sel.there))))
        exact Ent.refl)
      rw [hlen] at this
      exact this
theorem filled_ok {xs : List SP} {q : Option Addr} {n qc : Nat} (hR : RowsAt SP.cells 5 H0 q xs) (hn : xs.length = n) (hz : ∀ x ∈ xs, Sz x) : CallsH Try.prog 19 ⟨[.int .i64 o, .slice q n qc]⟩ H0 (FillEnd o H0) := by
  have S := Sat.start H0
  refine F19.calls ?_
  unfold F19.go
  (repeat (first | (refine Step.go ?_; intros) | refine iteB_t (by decide) ?_ | refine iteB_f (by decide) ?_ | (refine Duo.mk (by first | omega | exact rfl | decide) ?_; intros) | (refine Duo.mk (Clo.mk (by kernel_rfl)) ?_; intros)))
  rename_i pr H1 S1
  refine filled_loop hR hn hz n 0 [] none none 0 0 H1 [] (by omega) (by simp) (by omega) (by simp) ?_
  refine S1.to (Ent.slNil ?_)
  apply Ent.pick
  · (repeat (first | exact Sel.here | apply Sel.there))
  exact Ent.slNil .refl
end
end Go.Proofs.Ytobolifgehagfaa

set_option linter.unusedVariables false
set_option linter.unusedSimpArgs false
set_option linter.unnecessarySimpa false
namespace Go.Proofs.Ytobolifgehagfaa
open Go Go.Den Go.Proofs
/-! Answers compared. -/
section
variable {H H0 : Heap} {o : Int} {l : List HP}
theorem sameS_out {o : Int} {x : SP × Int} (ho : 0 ≤ o ∧ o ≤ 3) : sameS o (outX o x) (plainS x.1) = true := by
  have hB : ∀ y : EN, ltE o (outX o x).B y = ltE o x.1.B y ∧ ltE o y (outX o x).B = ltE o y x.1.B := by
    intro y
    unfold outX outS SP.B ltE
    by_cases h : o = 3
    · simp [h]
    · simp [h]
  have hE : ∀ y : EN, ltE o (outX o x).E y = ltE o x.1.E y ∧ ltE o y (outX o x).E = ltE o y x.1.E := by
    intro y
    unfold outX outS SP.E SP.end_ ltE
    by_cases h : o = 3
    · simp [h]
    · simp [h]
  have e1 : (plainS x.1).B = x.1.B := rfl
  have e2 : (plainS x.1).E = x.1.E := rfl
  unfold sameS aheadS
  rw [e1, e2, (hB _).1, (hB _).2, (hE _).1, (hE _).2, ltE_irrefl, ltE_irrefl]
  rfl
theorem outX_p {x : SP × Int} : (outX o x).p = false := by
  unfold outX outS; split <;> rfl
theorem outX_b {x : SP × Int} (h : SzX x) : (outX o x).b.size ≤ 2147483647 := by
  unfold outX outS; split
  · show (⟨#[]⟩ : ByteArray).size ≤ _; decide
  · exact h
theorem same_ans {k k2 : Nat} {A1 A2 : List SP} {V : List Int} {b : Bool} {x y y' : Int} {lp vp wlp wvp : Option Addr} {lc vc wlc wvc : Nat} (hk : k ≤ 1000000) (hk2 : k2 ≤ 1000000) (R1 : RowsAt SP.cells 5 H0 lp A1) (R2 : RowsAt inC 1 H0 vp V) (R3 : RowsAt SP.cells 5 H0 wlp A2) (R4 : RowsAt inC 1 H0 wvp V)
    (h1 : A1.length = k) (h2 : A2.length = k) (h3 : V.length = k2) (hs : ∀ (i : Nat) (s t : SP), A1[i]? = some s → A2[i]? = some t → s.p = false ∧ s.b.size ≤ 2147483647 ∧ t.b.size ≤ 2147483647 ∧ sameS o s t = true) :
    CallsH Try.prog 17 ⟨[.int .i64 o, ansV b x y lp k lc vp k2 vc, ansV b x y' wlp k wlc wvp k2 wvc]⟩ H0 (Gives (.bool true) H0) := by
  have C1 : RowsC H0 lp SP.cells 5 A1 := ⟨R1⟩
  have C2 : RowsC H0 vp inC 1 V := ⟨R2⟩
  have C3 : RowsC H0 wlp SP.cells 5 A2 := ⟨R3⟩
  have C4 : RowsC H0 wvp inC 1 V := ⟨R4⟩
  have l2 : ∀ (m i : Nat) (H : Heap) (r r1 : Nat) (l : List HP), i + m = k2 → Sat H (pt r1 (ansO b x y' wlp k wlc wvp k2 wvc) :: pt r (ansO b x y lp k lc vp k2 vc) :: old H0 :: l) →
      F17.L2 r r1 (k2 : Nat) (i : Nat) H (Gives (.bool true) H0) := by
    intro m
    induction m with
    | zero =>
      intro i H r r1 l hm S
      refine F17.L2_step ?_
      unfold F17.L2n
      refine iteB_f (by simp; omega) ?_
      exact ⟨rfl, Sat.grown⟩
    | succ m ih =>
      intro i H r r1 l hm S
      obtain ⟨z, hz⟩ : ∃ z, V[i]? = some z := get_of (by omega)
      have hI := HasI.nat hz
      refine F17.L2_step ?_
      unfold F17.L2n
      refine iteB_t (by simp; omega) ?_
      (repeat (first | (refine Step.go ?_; intros) | refine iteB_t (by decide) ?_ | refine iteB_f (by decide) ?_ | (refine Duo.mk (by first | omega | exact rfl | decide) ?_; intros) | (refine Duo.mk (Clo.mk (by kernel_rfl)) ?_; intros)))
      refine C2.idx h3 ⟨by omega, by omega, ?_⟩
      intro a1 ha1
      have C2' : RowsC H0 (some a1) inC 1 V := ⟨by rw [← ha1]; exact R2⟩
      (repeat (first | (refine Step.go ?_; intros) | refine iteB_t (by decide) ?_ | refine iteB_f (by decide) ?_ | (refine Duo.mk (by first | omega | exact rfl | decide) ?_; intros) | (refine Duo.mk (Clo.mk (by kernel_rfl)) ?_; intros)))
      refine C4.idx h3 ⟨by omega, by omega, ?_⟩
      intro a2 ha2
      have C4' : RowsC H0 (some a2) inC 1 V := ⟨by rw [← ha2]; exact R4⟩
      (repeat (first | (refine Step.go ?_; intros) | refine iteB_t (by decide) ?_ | refine iteB_f (by decide) ?_ | (refine Duo.mk (by first | omega | exact rfl | decide) ?_; intros) | (refine Duo.mk (Clo.mk (by kernel_rfl)) ?_; intros)))
      refine iteB_f (by simp) ?_
      rw [wr (by omega) (by omega), show ((i : Nat) : Int) + 1 = ((i + 1 : Nat) : Int) by omega]
      exact ih (i + 1) H r r1 l (by omega) S
  have l1 : ∀ (m i : Nat) (H : Heap) (r r1 : Nat) (l : List HP), i + m = k → Sat H (pt r1 (ansO b x y' wlp k wlc wvp k2 wvc) :: pt r (ansO b x y lp k lc vp k2 vc) :: old H0 :: l) →
      F17.L1 o r r1 (k : Nat) (i : Nat) H (Gives (.bool true) H0) := by
    intro m
    induction m with
    | zero =>
      intro i H r r1 l hm S
      refine F17.L1_step ?_
      unfold F17.L1n
      refine iteB_f (by simp; omega) ?_
      (repeat (first | (refine Step.go ?_; intros) | refine iteB_t (by decide) ?_ | refine iteB_f (by decide) ?_ | (refine Duo.mk (by first | omega | exact rfl | decide) ?_; intros) | (refine Duo.mk (Clo.mk (by kernel_rfl)) ?_; intros)))
      exact l2 k2 0 H r r1 l (by omega) S
    | succ m ih =>
      intro i H r r1 l hm S
      obtain ⟨s, hs1⟩ : ∃ z, A1[i]? = some z := get_of (by omega)
      obtain ⟨t, ht1⟩ : ∃ z, A2[i]? = some z := get_of (by omega)
      obtain ⟨g1, g2, g3, g4⟩ := hs i s t hs1 ht1
      have hI1 := HasI.nat hs1
      have hI2 := HasI.nat ht1
      refine F17.L1_step ?_
      unfold F17.L1n
      refine iteB_t (by simp; omega) ?_
      (repeat (first | (refine Step.go ?_; intros) | refine iteB_t (by decide) ?_ | refine iteB_f (by decide) ?_ | (refine Duo.mk (by first | omega | exact rfl | decide) ?_; intros) | (refine Duo.mk (Clo.mk (by kernel_rfl)) ?_; intros)))
      refine C1.idx h1 ⟨by omega, by omega, ?_⟩
      intro a1 ha1
      have C1' : RowsC H0 (some a1) SP.cells 5 A1 := ⟨by rw [← ha1]; exact R1⟩
      (repeat (first | (refine Step.go ?_; intros) | refine iteB_t (by decide) ?_ | refine iteB_f (by decide) ?_ | (refine Duo.mk (by first | omega | exact rfl | decide) ?_; intros) | (refine Duo.mk (Clo.mk (by kernel_rfl)) ?_; intros)))
      refine iteB_f g1 ?_
      (repeat (first | (refine Step.go ?_; intros) | refine iteB_t (by decide) ?_ | refine iteB_f (by decide) ?_ | (refine Duo.mk (by first | omega | exact rfl | decide) ?_; intros) | (refine Duo.mk (Clo.mk (by kernel_rfl)) ?_; intros)))
      refine C1.idx h1 ⟨by omega, by omega, ?_⟩
      intro a1' ha1'
      rw [ha1] at ha1'
      cases ha1'
      (repeat (first | (refine Step.go ?_; intros) | refine iteB_t (by decide) ?_ | refine iteB_f (by decide) ?_ | (refine Duo.mk (by first | omega | exact rfl | decide) ?_; intros) | (refine Duo.mk (Clo.mk (by kernel_rfl)) ?_; intros)))
      refine C3.idx h2 ⟨by omega, by omega, ?_⟩
      intro a2 ha2
      have C3' : RowsC H0 (some a2) SP.cells 5 A2 := ⟨by rw [← ha2]; exact R3⟩
      (repeat (first | (refine Step.go ?_; intros) | refine iteB_t (by decide) ?_ | refine iteB_f (by decide) ?_ | (refine Duo.mk (by first | omega | exact rfl | decide) ?_; intros) | (refine Duo.mk (Clo.mk (by kernel_rfl)) ?_; intros)))
      refine gives_i S (same_ok (s := s) (t := t) g2 g3) ?_
      intro H2 E2 S2
      (repeat (first | (refine Step.go ?_; intros) | refine iteB_t (by decide) ?_ | refine iteB_f (by decide) ?_ | (refine Duo.mk (by first | omega | exact rfl | decide) ?_; intros) | (refine Duo.mk (Clo.mk (by kernel_rfl)) ?_; intros)))
      rw [g4]
      refine iteB_f rfl ?_
      refine F17.L3_step ?_
      unfold F17.L3n
      rw [wr (by omega) (by omega), show ((i : Nat) : Int) + 1 = ((i + 1 : Nat) : Int) by omega]
      exact ih (i + 1) H2 r r1 l (by omega) S2
  have S := Sat.start H0
  refine F17.calls ?_
  unfold F17.go
  (repeat (first | (refine Step.go ?_; intros) | refine iteB_t (by decide) ?_ | refine iteB_f (by decide) ?_ | (refine Duo.mk (by first | omega | exact rfl | decide) ?_; intros) | (refine Duo.mk (Clo.mk (by kernel_rfl)) ?_; intros)))
  rename_i r H1 S1 r1 H2 S2
  refine iteB_f (by simp) ?_
  (repeat (first | (refine Step.go ?_; intros) | refine iteB_t (by decide) ?_ | refine iteB_f (by decide) ?_ | (refine Duo.mk (by first | omega | exact rfl | decide) ?_; intros) | (refine Duo.mk (Clo.mk (by kernel_rfl)) ?_; intros)))
  refine iteB_f (by simp) ?_
  (repeat (first | (refine Step.go ?_; intros) | refine iteB_t (by decide) ?_ | refine iteB_f (by decide) ?_ | (refine Duo.mk (by first | omega | exact rfl | decide) ?_; intros) | (refine Duo.mk (Clo.mk (by kernel_rfl)) ?_; intros)))
  refine iteB_f (by simp) ?_
  (repeat (first | (refine Step.go ?_; intros) | refine iteB_t (by decide) ?_ | refine iteB_f (by decide) ?_ | (refine Duo.mk (by first | omega | exact rfl | decide) ?_; intros) | (refine Duo.mk (Clo.mk (by kernel_rfl)) ?_; intros)))
  refine iteB_f (by simp) ?_
  refine F17.L0_step ?_
  unfold F17.L0n
  (repeat (first | (refine Step.go ?_; intros) | refine iteB_t (by decide) ?_ | refine iteB_f (by decide) ?_ | (refine Duo.mk (by first | omega | exact rfl | decide) ?_; intros) | (refine Duo.mk (Clo.mk (by kernel_rfl)) ?_; intros)))
  exact l1 k 0 H2 r r1 [] (by omega) S2
/-- The small case that every law asks for. -/
abbrev spAC : SP := ⟨⟨#[97]⟩, ⟨#[99]⟩, false, 0, 0⟩
theorem ltAC : ltE 1 spAC.B spAC.E = true := by
  show ltE 1 ((⟨#[97]⟩ : ByteArray), 0) ((⟨#[99]⟩ : ByteArray), 0) = true
  unfold ltE
  rw [if_neg (by decide), if_neg (by decide)]
  unfold ltS
  rw [ByteArray.toList_eq, ByteArray.toList_eq]
  rfl
theorem szAC : Sz spAC := ⟨by show (⟨#[97]⟩ : ByteArray).size ≤ _; decide, by show (⟨#[99]⟩ : ByteArray).size ≤ _; decide⟩
theorem goodAC (v : Int) : GoodX 1 (spAC, v) := ⟨szAC, (fun h => by cases h), ltAC⟩
theorem trLive_ok : CallsH Try.prog 18 ⟨[]⟩ H (Gives (.bool true) H) := by
  have S := Sat.start H
  refine F18.calls ?_
  unfold F18.go
  (repeat (first | (refine Step.go ?_; intros) | refine iteB_t (by decide) ?_ | refine iteB_f (by decide) ?_ | (refine Duo.mk (by first | omega | exact rfl | decide) ?_; intros) | (refine Duo.mk (Clo.mk (by kernel_rfl)) ?_; intros)))
  rename_i r _ _ _ _ _ _ _ _ _ _ r1 H7 S7
  have T7 : Sat H7 (sl OPr.cells 44 10 (some ⟨r1, 0, none⟩) 2 2 ([(spAC, (4 : Int))].map insO ++ [lastO 3 spAC 0 0]) :: [old H]) := by
    refine (S7.to (Ent.slClose (z := 10) (n := 2) (c := 2) (f := OPr.cells) (pre := []) (xs := [insO (spAC, 4), lastO 3 spAC 0 0]) (sp := []) rfl (by simp) (Nat.le_refl _) rfl (by simp))).to ?_
    exact Ent.cons (Ent.drop .refl)
  refine callD_i (Tree_find (o := 1) (xs := [(spAC, 4)]) (by decide) (by intro x hx; simp at hx; subst hx; exact goodAC 4) (by decide) (goodAC 0) T7) ?_
  rintro e H8 ⟨op, oc, T, ok, L, V, lp, lc, vp, vc, rfl, hT, f1, f2, S8⟩
  have hrel : All2 Rl T.inL [(spAC, (4 : Int))] := hT.rel
  obtain ⟨it, hin, hit⟩ : ∃ it, T.inL = [it] ∧ Rl it (spAC, 4) := by
    generalize T.inL = tl at hrel
    cases hrel with
    | cons h1 h2 => cases h2; exact ⟨_, rfl, h1⟩
  have hhit : hitI 1 spAC.B spAC.E it = true := by
    unfold hitI
    rw [hit.1, hit.2.1, Bool.and_eq_true, cmpE_eqE, cmpE_eqE]
    exact ⟨.refl .., .refl ..⟩
  obtain ⟨q1, q2⟩ := findT_ok (B := spAC.B) (E := spAC.E) T hT.wt.srt
  have hfound : ok = true ∧ V = [4] ∧ L.length = 1 := by
    cases hf : findT 1 spAC.B spAC.E T with
    | nil =>
      have := q2 hf it (by rw [hin]; simp)
      rw [hhit] at this; cases this
    | node it' c t u =>
      obtain ⟨a1, a2, a3⟩ := f2 _ _ _ _ hf
      have hm := (q1 _ _ _ _ hf).1
      rw [hin] at hm
      simp at hm
      subst hm
      exact ⟨a1, by rw [a3, hit.vl], by rw [a2]; rfl⟩
  obtain ⟨rfl, rfl, hL⟩ := hfound
  rw [hL] at S8
  have S8 : Sat H8 (sl TA.cells 40 5 op 2 oc [zTA, ⟨true, 0, 0, lp, 1, lc, vp, 1, vc⟩] :: sl SP.cells 35 5 lp 1 lc L :: sl inC 3 1 vp 1 vc [4] :: [old H]) := S8
  obtain ⟨r', o', rfl⟩ := S8.slSome (List.mem_cons_self ..) (by decide)
  obtain ⟨r2, o2, rfl⟩ := S8.slSome (.tail _ (.tail _ (.head _))) (by decide)
  have I1 : HasI [zTA, (⟨true, 0, 0, lp, 1, lc, some ⟨r2, o2, none⟩, 1, vc⟩ : TA)] (1 : Int) ⟨true, 0, 0, lp, 1, lc, some ⟨r2, o2, none⟩, 1, vc⟩ := ⟨rfl⟩
  have I2 : HasI [(4 : Int)] (0 : Int) 4 := ⟨rfl⟩
  (repeat (first | (refine Step.go ?_; intros) | refine iteB_t (by decide) ?_ | refine iteB_f (by decide) ?_ | (refine Duo.mk (by first | omega | exact rfl | decide) ?_; intros) | (refine Duo.mk (Clo.mk (by kernel_rfl)) ?_; intros)))
  refine iteB_t rfl ?_
  (repeat (first | (refine Step.go ?_; intros) | refine iteB_t (by decide) ?_ | refine iteB_f (by decide) ?_ | (refine Duo.mk (by first | omega | exact rfl | decide) ?_; intros) | (refine Duo.mk (Clo.mk (by kernel_rfl)) ?_; intros)))
  refine Duo.mk ⟨Int.le_refl 0, by show (0 : Int) < 1; decide⟩ ?_
  (repeat (first | (refine Step.go ?_; intros) | refine iteB_t (by decide) ?_ | refine iteB_f (by decide) ?_ | (refine Duo.mk (by first | omega | exact rfl | decide) ?_; intros) | (refine Duo.mk (Clo.mk (by kernel_rfl)) ?_; intros)))
  exact ⟨rfl, Sat.grown⟩
end
end Go.Proofs.Ytobolifgehagfaa

set_option linter.unusedVariables false
set_option linter.unusedSimpArgs false
set_option linter.unnecessarySimpa false
namespace Go.Proofs.Ytobolifgehagfaa
open Go Go.Den Go.Proofs
/-! A tree is asked. -/
section
variable {H H0 : Heap} {o : Int} {l : List HP}
def AskNo (H0 : Heap) (e : Ending) (H1 : Heap) : Prop := ∃ b x y lp ln lc vp vn vc b' x' y' lp' ln' lc' vp' vn' vc', e = .returned (.tuple ⟨[ansV b x y lp ln lc vp vn vc, ansV b' x' y' lp' ln' lc' vp' vn' vc', .bool false]⟩) ∧ ExtH H0 H1
theorem ask_stab {xs : List SP} {q : Option Addr} {n qc : Nat} {s : SP} (hR : RowsAt SP.cells 5 H0 q xs) (hn : xs.length = n) (hz : ∀ x ∈ xs, Sz x) (hs : Sz s) :
    CallsH Try.prog 16 ⟨[.int .i64 o, .slice q n qc, .agg ⟨opC 4 s 0 0 none 0 0 none 0 0⟩]⟩ H0 (fun e H1 => AskNo H0 e H1 ∨ ∃ F : List (SP × Int), (∀ x ∈ F, SzX x) ∧ F.length ≤ 100000 ∧ (0 ≤ o ∧ o ≤ 3) ∧ ∃ lp lc vp vc lp' lc' vp' vc', e = .returned (.tuple ⟨[ansV false 0 0 lp F.length lc vp F.length vc, ansV false 0 0 lp' F.length lc' vp' F.length vc', .bool true]⟩) ∧
      Sat H1 [sl SP.cells 35 5 lp F.length lc (F.map (outX o)), sl inC 3 1 vp F.length vc (F.map (·.2)), sl SP.cells 35 5 lp' F.length lc' (F.map fun x => plainS x.1), sl inC 3 1 vp' F.length vc' (F.map (·.2)), old H0]) := by
  have S := Sat.start H0
  refine F16.calls ?_
  unfold F16.go
  (repeat (first | (refine Step.go ?_; intros) | refine iteB_t (by decide) ?_ | refine iteB_f (by decide) ?_ | (refine Duo.mk (by first | omega | exact rfl | decide) ?_; intros) | (refine Duo.mk (Clo.mk (by kernel_rfl)) ?_; intros)))
  rename_i r _ _ r1 _ _ r2 H3 S3
  have E3 : ExtH H0 H3 := Sat.grown
  refine callD_i (filled_ok (hR.ext E3) hn hz) ?_
  rintro e H4 hend
  rcases hend with ⟨E4, rfl⟩ | ⟨ch, op, oc, pr, p, c, b, rfl, hg, hl, hb, S4⟩
  · have S4 := Sat.later S3 E4
    (repeat (first | (refine Step.go ?_; intros) | refine iteB_t (by decide) ?_ | refine iteB_f (by decide) ?_ | (refine Duo.mk (by first | omega | exact rfl | decide) ?_; intros) | (refine Duo.mk (Clo.mk (by kernel_rfl)) ?_; intros)))
    refine ⟨?_, ?_⟩
    all_goals
      ((repeat (first | (refine Step.go ?_; intros) | refine iteB_t (by decide) ?_ | refine iteB_f (by decide) ?_ | (refine Duo.mk (by first | omega | exact rfl | decide) ?_; intros) | (refine Duo.mk (Clo.mk (by kernel_rfl)) ?_; intros)))
       exact .inl ⟨_, _, _, _, _, _, _, _, _, _, _, _, _, _, _, _, _, _, rfl, Sat.grown⟩)
  have E4 : ExtH H3 H4 := Sat.grown
  have S5 := Sat.onto (m := [sl OPr.cells 44 10 op ch.length oc (ch.map insO), pt pr (pcO o p ch.length c), sl pcC 71 6 p ch.length c ((putAll o [] ch).map plainX)]) S4 S3
  simp only [List.cons_append, List.nil_append] at S5
  clear S4 S3
  have S5 := S5
  (repeat (first | (refine Step.go ?_; intros) | refine iteB_t (by decide) ?_ | refine iteB_f (by decide) ?_ | (refine Duo.mk (by first | omega | exact rfl | decide) ?_; intros) | (refine Duo.mk (Clo.mk (by kernel_rfl)) ?_; intros)))
  refine iteB_i (fun h => ?_) (fun hbt => ?_)
  · refine ⟨?_, ?_⟩
    all_goals
      ((repeat (first | (refine Step.go ?_; intros) | refine iteB_t (by decide) ?_ | refine iteB_f (by decide) ?_ | (refine Duo.mk (by first | omega | exact rfl | decide) ?_; intros) | (refine Duo.mk (Clo.mk (by kernel_rfl)) ?_; intros)))
       exact .inl ⟨_, _, _, _, _, _, _, _, _, _, _, _, _, _, _, _, _, _, rfl, Sat.grown⟩)
  have ho := hb (by simpa using hbt)
  (repeat (first | (refine Step.go ?_; intros) | refine iteB_t (by decide) ?_ | refine iteB_f (by decide) ?_ | (refine Duo.mk (by first | omega | exact rfl | decide) ?_; intros) | (refine Duo.mk (Clo.mk (by kernel_rfl)) ?_; intros)))
  refine callD_i (trProper_ok (by decide) s 0 0 hs) ?_
  rintro e H6 ⟨E6, b2, rfl, hb2⟩
  have S6 := Sat.later S5 E6
  clear S5
  (repeat (first | (refine Step.go ?_; intros) | refine iteB_t (by decide) ?_ | refine iteB_f (by decide) ?_ | (refine Duo.mk (by first | omega | exact rfl | decide) ?_; intros) | (refine Duo.mk (Clo.mk (by kernel_rfl)) ?_; intros)))
  refine iteB_i (fun h => ?_) (fun h => ?_)
  · refine ⟨?_, ?_⟩
    all_goals
      ((repeat (first | (refine Step.go ?_; intros) | refine iteB_t (by decide) ?_ | refine iteB_f (by decide) ?_ | (refine Duo.mk (by first | omega | exact rfl | decide) ?_; intros) | (refine Duo.mk (Clo.mk (by kernel_rfl)) ?_; intros)))
       exact .inl ⟨_, _, _, _, _, _, _, _, _, _, _, _, _, _, _, _, _, _, rfl, Sat.grown⟩)
  obtain ⟨gs1, gs2⟩ := hb2 (by simpa using h)
  have gs : GoodX o (s, 0) := ⟨hs, gs2, gs1⟩
  have hszL : ∀ y ∈ putAll o [] ch, SzX y := fun y hy => by
    rcases putAll_mem hy with h | h
    · exact (hg y h).1.1
    · cases h
  refine F16.L0_step ?_
  unfold F16.L0n
  (repeat (first | (refine Step.go ?_; intros) | refine iteB_t (by decide) ?_ | refine iteB_f (by decide) ?_ | (refine Duo.mk (by first | omega | exact rfl | decide) ?_; intros) | (refine Duo.mk (Clo.mk (by kernel_rfl)) ?_; intros)))
  rename_i r5 H7 S7
  refine appOp (x := lastO 4 s 0 0) (by omega) S7 (by (repeat (first | exact Sel.here | apply Sel.there))) (Sat.obj S7) ?_
  intro op' oc' H8 S8
  clear S7 S6
  (repeat (first | (refine Step.go ?_; intros) | refine iteB_t (by decide) ?_ | refine iteB_f (by decide) ?_ | (refine Duo.mk (by first | omega | exact rfl | decide) ?_; intros) | (refine Duo.mk (Clo.mk (by kernel_rfl)) ?_; intros)))
  refine callD_i (Tree_stab (o := o) (xs := ch) (s := s) (v := 0) (m := 0) ho hg (by omega) gs (l := pt r (.cells ⟨opC 4 s 0 0 none 0 0 none 0 0⟩ 44) :: pt r1 (ansO false 0 0 none 0 0 none 0 0) :: pt r2 (ansO false 0 0 none 0 0 none 0 0) :: pt pr (pcO o p ch.length c) :: sl pcC 71 6 p ch.length c ((putAll o [] ch).map plainX) :: [old H0]) (S8.to Fits.out)) ?_
  rintro e H9 ⟨oq, ocq, lp, lc, vp, vc, rfl, S9⟩
  clear S8
  have hfl : ((putAll o [] ch).filter (meetX o s)).length ≤ 200 := by
    have h1 := List.length_filter_le (meetX o s) (putAll o [] ch)
    rw [putAll_len] at h1
    simp at h1; omega
  have hTA : (List.replicate ch.length zTA ++ [(⟨false, 0, 0, lp, ((putAll o [] ch).filter (meetX o s)).length, lc, vp, ((putAll o [] ch).filter (meetX o s)).length, vc⟩ : TA)])[ch.length]? = some ⟨false, 0, 0, lp, ((putAll o [] ch).filter (meetX o s)).length, lc, vp, ((putAll o [] ch).filter (meetX o s)).length, vc⟩ := by
    rw [List.getElem?_append_right (by simp)]; simp
  have hI := HasI.nat hTA
  (repeat (first | (refine Step.go ?_; intros) | refine iteB_t (by decide) ?_ | refine iteB_f (by decide) ?_ | (refine Duo.mk (by first | omega | exact rfl | decide) ?_; intros) | (refine Duo.mk (Clo.mk (by kernel_rfl)) ?_; intros)))
  refine iteB_f (by rw [wr (by omega) (by omega)]; simp) ?_
  obtain ⟨ra, oa, rfl⟩ := S9.slSome (List.mem_cons_self ..) (by omega)
  refine Sat.idx (f := TA.cells) (E := 40) (z := 5) S9 ⟨by omega, by omega, fun r0 o0 hr => ?_⟩
  cases hr
  (repeat (first | (refine Step.go ?_; intros) | refine iteB_t (by decide) ?_ | refine iteB_f (by decide) ?_ | (refine Duo.mk (by first | omega | exact rfl | decide) ?_; intros) | (refine Duo.mk (Clo.mk (by kernel_rfl)) ?_; intros)))
  refine callD_i (do_stab (H0 := H9) (o := o) (pr := pr) (p := p) (n := ch.length) (c := c) (L := putAll o [] ch) S9.obj (S9.rowsAt (f := pcC) (E := 71) (z := 6) (n := ch.length) (k := c) (by simp)) (by rw [putAll_len]; simp) (by omega) (s := s) (v := 0) (m := 0) hs.1 hszL) ?_
  rintro e H10 ⟨lp', lc', vp', vc', rfl, S10⟩
  have E10 : ExtH H9 H10 := Sat.grown
  have S11 := Sat.onto (m := [sl SP.cells 35 5 lp' ((putAll o [] ch).filter (meetX o s)).length lc' (((putAll o [] ch).filter (meetX o s)).map fun x => plainS x.1), sl inC 3 1 vp' ((putAll o [] ch).filter (meetX o s)).length vc' (((putAll o [] ch).filter (meetX o s)).map (·.2))]) S10 S9
  simp only [List.cons_append, List.nil_append] at S11
  clear S10 S9
  (repeat (first | (refine Step.go ?_; intros) | refine iteB_t (by decide) ?_ | refine iteB_f (by decide) ?_ | (refine Duo.mk (by first | omega | exact rfl | decide) ?_; intros) | (refine Duo.mk (Clo.mk (by kernel_rfl)) ?_; intros)))
  refine .inr ⟨(putAll o [] ch).filter (meetX o s), fun x hx => hszL x (List.mem_filter.1 hx).1, by omega, ho, lp, lc, vp, vc, lp', lc', vp', vc', rfl, Sat.to (by assumption) Fits.out⟩
theorem ask_con {xs : List SP} {q : Option Addr} {n qc : Nat} {s : SP} (hR : RowsAt SP.cells 5 H0 q xs) (hn : xs.length = n) (hz : ∀ x ∈ xs, Sz x) (hs : Sz s) :
    CallsH Try.prog 16 ⟨[.int .i64 o, .slice q n qc, .agg ⟨opC 7 s 0 0 none 0 0 none 0 0⟩]⟩ H0 (fun e H1 => AskNo H0 e H1 ∨ ∃ b b' : Bool, ∃ ch : List (SP × Int), ∃ T : Tr, (∀ x ∈ ch, GoodX o x) ∧ GoodX o (s, 0) ∧ (0 ≤ o ∧ o ≤ 3) ∧ TrSt o T (putAll o [] ch) ∧ b = conR o s.B s.E (foldV (conF o) (none, true) (Go.Proofs.Ytobolifgehagfaa.vis o s.B s.E T)).1 ∧ b' = covP o s (putAll o [] ch) ∧ e = .returned (.tuple ⟨[ansV b 0 0 none 0 0 none 0 0, ansV b' 0 0 none 0 0 none 0 0, .bool true]⟩) ∧ ExtH H0 H1) := by
  have S := Sat.start H0
  refine F16.calls ?_
  unfold F16.go
  (repeat (first | (refine Step.go ?_; intros) | refine iteB_t (by decide) ?_ | refine iteB_f (by decide) ?_ | (refine Duo.mk (by first | omega | exact rfl | decide) ?_; intros) | (refine Duo.mk (Clo.mk (by kernel_rfl)) ?_; intros)))
  rename_i r _ _ r1 _ _ r2 H3 S3
  have E3 : ExtH H0 H3 := Sat.grown
  refine callD_i (filled_ok (hR.ext E3) hn hz) ?_
  rintro e H4 hend
  rcases hend with ⟨E4, rfl⟩ | ⟨ch, op, oc, pr, p, c, b, rfl, hg, hl, hb, S4⟩
  · have S4 := Sat.later S3 E4
    (repeat (first | (refine Step.go ?_; intros) | refine iteB_t (by decide) ?_ | refine iteB_f (by decide) ?_ | (refine Duo.mk (by first | omega | exact rfl | decide) ?_; intros) | (refine Duo.mk (Clo.mk (by kernel_rfl)) ?_; intros)))
    refine ⟨?_, ?_⟩
    all_goals
      ((repeat (first | (refine Step.go ?_; intros) | refine iteB_t (by decide) ?_ | refine iteB_f (by decide) ?_ | (refine Duo.mk (by first | omega | exact rfl | decide) ?_; intros) | (refine Duo.mk (Clo.mk (by kernel_rfl)) ?_; intros)))
       exact .inl ⟨_, _, _, _, _, _, _, _, _, _, _, _, _, _, _, _, _, _, rfl, Sat.grown⟩)
  have E4 : ExtH H3 H4 := Sat.grown
  have S5 := Sat.onto (m := [sl OPr.cells 44 10 op ch.length oc (ch.map insO), pt pr (pcO o p ch.length c), sl pcC 71 6 p ch.length c ((putAll o [] ch).map plainX)]) S4 S3
  simp only [List.cons_append, List.nil_append] at S5
  clear S4 S3
  have S5 := S5
  (repeat (first | (refine Step.go ?_; intros) | refine iteB_t (by decide) ?_ | refine iteB_f (by decide) ?_ | (refine Duo.mk (by first | omega | exact rfl | decide) ?_; intros) | (refine Duo.mk (Clo.mk (by kernel_rfl)) ?_; intros)))
  refine iteB_i (fun h => ?_) (fun hbt => ?_)
  · refine ⟨?_, ?_⟩
    all_goals
      ((repeat (first | (refine Step.go ?_; intros) | refine iteB_t (by decide) ?_ | refine iteB_f (by decide) ?_ | (refine Duo.mk (by first | omega | exact rfl | decide) ?_; intros) | (refine Duo.mk (Clo.mk (by kernel_rfl)) ?_; intros)))
       exact .inl ⟨_, _, _, _, _, _, _, _, _, _, _, _, _, _, _, _, _, _, rfl, Sat.grown⟩)
  have ho := hb (by simpa using hbt)
  (repeat (first | (refine Step.go ?_; intros) | refine iteB_t (by decide) ?_ | refine iteB_f (by decide) ?_ | (refine Duo.mk (by first | omega | exact rfl | decide) ?_; intros) | (refine Duo.mk (Clo.mk (by kernel_rfl)) ?_; intros)))
  refine callD_i (trProper_ok (by decide) s 0 0 hs) ?_
  rintro e H6 ⟨E6, b2, rfl, hb2⟩
  have S6 := Sat.later S5 E6
  clear S5
  (repeat (first | (refine Step.go ?_; intros) | refine iteB_t (by decide) ?_ | refine iteB_f (by decide) ?_ | (refine Duo.mk (by first | omega | exact rfl | decide) ?_; intros) | (refine Duo.mk (Clo.mk (by kernel_rfl)) ?_; intros)))
  refine iteB_i (fun h => ?_) (fun h => ?_)
  · refine ⟨?_, ?_⟩
    all_goals
      ((repeat (first | (refine Step.go ?_; intros) | refine iteB_t (by decide) ?_ | refine iteB_f (by decide) ?_ | (refine Duo.mk (by first | omega | exact rfl | decide) ?_; intros) | (refine Duo.mk (Clo.mk (by kernel_rfl)) ?_; intros)))
       exact .inl ⟨_, _, _, _, _, _, _, _, _, _, _, _, _, _, _, _, _, _, rfl, Sat.grown⟩)
  obtain ⟨gs1, gs2⟩ := hb2 (by simpa using h)
  have gs : GoodX o (s, 0) := ⟨hs, gs2, gs1⟩
  have hszL : ∀ y ∈ putAll o [] ch, SzX y := fun y hy => by
    rcases putAll_mem hy with h | h
    · exact (hg y h).1.1
    · cases h
  refine F16.L0_step ?_
  unfold F16.L0n
  (repeat (first | (refine Step.go ?_; intros) | refine iteB_t (by decide) ?_ | refine iteB_f (by decide) ?_ | (refine Duo.mk (by first | omega | exact rfl | decide) ?_; intros) | (refine Duo.mk (Clo.mk (by kernel_rfl)) ?_; intros)))
  rename_i r5 H7 S7
  refine appOp (x := lastO 7 s 0 0) (by omega) S7 (by (repeat (first | exact Sel.here | apply Sel.there))) (Sat.obj S7) ?_
  intro op' oc' H8 S8
  clear S7 S6
  (repeat (first | (refine Step.go ?_; intros) | refine iteB_t (by decide) ?_ | refine iteB_f (by decide) ?_ | (refine Duo.mk (by first | omega | exact rfl | decide) ?_; intros) | (refine Duo.mk (Clo.mk (by kernel_rfl)) ?_; intros)))
  refine callD_i (Tree_contains (o := o) (xs := ch) (s := s) (v := 0) (m := 0) ho hg (by omega) gs (l := pt r (.cells ⟨opC 7 s 0 0 none 0 0 none 0 0⟩ 44) :: pt r1 (ansO false 0 0 none 0 0 none 0 0) :: pt r2 (ansO false 0 0 none 0 0 none 0 0) :: pt pr (pcO o p ch.length c) :: sl pcC 71 6 p ch.length c ((putAll o [] ch).map plainX) :: [old H0]) (S8.to Fits.out)) ?_
  rintro e H9 ⟨oq, ocq, T, rfl, hT, S9⟩
  clear S8
  have hTA : (List.replicate ch.length zTA ++ [(⟨conR o s.B s.E (foldV (conF o) (none, true) (Go.Proofs.Ytobolifgehagfaa.vis o s.B s.E T)).1, 0, 0, none, 0, 0, none, 0, 0⟩ : TA)])[ch.length]? = some ⟨conR o s.B s.E (foldV (conF o) (none, true) (Go.Proofs.Ytobolifgehagfaa.vis o s.B s.E T)).1, 0, 0, none, 0, 0, none, 0, 0⟩ := by
    rw [List.getElem?_append_right (by simp)]; simp
  have hI := HasI.nat hTA
  (repeat (first | (refine Step.go ?_; intros) | refine iteB_t (by decide) ?_ | refine iteB_f (by decide) ?_ | (refine Duo.mk (by first | omega | exact rfl | decide) ?_; intros) | (refine Duo.mk (Clo.mk (by kernel_rfl)) ?_; intros)))
  refine iteB_f (by rw [wr (by omega) (by omega)]; simp) ?_
  obtain ⟨ra, oa, rfl⟩ := S9.slSome (List.mem_cons_self ..) (by omega)
  refine Sat.idx (f := TA.cells) (E := 40) (z := 5) S9 ⟨by omega, by omega, fun r0 o0 hr => ?_⟩
  cases hr
  (repeat (first | (refine Step.go ?_; intros) | refine iteB_t (by decide) ?_ | refine iteB_f (by decide) ?_ | (refine Duo.mk (by first | omega | exact rfl | decide) ?_; intros) | (refine Duo.mk (Clo.mk (by kernel_rfl)) ?_; intros)))
  refine callD_i (do_cov (H0 := H9) (o := o) (pr := pr) (p := p) (n := ch.length) (c := c) (L := putAll o [] ch) S9.obj (S9.rowsAt (f := pcC) (E := 71) (z := 6) (n := ch.length) (k := c) (by simp)) (by rw [putAll_len]; simp) (by omega) (s := s) (v := 0) (m := 0) hs.1 hszL) ?_
  rintro e H10 ⟨rfl, E10⟩
  have S11 := Sat.later S9 E10
  clear S9
  (repeat (first | (refine Step.go ?_; intros) | refine iteB_t (by decide) ?_ | refine iteB_f (by decide) ?_ | (refine Duo.mk (by first | omega | exact rfl | decide) ?_; intros) | (refine Duo.mk (Clo.mk (by kernel_rfl)) ?_; intros)))
  refine .inr ⟨_, _, ch, T, hg, gs, ho, hT, rfl, rfl, rfl, Sat.grown⟩
end
end Go.Proofs.Ytobolifgehagfaa
