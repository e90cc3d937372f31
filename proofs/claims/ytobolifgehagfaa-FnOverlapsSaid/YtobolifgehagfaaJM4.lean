/- What functions of this seat do, each proved by a walk; no condition. -/
import Derived.Test.YtobolifgehagfaaJM3
set_option linter.unusedVariables false
set_option linter.unusedSimpArgs false
set_option linter.unnecessarySimpa false
namespace Go.Proofs.Ytobolifgehagfaa
open Go Go.Den Go.Proofs
/-! The plain list of intervals. -/
section
variable {α : Type} {f : α → List Value} {E : TypeId} {z n c : Nat} {p : Option Addr} {xs : List α} {H : Heap} {l m : List HP}
theorem slCells {h : PH} (a : sl f E z p n c xs h) (hs : PH.sub h (PH.of H)) {i : Nat} (hi : i ≤ n) : cellsAt H (slP p i c z) ((xs.drop i).flatMap f) := by
  obtain ⟨a1, a2, a3, a4⟩ := a
  intro j v hj
  rcases a4 with ⟨rfl, rfl⟩ | ⟨r, pre, sp, rfl, hl, hb⟩
  · have : xs = [] := List.eq_nil_of_length_eq_zero (by omega)
    subst this
    simp at hj
  · by_cases hc : c = i
    · have : xs.drop i = [] := List.drop_eq_nil_of_le (by omega)
      rw [this] at hj
      simp at hj
    · refine ⟨_, by unfold slP; rw [if_neg hc]; rfl, ?_⟩
      show hcell H (((⟨r, pre.length, none⟩ : Addr).add (i * z)).add j) = some v
      rw [add_mk, add_mk]
      refine hcell_of (hs _ _ hb) ?_
      rw [← flat_drop a2, List.getElem?_drop] at hj
      rw [List.append_assoc, List.getElem?_append_right (by omega)]
      rw [show pre.length + i * z + j - pre.length = i * z + j by omega]
      rw [List.getElem?_append_left (lt_of hj)]
      exact hj
theorem slCells_of (S : Sat H l) (hm : sl f E z p n c xs ∈ l) {i : Nat} (hi : i ≤ n) : cellsAt H (slP p i c z) ((xs.drop i).flatMap f) := by
  obtain ⟨h, a, hs⟩ := S.mem hm
  exact slCells a hs hi
end

theorem cells_take {α : Type} {f : α → List Value} {H : Heap} {p : Option Addr} {xs : List α} {i : Nat} (h : cellsAt H p (xs.flatMap f)) : cellsAt H p ((xs.take i).flatMap f) := by
  intro j v hj
  refine h j v ?_
  have e : xs.flatMap f = (xs.take i).flatMap f ++ (xs.drop i).flatMap f := by rw [← List.flatMap_append, List.take_append_drop]
  rw [e, List.getElem?_append_left (lt_of hj)]
  exact hj
abbrev pcC (x : SP × Int) : List Value := [.string x.1.b, .string x.1.e, .bool x.1.p, .int .i64 x.1.f, .int .i64 x.1.t, .int .i64 x.2]
def plainX (x : SP × Int) : SP × Int := (plainS x.1, x.2)
theorem ahead_plain {o : Int} {s : SP} {x : SP × Int} : aheadS o s (plainX x).1 = aheadS o s x.1 := rfl
/-- Where an interval is put. -/
theorem putP_at {o : Int} {z : SP × Int} : ∀ {L : List (SP × Int)} {i : Nat}, i ≤ L.length → (∀ j x, L[j]? = some x → j < i → aheadS o z.1 x.1 = false) → (∀ x, L[i]? = some x → aheadS o z.1 x.1 = true) → putP o z L = L.take i ++ z :: L.drop i
  | [], i, hi, _, _ => by
    obtain rfl : i = 0 := by simpa using hi
    rfl
  | x :: L, 0, hi, h1, h2 => by rw [putP, if_pos (h2 x rfl)]; rfl
  | x :: L, i + 1, hi, h1, h2 => by
    rw [putP, if_neg (by rw [h1 0 x rfl (by omega)]; simp), putP_at (i := i) (by simpa using hi) (fun j y hj hlt => h1 (j + 1) y (by simpa using hj) (by omega)) (fun y hy => h2 y (by simpa using hy))]
    rfl
section
variable {H : Heap} {l : List HP} {o : Int}
abbrev pcO (o : Int) (p : Option Addr) (n c : Nat) : Obj := .cells ⟨[.int .i64 o, .slice p n c]⟩ 57
def SzX (x : SP × Int) : Prop := x.1.b.size ≤ 140737488351232
abbrev pcZ : List Value := [.string (ByteArray.mk #[]), .string (ByteArray.mk #[]), .bool false, .int .i64 (0 : Int), .int .i64 (0 : Int), .int .i64 (0 : Int)]
theorem pc_isC (y : SP × Int) : ∀ v ∈ pcC y, isCell v = true := by
  intro v hv
  simp only [pcC, List.mem_cons, List.not_mem_nil, or_false] at hv
  rcases hv with rfl | rfl | rfl | rfl | rfl | rfl <;> rfl
theorem app1 {z : SP × Int} {A : List (SP × Int)} {p1 : Option Addr} {k c1 r1 : Nat} {m : List HP} {K : Option Addr → Nat → Nat → Heap → Prop} (hk : k ≤ 1000000)
    (S : Sat H (pt r1 (.cells ⟨pcC z⟩ 71) :: sl pcC 71 6 p1 k c1 A :: m)) (next : ∀ p' c' H1, Sat H1 (sl pcC 71 6 p' (k + 1) c' (A ++ [z]) :: m) → K p' (k + 1) c' H1) :
    apD H 6 64 pcZ 71 p1 k c1 (some ⟨r1, 0, none⟩) 1 K := by
  have S4 := S.bring (c := sl pcC 71 6 p1 k c1 A) (by (repeat (first | exact Sel.here | apply Sel.there)))
  refine S4.slApp (ys := [z]) (d := 1) ?_ rfl (by simp) (by simp [isCell]) rfl (by decide) (by omega) (fun p' c' H1 S1 => next p' c' H1 (S1.to (Ent.cons (Ent.drop .refl))))
  simp only [List.flatMap_cons, List.flatMap_nil, List.append_nil]
  exact cellsAt_one (S.at_ (List.mem_cons_self ..))
theorem app2 {A M : List (SP × Int)} {p p1 : Option Addr} {i k c1 n c : Nat} {m r : List HP} {K : Option Addr → Nat → Nat → Heap → Prop} (hk : k ≤ 1000000) (hn : n ≤ 1000000) (hi : i ≤ n) (S : Sat H (sl pcC 71 6 p1 k c1 A :: m)) (s : Sel (sl pcC 71 6 p n c M) m r)
    (next : ∀ p' c' H1, Sat H1 (sl pcC 71 6 p' (k + (n - i)) c' (A ++ M.drop i) :: m) → K p' (k + (n - i)) c' H1) :
    apD H 6 64 pcZ 71 p1 k c1 (slP p i c 6) (n - i) K := by
  have hm : sl pcC 71 6 p n c M ∈ m := s.perm.mem_iff.2 (List.mem_cons_self ..)
  have hl := (Sat.slLen S (List.mem_cons_of_mem _ hm)).1
  refine S.slApp (ys := M.drop i) (d := n - i) (slCells_of S (List.mem_cons_of_mem _ hm) hi) (by simp; omega) (fun _ _ => rfl) ?_ rfl (by decide) (by omega) next
  intro v hv
  obtain ⟨y, _, hv⟩ := List.mem_flatMap.1 hv
  exact pc_isC y v hv
end
end Go.Proofs.Ytobolifgehagfaa

set_option linter.unusedVariables false
set_option linter.unusedSimpArgs false
set_option linter.unnecessarySimpa false
namespace Go.Proofs.Ytobolifgehagfaa
open Go Go.Den Go.Proofs
/-! The plain list is asked. -/
def sameS (o : Int) (s t : SP) : Bool := !aheadS o s t && !aheadS o t s
section
variable {H H0 : Heap} {l : List HP} {o : Int}
theorem same_ok {s t : SP} (z1 : s.b.size ≤ 140737488351232) (z2 : t.b.size ≤ 140737488351232) : CallsH Try.prog 29 ⟨[.int .i64 o, .agg ⟨s.cells⟩, .agg ⟨t.cells⟩]⟩ H (Gives (.bool (sameS o s t)) H) := by
  have S := Sat.start H
  refine F29.calls ?_
  unfold F29.go
  unfold sameS
  (repeat (first | (refine Step.go ?_; intros) | refine iteB_t (by decide) ?_ | refine iteB_f (by decide) ?_ | (refine Duo.mk (by first | omega | exact rfl | decide) ?_; intros) | (refine Duo.mk (Clo.mk (by kernel_rfl)) ?_; intros)))
  rename_i r _ _ r1 H2 S2
  refine gives_i S2 (ahead_ok z1 z2) ?_
  intro H3 E3 S3
  (repeat (first | (refine Step.go ?_; intros) | refine iteB_t (by decide) ?_ | refine iteB_f (by decide) ?_ | (refine Duo.mk (by first | omega | exact rfl | decide) ?_; intros) | (refine Duo.mk (Clo.mk (by kernel_rfl)) ?_; intros)))
  refine iteB_i (fun h => ?_) (fun h => ?_)
  · rw [h]
    (repeat (first | (refine Step.go ?_; intros) | refine iteB_t (by decide) ?_ | refine iteB_f (by decide) ?_ | (refine Duo.mk (by first | omega | exact rfl | decide) ?_; intros) | (refine Duo.mk (Clo.mk (by kernel_rfl)) ?_; intros)))
    refine gives_i S3 (ahead_ok z2 z1) ?_
    intro H4 E4 S4
    (repeat (first | (refine Step.go ?_; intros) | refine iteB_t (by decide) ?_ | refine iteB_f (by decide) ?_ | (refine Duo.mk (by first | omega | exact rfl | decide) ?_; intros) | (refine Duo.mk (Clo.mk (by kernel_rfl)) ?_; intros)))
    exact ⟨rfl, Sat.grown⟩
  · rw [h]
    exact ⟨rfl, Sat.grown⟩
section
variable {pr : Nat} {p : Option Addr} {n c : Nat} {L : List (SP × Int)} (hB : H0[pr]? = some (pcO o p n c)) (hR : RowsAt pcC 6 H0 p (L.map plainX)) (hn : L.length = n) (hb : n ≤ 100000)
include hB hR hn hb
end
end
end Go.Proofs.Ytobolifgehagfaa

set_option linter.unusedVariables false
set_option linter.unusedSimpArgs false
set_option linter.unnecessarySimpa false
namespace Go.Proofs.Ytobolifgehagfaa
open Go Go.Den Go.Proofs
/-! The plain list's answers. -/
section
variable {H H0 : Heap} {l : List HP} {o : Int}
section
variable {pr : Nat} {p : Option Addr} {n c : Nat} {L : List (SP × Int)} (hB : H0[pr]? = some (pcO o p n c)) (hR : RowsAt pcC 6 H0 p (L.map plainX)) (hn : L.length = n) (hb : n ≤ 100000)
include hB hR hn hb
end
end
end Go.Proofs.Ytobolifgehagfaa

set_option linter.unusedVariables false
set_option linter.unusedSimpArgs false
set_option linter.unnecessarySimpa false
namespace Go.Proofs.Ytobolifgehagfaa
open Go Go.Den Go.Proofs
/-! One operation of the plain list. -/
section
variable {H0 : Heap} {o : Int} {pr : Nat} {p : Option Addr} {n c : Nat} {L : List (SP × Int)} (hB : H0[pr]? = some (pcO o p n c)) (hR : RowsAt pcC 6 H0 p (L.map plainX)) (hn : L.length = n) (hb : n ≤ 100000)
include hB hR hn hb
end
end Go.Proofs.Ytobolifgehagfaa

set_option linter.unusedVariables false
set_option linter.unusedSimpArgs false
set_option linter.unnecessarySimpa false
namespace Go.Proofs.Ytobolifgehagfaa
open Go Go.Den Go.Proofs
section
variable {H : Heap}
end
end Go.Proofs.Ytobolifgehagfaa

set_option linter.unusedVariables false
set_option linter.unusedSimpArgs false
set_option linter.unnecessarySimpa false
namespace Go.Proofs.Ytobolifgehagfaa
open Go Go.Den Go.Proofs
/-! A tree filled with intervals, as the laws do it. -/
section
variable {H H0 : Heap} {o : Int}
theorem putP_mem {z x : SP × Int} : ∀ {L : List (SP × Int)}, x ∈ putP o z L ↔ x = z ∨ x ∈ L
  | [] => by simp [putP]
  | y :: L => by
    rw [putP]
    split
    · simp
    · simp only [List.mem_cons, putP_mem (L := L)]
      constructor
      · rintro (h | h | h)
        · exact .inr (.inl h)
        · exact .inl h
        · exact .inr (.inr h)
      · rintro (h | h | h)
        · exact .inr (.inl h)
        · exact .inl h
        · exact .inr (.inr h)
end
end Go.Proofs.Ytobolifgehagfaa

set_option linter.unusedVariables false
set_option linter.unusedSimpArgs false
set_option linter.unnecessarySimpa false
namespace Go.Proofs.Ytobolifgehagfaa
open Go Go.Den Go.Proofs
/-! Answers compared. -/
section
variable {H H0 : Heap} {o : Int} {l : List HP}
theorem sameS_out {o : Int} {x : SP × Int} (ho : 0 ≤ o ∧ o ≤ 3) : sameS o (outX o x) (plainS x.1) = true := by
  have hB : ∀ y : EN, ltE o (outX o x).B y = ltE o x.1.B y ∧ ltE o y (outX o x).B = ltE o y x.1.B := by
    intro y
    unfold outX outS SP.B ltE
    by_cases h : o = 3
    · simp [h]
    · simp [h]
  have hE : ∀ y : EN, ltE o (outX o x).E y = ltE o x.1.E y ∧ ltE o y (outX o x).E = ltE o y x.1.E := by
    intro y
    unfold outX outS SP.E SP.end_ ltE
    by_cases h : o = 3
    · simp [h]
    · simp [h]
  have e1 : (plainS x.1).B = x.1.B := rfl
  have e2 : (plainS x.1).E = x.1.E := rfl
  unfold sameS aheadS
  rw [e1, e2, (hB _).1, (hB _).2, (hE _).1, (hE _).2, ltE_irrefl, ltE_irrefl]
  rfl
theorem outX_b {x : SP × Int} (h : SzX x) : (outX o x).b.size ≤ 140737488351232 := by
  unfold outX outS; split
  · show (⟨#[]⟩ : ByteArray).size ≤ _; decide
  · exact h
end
end Go.Proofs.Ytobolifgehagfaa

set_option linter.unusedVariables false
set_option linter.unusedSimpArgs false
set_option linter.unnecessarySimpa false
namespace Go.Proofs.Ytobolifgehagfaa
open Go Go.Den Go.Proofs
/-! A tree is asked. -/
section
variable {H H0 : Heap} {o : Int} {l : List HP}
end
end Go.Proofs.Ytobolifgehagfaa
