/- What functions of this seat do, each proved by a walk; no condition. -/
import Derived.Test.YtdgcdjlomindhaaBB
import Derived.Test.YtdgcdjlomindhaaDen4
set_option linter.unusedVariables false
set_option linter.unusedSimpArgs false
set_option linter.unnecessarySimpa false
namespace Go.Proofs.Ytdgcdjlomindhaa
open Go Go.Den Go.Proofs
/-! A node's slices: grown, cut. -/
structure Itm where
  k : Int
  v : Int
deriving DecidableEq
abbrev Itm.cells (e : Itm) : List Value := [.int .i64 e.k, .int .i64 e.v]
abbrev ptC (p : Option Addr) : List Value := [.pointer p]
instance {k v : Int} : Enc Itm.cells [.int .i64 k, .int .i64 v] ⟨k, v⟩ := ⟨rfl⟩
instance {p : Option Addr} : Enc ptC [.pointer p] p := ⟨rfl⟩
abbrev sI (p : Option Addr) (n c : Nat) (xs : List Itm) : HP := sl Itm.cells 25 2 p n c xs
abbrev sP (p : Option Addr) (n c : Nat) (xs : List (Option Addr)) : HP := sl ptC 74 1 p n c xs
theorem wr {i : Int} (h0 : -9223372036854775808 ≤ i) (h1 : i < 9223372036854775808) : IntKind.wrap .i64 i = i := wr64 h0 h1
theorem wadd {i : Nat} (h : i < 2 ^ 60) : IntKind.wrap .i64 ((i : Int) + 1) = ((i + 1 : Nat) : Int) := by rw [wr (by omega) (by omega)]; omega
theorem wsub {i : Nat} (h : i < 2 ^ 60) : IntKind.wrap .i64 (((i + 1 : Nat) : Int) - 1) = (i : Int) := by rw [wr (by omega) (by omega)]; omega
section
variable {α : Type} {f : α → List Value} {E : TypeId} {z n c : Nat} {p : Option Addr} {xs : List α} {H : Heap} {l m : List HP}
theorem slCells {h : PH} (a : sl f E z p n c xs h) (hs : PH.sub h (PH.of H)) {i : Nat} (hi : i ≤ n) : cellsAt H (slP p i c z) ((xs.drop i).flatMap f) := by
  obtain ⟨a1, a2, a3, a4⟩ := a
  intro j v hj
  rcases a4 with ⟨rfl, rfl⟩ | ⟨r, pre, sp, rfl, hl, hb⟩
  · have : xs = [] := List.eq_nil_of_length_eq_zero (by omega)
    subst this
    simp at hj
  · by_cases hc : c = i
    · have : xs.drop i = [] := List.drop_eq_nil_of_le (by omega)
      rw [this] at hj
      simp at hj
    · refine ⟨_, by unfold slP; rw [if_neg hc]; rfl, ?_⟩
      show hcell H (((⟨r, pre.length, none⟩ : Addr).add (i * z)).add j) = some v
      rw [add_mk, add_mk]
      refine hcell_of (hs _ _ hb) ?_
      rw [← flat_drop a2, List.getElem?_drop] at hj
      rw [List.append_assoc, List.getElem?_append_right (by omega)]
      rw [show pre.length + i * z + j - pre.length = i * z + j by omega]
      rw [List.getElem?_append_left (lt_of hj)]
      exact hj
theorem slCells_of (S : Sat H l) (hm : sl f E z p n c xs ∈ l) {i : Nat} (hi : i ≤ n) : cellsAt H (slP p i c z) ((xs.drop i).flatMap f) := by
  obtain ⟨h, a, hs⟩ := S.mem hm
  exact slCells a hs hi
/-- A slice is cut. -/
theorem slCut {k : Nat} (hk : k ≤ n) : Ent (sl f E z p n c xs :: m) (sl f E z (slP p 0 c z) k c (xs.take k) :: m) := by
  refine Ent.first fun q hq => ?_
  obtain ⟨a1, a2, a3, a4⟩ := hq
  refine ⟨by simp; omega, fun x hx => a2 x (List.mem_of_mem_take hx), by omega, ?_⟩
  rcases a4 with ⟨rfl, rfl⟩ | ⟨r, pre, sp, rfl, hl, hb⟩
  · left
    refine ⟨?_, by omega⟩
    unfold slP; split <;> rfl
  · right
    refine ⟨r, pre, (xs.drop k).flatMap f ++ sp, ?_, ?_, ?_⟩
    · unfold slP
      split
      · rfl
      · rw [Option.map_some, add_mk]; simp
    · rw [List.length_append, flat_len (fun x hx => a2 x (List.mem_of_mem_drop hx)), List.length_drop]
      have : (c - k) * z = (n - k) * z + (c - n) * z := by rw [← Nat.add_mul]; congr 1; omega
      rw [this, a1]; omega
    · rw [hb]
      have e : xs.flatMap f = (xs.take k).flatMap f ++ (xs.drop k).flatMap f := by rw [← List.flatMap_append, List.take_append_drop]
      rw [e]
      simp only [List.append_assoc]
end
theorem itm_isC {xs : List Itm} : ∀ v ∈ xs.flatMap Itm.cells, isCell v = true := by
  intro v hv
  obtain ⟨y, _, hy⟩ := List.mem_flatMap.1 hv
  simp at hy
  rcases hy with rfl | rfl <;> rfl
theorem ptr_isC {xs : List (Option Addr)} : ∀ v ∈ xs.flatMap ptC, isCell v = true := by
  intro v hv
  obtain ⟨y, _, hy⟩ := List.mem_flatMap.1 hv
  simp at hy
  subst hy; rfl
theorem ins_shift {α : Type} {xs : List α} {z e : α} {i d : Nat} (hi : i ≤ xs.length) (hd : d = xs.length + 1 - (i + 1)) :
    (((xs ++ [z]).take (i + 1) ++ ((xs ++ [z]).drop i).take (Nat.min (xs.length + 1 - i) d) ++ (xs ++ [z]).drop (i + 1 + Nat.min (xs.length + 1 - i) d)).set i e) = xs.take i ++ e :: xs.drop i := by
  have hm : Nat.min (xs.length + 1 - i) d = xs.length - i := by subst hd; show min _ _ = _; omega
  rw [hm]
  have e1 : ((xs ++ [z]).drop i).take (xs.length - i) = xs.drop i := by
    rw [List.drop_append_of_le_length hi, List.take_append_of_le_length (by simp)]
    exact List.take_of_length_le (by simp)
  have e2 : (xs ++ [z]).drop (i + 1 + (xs.length - i)) = [] := List.drop_eq_nil_of_le (by rw [List.length_append, List.length_singleton]; omega)
  rw [e1, e2, List.append_nil]
  rw [List.take_add_one, List.take_append_of_le_length hi]
  have hl : (xs.take i).length = i := by simp; omega
  obtain ⟨y, hy⟩ : ∃ y, (xs ++ [z])[i]? = some y := get_of (by rw [List.length_append, List.length_singleton]; omega)
  rw [hy]
  simp only [Option.toList_some, List.append_assoc, List.singleton_append]
  rw [List.set_append_right _ _ (by omega), hl, Nat.sub_self, List.set_cons_zero]
end Go.Proofs.Ytdgcdjlomindhaa

set_option linter.unusedVariables false
set_option linter.unusedSimpArgs false
set_option linter.unnecessarySimpa false
namespace Go.Proofs.Ytdgcdjlomindhaa
open Go Go.Den Go.Proofs
/-! Put in at a place. -/
section
variable {H : Heap} {l : List HP} {b n c i : Nat} {p : Option Addr} {w1 w2 : Value}
theorem insI_ok {xs : List Itm} {e : Itm} (hi : i ≤ n) (hn : n < 2 ^ 40) (S : Sat H (pt b (.cells ⟨[.slice p n c, w1, w2]⟩ 94) :: sI p n c xs :: l)) :
    CallsH Try.prog 66 ⟨[.pointer (some ⟨b, 0, none⟩), .int .i64 (i : Int), .agg ⟨e.cells⟩]⟩ H (fun en H1 => ∃ p' c', en = .returned (.tuple ⟨[]⟩) ∧ Sat H1 (pt b (.cells ⟨[.slice p' (n + 1) c', w1, w2]⟩ 94) :: sI p' (n + 1) c' (xs.take i ++ e :: xs.drop i) :: l)) := by
  have hx := (Sat.slLen S (.tail _ (.head _))).1
  refine F66.calls ?_
  unfold F66.go
  rw [wadd (by omega)]
  (repeat (first | (refine Step.go ?_; intros) | refine iteB_t (by decide) ?_ | refine iteB_f (by decide) ?_ | (refine Duo.mk (by first | omega | exact rfl | decide) ?_; intros) | (refine Duo.mk (Clo.mk (by kernel_rfl)) ?_; intros)))
  rename_i p' c' H4 S4 H5 S5
  refine iteB_t (by simp; omega) ?_
  (repeat (first | (refine Step.go ?_; intros) | refine iteB_t (by decide) ?_ | refine iteB_f (by decide) ?_ | (refine Duo.mk (by first | omega | exact rfl | decide) ?_; intros) | (refine Duo.mk (Clo.mk (by kernel_rfl)) ?_; intros)))
  have S6 := Sat.bring S5 (c := sI p' (n + 1) c' (xs ++ [⟨0, 0⟩])) (by (repeat (first | exact Sel.here | apply Sel.there)))
  simp only [Int.toNat_natCast]
  refine S6.slCopy (i := i + 1) (d := n + 1 - i) (ys := (xs ++ [(⟨0, 0⟩ : Itm)]).drop i) (by omega) (slCells_of S6 (List.mem_cons_self ..) (by omega)) (by simp; omega) (fun y _ => rfl) itm_isC ?_
  intro H6 S7
  have hY := ins_shift (xs := xs) (z := ⟨0, 0⟩) (e := e) (i := i) (d := n + 1 - (i + 1)) (by omega) (by omega)
  rw [hx] at hY
  generalize hZ : ((xs ++ [(⟨0, 0⟩ : Itm)]).take (i + 1) ++ ((xs ++ [(⟨0, 0⟩ : Itm)]).drop i).take (Nat.min (n + 1 - i) (n + 1 - (i + 1))) ++ (xs ++ [(⟨0, 0⟩ : Itm)]).drop (i + 1 + Nat.min (n + 1 - i) (n + 1 - (i + 1)))) = Y at S7 hY
  have hl : Y.length = n + 1 := (Sat.slLen S7 (.head _)).1
  obtain ⟨y, hy⟩ : ∃ y, Y[i]? = some y := get_of (by omega)
  have hI := HasI.nat hy
  refine F66.L0_step ?_
  unfold F66.L0n
  (repeat (first | (refine Step.go ?_; intros) | refine iteB_t (by decide) ?_ | refine iteB_f (by decide) ?_ | (refine Duo.mk (by first | omega | exact rfl | decide) ?_; intros) | (refine Duo.mk (Clo.mk (by kernel_rfl)) ?_; intros)))
  refine Sat.idx (f := Itm.cells) (E := 25) (z := 2) S7 ⟨by omega, by omega, fun r o hr => ?_⟩
  subst hr
  (repeat (first | (refine Step.go ?_; intros) | refine iteB_t (by decide) ?_ | refine iteB_f (by decide) ?_ | (refine Duo.mk (by first | omega | exact rfl | decide) ?_; intros) | (refine Duo.mk (Clo.mk (by kernel_rfl)) ?_; intros)))
  rename_i S8
  have hI2 : HasI (Y.set (Int.toNat (i : Int)) ⟨e.k, y.v⟩) (i : Int) ⟨e.k, y.v⟩ := ⟨by simp; rw [List.getElem?_set_self (by omega)]⟩
  (repeat (first | (refine Step.go ?_; intros) | refine iteB_t (by decide) ?_ | refine iteB_f (by decide) ?_ | (refine Duo.mk (by first | omega | exact rfl | decide) ?_; intros) | (refine Duo.mk (Clo.mk (by kernel_rfl)) ?_; intros)))
  rename_i S9
  refine ⟨some ⟨r, o, none⟩, c', rfl, ?_⟩
  rw [List.set_set, Int.toNat_natCast, hY] at S9
  exact Sat.fin
theorem insP_ok {xs : List (Option Addr)} {e : Option Addr} (hi : i ≤ n) (hn : n < 2 ^ 40) (S : Sat H (pt b (.cells ⟨[w1, .slice p n c, w2]⟩ 94) :: sP p n c xs :: l)) :
    CallsH Try.prog 79 ⟨[.pointer (some ⟨b, 1, none⟩), .int .i64 (i : Int), .pointer e]⟩ H (fun en H1 => ∃ p' c', en = .returned (.tuple ⟨[]⟩) ∧ Sat H1 (pt b (.cells ⟨[w1, .slice p' (n + 1) c', w2]⟩ 94) :: sP p' (n + 1) c' (xs.take i ++ e :: xs.drop i) :: l)) := by
  have hx := (Sat.slLen S (.tail _ (.head _))).1
  refine F79.calls ?_
  unfold F79.go
  rw [wadd (by omega)]
  (repeat (first | (refine Step.go ?_; intros) | refine iteB_t (by decide) ?_ | refine iteB_f (by decide) ?_ | (refine Duo.mk (by first | omega | exact rfl | decide) ?_; intros) | (refine Duo.mk (Clo.mk (by kernel_rfl)) ?_; intros)))
  rename_i p' c' H4 S4 H5 S5
  refine iteB_t (by simp; omega) ?_
  (repeat (first | (refine Step.go ?_; intros) | refine iteB_t (by decide) ?_ | refine iteB_f (by decide) ?_ | (refine Duo.mk (by first | omega | exact rfl | decide) ?_; intros) | (refine Duo.mk (Clo.mk (by kernel_rfl)) ?_; intros)))
  have S6 := Sat.bring S5 (c := sP p' (n + 1) c' (xs ++ [none])) (by (repeat (first | exact Sel.here | apply Sel.there)))
  simp only [Int.toNat_natCast]
  refine S6.slCopy (i := i + 1) (d := n + 1 - i) (ys := (xs ++ [none]).drop i) (by omega) (slCells_of S6 (List.mem_cons_self ..) (by omega)) (by simp; omega) (fun y _ => rfl) ptr_isC ?_
  intro H6 S7
  have hY := ins_shift (xs := xs) (z := none) (e := e) (i := i) (d := n + 1 - (i + 1)) (by omega) (by omega)
  rw [hx] at hY
  generalize hZ : ((xs ++ [none]).take (i + 1) ++ ((xs ++ [none]).drop i).take (Nat.min (n + 1 - i) (n + 1 - (i + 1))) ++ (xs ++ [none]).drop (i + 1 + Nat.min (n + 1 - i) (n + 1 - (i + 1)))) = Y at S7 hY
  have hl : Y.length = n + 1 := (Sat.slLen S7 (.head _)).1
  obtain ⟨y, hy⟩ : ∃ y, Y[i]? = some y := get_of (by omega)
  have hI := HasI.nat hy
  refine F79.L0_step ?_
  unfold F79.L0n
  (repeat (first | (refine Step.go ?_; intros) | refine iteB_t (by decide) ?_ | refine iteB_f (by decide) ?_ | (refine Duo.mk (by first | omega | exact rfl | decide) ?_; intros) | (refine Duo.mk (Clo.mk (by kernel_rfl)) ?_; intros)))
  refine Sat.idx (f := ptC) (E := 74) (z := 1) S7 ⟨by omega, by omega, fun r o hr => ?_⟩
  subst hr
  (repeat (first | (refine Step.go ?_; intros) | refine iteB_t (by decide) ?_ | refine iteB_f (by decide) ?_ | (refine Duo.mk (by first | omega | exact rfl | decide) ?_; intros) | (refine Duo.mk (Clo.mk (by kernel_rfl)) ?_; intros)))
  rename_i S8
  refine ⟨some ⟨r, o, none⟩, c', rfl, ?_⟩
  rw [Int.toNat_natCast, hY] at S8
  exact Sat.fin
/-! Taken out at a place. -/
theorem rem_shift {α : Type} {xs : List α} {z : α} {i n : Nat} (hx : xs.length = n + 1) (hi : i ≤ n) :
    (xs.take i ++ (xs.drop (i + 1)).take (Nat.min (n + 1 - (i + 1)) (n + 1 - i)) ++ xs.drop (i + Nat.min (n + 1 - (i + 1)) (n + 1 - i))).length = n + 1 ∧
    ∀ z, ((xs.take i ++ (xs.drop (i + 1)).take (Nat.min (n + 1 - (i + 1)) (n + 1 - i)) ++ xs.drop (i + Nat.min (n + 1 - (i + 1)) (n + 1 - i))).set n z).take n = xs.eraseIdx i := by
  have hm : Nat.min (n + 1 - (i + 1)) (n + 1 - i) = n - i := by show min _ _ = _; omega
  rw [hm]
  constructor
  · simp; omega
  · intro z
    rw [List.take_set_of_le (by omega), List.eraseIdx_eq_take_drop_succ]
    rw [List.take_append_of_le_length (by simp; omega)]
    rw [List.take_of_length_le (l := xs.drop (i + 1)) (by simp; omega)]
    exact List.take_of_length_le (by simp; omega)
theorem remI_ok {xs : List Itm} {e : Itm} (he : xs[i]? = some e) (hn : n < 2 ^ 40) (S : Sat H (pt b (.cells ⟨[.slice p n c, w1, w2]⟩ 94) :: sI p n c xs :: l)) :
    CallsH Try.prog 81 ⟨[.pointer (some ⟨b, 0, none⟩), .int .i64 (i : Int)]⟩ H (fun en H1 => ∃ p', en = .returned (.agg ⟨e.cells⟩) ∧ Sat H1 (pt b (.cells ⟨[.slice p' (n - 1) c, w1, w2]⟩ 94) :: sI p' (n - 1) c (xs.eraseIdx i) :: l)) := by
  have hx := (Sat.slLen S (.tail _ (.head _))).1
  have hc := (Sat.slLen S (.tail _ (.head _))).2
  have hi := lt_of he
  obtain ⟨m, rfl⟩ : ∃ m, n = m + 1 := ⟨n - 1, by omega⟩
  have hI := HasI.nat he
  refine F81.calls ?_
  unfold F81.go
  rw [wadd (by omega)]
  (repeat (first | (refine Step.go ?_; intros) | refine iteB_t (by decide) ?_ | refine iteB_f (by decide) ?_ | (refine Duo.mk (by first | omega | exact rfl | decide) ?_; intros) | (refine Duo.mk (Clo.mk (by kernel_rfl)) ?_; intros)))
  rename_i S1
  refine Sat.idx (f := Itm.cells) (E := 25) (z := 2) S1 ⟨by omega, by omega, fun r o hr => ?_⟩
  subst hr
  (repeat (first | (refine Step.go ?_; intros) | refine iteB_t (by decide) ?_ | refine iteB_f (by decide) ?_ | (refine Duo.mk (by first | omega | exact rfl | decide) ?_; intros) | (refine Duo.mk (Clo.mk (by kernel_rfl)) ?_; intros)))
  rename_i H4 S4
  have S6 := Sat.bring S4 (c := sI (some ⟨r, o, none⟩) (m + 1) c xs) (by (repeat (first | exact Sel.here | apply Sel.there)))
  simp only [Int.toNat_natCast]
  refine S6.slCopy (i := i) (d := m + 1 - (i + 1)) (ys := xs.drop (i + 1)) (by omega) (slCells_of S6 (List.mem_cons_self ..) (by omega)) (by simp; omega) (fun y _ => rfl) itm_isC ?_
  intro H6 S7
  obtain ⟨hY1, hY2⟩ := rem_shift (xs := xs) (z := e) (i := i) (n := m) hx (by omega)
  generalize hZ : (xs.take i ++ (xs.drop (i + 1)).take (Nat.min (m + 1 - (i + 1)) (m + 1 - i)) ++ xs.drop (i + Nat.min (m + 1 - (i + 1)) (m + 1 - i))) = Y at S7 hY1 hY2
  obtain ⟨y, hy⟩ : ∃ y, Y[m]? = some y := get_of (by omega)
  have hI1 := HasI.nat hy
  (repeat (first | (refine Step.go ?_; intros) | refine iteB_t (by decide) ?_ | refine iteB_f (by decide) ?_ | (refine Duo.mk (by first | omega | exact rfl | decide) ?_; intros) | (refine Duo.mk (Clo.mk (by kernel_rfl)) ?_; intros)))
  rw [wsub (by omega)]
  (repeat (first | (refine Step.go ?_; intros) | refine iteB_t (by decide) ?_ | refine iteB_f (by decide) ?_ | (refine Duo.mk (by first | omega | exact rfl | decide) ?_; intros) | (refine Duo.mk (Clo.mk (by kernel_rfl)) ?_; intros)))
  rename_i S8
  have hI2 : HasI (Y.set (Int.toNat (m : Int)) ⟨0, y.v⟩) (m : Int) ⟨0, y.v⟩ := ⟨by simp; rw [List.getElem?_set_self (by omega)]⟩
  (repeat (first | (refine Step.go ?_; intros) | refine iteB_t (by decide) ?_ | refine iteB_f (by decide) ?_ | (refine Duo.mk (by first | omega | exact rfl | decide) ?_; intros) | (refine Duo.mk (Clo.mk (by kernel_rfl)) ?_; intros)))
  rw [wsub (by omega)]
  (repeat (first | (refine Step.go ?_; intros) | refine iteB_t (by decide) ?_ | refine iteB_f (by decide) ?_ | (refine Duo.mk (by first | omega | exact rfl | decide) ?_; intros) | (refine Duo.mk (Clo.mk (by kernel_rfl)) ?_; intros)))
  rename_i S9
  refine ⟨slP (some ⟨r, o, none⟩) 0 c 2, by trivial, ?_⟩
  have S10 := (Sat.bring S9 (c := sI (some ⟨r, o, none⟩) (m + 1) c _) (by (repeat (first | exact Sel.here | apply Sel.there)))).to (slCut (k := m) (by omega))
  simp only [List.set_set, Int.toNat_natCast, hY2] at S10
  rw [Nat.add_sub_cancel]
  exact Sat.fin
theorem remP_ok {xs : List (Option Addr)} {e : Option Addr} (he : xs[i]? = some e) (hn : n < 2 ^ 40) (S : Sat H (pt b (.cells ⟨[w1, .slice p n c, w2]⟩ 94) :: sP p n c xs :: l)) :
    CallsH Try.prog 85 ⟨[.pointer (some ⟨b, 1, none⟩), .int .i64 (i : Int)]⟩ H (fun en H1 => ∃ p', en = .returned (.pointer e) ∧ Sat H1 (pt b (.cells ⟨[w1, .slice p' (n - 1) c, w2]⟩ 94) :: sP p' (n - 1) c (xs.eraseIdx i) :: l)) := by
  have hx := (Sat.slLen S (.tail _ (.head _))).1
  have hc := (Sat.slLen S (.tail _ (.head _))).2
  have hi := lt_of he
  obtain ⟨m, rfl⟩ : ∃ m, n = m + 1 := ⟨n - 1, by omega⟩
  have hI := HasI.nat he
  refine F85.calls ?_
  unfold F85.go
  rw [wadd (by omega)]
  (repeat (first | (refine Step.go ?_; intros) | refine iteB_t (by decide) ?_ | refine iteB_f (by decide) ?_ | (refine Duo.mk (by first | omega | exact rfl | decide) ?_; intros) | (refine Duo.mk (Clo.mk (by kernel_rfl)) ?_; intros)))
  refine Sat.idx (f := ptC) (E := 74) (z := 1) S ⟨by omega, by omega, fun r o hr => ?_⟩
  subst hr
  (repeat (first | (refine Step.go ?_; intros) | refine iteB_t (by decide) ?_ | refine iteB_f (by decide) ?_ | (refine Duo.mk (by first | omega | exact rfl | decide) ?_; intros) | (refine Duo.mk (Clo.mk (by kernel_rfl)) ?_; intros)))
  have S6 := Sat.bring S (c := sP (some ⟨r, o, none⟩) (m + 1) c xs) (by (repeat (first | exact Sel.here | apply Sel.there)))
  simp only [Int.toNat_natCast]
  refine S6.slCopy (i := i) (d := m + 1 - (i + 1)) (ys := xs.drop (i + 1)) (by omega) (slCells_of S6 (List.mem_cons_self ..) (by omega)) (by simp; omega) (fun y _ => rfl) ptr_isC ?_
  intro H6 S7
  obtain ⟨hY1, hY2⟩ := rem_shift (xs := xs) (z := e) (i := i) (n := m) hx (by omega)
  generalize hZ : (xs.take i ++ (xs.drop (i + 1)).take (Nat.min (m + 1 - (i + 1)) (m + 1 - i)) ++ xs.drop (i + Nat.min (m + 1 - (i + 1)) (m + 1 - i))) = Y at S7 hY1 hY2
  obtain ⟨y, hy⟩ : ∃ y, Y[m]? = some y := get_of (by omega)
  have hI1 := HasI.nat hy
  (repeat (first | (refine Step.go ?_; intros) | refine iteB_t (by decide) ?_ | refine iteB_f (by decide) ?_ | (refine Duo.mk (by first | omega | exact rfl | decide) ?_; intros) | (refine Duo.mk (Clo.mk (by kernel_rfl)) ?_; intros)))
  rw [wsub (by omega)]
  (repeat (first | (refine Step.go ?_; intros) | refine iteB_t (by decide) ?_ | refine iteB_f (by decide) ?_ | (refine Duo.mk (by first | omega | exact rfl | decide) ?_; intros) | (refine Duo.mk (Clo.mk (by kernel_rfl)) ?_; intros)))
  rw [wsub (by omega)]
  (repeat (first | (refine Step.go ?_; intros) | refine iteB_t (by decide) ?_ | refine iteB_f (by decide) ?_ | (refine Duo.mk (by first | omega | exact rfl | decide) ?_; intros) | (refine Duo.mk (Clo.mk (by kernel_rfl)) ?_; intros)))
  rename_i S9
  refine ⟨slP (some ⟨r, o, none⟩) 0 c 1, by trivial, ?_⟩
  have S10 := (Sat.bring S9 (c := sP (some ⟨r, o, none⟩) (m + 1) c _) (by (repeat (first | exact Sel.here | apply Sel.there)))).to (slCut (k := m) (by omega))
  simp only [Int.toNat_natCast, hY2] at S10
  rw [Nat.add_sub_cancel]
  exact Sat.fin
/-! Taken from behind. -/
theorem popI_ok {xs : List Itm} {e : Itm} (he : xs[n - 1]? = some e) (hn : n < 2 ^ 40) (S : Sat H (pt b (.cells ⟨[.slice p n c, w1, w2]⟩ 94) :: sI p n c xs :: l)) :
    CallsH Try.prog 80 ⟨[.pointer (some ⟨b, 0, none⟩)]⟩ H (fun en H1 => ∃ p', en = .returned (.agg ⟨e.cells⟩) ∧ Sat H1 (pt b (.cells ⟨[.slice p' (n - 1) c, w1, w2]⟩ 94) :: sI p' (n - 1) c (xs.take (n - 1)) :: l)) := by
  have hx := (Sat.slLen S (.tail _ (.head _))).1
  have hc := (Sat.slLen S (.tail _ (.head _))).2
  have hi := lt_of he
  obtain ⟨m, rfl⟩ : ∃ m, n = m + 1 := ⟨n - 1, by omega⟩
  have he : xs[m]? = some e := he
  have hI := HasI.nat he
  refine F80.calls ?_
  unfold F80.go
  (repeat (first | (refine Step.go ?_; intros) | refine iteB_t (by decide) ?_ | refine iteB_f (by decide) ?_ | (refine Duo.mk (by first | omega | exact rfl | decide) ?_; intros) | (refine Duo.mk (Clo.mk (by kernel_rfl)) ?_; intros)))
  rw [wsub (by omega)]
  rename_i S1
  refine Sat.idx (f := Itm.cells) (E := 25) (z := 2) S1 ⟨by omega, by omega, fun r o hr => ?_⟩
  subst hr
  (repeat (first | (refine Step.go ?_; intros) | refine iteB_t (by decide) ?_ | refine iteB_f (by decide) ?_ | (refine Duo.mk (by first | omega | exact rfl | decide) ?_; intros) | (refine Duo.mk (Clo.mk (by kernel_rfl)) ?_; intros)))
  rename_i S2
  have hI2 : HasI (xs.set (Int.toNat (m : Int)) ⟨0, e.v⟩) (m : Int) ⟨0, e.v⟩ := ⟨by simp; rw [List.getElem?_set_self (by omega)]⟩
  (repeat (first | (refine Step.go ?_; intros) | refine iteB_t (by decide) ?_ | refine iteB_f (by decide) ?_ | (refine Duo.mk (by first | omega | exact rfl | decide) ?_; intros) | (refine Duo.mk (Clo.mk (by kernel_rfl)) ?_; intros)))
  rename_i S9
  refine ⟨slP (some ⟨r, o, none⟩) 0 c 2, by trivial, ?_⟩
  have S10 := (Sat.bring S9 (c := sI (some ⟨r, o, none⟩) (m + 1) c _) (by (repeat (first | exact Sel.here | apply Sel.there)))).to (slCut (k := m) (by omega))
  simp only [List.set_set, Int.toNat_natCast, List.take_set_of_le (Nat.le_refl m)] at S10
  rw [Nat.add_sub_cancel]
  exact Sat.fin
theorem popP_ok {xs : List (Option Addr)} {e : Option Addr} (he : xs[n - 1]? = some e) (hn : n < 2 ^ 40) (S : Sat H (pt b (.cells ⟨[w1, .slice p n c, w2]⟩ 94) :: sP p n c xs :: l)) :
    CallsH Try.prog 84 ⟨[.pointer (some ⟨b, 1, none⟩)]⟩ H (fun en H1 => ∃ p', en = .returned (.pointer e) ∧ Sat H1 (pt b (.cells ⟨[w1, .slice p' (n - 1) c, w2]⟩ 94) :: sP p' (n - 1) c (xs.take (n - 1)) :: l)) := by
  have hx := (Sat.slLen S (.tail _ (.head _))).1
  have hc := (Sat.slLen S (.tail _ (.head _))).2
  have hi := lt_of he
  obtain ⟨m, rfl⟩ : ∃ m, n = m + 1 := ⟨n - 1, by omega⟩
  have he : xs[m]? = some e := he
  have hI := HasI.nat he
  refine F84.calls ?_
  unfold F84.go
  (repeat (first | (refine Step.go ?_; intros) | refine iteB_t (by decide) ?_ | refine iteB_f (by decide) ?_ | (refine Duo.mk (by first | omega | exact rfl | decide) ?_; intros) | (refine Duo.mk (Clo.mk (by kernel_rfl)) ?_; intros)))
  rw [wsub (by omega)]
  refine Sat.idx (f := ptC) (E := 74) (z := 1) S ⟨by omega, by omega, fun r o hr => ?_⟩
  subst hr
  (repeat (first | (refine Step.go ?_; intros) | refine iteB_t (by decide) ?_ | refine iteB_f (by decide) ?_ | (refine Duo.mk (by first | omega | exact rfl | decide) ?_; intros) | (refine Duo.mk (Clo.mk (by kernel_rfl)) ?_; intros)))
  rename_i S9
  refine ⟨slP (some ⟨r, o, none⟩) 0 c 1, by trivial, ?_⟩
  have S10 := (Sat.bring S9 (c := sP (some ⟨r, o, none⟩) (m + 1) c _) (by (repeat (first | exact Sel.here | apply Sel.there)))).to (slCut (k := m) (by omega))
  simp only [Int.toNat_natCast, List.take_set_of_le (Nat.le_refl m)] at S10
  rw [Nat.add_sub_cancel]
  exact Sat.fin
end
end Go.Proofs.Ytdgcdjlomindhaa

set_option linter.unusedVariables false
set_option linter.unusedSimpArgs false
set_option linter.unnecessarySimpa false
namespace Go.Proofs.Ytdgcdjlomindhaa
open Go Go.Den Go.Proofs
/-! Cut. -/
section
variable {l : List HP} {b n c k : Nat} {p : Option Addr} {w1 w2 : Value}
theorem truncI_loop {a : Addr} {zb : Nat} {R : Ending → Heap → Prop} (hn : n < 2 ^ 40) (hk : k < c) : ∀ (r i : Nat) (xs : List Itm) (H : Heap), k + i + r = n → Sat H (sI (some a) n c xs :: pt zb (.cells ⟨[.int .i64 0, .int .i64 0]⟩ 25) :: l) →
    (∀ H1 ys, ys.take k = xs.take k → Sat H1 (sI (some a) n c ys :: pt zb (.cells ⟨[.int .i64 0, .int .i64 0]⟩ 25) :: l) → R (.returned (.tuple ⟨[]⟩)) H1) →
    F63.L0 (slP (some a) k c 2) (n - k) (c - k) zb (i : Int) H R := by
  intro r
  induction r with
  | zero =>
    intro i xs H hi S K
    refine F63.L0_step ?_
    unfold F63.L0n
    refine iteB_f (by simp; omega) ?_
    exact K H xs rfl S
  | succ r ih =>
    intro i xs H hi S K
    have hx := (Sat.slLen S (.head _)).1
    obtain ⟨x, hx1⟩ : ∃ x, xs[k + i]? = some x := get_of (by omega)
    have hp : slP (some a) k c 2 = some (a.add (k * 2)) := by unfold slP; rw [if_neg (by omega)]; rfl
    refine F63.L0_step ?_
    unfold F63.L0n
    rw [wadd (by omega), hp]
    refine iteB_t (by simp; omega) ?_
    (repeat (first | (refine Step.go ?_; intros) | refine iteB_t (by decide) ?_ | refine iteB_f (by decide) ?_ | (refine Duo.mk (by first | omega | exact rfl | decide) ?_; intros) | (refine Duo.mk (Clo.mk (by kernel_rfl)) ?_; intros)))
    simp only [Int.toNat_natCast]
    have e1 : (a.add (k * 2)).add (i * 2) = a.add ((k + i) * 2 + 0) := by rw [add_add', Nat.add_mul]; rfl
    have e2 : (a.add ((k + i) * 2 + 0)).add 1 = a.add ((k + i) * 2 + 1) := by rw [add_add']
    rw [e1, e2]
    refine S.slSet (y := ⟨0, x.v⟩) hx1 (by omega) rfl rfl ?_
    intro H1 S1
    refine S1.slSet (i := k + i) (x := ⟨0, x.v⟩) (y := ⟨0, 0⟩) (by rw [List.getElem?_set_self (by omega)]) (by omega) rfl rfl ?_
    intro H2 S2
    rw [← hp]
    refine ih (i + 1) _ H2 (by omega) S2 ?_
    intro H3 ys hy S3
    refine K H3 ys ?_ S3
    rw [hy, List.take_set_of_le (by omega), List.take_set_of_le (by omega)]
theorem truncP_loop {a : Addr} {R : Ending → Heap → Prop} (hn : n < 2 ^ 40) (hk : k < c) : ∀ (r i : Nat) (xs : List (Option Addr)) (H : Heap), k + i + r = n → Sat H (sP (some a) n c xs :: l) →
    (∀ H1 ys, ys.take k = xs.take k → Sat H1 (sP (some a) n c ys :: l) → R (.returned (.tuple ⟨[]⟩)) H1) →
    F64.L0 (slP (some a) k c 1) (n - k) (c - k) none (i : Int) H R := by
  intro r
  induction r with
  | zero =>
    intro i xs H hi S K
    refine F64.L0_step ?_
    unfold F64.L0n
    refine iteB_f (by simp; omega) ?_
    exact K H xs rfl S
  | succ r ih =>
    intro i xs H hi S K
    have hx := (Sat.slLen S (.head _)).1
    obtain ⟨x, hx1⟩ : ∃ x, xs[k + i]? = some x := get_of (by omega)
    have hp : slP (some a) k c 1 = some (a.add (k * 1)) := by unfold slP; rw [if_neg (by omega)]; rfl
    refine F64.L0_step ?_
    unfold F64.L0n
    rw [wadd (by omega), hp]
    refine iteB_t (by simp; omega) ?_
    (repeat (first | (refine Step.go ?_; intros) | refine iteB_t (by decide) ?_ | refine iteB_f (by decide) ?_ | (refine Duo.mk (by first | omega | exact rfl | decide) ?_; intros) | (refine Duo.mk (Clo.mk (by kernel_rfl)) ?_; intros)))
    simp only [Int.toNat_natCast]
    have e1 : (a.add (k * 1)).add (i * 1) = a.add ((k + i) * 1 + 0) := by rw [add_add', Nat.add_mul]; rfl
    rw [e1]
    refine S.slSet (y := none) hx1 (by omega) rfl rfl ?_
    intro H1 S1
    rw [← hp]
    refine ih (i + 1) _ H1 (by omega) S1 ?_
    intro H3 ys hy S3
    refine K H3 ys ?_ S3
    rw [hy, List.take_set_of_le (by omega)]
theorem truncI_ok {H : Heap} {xs : List Itm} (hk : k ≤ n) (hn : n < 2 ^ 40) (S : Sat H (pt b (.cells ⟨[.slice p n c, w1, w2]⟩ 94) :: sI p n c xs :: l)) :
    CallsH Try.prog 63 ⟨[.pointer (some ⟨b, 0, none⟩), .int .i64 (k : Int)]⟩ H (fun en H1 => ∃ p', en = .returned (.tuple ⟨[]⟩) ∧ Sat H1 (pt b (.cells ⟨[.slice p' k c, w1, w2]⟩ 94) :: sI p' k c (xs.take k) :: l)) := by
  have hx := (Sat.slLen S (.tail _ (.head _))).1
  have hc := (Sat.slLen S (.tail _ (.head _))).2
  refine F63.calls ?_
  unfold F63.go
  (repeat (first | (refine Step.go ?_; intros) | refine iteB_t (by decide) ?_ | refine iteB_f (by decide) ?_ | (refine Duo.mk (by first | omega | exact rfl | decide) ?_; intros) | (refine Duo.mk (Clo.mk (by kernel_rfl)) ?_; intros)))
  rename_i S2
  simp only [Int.toNat_natCast] at S2 ⊢
  have fin : ∀ H1 ys, ys.take k = xs.take k → Sat H1 (sI p n c ys :: pt b (.cells ⟨[.slice (slP p 0 c 2) k c, w1, w2]⟩ 94) :: l) → ∃ p', Ending.returned (Value.tuple ⟨[]⟩) = .returned (.tuple ⟨[]⟩) ∧ Sat H1 (pt b (.cells ⟨[.slice p' k c, w1, w2]⟩ 94) :: sI p' k c (xs.take k) :: l) := by
    intro H1 ys hy S3
    have S4 := S3.to (slCut (k := k) hk)
    rw [hy] at S4
    exact ⟨slP p 0 c 2, rfl, Sat.fin⟩
  by_cases h : n = k
  · subst h
    refine F63.L0_step ?_
    unfold F63.L0n
    refine iteB_f (by simp) ?_
    refine fin _ xs rfl Sat.fin
  · obtain ⟨r, o, rfl⟩ := Sat.slSome S (.tail _ (.head _)) (by omega)
    refine truncI_loop (l := pt b (.cells ⟨[.slice (slP (some ⟨r, o, none⟩) 0 c 2) k c, w1, w2]⟩ 94) :: l) hn (by omega) (n - k) 0 xs _ (by omega) Sat.fin ?_
    intro H1 ys hy S3
    exact fin H1 ys hy Sat.fin
theorem truncP_ok {H : Heap} {xs : List (Option Addr)} (hk : k ≤ n) (hn : n < 2 ^ 40) (S : Sat H (pt b (.cells ⟨[w1, .slice p n c, w2]⟩ 94) :: sP p n c xs :: l)) :
    CallsH Try.prog 64 ⟨[.pointer (some ⟨b, 1, none⟩), .int .i64 (k : Int)]⟩ H (fun en H1 => ∃ p', en = .returned (.tuple ⟨[]⟩) ∧ Sat H1 (pt b (.cells ⟨[w1, .slice p' k c, w2]⟩ 94) :: sP p' k c (xs.take k) :: l)) := by
  have hx := (Sat.slLen S (.tail _ (.head _))).1
  have hc := (Sat.slLen S (.tail _ (.head _))).2
  refine F64.calls ?_
  unfold F64.go
  (repeat (first | (refine Step.go ?_; intros) | refine iteB_t (by decide) ?_ | refine iteB_f (by decide) ?_ | (refine Duo.mk (by first | omega | exact rfl | decide) ?_; intros) | (refine Duo.mk (Clo.mk (by kernel_rfl)) ?_; intros)))
  rename_i S2
  simp only [Int.toNat_natCast] at S2 ⊢
  have fin : ∀ H1 ys, ys.take k = xs.take k → Sat H1 (sP p n c ys :: pt b (.cells ⟨[w1, .slice (slP p 0 c 1) k c, w2]⟩ 94) :: l) → ∃ p', Ending.returned (Value.tuple ⟨[]⟩) = .returned (.tuple ⟨[]⟩) ∧ Sat H1 (pt b (.cells ⟨[w1, .slice p' k c, w2]⟩ 94) :: sP p' k c (xs.take k) :: l) := by
    intro H1 ys hy S3
    have S4 := S3.to (slCut (k := k) hk)
    rw [hy] at S4
    exact ⟨slP p 0 c 1, rfl, Sat.fin⟩
  by_cases h : n = k
  · subst h
    refine F64.L0_step ?_
    unfold F64.L0n
    refine iteB_f (by simp) ?_
    refine fin _ xs rfl Sat.fin
  · obtain ⟨r, o, rfl⟩ := Sat.slSome S (.tail _ (.head _)) (by omega)
    refine truncP_loop (l := pt b (.cells ⟨[w1, .slice (slP (some ⟨r, o, none⟩) 0 c 1) k c, w2]⟩ 94) :: l) hn (by omega) (n - k) 0 xs _ (by omega) Sat.fin ?_
    intro H1 ys hy S3
    exact fin H1 ys hy Sat.fin
end
end Go.Proofs.Ytdgcdjlomindhaa

set_option linter.unusedVariables false
set_option linter.unusedSimpArgs false
set_option linter.unnecessarySimpa false
namespace Go.Proofs.Ytdgcdjlomindhaa
open Go Go.Den Go.Proofs
/-! Nodes; the list of free ones. -/
abbrev at_ (b : Nat) : Option Addr := some ⟨b, 0, none⟩
def nd (b : Nat) (cow : Option Addr) (xs : List Itm) (ks : List Nat) : HP := ex fun (q : Option Addr × Nat × Option Addr × Nat) => star [pt b (.cells ⟨[.slice q.1 xs.length q.2.1, .slice q.2.2.1 ks.length q.2.2.2, .pointer cow]⟩ 94), sI q.1 xs.length q.2.1 xs, sP q.2.2.1 ks.length q.2.2.2 (ks.map at_)]
section
variable {H : Heap} {l : List HP} {b c f : Nat} {cow : Option Addr} {xs : List Itm} {ks : List Nat}
theorem nd_open (S : Sat H (nd b cow xs ks :: l)) : ∃ ip ic cp cc, Sat H (pt b (.cells ⟨[.slice ip xs.length ic, .slice cp ks.length cc, .pointer cow]⟩ 94) :: sI ip xs.length ic xs :: sP cp ks.length cc (ks.map at_) :: l) := by
  obtain ⟨⟨ip, ic, cp, cc⟩, S1⟩ := S.ex
  exact ⟨ip, ic, cp, cc, S1.star⟩
theorem nd_close {ip cp : Option Addr} {ic cc n m : Nat} (S : Sat H (pt b (.cells ⟨[.slice ip n ic, .slice cp m cc, .pointer cow]⟩ 94) :: sI ip n ic xs :: sP cp m cc (ks.map at_) :: l)) : Sat H (nd b cow xs ks :: l) := by
  have h1 := (Sat.slLen S (.tail _ (.head _))).1
  have h2 := (Sat.slLen S (.tail _ (.tail _ (.head _)))).1
  rw [List.length_map] at h2
  subst h1; subst h2
  exact S.to (Ent.ex (ip, ic, cp, cc) (.star .refl))
def fre (f : Nat) : HP := ex fun (q : List Nat × Option Addr × Nat) => star [lift (q.2.2 ≤ 32), pt f (.cells ⟨[.slice q.2.1 q.1.length q.2.2]⟩ 89), sP q.2.1 q.1.length q.2.2 (q.1.map at_), star (bigs (fun _ b => nd b none [] []) 0 q.1)]
theorem fre_open (S : Sat H (fre f :: l)) : ∃ fb p n, n ≤ 32 ∧ Sat H (pt f (.cells ⟨[.slice p fb.length n]⟩ 89) :: sP p fb.length n (fb.map at_) :: star (bigs (fun _ b => nd b none [] []) 0 fb) :: l) := by
  obtain ⟨⟨fb, p, n⟩, S1⟩ := S.ex
  obtain ⟨h, S2⟩ := S1.star.lift
  exact ⟨fb, p, n, h, S2⟩
theorem fre_close {fb : List Nat} {p : Option Addr} {n m : Nat} (hn : n ≤ 32) (S : Sat H (pt f (.cells ⟨[.slice p m n]⟩ 89) :: sP p m n (fb.map at_) :: star (bigs (fun _ b => nd b none [] []) 0 fb) :: l)) : Sat H (fre f :: l) := by
  have h1 := (Sat.slLen S (.tail _ (.head _))).1
  rw [List.length_map] at h1
  subst h1
  exact S.to (Ent.ex (fb, p, n) (.star (.lift hn .refl)))
def cw (c f : Nat) : HP := pt c (.cells ⟨[.pointer (at_ f), .func (.func 21) ⟨[]⟩ ⟨[]⟩]⟩ 73)
theorem frSnoc {fb : List Nat} : Ent (star (bigs (fun _ b => nd b none [] []) 0 (fb ++ [b])) :: l) (nd b none [] [] :: star (bigs (fun _ b => nd b none [] []) 0 fb) :: l) := by
  rw [bigs_append]
  exact (Ent.starPerm List.perm_append_comm).trans .starCons
theorem frSnoc' {fb : List Nat} : Ent (nd b none [] [] :: star (bigs (fun _ b => nd b none [] []) 0 fb) :: l) (star (bigs (fun _ b => nd b none [] []) 0 (fb ++ [b])) :: l) := by
  rw [bigs_append]
  exact Ent.consStar.trans (Ent.starPerm (List.perm_append_comm (l₁ := [nd b none [] []])))
/-- The context of all nodes. -/
abbrev cx (c f : Nat) : HP := star [pt c (.cells ⟨[.pointer (at_ f), .func (.func 21) ⟨[]⟩ ⟨[]⟩]⟩ 73), fre f]
theorem lock_ok {m : Option Addr} : CallsH Try.prog 75 ⟨[.pointer m]⟩ H (fun e H1 => e = .returned (.tuple ⟨[]⟩) ∧ H1 = H) := by
  refine F75.calls ?_
  exact ⟨rfl, rfl⟩
theorem unlock_ok {m : Option Addr} : CallsH Try.prog 76 ⟨[.pointer m]⟩ H (fun e H1 => e = .returned (.tuple ⟨[]⟩) ∧ H1 = H) := by
  refine F76.calls ?_
  exact ⟨rfl, rfl⟩
theorem zf89 : zfOk Try.prog 89 89 0 = true := by kernel_rfl
theorem mu_lock {cs : List Value} {Q : List PanicEntry → Heap → Prop} {K : Heap → Prop} (S : Sat H l) (A : At f (.cells ⟨cs⟩ 89) l) (k : K H) : zfD Try.prog H 89 0 (.pointer (some ⟨f, 0, none⟩)) fun a => callD Try.prog 75 [.pointer (some a)] H Q fun v H1 => tTup v fun l => tNil l <| K H1 := by
  refine zf_i zf89 (A.get S) fun a => ?_
  refine call_of lock_ok ?_
  rintro e H1 ⟨rfl, rfl⟩
  (repeat (first | (refine Step.go ?_; intros) | refine iteB_t (by decide) ?_ | refine iteB_f (by decide) ?_ | (refine Duo.mk (by first | omega | exact rfl | decide) ?_; intros) | (refine Duo.mk (Clo.mk (by kernel_rfl)) ?_; intros)))
  exact k
theorem mu_unlock {cs : List Value} {Q : List PanicEntry → Heap → Prop} {K : Heap → Prop} (S : Sat H l) (A : At f (.cells ⟨cs⟩ 89) l) (k : K H) : zfD Try.prog H 89 0 (.pointer (some ⟨f, 0, none⟩)) fun a => callD Try.prog 76 [.pointer (some a)] H Q fun v H1 => tTup v fun l => tNil l <| K H1 := by
  refine zf_i zf89 (A.get S) fun a => ?_
  refine call_of unlock_ok ?_
  rintro e H1 ⟨rfl, rfl⟩
  (repeat (first | (refine Step.go ?_; intros) | refine iteB_t (by decide) ?_ | refine iteB_f (by decide) ?_ | (refine Duo.mk (by first | omega | exact rfl | decide) ?_; intros) | (refine Duo.mk (Clo.mk (by kernel_rfl)) ?_; intros)))
  exact k
theorem newN_ok (S : Sat H (fre f :: l)) : CallsH Try.prog 62 ⟨[.pointer (at_ f)]⟩ H (fun e H1 => ∃ b, e = .returned (.pointer (at_ b)) ∧ Sat H1 (nd b none [] [] :: fre f :: l)) := by
  obtain ⟨fb, p, n, hn, S0⟩ := fre_open S
  have hl := (Sat.slLen S0 (.tail _ (.head _)))
  refine F62.calls ?_
  unfold F62.go
  (repeat (first | (refine Step.go ?_; intros) | refine iteB_t (by decide) ?_ | refine iteB_f (by decide) ?_ | (refine Duo.mk (by first | omega | exact rfl | decide) ?_; intros) | (refine Duo.mk (Clo.mk (by kernel_rfl)) ?_; intros)))
  refine mu_lock S0 inferInstance ?_
  (repeat (first | (refine Step.go ?_; intros) | refine iteB_t (by decide) ?_ | refine iteB_f (by decide) ?_ | (refine Duo.mk (by first | omega | exact rfl | decide) ?_; intros) | (refine Duo.mk (Clo.mk (by kernel_rfl)) ?_; intros)))
  rcases List.eq_nil_or_concat fb with rfl | ⟨fb, b, rfl⟩
  · refine iteB_t (by decide) ?_
    (repeat (first | (refine Step.go ?_; intros) | refine iteB_t (by decide) ?_ | refine iteB_f (by decide) ?_ | (refine Duo.mk (by first | omega | exact rfl | decide) ?_; intros) | (refine Duo.mk (Clo.mk (by kernel_rfl)) ?_; intros)))
    refine mu_unlock S0 inferInstance ?_
    (repeat (first | (refine Step.go ?_; intros) | refine iteB_t (by decide) ?_ | refine iteB_f (by decide) ?_ | (refine Duo.mk (by first | omega | exact rfl | decide) ?_; intros) | (refine Duo.mk (Clo.mk (by kernel_rfl)) ?_; intros)))
    rename_i r H1 S1
    refine ⟨r, rfl, ?_⟩
    have S2 : Sat H1 (nd r none [] [] :: pt f (.cells ⟨[.slice p ([] : List Nat).length n]⟩ 89) :: sP p ([] : List Nat).length n (([] : List Nat).map at_) :: star (bigs (fun _ b => nd b none [] []) 0 []) :: l) := nd_close (ip := none) (ic := 0) (cp := none) (cc := 0) (n := 0) (m := 0) (S1.to (Ent.cons (.slNil (.slNil .refl))))
    have S3 := fre_close hn (S2.to (Ent.bring (Sel.there (Sel.here)) |>.trans (.cons (Ent.bring (Sel.there (Sel.here)) |>.trans (.cons (Ent.bring (Sel.there (Sel.here))))))))
    exact Sat.fin
  · rw [List.concat_eq_append] at *
    have hl2 : (fb ++ [b]).length = fb.length + 1 := by simp
    rw [hl2] at S0 hl ⊢
    rw [wsub (by omega)]
    refine iteB_f (by simp) ?_
    (repeat (first | (refine Step.go ?_; intros) | refine iteB_t (by decide) ?_ | refine iteB_f (by decide) ?_ | (refine Duo.mk (by first | omega | exact rfl | decide) ?_; intros) | (refine Duo.mk (Clo.mk (by kernel_rfl)) ?_; intros)))
    have hI : HasI ((fb ++ [b]).map at_) (fb.length : Int) (at_ b) := HasI.nat (by simp)
    refine Sat.idx (f := ptC) (E := 74) (z := 1) S0 ⟨by omega, by omega, fun r o hr => ?_⟩
    subst hr
    (repeat (first | (refine Step.go ?_; intros) | refine iteB_t (by decide) ?_ | refine iteB_f (by decide) ?_ | (refine Duo.mk (by first | omega | exact rfl | decide) ?_; intros) | (refine Duo.mk (Clo.mk (by kernel_rfl)) ?_; intros)))
    refine mu_unlock (by assumption) inferInstance ?_
    (repeat (first | (refine Step.go ?_; intros) | refine iteB_t (by decide) ?_ | refine iteB_f (by decide) ?_ | (refine Duo.mk (by first | omega | exact rfl | decide) ?_; intros) | (refine Duo.mk (Clo.mk (by kernel_rfl)) ?_; intros)))
    rename_i H1 S1
    refine ⟨b, rfl, ?_⟩
    have S2 := (Sat.bring S1 (c := sP (some ⟨r, o, none⟩) (fb.length + 1) n _) (by (repeat (first | exact Sel.here | apply Sel.there)))).to (slCut (k := fb.length) (by omega))
    simp only [Int.toNat_natCast, List.take_set_of_le (Nat.le_refl fb.length), List.map_append, List.map_cons, List.map_nil] at S2
    rw [List.take_left' (by simp)] at S2
    have S3 := (S2.to (Ent.bring (Sel.there (Sel.there Sel.here)))).to frSnoc
    have S4 : Sat H1 (pt f (.cells ⟨[.slice (slP (some ⟨r, o, none⟩) 0 n 1) fb.length n]⟩ 89) :: sP (slP (some ⟨r, o, none⟩) 0 n 1) fb.length n (fb.map at_) :: star (bigs (fun _ b => nd b none [] []) 0 fb) :: nd b none [] [] :: l) := Sat.fin
    have S5 := fre_close hn S4
    exact Sat.fin
end
end Go.Proofs.Ytdgcdjlomindhaa

set_option linter.unusedVariables false
set_option linter.unusedSimpArgs false
set_option linter.unnecessarySimpa false
namespace Go.Proofs.Ytdgcdjlomindhaa
open Go Go.Den Go.Proofs
/-! Nodes made and let go. -/
theorem slAppIn {α : Type} {f : α → List Value} {E : TypeId} {z n c : Nat} {p : Option Addr} {xs : List α} {H : Heap} {m : List HP} (S : Sat H (sl f E z p n c xs :: m)) {bytes d : Nat} {zs : List Value} {q : Option Addr} {ys : List α} {K : Option Addr → Nat → Nat → Heap → Prop} (hle : n + d ≤ c) (hq : cellsAt H q (ys.flatMap f)) (hd : ys.length = d) (hys : ∀ y ∈ ys, (f y).length = z) (hc : ∀ v ∈ ys.flatMap f, isCell v = true)
    (k : ∀ H1, Sat H1 (sl f E z p (n + d) c (xs ++ ys) :: m) → K p (n + d) c H1) : apD H z bytes zs E p n c q d K := by
  obtain ⟨a1, a2, a3, a4⟩ := S.slOpen
  have hall : ∀ x ∈ xs ++ ys, (f x).length = z := fun x hx => (List.mem_append.1 hx).elim (a2 x) (hys x)
  have hlen : (xs ++ ys).length = n + d := by simp [a1, hd]
  have hyl : (ys.flatMap f).length = d * z := by rw [flat_len hys, hd]
  have hxl : (xs.flatMap f).length = n * z := by rw [flat_len a2, a1]
  refine ⟨ys.flatMap f, hyl, hq, fun _ => ?_, fun h => by omega⟩
  rcases a4 with ⟨rfl, rfl, S1⟩ | ⟨r, pre, sp, rfl, hl, S1⟩
  · have hd0 : d = 0 := by omega
    have hn0 : n = 0 := by omega
    subst hd0; subst hn0
    have ex : xs = [] := List.eq_nil_of_length_eq_zero a1
    have ey : ys = [] := List.eq_nil_of_length_eq_zero hd
    subst ex; subst ey
    simp only [stP]
    exact k _ (S1.to (Ent.slNil .refl))
  · simp only [stP]
    rw [add_mk]
    have hroom : (ys.flatMap f).length ≤ sp.length := by rw [hyl]; exact Nat.le_trans (Nat.mul_le_mul_right z (by omega)) hl
    refine stCs_front (o := pre.length + n * z) (ys.flatMap f) 0 H _ S1 hc (by simp only [List.length_append, hxl]; omega) ?_
    intro H1 S2
    rw [Nat.add_zero, ← hxl, pre_seg hroom, ← List.flatMap_append] at S2
    refine k _ (S2.to (Ent.slClose hlen hall hle rfl ?_))
    rw [List.length_drop, hyl]
    have : (c - (n + d)) * z + d * z ≤ (c - n) * z := by rw [← Nat.add_mul]; exact Nat.mul_le_mul_right z (by omega)
    omega
/-- One record's cells. -/
theorem cells1 {H : Heap} {r : Nat} {cs : List Value} {T : TypeId} {fr : Nat × Nat} (h : H[r]? = some (.cells ⟨cs⟩ T fr)) : cellsAt H (some ⟨r, 0, none⟩) cs := by
  intro j v hj
  exact ⟨_, rfl, by rw [add_mk, Nat.zero_add]; exact hcell_of h hj⟩
section
variable {H : Heap} {l : List HP} {b c f : Nat} {xs : List Itm} {ks : List Nat}
theorem new_ok (S : Sat H (cx c f :: l)) : CallsH Try.prog 43 ⟨[.pointer (at_ c)]⟩ H (fun e H1 => ∃ b, e = .returned (.pointer (at_ b)) ∧ Sat H1 (nd b (at_ c) [] [] :: cx c f :: l)) := by
  refine F43.calls ?_
  unfold F43.go
  have S0 := S.star
  (repeat (first | (refine Step.go ?_; intros) | refine iteB_t (by decide) ?_ | refine iteB_f (by decide) ?_ | (refine Duo.mk (by first | omega | exact rfl | decide) ?_; intros) | (refine Duo.mk (Clo.mk (by kernel_rfl)) ?_; intros)))
  refine call_of (newN_ok (by (refine Sat.to (by assumption) ?_; apply Ent.pick; (focus (repeat (first | exact Sel.here | apply Sel.there))); exact Ent.refl))) ?_
  rintro e H1 ⟨b, rfl, S1⟩
  obtain ⟨ip, ic, cp, cc, S2⟩ := nd_open S1
  (repeat (first | (refine Step.go ?_; intros) | refine iteB_t (by decide) ?_ | refine iteB_f (by decide) ?_ | (refine Duo.mk (by first | omega | exact rfl | decide) ?_; intros) | (refine Duo.mk (Clo.mk (by kernel_rfl)) ?_; intros)))
  rename_i S3
  refine ⟨b, rfl, ?_⟩
  have S4 : Sat _ (nd b (at_ c) [] [] :: _) := nd_close S3
  exact S4.to (.cons (Ent.star (by apply Ent.pick; (focus (repeat (first | exact Sel.here | apply Sel.there))); apply Ent.pick; (focus (repeat (first | exact Sel.here | apply Sel.there))); exact .refl)))
theorem freeN_ok (S : Sat H (nd b none [] [] :: fre f :: l)) : CallsH Try.prog 83 ⟨[.pointer (at_ f), .pointer (at_ b)]⟩ H (fun e H1 => ∃ ok, e = .returned (.bool ok) ∧ Sat H1 (fre f :: l)) := by
  obtain ⟨fb, p, n, hn, S0⟩ := fre_open (S.to (Ent.bring (Sel.there Sel.here)))
  have hl := (Sat.slLen S0 (.tail _ (.head _)))
  refine F83.calls ?_
  unfold F83.go
  (repeat (first | (refine Step.go ?_; intros) | refine iteB_t (by decide) ?_ | refine iteB_f (by decide) ?_ | (refine Duo.mk (by first | omega | exact rfl | decide) ?_; intros) | (refine Duo.mk (Clo.mk (by kernel_rfl)) ?_; intros)))
  refine mu_lock S0 inferInstance ?_
  (repeat (first | (refine Step.go ?_; intros) | refine iteB_t (by decide) ?_ | refine iteB_f (by decide) ?_ | (refine Duo.mk (by first | omega | exact rfl | decide) ?_; intros) | (refine Duo.mk (Clo.mk (by kernel_rfl)) ?_; intros)))
  refine iteB_i (fun h => ?_) (fun h => ?_)
  · (iterate 3 (refine Step.go ?_; intros))
    rename_i r H2 S2
    have hlt : fb.length + 1 ≤ n := by have := of_decide_eq_true h; omega
    refine slAppIn (f := ptC) (xs := fb.map at_) (ys := [at_ b]) (Sat.bring S2 (c := sP p fb.length n (fb.map at_)) (by (repeat (first | exact Sel.here | apply Sel.there)))) hlt (cells1 (At.get (l := _) inferInstance S2)) rfl (fun y _ => rfl) ptr_isC ?_
    intro H3 S3
    (repeat (first | (refine Step.go ?_; intros) | refine iteB_t (by decide) ?_ | refine iteB_f (by decide) ?_ | (refine Duo.mk (by first | omega | exact rfl | decide) ?_; intros) | (refine Duo.mk (Clo.mk (by kernel_rfl)) ?_; intros)))
    refine mu_unlock (by assumption) inferInstance ?_
    (repeat (first | (refine Step.go ?_; intros) | refine iteB_t (by decide) ?_ | refine iteB_f (by decide) ?_ | (refine Duo.mk (by first | omega | exact rfl | decide) ?_; intros) | (refine Duo.mk (Clo.mk (by kernel_rfl)) ?_; intros)))
    rename_i H4 S4
    refine ⟨true, rfl, ?_⟩
    have e : fb.map at_ ++ [at_ b] = (fb ++ [b]).map at_ := by simp
    rw [e] at S4
    have S5 : Sat H4 (nd b none [] [] :: star (bigs (fun _ b => nd b none [] []) 0 fb) :: pt f (.cells ⟨[.slice p (fb.length + 1) n]⟩ 89) :: sP p (fb.length + 1) n ((fb ++ [b]).map at_) :: l) := Sat.fin
    have S6 := S5.to frSnoc'
    have S7 : Sat H4 (pt f (.cells ⟨[.slice p (fb.length + 1) n]⟩ 89) :: sP p (fb.length + 1) n ((fb ++ [b]).map at_) :: star (bigs (fun _ b => nd b none [] []) 0 (fb ++ [b])) :: l) := Sat.fin
    exact fre_close hn S7
  · (repeat (first | (refine Step.go ?_; intros) | refine iteB_t (by decide) ?_ | refine iteB_f (by decide) ?_ | (refine Duo.mk (by first | omega | exact rfl | decide) ?_; intros) | (refine Duo.mk (Clo.mk (by kernel_rfl)) ?_; intros)))
    refine mu_unlock (by assumption) inferInstance ?_
    (repeat (first | (refine Step.go ?_; intros) | refine iteB_t (by decide) ?_ | refine iteB_f (by decide) ?_ | (refine Duo.mk (by first | omega | exact rfl | decide) ?_; intros) | (refine Duo.mk (Clo.mk (by kernel_rfl)) ?_; intros)))
    have S7 : Sat H (pt f (.cells ⟨[.slice p fb.length n]⟩ 89) :: sP p fb.length n (fb.map at_) :: star (bigs (fun _ b => nd b none [] []) 0 fb) :: l) := Sat.fin
    exact ⟨false, rfl, fre_close hn S7⟩
theorem pq_same {H : Heap} {a : Addr} {k : Bool → Prop} (h : k true) : pqD H (some a) (some a) k := by
  unfold pqD
  exact .inl ⟨rfl, by simpa using h⟩
theorem cfree_ok (hx : xs.length < 2 ^ 40) (hk : ks.length < 2 ^ 40) (S : Sat H (nd b (at_ c) xs ks :: cx c f :: l)) : CallsH Try.prog 71 ⟨[.pointer (at_ c), .pointer (at_ b)]⟩ H (fun e H1 => ∃ n : Int, e = .returned (.int .i64 n) ∧ Sat H1 (cx c f :: l)) := by
  obtain ⟨ip, ic, cp, cc, S0⟩ := nd_open S
  refine F71.calls ?_
  unfold F71.go
  (repeat (first | (refine Step.go ?_; intros) | refine iteB_t (by decide) ?_ | refine iteB_f (by decide) ?_ | (refine Duo.mk (by first | omega | exact rfl | decide) ?_; intros) | (refine Duo.mk (Clo.mk (by kernel_rfl)) ?_; intros)))
  refine pq_same ?_
  (repeat (first | (refine Step.go ?_; intros) | refine iteB_t (by decide) ?_ | refine iteB_f (by decide) ?_ | (refine Duo.mk (by first | omega | exact rfl | decide) ?_; intros) | (refine Duo.mk (Clo.mk (by kernel_rfl)) ?_; intros)))
  refine call_of (truncI_ok (k := 0) (by omega) hx (by (refine Sat.to (by assumption) ?_; apply Ent.pick; (focus (repeat (first | exact Sel.here | apply Sel.there))); apply Ent.pick; (focus (repeat (first | exact Sel.here | apply Sel.there))); exact Ent.refl))) ?_
  rintro e H1 ⟨ip', rfl, S1⟩
  (repeat (first | (refine Step.go ?_; intros) | refine iteB_t (by decide) ?_ | refine iteB_f (by decide) ?_ | (refine Duo.mk (by first | omega | exact rfl | decide) ?_; intros) | (refine Duo.mk (Clo.mk (by kernel_rfl)) ?_; intros)))
  refine call_of (truncP_ok (k := 0) (by omega) hk (by (refine Sat.to (by assumption) ?_; apply Ent.pick; (focus (repeat (first | exact Sel.here | apply Sel.there))); apply Ent.pick; (focus (repeat (first | exact Sel.here | apply Sel.there))); exact Ent.refl))) ?_
  rintro e H2 ⟨cp', rfl, S2⟩
  (repeat (first | (refine Step.go ?_; intros) | refine iteB_t (by decide) ?_ | refine iteB_f (by decide) ?_ | (refine Duo.mk (by first | omega | exact rfl | decide) ?_; intros) | (refine Duo.mk (Clo.mk (by kernel_rfl)) ?_; intros)))
  rename_i H3 S3
  simp only [List.take_zero] at S3
  have S4 : Sat H3 (nd b none [] [] :: cx c f :: l) := nd_close (ip := ip') (ic := ic) (cp := cp') (cc := cc) (n := 0) (m := 0) (xs := []) (ks := []) (by (refine Sat.to (by assumption) ?_; apply Ent.pick; (focus (repeat (first | exact Sel.here | apply Sel.there))); apply Ent.pick; (focus (repeat (first | exact Sel.here | apply Sel.there))); apply Ent.pick; (focus (repeat (first | exact Sel.here | apply Sel.there))); exact Ent.refl))
  have S5 := (S4.to (Ent.bring (Sel.there Sel.here))).star
  (repeat (first | (refine Step.go ?_; intros) | refine iteB_t (by decide) ?_ | refine iteB_f (by decide) ?_ | (refine Duo.mk (by first | omega | exact rfl | decide) ?_; intros) | (refine Duo.mk (Clo.mk (by kernel_rfl)) ?_; intros)))
  refine call_of (freeN_ok (b := b) (f := f) (by (refine Sat.to (by assumption) ?_; apply Ent.pick; (focus (repeat (first | exact Sel.here | apply Sel.there))); apply Ent.pick; (focus (repeat (first | exact Sel.here | apply Sel.there))); exact Ent.refl))) ?_
  rintro e H4 ⟨ok, rfl, S6⟩
  (repeat (first | (refine Step.go ?_; intros) | refine iteB_t (by decide) ?_ | refine iteB_f (by decide) ?_ | (refine Duo.mk (by first | omega | exact rfl | decide) ?_; intros) | (refine Duo.mk (Clo.mk (by kernel_rfl)) ?_; intros)))
  have S7 : Sat H4 (cx c f :: l) := S6.to (Ent.star (by apply Ent.pick; (focus (repeat (first | exact Sel.here | apply Sel.there))); apply Ent.pick; (focus (repeat (first | exact Sel.here | apply Sel.there))); exact .refl))
  refine iteB_i (fun h => ?_) (fun h => ?_)
  · exact ⟨1, rfl, S7⟩
  · exact ⟨0, rfl, S7⟩
end
end Go.Proofs.Ytdgcdjlomindhaa

set_option linter.unusedVariables false
set_option linter.unusedSimpArgs false
set_option linter.unnecessarySimpa false
namespace Go.Proofs.Ytdgcdjlomindhaa
open Go Go.Den Go.Proofs
/-! Trees; lists by rising keys. -/
def Srt (l : List Itm) : Prop := l.Pairwise (·.k < ·.k)
def put : List Itm → Itm → List Itm
  | [], e => [e]
  | x :: l, e => if e.k < x.k then e :: x :: l else if e.k = x.k then e :: l else x :: put l e
def getI : List Itm → Int → Option Itm
  | [], _ => none
  | x :: l, k => if k = x.k then some x else getI l k
def delI (l : List Itm) (k : Int) : List Itm := l.filter fun x => decide (x.k ≠ k)
theorem put_app {A l : List Itm} {e : Itm} (h : ∀ a ∈ A, a.k < e.k) : put (A ++ l) e = A ++ put l e := by
  induction A with
  | nil => rfl
  | cons a A ih =>
    have := h a (List.mem_cons_self ..)
    rw [List.cons_append, put, if_neg (by omega), if_neg (by omega), ih fun x hx => h x (List.mem_cons_of_mem _ hx)]
    rfl
theorem put_front {l B : List Itm} {e : Itm} (h : ∀ a ∈ B, e.k < a.k) : put (l ++ B) e = put l e ++ B := by
  induction l with
  | nil =>
    cases B with
    | nil => rfl
    | cons b B => show put (b :: B) e = e :: b :: B; rw [put, if_pos (h b (List.mem_cons_self ..))]
  | cons x l ih =>
    rw [List.cons_append, put, put, ih]
    split
    · rfl
    · split <;> rfl
theorem put_hit {y : Itm} {B : List Itm} {e : Itm} (h : e.k = y.k) : put (y :: B) e = e :: B := by
  rw [put, if_neg (by omega), if_pos h]
theorem get_app {A l : List Itm} {k : Int} (h : ∀ a ∈ A, a.k < k) : getI (A ++ l) k = getI l k := by
  induction A with
  | nil => rfl
  | cons a A ih =>
    have := h a (List.mem_cons_self ..)
    rw [List.cons_append, getI, if_neg (by omega), ih fun x hx => h x (List.mem_cons_of_mem _ hx)]
theorem get_none {B : List Itm} {k : Int} (h : ∀ a ∈ B, k < a.k) : getI B k = none := by
  induction B with
  | nil => rfl
  | cons a A ih =>
    have := h a (List.mem_cons_self ..)
    rw [getI, if_neg (by omega), ih fun x hx => h x (List.mem_cons_of_mem _ hx)]
theorem get_front {l B : List Itm} {k : Int} (h : ∀ a ∈ B, k < a.k) : getI (l ++ B) k = getI l k := by
  induction l with
  | nil => rw [List.nil_append, get_none h]; rfl
  | cons x l ih => rw [List.cons_append, getI, getI, ih]
theorem get_hit {y : Itm} {B : List Itm} {k : Int} (h : k = y.k) : getI (y :: B) k = some y := by rw [getI, if_pos h]
theorem del_app {A B : List Itm} {k : Int} : delI (A ++ B) k = delI A k ++ delI B k := List.filter_append ..
theorem del_lt {A : List Itm} {k : Int} (h : ∀ a ∈ A, a.k < k) : delI A k = A := by
  refine List.filter_eq_self.2 fun a ha => ?_
  have := h a ha
  simp; omega
theorem del_gt {A : List Itm} {k : Int} (h : ∀ a ∈ A, k < a.k) : delI A k = A := by
  refine List.filter_eq_self.2 fun a ha => ?_
  have := h a ha
  simp; omega
theorem del_hit {y : Itm} {B : List Itm} {k : Int} (h : y.k = k) : delI (y :: B) k = delI B k := by
  unfold delI; rw [List.filter_cons_of_neg (by simp [h])]
/-! In order. -/
def postL : List Itm → List (List Itm) → List Itm
  | x :: xs, k :: ks => x :: (k ++ postL xs ks)
  | xs, _ => xs
def preL : List Itm → List (List Itm) → List Itm
  | x :: xs, k :: ks => k ++ x :: preL xs ks
  | _, _ => []
def inter : List Itm → List (List Itm) → List Itm
  | xs, [] => xs
  | xs, k :: ks => k ++ postL xs ks
theorem postL_cons {x : Itm} {xs : List Itm} {k : List Itm} {ks : List (List Itm)} : postL (x :: xs) (k :: ks) = x :: inter xs (k :: ks) := rfl
theorem inter_split {xs2 : List Itm} {k : List Itm} {ks2 : List (List Itm)} : ∀ {xs1 : List Itm} {ks1 : List (List Itm)}, xs1.length = ks1.length → inter (xs1 ++ xs2) (ks1 ++ k :: ks2) = preL xs1 ks1 ++ (k ++ postL xs2 ks2)
  | [], [], _ => rfl
  | [], _ :: _, h => by simp at h
  | _ :: _, [], h => by simp at h
  | x :: xs1, q :: ks1, h => by
    have := inter_split (xs2 := xs2) (k := k) (ks2 := ks2) (xs1 := xs1) (ks1 := ks1) (by simpa using h)
    cases ks1 with
    | nil =>
      have h0 : xs1 = [] := List.eq_nil_of_length_eq_zero (by simpa using h)
      subst h0
      simp only [List.cons_append, List.nil_append, preL, List.append_assoc]
      rfl
    | cons w ks1 =>
      simp only [List.cons_append, preL, List.append_assoc]
      simp only [List.cons_append] at this
      rw [← this]
      rfl
theorem preL_snoc {x : Itm} {k : List Itm} : ∀ {xs : List Itm} {ks : List (List Itm)}, xs.length = ks.length → preL (xs ++ [x]) (ks ++ [k]) = preL xs ks ++ (k ++ [x])
  | [], [], _ => by simp [preL]
  | [], _ :: _, h => by simp at h
  | _ :: _, [], h => by simp at h
  | y :: xs, q :: ks, h => by
    have := preL_snoc (x := x) (k := k) (xs := xs) (ks := ks) (by simpa using h)
    simp only [List.cons_append, preL, this, List.append_assoc]
structure Nd (α : Type) where
  b : Nat
  xs : List Itm
  ks : List α
def Tr : Nat → Type
  | 0 => Empty
  | h + 1 => Nd (Tr h)
def bk : (h : Nat) → Tr h → Nat
  | 0, t => nomatch t
  | _ + 1, t => t.b
def its : (h : Nat) → Tr h → List Itm
  | 0, t => nomatch t
  | _ + 1, t => t.xs
def inL : (h : Nat) → Tr h → List Itm
  | 0, t => nomatch t
  | h + 1, t => inter t.xs (t.ks.map (inL h))
def tr (c : Nat) : (h : Nat) → Tr h → HP
  | 0, t => nomatch t
  | h + 1, t => star [nd t.b (at_ c) t.xs (t.ks.map (bk h)), star (t.ks.map (tr c h))]
def WF (d : Nat) : (h : Nat) → Tr h → Prop
  | 0, t => nomatch t
  | h + 1, t => (0 < h → t.ks.length = t.xs.length + 1) ∧ ∀ k ∈ t.ks, WF d h k ∧ d ≤ (its h k).length + 1
theorem leaf_ks {α : Type} (e : α → False) (l : List α) : l = [] := by
  cases l with
  | nil => rfl
  | cons a _ => exact (e a).elim
theorem no0 : Tr 0 → False := fun t => nomatch t
end Go.Proofs.Ytdgcdjlomindhaa

set_option linter.unusedVariables false
set_option linter.unusedSimpArgs false
set_option linter.unnecessarySimpa false
namespace Go.Proofs.Ytdgcdjlomindhaa
open Go Go.Den Go.Proofs
/-! Where an element stands. -/
theorem Srt.at_lt {xs : List Itm} (h : Srt xs) {i j : Nat} {x y : Itm} (hx : xs[i]? = some x) (hy : xs[j]? = some y) (hij : i < j) : x.k < y.k := by
  have hi := lt_of hx
  have hj := lt_of hy
  have := List.pairwise_iff_getElem.1 h i j hi hj hij
  rw [List.getElem?_eq_getElem hi] at hx
  rw [List.getElem?_eq_getElem hj] at hy
  cases hx; cases hy
  exact this
theorem mid {i j : Nat} (h : i + j < 2 ^ 60) : IntKind.wrap .i64 (shrZ .u64 (IntKind.wrap .u64 (IntKind.wrap .i64 ((i : Int) + (j : Int)))) (1 : Int)) = (((i + j) / 2 : Nat) : Int) := by
  rw [wr (i := (i : Int) + j) (by omega) (by omega), wrU64 (by omega) (by omega)]
  have e : shrZ .u64 ((i : Int) + j) 1 = (((i + j) / 2 : Nat) : Int) := by
    show Int.fdiv ((i : Int) + j) (2 ^ (min (Int.toNat 1) 64)) = _
    rw [show ((2 : Int) ^ (min (Int.toNat 1) 64)) = 2 from rfl, Int.fdiv_eq_ediv_of_nonneg _ (by omega)]
    omega
  rw [e, wr (by omega) (by omega)]
/-- Where a key stands among items, or belongs. -/
structure FindAt (xs : List Itm) (k : Int) (i : Nat) (found : Bool) : Prop where
  le : i ≤ xs.length
  lo : ∀ j x, xs[j]? = some x → j < i → x.k < k
  hit : found = true → ∃ x, xs[i]? = some x ∧ x.k = k
  hi : ∀ j x, xs[j]? = some x → i ≤ j → (found = true → i < j) → k < x.k
section
variable {H : Heap} {l : List HP} {n c : Nat} {p : Option Addr} {xs : List Itm} {e : Itm}
abbrev lessF : FV := .mk (.func 21) ⟨[]⟩ ⟨[]⟩
theorem less_ok {a b : Itm} : CallsH Try.prog 21 ⟨[.agg ⟨a.cells⟩, .agg ⟨b.cells⟩]⟩ H (Gives (.bool (decide (a.k < b.k))) H) := by
  refine F21.calls ?_
  unfold F21.go
  have S := Sat.start H
  (repeat (first | (refine Step.go ?_; intros) | refine iteB_t (by decide) ?_ | refine iteB_f (by decide) ?_ | (refine Duo.mk (by first | omega | exact rfl | decide) ?_; intros) | (refine Duo.mk (Clo.mk (by kernel_rfl)) ?_; intros)))
  exact ⟨rfl, Sat.grown⟩
instance {i : FV} {X : Prop} : Step (guardB (isCell i.v) X) X := ⟨fun h => by rw [isCell_FV]; exact h⟩
theorem lessD {a b : Itm} {Q : List PanicEntry → Heap → Prop} {K : Value → Heap → Prop} (S : Sat H l) (k : ∀ H1, Sat H1 l → K (.bool (decide (a.k < b.k))) H1) : callD Try.prog 21 [.agg ⟨[.int .i64 a.k, .int .i64 a.v]⟩, .agg ⟨[.int .i64 b.k, .int .i64 b.v]⟩] H Q K :=
  gives_i S less_ok fun H1 _ S1 => k H1 S1
theorem fits_ok {r r1 r2 : Nat} {i : Nat} {x : Itm} (hx : xs[i]? = some x)
    (S : Sat H (pt r2 (.cells ⟨[FV.v lessF]⟩ 55) :: pt r1 (.cells ⟨e.cells⟩ 25) :: pt r (.cells ⟨[.slice p n c]⟩ 91) :: sI p n c xs :: l)) :
    CallsH Try.prog 78 ⟨[.int .i64 (i : Int), .pointer (at_ r2), .pointer (at_ r1), .pointer (at_ r)]⟩ H (fun en H1 => en = .returned (.bool (decide (e.k < x.k))) ∧ Sat H1 (pt r2 (.cells ⟨[FV.v lessF]⟩ 55) :: pt r1 (.cells ⟨e.cells⟩ 25) :: pt r (.cells ⟨[.slice p n c]⟩ 91) :: sI p n c xs :: l)) := by
  have hl := (Sat.slLen S (.tail _ (.tail _ (.tail _ (.head _))))).1
  have hi := lt_of hx
  have hI := HasI.nat hx
  refine F78.calls ?_
  unfold F78.go
  (repeat (first | (refine Step.go ?_; intros) | refine iteB_t (by decide) ?_ | refine iteB_f (by decide) ?_ | (refine Duo.mk (by first | omega | exact rfl | decide) ?_; intros) | (refine Duo.mk (Clo.mk (by kernel_rfl)) ?_; intros)))
  refine Sat.idx (f := Itm.cells) (E := 25) (z := 2) S ⟨by omega, by omega, fun r o hr => ?_⟩
  subst hr
  (repeat (first | (refine Step.go ?_; intros) | refine iteB_t (by decide) ?_ | refine iteB_f (by decide) ?_ | (refine Duo.mk (by first | omega | exact rfl | decide) ?_; intros) | (refine Duo.mk (Clo.mk (by kernel_rfl)) ?_; intros)))
  refine lessD (a := e) (b := x) S ?_
  intro H1 S1
  (repeat (first | (refine Step.go ?_; intros) | refine iteB_t (by decide) ?_ | refine iteB_f (by decide) ?_ | (refine Duo.mk (by first | omega | exact rfl | decide) ?_; intros) | (refine Duo.mk (Clo.mk (by kernel_rfl)) ?_; intros)))
  exact ⟨rfl, S1⟩
theorem search_loop {r r1 r2 : Nat} {R : Ending → Heap → Prop} (hs : Srt xs) (hn : n < 2 ^ 40) (K : ∀ i H1, i ≤ n → (∀ j x, xs[j]? = some x → j < i → x.k ≤ e.k) → (∀ j x, xs[j]? = some x → i ≤ j → e.k < x.k) →
      Sat H1 (pt r2 (.cells ⟨[FV.v lessF]⟩ 55) :: pt r1 (.cells ⟨e.cells⟩ 25) :: pt r (.cells ⟨[.slice p n c]⟩ 91) :: sI p n c xs :: l) → R (.returned (.int .i64 (i : Nat))) H1) :
    ∀ (m i j : Nat) (H : Heap), j - i ≤ m → i ≤ j → j ≤ n → (∀ t x, xs[t]? = some x → t < i → x.k ≤ e.k) → (∀ t x, xs[t]? = some x → j ≤ t → e.k < x.k) →
    Sat H (pt r2 (.cells ⟨[FV.v lessF]⟩ 55) :: pt r1 (.cells ⟨e.cells⟩ 25) :: pt r (.cells ⟨[.slice p n c]⟩ 91) :: sI p n c xs :: l) →
    F77.L0 (.mk (.func 78) ⟨[]⟩ ⟨[.pointer (at_ r2), .pointer (at_ r1), .pointer (at_ r)]⟩) (i : Int) (j : Int) H R := by
  intro m
  induction m with
  | zero =>
    intro i j H hm hij hj h1 h2 S
    refine F77.L0_step ?_
    unfold F77.L0n
    refine iteB_f (by simp; omega) ?_
    exact K i H (by omega) h1 (fun t x hx ht => h2 t x hx (by omega)) S
  | succ m ih =>
    intro i j H hm hij hj h1 h2 S
    have hl := (Sat.slLen S (.tail _ (.tail _ (.tail _ (.head _))))).1
    refine F77.L0_step ?_
    unfold F77.L0n
    refine iteB_i (fun h => ?_) (fun h => ?_)
    · have hlt : i < j := by have := of_decide_eq_true h; omega
      rw [mid (by omega)]
      obtain ⟨x, hx⟩ : ∃ x, xs[(i + j) / 2]? = some x := get_of (by omega)
      refine ⟨by omega, ?_⟩
      refine Step.go (Duo.mk ⟨by kernel_rfl⟩ ?_)
      refine call_of (fits_ok hx S) ?_
      rintro en H1 ⟨rfl, S1⟩
      (repeat (first | (refine Step.go ?_; intros) | refine iteB_t (by decide) ?_ | refine iteB_f (by decide) ?_ | (refine Duo.mk (by first | omega | exact rfl | decide) ?_; intros) | (refine Duo.mk (Clo.mk (by kernel_rfl)) ?_; intros)))
      refine iteB_i (fun h3 => ?_) (fun h3 => ?_)
      · rw [wadd (by omega)]
        refine ih ((i + j) / 2 + 1) j H1 (by omega) (by omega) hj ?_ h2 S1
        intro t y hy ht
        have h4 : x.k ≤ e.k := by simpa using h3
        by_cases ht2 : t = (i + j) / 2
        · subst ht2; rw [hx] at hy; cases hy; exact h4
        · have := hs.at_lt hy hx (by omega); omega
      · refine ih i ((i + j) / 2) H1 (by omega) (by omega) (by omega) h1 ?_ S1
        intro t y hy ht
        have h4 : e.k < x.k := by simpa using h3
        by_cases ht2 : t = (i + j) / 2
        · subst ht2; rw [hx] at hy; cases hy; exact h4
        · have := hs.at_lt hx hy (by omega); omega
    · exact K i H (by omega) h1 (fun t x hx ht => h2 t x hx (by have := of_decide_eq_false h; omega)) S
theorem search_ok {r r1 r2 : Nat} (hs : Srt xs) (hn : n < 2 ^ 40) (S : Sat H (pt r2 (.cells ⟨[FV.v lessF]⟩ 55) :: pt r1 (.cells ⟨e.cells⟩ 25) :: pt r (.cells ⟨[.slice p n c]⟩ 91) :: sI p n c xs :: l)) :
    CallsH Try.prog 77 ⟨[.int .i64 (n : Int), .func (.func 78) ⟨[]⟩ ⟨[.pointer (at_ r2), .pointer (at_ r1), .pointer (at_ r)]⟩]⟩ H (fun en H1 => ∃ i : Nat, en = .returned (.int .i64 (i : Int)) ∧ i ≤ n ∧ (∀ j x, xs[j]? = some x → j < i → x.k ≤ e.k) ∧ (∀ j x, xs[j]? = some x → i ≤ j → e.k < x.k) ∧
      Sat H1 (pt r2 (.cells ⟨[FV.v lessF]⟩ 55) :: pt r1 (.cells ⟨e.cells⟩ 25) :: pt r (.cells ⟨[.slice p n c]⟩ 91) :: sI p n c xs :: l)) := by
  have hl := (Sat.slLen S (.tail _ (.tail _ (.tail _ (.head _))))).1
  refine F77.calls (n := (n : Int)) (f := .mk (.func 78) ⟨[]⟩ ⟨[.pointer (at_ r2), .pointer (at_ r1), .pointer (at_ r)]⟩) ?_
  unfold F77.go
  rw [show (0 : Int) = ((0 : Nat) : Int) from rfl]
  refine search_loop hs hn ?_ n 0 n H (by omega) (by omega) (by omega) (fun t x hx ht => by omega) (fun t x hx ht => by have := lt_of hx; omega) S
  intro i H1 a1 a2 a3 a4
  exact ⟨i, rfl, a1, a2, a3, a4⟩
theorem find_ok (hs : Srt xs) (hn : n < 2 ^ 40) (S : Sat H (sI p n c xs :: l)) :
    CallsH Try.prog 65 ⟨[.slice p n c, .agg ⟨e.cells⟩, FV.v lessF]⟩ H (fun en H1 => ∃ (i : Nat) (found : Bool), en = .returned (.tuple ⟨[.int .i64 (i : Int), .bool found]⟩) ∧ FindAt xs e.k i found ∧ Sat H1 (sI p n c xs :: l)) := by
  have hl := (Sat.slLen S (.head _)).1
  refine F65.calls ?_
  unfold F65.go
  (repeat (first | (refine Step.go ?_; intros) | refine iteB_t (by decide) ?_ | refine iteB_f (by decide) ?_ | (refine Duo.mk (by first | omega | exact rfl | decide) ?_; intros) | (refine Duo.mk (Clo.mk (by kernel_rfl)) ?_; intros)))
  rename_i S1
  refine call_of (search_ok (e := e) hs hn S1) ?_
  rintro en H1 ⟨i, rfl, a1, a2, a3, S2⟩
  (repeat (first | (refine Step.go ?_; intros) | refine iteB_t (by decide) ?_ | refine iteB_f (by decide) ?_ | (refine Duo.mk (by first | omega | exact rfl | decide) ?_; intros) | (refine Duo.mk (Clo.mk (by kernel_rfl)) ?_; intros)))
  refine iteB_i (fun h => ?_) (fun h => ?_)
  · obtain ⟨i, rfl⟩ : ∃ j, i = j + 1 := ⟨i - 1, by have := of_decide_eq_true h; omega⟩
    rw [wsub (by omega)]
    obtain ⟨x, hx⟩ : ∃ x, xs[i]? = some x := get_of (by omega)
    have hI := HasI.nat hx
    (repeat (first | (refine Step.go ?_; intros) | refine iteB_t (by decide) ?_ | refine iteB_f (by decide) ?_ | (refine Duo.mk (by first | omega | exact rfl | decide) ?_; intros) | (refine Duo.mk (Clo.mk (by kernel_rfl)) ?_; intros)))
    refine Sat.idx (f := Itm.cells) (E := 25) (z := 2) S2 ⟨by omega, by omega, fun r o hr => ?_⟩
    subst hr
    (repeat (first | (refine Step.go ?_; intros) | refine iteB_t (by decide) ?_ | refine iteB_f (by decide) ?_ | (refine Duo.mk (by first | omega | exact rfl | decide) ?_; intros) | (refine Duo.mk (Clo.mk (by kernel_rfl)) ?_; intros)))
    refine lessD (a := x) (b := e) S2 ?_
    intro H2 S3
    (repeat (first | (refine Step.go ?_; intros) | refine iteB_t (by decide) ?_ | refine iteB_f (by decide) ?_ | (refine Duo.mk (by first | omega | exact rfl | decide) ?_; intros) | (refine Duo.mk (Clo.mk (by kernel_rfl)) ?_; intros)))
    refine iteB_i (fun h3 => ?_) (fun h3 => ?_)
    · have h4 : e.k ≤ x.k := by simpa using h3
      have h5 := a2 i x hx (by omega)
      refine ⟨i, true, rfl, ⟨by omega, ?_, fun _ => ⟨x, hx, by omega⟩, ?_⟩, Sat.fin⟩
      · intro j y hy hj
        have := hs.at_lt hy hx hj; omega
      · intro j y hy hj h6
        exact a3 j y hy (by have := h6 rfl; omega)
    · have h4 : x.k < e.k := by simpa using h3
      refine ⟨i + 1, false, rfl, ⟨by omega, ?_, fun h => (by cases h), ?_⟩, Sat.fin⟩
      · intro j y hy hj
        by_cases hji : j = i
        · subst hji; rw [hx] at hy; cases hy; exact h4
        · have := hs.at_lt hy hx (by omega); omega
      · intro j y hy hj h6
        exact a3 j y hy hj
  · have h0 : i = 0 := by have := of_decide_eq_false h; omega
    subst h0
    exact ⟨0, false, rfl, ⟨by omega, fun j x hx hj => by omega, fun h => (by cases h), fun j x hx hj _ => a3 j x hx hj⟩, Sat.fin⟩
end
end Go.Proofs.Ytdgcdjlomindhaa

set_option linter.unusedVariables false
set_option linter.unusedSimpArgs false
set_option linter.unnecessarySimpa false
namespace Go.Proofs.Ytdgcdjlomindhaa
open Go Go.Den Go.Proofs
/-! A node's children among its items. -/
theorem Srt.left {A B : List Itm} (h : Srt (A ++ B)) : Srt A := (List.pairwise_append.1 h).1
theorem Srt.right {A B : List Itm} (h : Srt (A ++ B)) : Srt B := (List.pairwise_append.1 h).2.1
theorem Srt.cross {A B : List Itm} (h : Srt (A ++ B)) {a b : Itm} (ha : a ∈ A) (hb : b ∈ B) : a.k < b.k := (List.pairwise_append.1 h).2.2 a ha b hb
theorem preL_lt {k : Int} {xs : List Itm} {ks : List (List Itm)} (hl : xs.length = ks.length) (hs : Srt (preL xs ks)) (h : ∀ x ∈ xs, x.k < k) : ∀ a ∈ preL xs ks, a.k < k := by
  rcases List.eq_nil_or_concat xs with rfl | ⟨xs, x, rfl⟩
  · intro a ha; simp [preL] at ha
  · rcases List.eq_nil_or_concat ks with rfl | ⟨ks, q, rfl⟩
    · simp at hl
    · rw [List.concat_eq_append] at *
      rw [List.concat_eq_append] at *
      have hl' : xs.length = ks.length := by simpa using hl
      rw [preL_snoc hl'] at hs ⊢
      have hx := h x (by simp)
      intro a ha
      rw [← List.append_assoc] at hs ha
      rcases List.mem_append.1 ha with h1 | h1
      · have := hs.cross h1 (List.mem_singleton.2 rfl); omega
      · simp at h1; subst h1; exact hx
theorem postL_gt {k : Int} {xs : List Itm} {ks : List (List Itm)} (hl : xs.length = ks.length) (hs : Srt (postL xs ks)) (h : ∀ x ∈ xs, k < x.k) : ∀ a ∈ postL xs ks, k < a.k := by
  cases xs with
  | nil => intro a ha; cases ks <;> simp [postL] at ha
  | cons x xs =>
    cases ks with
    | nil => simp at hl
    | cons q ks =>
      have hx := h x (by simp)
      intro a ha
      have e : postL (x :: xs) (q :: ks) = [x] ++ (q ++ postL xs ks) := rfl
      rw [e] at hs ha
      rcases List.mem_append.1 ha with h1 | h1
      · simp at h1; subst h1; exact hx
      · have := hs.cross (List.mem_singleton.2 rfl) h1; omega
theorem cut_at {α : Type} {l : List α} {i : Nat} (h : i < l.length) : ∃ q, l = l.take i ++ q :: l.drop (i + 1) ∧ l[i]? = some q :=
  ⟨l[i], by rw [List.getElem_cons_drop, List.take_append_drop], List.getElem?_eq_getElem h⟩
section
variable {α : Type} {g : α → List Itm} {xs : List Itm} {ks : List α} {k : Int} {i : Nat}
/-- All around a place. -/
theorem inter_at (hw : ks.length = xs.length + 1) (hi : i ≤ xs.length) : ∃ q, ks = ks.take i ++ q :: ks.drop (i + 1) ∧ ks[i]? = some q ∧
    ∀ (ks1 ks2 : List α) (q' : α), ks1.length = i → ks2.length = xs.length - i → inter xs ((ks1 ++ q' :: ks2).map g) = preL (xs.take i) (ks1.map g) ++ (g q' ++ postL (xs.drop i) (ks2.map g)) := by
  obtain ⟨q, h1, h2⟩ := cut_at (l := ks) (i := i) (by omega)
  refine ⟨q, h1, h2, fun ks1 ks2 q' h3 h4 => ?_⟩
  rw [List.map_append, List.map_cons]
  have := inter_split (xs1 := xs.take i) (xs2 := xs.drop i) (k := g q') (ks1 := ks1.map g) (ks2 := ks2.map g) (by simp; omega)
  rw [List.take_append_drop] at this
  exact this
theorem FindAt.mem_lo {found : Bool} (hf : FindAt xs k i found) : ∀ x ∈ xs.take i, x.k < k := by
  intro x hx
  obtain ⟨j, hj⟩ := List.mem_iff_getElem?.1 hx
  rw [List.getElem?_take] at hj
  split at hj
  · exact hf.lo j x hj (by assumption)
  · cases hj
theorem FindAt.mem_hi (hf : FindAt xs k i false) : ∀ x ∈ xs.drop i, k < x.k := by
  intro x hx
  obtain ⟨j, hj⟩ := List.mem_iff_getElem?.1 hx
  rw [List.getElem?_drop] at hj
  exact hf.hi (i + j) x hj (by omega) (fun h => by cases h)
theorem FindAt.mem_hi' (hf : FindAt xs k i true) : ∀ x ∈ xs.drop (i + 1), k < x.k := by
  intro x hx
  obtain ⟨j, hj⟩ := List.mem_iff_getElem?.1 hx
  rw [List.getElem?_drop] at hj
  exact hf.hi (i + 1 + j) x hj (by omega) (fun h => by omega)
theorem around (hw : ks.length = xs.length + 1) (hs : Srt (inter xs (ks.map g))) (hf : FindAt xs k i false) : ∃ q, ks = ks.take i ++ q :: ks.drop (i + 1) ∧ ks[i]? = some q ∧
    (inter xs (ks.map g) = preL (xs.take i) ((ks.take i).map g) ++ (g q ++ postL (xs.drop i) ((ks.drop (i + 1)).map g))) ∧
    (∀ q', inter xs ((ks.take i ++ q' :: ks.drop (i + 1)).map g) = preL (xs.take i) ((ks.take i).map g) ++ (g q' ++ postL (xs.drop i) ((ks.drop (i + 1)).map g))) ∧
    (∀ a ∈ preL (xs.take i) ((ks.take i).map g), a.k < k) ∧ (∀ a ∈ postL (xs.drop i) ((ks.drop (i + 1)).map g), k < a.k) := by
  have hi := hf.le
  obtain ⟨q, h1, h2, h3⟩ := inter_at (g := g) hw hf.le
  have h4 := h3 (ks.take i) (ks.drop (i + 1)) q (by simp; omega) (by simp; omega)
  rw [← h1] at h4
  rw [h4] at hs
  refine ⟨q, h1, h2, h4, fun q' => h3 _ _ q' (by simp; omega) (by simp; omega), ?_, ?_⟩
  · exact preL_lt (by simp; omega) hs.left hf.mem_lo
  · exact postL_gt (by simp; omega) hs.right.right hf.mem_hi
/-- The items themselves, in order. -/
theorem inter_item (hw : ks = [] ∨ ks.length = xs.length + 1) {y : Itm} (hy : xs[i]? = some y) : ∃ A B, inter xs (ks.map g) = A ++ y :: B ∧ ∀ e, inter (xs.set i e) (ks.map g) = A ++ e :: B := by
  have hi := lt_of hy
  have e0 : xs = xs.take i ++ y :: xs.drop (i + 1) := by
    obtain ⟨q, h1, h2⟩ := cut_at hi
    rw [hy] at h2; cases h2; exact h1
  have e1 : ∀ e, xs.set i e = xs.take i ++ e :: xs.drop (i + 1) := fun e => by rw [List.set_eq_take_append_cons_drop, if_pos hi]
  rcases hw with rfl | hw
  · exact ⟨xs.take i, xs.drop (i + 1), e0, fun e => e1 e⟩
  · obtain ⟨q, h1, h2, h3⟩ := inter_at (g := g) hw (show i ≤ xs.length by omega)
    have h4 : ∃ q2 ks3, ks.drop (i + 1) = q2 :: ks3 := by
      cases h : ks.drop (i + 1) with
      | nil => have := congrArg List.length h; simp at this; omega
      | cons a b => exact ⟨a, b, rfl⟩
    obtain ⟨q2, ks3, h4⟩ := h4
    refine ⟨preL (xs.take i) ((ks.take i).map g) ++ g q, g q2 ++ postL (xs.drop (i + 1)) (ks3.map g), ?_, fun e => ?_⟩
    · have h5 := inter_split (xs1 := xs.take i) (xs2 := y :: xs.drop (i + 1)) (k := g q) (ks1 := (ks.take i).map g) (ks2 := (ks.drop (i + 1)).map g) (by simp; omega)
      rw [← e0, ← List.map_cons, ← List.map_append, ← h1] at h5
      rw [h5, h4]
      simp [postL]
    · have h5 := inter_split (xs1 := xs.take i) (xs2 := e :: xs.drop (i + 1)) (k := g q) (ks1 := (ks.take i).map g) (ks2 := (ks.drop (i + 1)).map g) (by simp; omega)
      rw [← e1, ← List.map_cons, ← List.map_append, ← h1] at h5
      rw [h5, h4]
      simp [postL]
end
end Go.Proofs.Ytdgcdjlomindhaa

set_option linter.unusedVariables false
set_option linter.unusedSimpArgs false
set_option linter.unnecessarySimpa false
namespace Go.Proofs.Ytdgcdjlomindhaa
open Go Go.Den Go.Proofs
/-! Trees in memory: read. -/
section
variable {H : Heap} {l m : List HP} {c f h : Nat} {e : Itm}
theorem tr_open {t : Tr (h + 1)} (S : Sat H (tr c (h + 1) t :: l)) : ∃ ip ic cp cc, Sat H (pt t.b (.cells ⟨[.slice ip t.xs.length ic, .slice cp t.ks.length cc, .pointer (at_ c)]⟩ 94) :: sI ip t.xs.length ic t.xs :: sP cp t.ks.length cc ((t.ks.map (bk h)).map at_) :: star (t.ks.map (tr c h)) :: l) := by
  obtain ⟨ip, ic, cp, cc, S1⟩ := nd_open (Sat.star S)
  rw [List.length_map] at S1
  exact ⟨ip, ic, cp, cc, S1⟩
theorem tr_close {b : Nat} {xs : List Itm} {ks : List (Tr h)} {ip cp : Option Addr} {ic cc n m : Nat} (S : Sat H (pt b (.cells ⟨[.slice ip n ic, .slice cp m cc, .pointer (at_ c)]⟩ 94) :: sI ip n ic xs :: sP cp m cc ((ks.map (bk h)).map at_) :: star (ks.map (tr c h)) :: l)) : Sat H (tr c (h + 1) ⟨b, xs, ks⟩ :: l) :=
  (nd_close S).to (Ent.star .refl)
theorem tr_shut {t : Tr (h + 1)} {ip cp : Option Addr} {ic cc n m : Nat} (S : Sat H (pt t.b (.cells ⟨[.slice ip n ic, .slice cp m cc, .pointer (at_ c)]⟩ 94) :: sI ip n ic t.xs :: sP cp m cc ((t.ks.map (bk h)).map at_) :: star (t.ks.map (tr c h)) :: l)) : Sat H (tr c (h + 1) t :: l) :=
  (nd_close S).to (Ent.star .refl)
theorem tr_nd {t : Tr (h + 1)} : Ent (tr c (h + 1) t :: l) (nd t.b (at_ c) t.xs (t.ks.map (bk h)) :: star (t.ks.map (tr c h)) :: l) := fun k x => SatP.star_iff.1 x
theorem nd_tr {b : Nat} {xs : List Itm} {ks : List (Tr h)} : Ent (nd b (at_ c) xs (ks.map (bk h)) :: star (ks.map (tr c h)) :: l) (tr c (h + 1) ⟨b, xs, ks⟩ :: l) := Ent.star .refl
theorem kid_out {α : Type} {F : α → HP} {A B : List α} {k : α} : Ent (star ((A ++ k :: B).map F) :: m) (F k :: star ((A ++ B).map F) :: m) := by
  have p : ((A ++ k :: B).map F).Perm (F k :: (A ++ B).map F) := by
    simp only [List.map_append, List.map_cons]
    exact List.perm_middle
  exact (Ent.starPerm p).trans .starCons
theorem kid_in {α : Type} {F : α → HP} {A B : List α} {k : α} : Ent (F k :: star ((A ++ B).map F) :: m) (star ((A ++ k :: B).map F) :: m) := by
  have p : (F k :: (A ++ B).map F).Perm ((A ++ k :: B).map F) := by
    simp only [List.map_append, List.map_cons]
    exact List.perm_middle.symm
  exact Ent.consStar.trans (Ent.starPerm p)
theorem inL_succ {t : Tr (h + 1)} : inL (h + 1) t = inter t.xs (t.ks.map (inL h)) := rfl
theorem bk_succ {t : Tr (h + 1)} : bk (h + 1) t = t.b := rfl
theorem xs_len {α : Type} {g : α → List Itm} {xs : List Itm} {ks : List α} (hw : ks = [] ∨ ks.length = xs.length + 1) : xs.length ≤ (inter xs (ks.map g)).length ∧ ∀ k ∈ ks, (g k).length ≤ (inter xs (ks.map g)).length := by
  have key : ∀ (xs : List Itm) (ks : List α), ks.length = xs.length → xs.length ≤ (postL xs (ks.map g)).length ∧ ∀ k ∈ ks, (g k).length ≤ (postL xs (ks.map g)).length := by
    intro xs
    induction xs with
    | nil => intro ks h; have := List.eq_nil_of_length_eq_zero h; subst this; simp [postL]
    | cons x xs ih =>
      intro ks h
      cases ks with
      | nil => simp at h
      | cons k ks =>
        obtain ⟨a, b⟩ := ih ks (by simpa using h)
        simp only [List.map_cons, postL, List.length_cons, List.length_append]
        refine ⟨by omega, fun q hq => ?_⟩
        rcases List.mem_cons.1 hq with rfl | hq
        · omega
        · have := b q hq; omega
  rcases hw with rfl | hw
  · simp [inter]
  · cases ks with
    | nil => simp at hw
    | cons k ks =>
      obtain ⟨a, b⟩ := key xs ks (by simpa using hw)
      simp only [List.map_cons, inter, List.length_append]
      refine ⟨by omega, fun q hq => ?_⟩
      rcases List.mem_cons.1 hq with rfl | hq
      · omega
      · have := b q hq; omega
theorem WF.or {d : Nat} {t : Tr (h + 1)} (w : WF d (h + 1) t) : t.ks = [] ∨ t.ks.length = t.xs.length + 1 := by
  cases h with
  | zero => exact .inl (leaf_ks no0 t.ks)
  | succ h => exact .inr (w.1 (Nat.succ_pos h))
theorem Srt.item {A B : List Itm} {y : Itm} (h : Srt (A ++ y :: B)) : (∀ a ∈ A, a.k < y.k) ∧ ∀ b ∈ B, y.k < b.k := by
  refine ⟨fun a ha => h.cross ha (List.mem_cons_self ..), fun b hb => ?_⟩
  have : Srt ([y] ++ B) := h.right
  exact this.cross (List.mem_singleton.2 rfl) hb
theorem srt_xs {α : Type} {g : α → List Itm} {xs : List Itm} {ks : List α} (hw : ks = [] ∨ ks.length = xs.length + 1) (hs : Srt (inter xs (ks.map g))) : Srt xs := by
  have key : ∀ (xs : List Itm) (ks : List α), ks.length = xs.length → Srt (postL xs (ks.map g)) → Srt xs ∧ ∀ x ∈ xs, x ∈ postL xs (ks.map g) := by
    intro xs
    induction xs with
    | nil => intro ks _ _; exact ⟨List.Pairwise.nil, fun x hx => by cases hx⟩
    | cons x xs ih =>
      intro ks h hs
      cases ks with
      | nil => simp at h
      | cons k ks =>
        have e : postL (x :: xs) ((k :: ks).map g) = [x] ++ (g k ++ postL xs (ks.map g)) := rfl
        rw [e] at hs ⊢
        obtain ⟨a, b⟩ := ih ks (by simpa using h) hs.right.right
        refine ⟨List.pairwise_cons.2 ⟨fun y hy => hs.cross (List.mem_singleton.2 rfl) (List.mem_append_right _ (b y hy)), a⟩, fun y hy => ?_⟩
        rcases List.mem_cons.1 hy with rfl | hy
        · simp
        · exact List.mem_append_right _ (List.mem_append_right _ (b y hy))
  rcases hw with rfl | hw
  · exact hs
  · cases ks with
    | nil => simp at hw
    | cons k ks => exact (key xs ks (by simpa using hw) (Srt.right (A := g k) hs)).1
theorem get_leaf {xs : List Itm} {k : Int} {i : Nat} (hf : FindAt xs k i false) : getI xs k = none := by
  have e : xs = xs.take i ++ xs.drop i := (List.take_append_drop i xs).symm
  rw [e, get_app hf.mem_lo, get_none hf.mem_hi]
theorem get_step {d h : Nat} {t : Tr (h + 1)} {H : Heap} {l : List HP} (hw : WF d (h + 1) t) (hs : Srt (inL (h + 1) t)) (hn : (inL (h + 1) t).length < 2 ^ 40)
    (ih : ∀ k ∈ t.ks, Srt (inL h k) → ∀ (H : Heap) (l : List HP), Sat H (tr c h k :: cx c f :: l) → CallsH Try.prog 49 ⟨[.pointer (at_ (bk h k)), .agg ⟨e.cells⟩]⟩ H (fun en H1 => en = .returned (.tuple ⟨[.agg ⟨((getI (inL h k) e.k).getD ⟨0, 0⟩).cells⟩, .bool (getI (inL h k) e.k).isSome]⟩) ∧ Sat H1 (tr c h k :: cx c f :: l)))
    (S : Sat H (tr c (h + 1) t :: cx c f :: l)) :
    CallsH Try.prog 49 ⟨[.pointer (at_ t.b), .agg ⟨e.cells⟩]⟩ H (fun en H1 => en = .returned (.tuple ⟨[.agg ⟨((getI (inL (h + 1) t) e.k).getD ⟨0, 0⟩).cells⟩, .bool (getI (inL (h + 1) t) e.k).isSome]⟩) ∧ Sat H1 (tr c (h + 1) t :: cx c f :: l)) := by
  have hor := hw.or
  obtain ⟨hx1, hx2⟩ := xs_len (g := inL h) hor
  rw [inL_succ] at hs hn ⊢
  obtain ⟨ip, ic, cp, cc, S0⟩ := tr_open S
  refine F49.calls ?_
  unfold F49.go
  (repeat (first | (refine Step.go ?_; intros) | refine iteB_t (by decide) ?_ | refine iteB_f (by decide) ?_ | (refine Duo.mk (by first | omega | exact rfl | decide) ?_; intros) | (refine Duo.mk (Clo.mk (by kernel_rfl)) ?_; intros)))
  refine call_of (find_ok (e := e) (srt_xs hor hs) (by omega) (by (refine Sat.to (by assumption) ?_; apply Ent.pick; (focus (repeat (first | exact Sel.here | apply Sel.there))); exact Ent.refl))) ?_
  rintro en H1 ⟨i, found, rfl, hf, S1⟩
  (repeat (first | (refine Step.go ?_; intros) | refine iteB_t (by decide) ?_ | refine iteB_f (by decide) ?_ | (refine Duo.mk (by first | omega | exact rfl | decide) ?_; intros) | (refine Duo.mk (Clo.mk (by kernel_rfl)) ?_; intros)))
  refine iteB_i (fun h1 => ?_) (fun h1 => ?_)
  · subst h1
    obtain ⟨y, hy, hyk⟩ := hf.hit rfl
    have hI := HasI.nat hy
    have hil := lt_of hy
    (repeat (first | (refine Step.go ?_; intros) | refine iteB_t (by decide) ?_ | refine iteB_f (by decide) ?_ | (refine Duo.mk (by first | omega | exact rfl | decide) ?_; intros) | (refine Duo.mk (Clo.mk (by kernel_rfl)) ?_; intros)))
    refine Sat.idx (f := Itm.cells) (E := 25) (z := 2) S1 ⟨by omega, by omega, fun r o hr => ?_⟩
    subst hr
    (repeat (first | (refine Step.go ?_; intros) | refine iteB_t (by decide) ?_ | refine iteB_f (by decide) ?_ | (refine Duo.mk (by first | omega | exact rfl | decide) ?_; intros) | (refine Duo.mk (Clo.mk (by kernel_rfl)) ?_; intros)))
    obtain ⟨A, B, e1, _⟩ := inter_item (g := inL h) hor hy
    rw [e1] at hs ⊢
    have hg : getI (A ++ y :: B) e.k = some y := by rw [get_app (by rw [← hyk]; exact hs.item.1), get_hit hyk.symm]
    rw [hg]
    exact ⟨rfl, tr_shut (ip := some ⟨r, o, none⟩) (ic := ic) (cp := cp) (cc := cc) (n := t.xs.length) (m := t.ks.length) Sat.fin⟩
  · have h1 : found = false := h1
    subst h1
    (repeat (first | (refine Step.go ?_; intros) | refine iteB_t (by decide) ?_ | refine iteB_f (by decide) ?_ | (refine Duo.mk (by first | omega | exact rfl | decide) ?_; intros) | (refine Duo.mk (Clo.mk (by kernel_rfl)) ?_; intros)))
    refine iteB_i (fun h2 => ?_) (fun h2 => ?_)
    · have h3 : 0 < t.ks.length := by have := of_decide_eq_true h2; omega
      have h4 : t.ks.length = t.xs.length + 1 := hor.resolve_left (fun h => by rw [h] at h3; simp at h3)
      obtain ⟨q, e1, e2, e3, _, e5, e6⟩ := around (g := inL h) h4 hs hf
      have hil := hf.le
      have hI : HasI ((t.ks.map (bk h)).map at_) (i : Int) (at_ (bk h q)) := HasI.nat (by simp [e2])
      (repeat (first | (refine Step.go ?_; intros) | refine iteB_t (by decide) ?_ | refine iteB_f (by decide) ?_ | (refine Duo.mk (by first | omega | exact rfl | decide) ?_; intros) | (refine Duo.mk (Clo.mk (by kernel_rfl)) ?_; intros)))
      refine Sat.idx (f := ptC) (E := 74) (z := 1) S1 ⟨by omega, by omega, fun r o hr => ?_⟩
      subst hr
      (repeat (first | (refine Step.go ?_; intros) | refine iteB_t (by decide) ?_ | refine iteB_f (by decide) ?_ | (refine Duo.mk (by first | omega | exact rfl | decide) ?_; intros) | (refine Duo.mk (Clo.mk (by kernel_rfl)) ?_; intros)))
      have S2 : Sat H1 (star (t.ks.map (tr c h)) :: _) := S1.to (Ent.bring (by (repeat (first | exact Sel.here | apply Sel.there))))
      rw [e1] at S2
      have S3 := S2.to kid_out
      rw [e3] at hs ⊢
      refine call_of (ih q (List.mem_of_getElem? e2) hs.right.left H1 _ (by (refine Sat.to (by assumption) ?_; apply Ent.pick; (focus (repeat (first | exact Sel.here | apply Sel.there))); apply Ent.pick; (focus (repeat (first | exact Sel.here | apply Sel.there))); exact Ent.refl))) ?_
      rintro en H2 ⟨rfl, S4⟩
      (repeat (first | (refine Step.go ?_; intros) | refine iteB_t (by decide) ?_ | refine iteB_f (by decide) ?_ | (refine Duo.mk (by first | omega | exact rfl | decide) ?_; intros) | (refine Duo.mk (Clo.mk (by kernel_rfl)) ?_; intros)))
      rename_i H3 S5
      have S6 : Sat H3 (tr c h q :: star ((t.ks.take i ++ t.ks.drop (i + 1)).map (tr c h)) :: _) := S5.to (Ent.pick (by (repeat (first | exact Sel.here | apply Sel.there))) (Ent.pick (by (repeat (first | exact Sel.here | apply Sel.there))) .refl))
      have S7 := S6.to kid_in
      rw [← e1] at S7
      rw [get_app e5, get_front e6]
      exact ⟨rfl, tr_shut (ip := ip) (ic := ic) (cp := some ⟨r, o, none⟩) (cc := cc) (n := t.xs.length) (m := t.ks.length) Sat.fin⟩
    · have h3 : t.ks = [] := List.eq_nil_of_length_eq_zero (by have := of_decide_eq_false h2; omega)
      (repeat (first | (refine Step.go ?_; intros) | refine iteB_t (by decide) ?_ | refine iteB_f (by decide) ?_ | (refine Duo.mk (by first | omega | exact rfl | decide) ?_; intros) | (refine Duo.mk (Clo.mk (by kernel_rfl)) ?_; intros)))
      rw [h3]
      show _ ∧ _
      rw [show inter t.xs (([] : List (Tr h)).map (inL h)) = t.xs from rfl, get_leaf hf]
      exact ⟨rfl, tr_shut (ip := ip) (ic := ic) (cp := cp) (cc := cc) (n := t.xs.length) (m := t.ks.length) Sat.fin⟩
theorem get_ok {d : Nat} : ∀ (h : Nat) (t : Tr (h + 1)), WF d (h + 1) t → Srt (inL (h + 1) t) → (inL (h + 1) t).length < 2 ^ 40 → ∀ (H : Heap) (l : List HP), Sat H (tr c (h + 1) t :: cx c f :: l) →
    CallsH Try.prog 49 ⟨[.pointer (at_ t.b), .agg ⟨e.cells⟩]⟩ H (fun en H1 => en = .returned (.tuple ⟨[.agg ⟨((getI (inL (h + 1) t) e.k).getD ⟨0, 0⟩).cells⟩, .bool (getI (inL (h + 1) t) e.k).isSome]⟩) ∧ Sat H1 (tr c (h + 1) t :: cx c f :: l)) := by
  intro h
  induction h with
  | zero =>
    intro t hw hs hn H l S
    exact get_step hw hs hn (fun k _ => (no0 k).elim) S
  | succ h ih =>
    intro t hw hs hn H l S
    exact get_step hw hs hn (fun k hk hsk => ih k (hw.2 k hk).1 hsk (Nat.lt_of_le_of_lt ((xs_len (g := inL (h + 1)) hw.or).2 k hk) hn)) S
end
end Go.Proofs.Ytdgcdjlomindhaa

set_option linter.unusedVariables false
set_option linter.unusedSimpArgs false
set_option linter.unnecessarySimpa false
namespace Go.Proofs.Ytdgcdjlomindhaa
open Go Go.Den Go.Proofs
/-! The least and the greatest. -/
section
variable {c d r : Nat} {R : Ending → Heap → Prop}
theorem kid_out' {α : Type} {F : α → HP} {ks A B : List α} {k : α} {m : List HP} (h : ks = A ++ k :: B) : Ent (star (ks.map F) :: m) (F k :: star ((A ++ B).map F) :: m) := by subst h; exact kid_out
theorem kid_in' {α : Type} {F : α → HP} {ks A B : List α} {k : α} {m : List HP} (h : ks = A ++ k :: B) : Ent (F k :: star ((A ++ B).map F) :: m) (star (ks.map F) :: m) := by subst h; exact kid_in
theorem inL_ne {h : Nat} {k : Tr h} (hd : 2 ≤ d) (hw : WF d h k) (hk : d ≤ (its h k).length + 1) : inL h k ≠ [] := by
  cases h with
  | zero => exact (no0 k).elim
  | succ h =>
    intro e
    have := (xs_len (g := inL h) (WF.or hw)).1
    have e' : inter k.xs (k.ks.map (inL h)) = [] := e
    rw [e'] at this
    have hk' : d ≤ k.xs.length + 1 := hk
    simp at this
    rw [this] at hk'
    simp at hk'
    omega
theorem wsub1 {n : Nat} (h0 : 0 < n) (h : n < 2 ^ 60) : IntKind.wrap .i64 ((n : Int) - 1) = ((n - 1 : Nat) : Int) := by rw [wr (by omega) (by omega)]; omega
theorem min_loop (hd : 2 ≤ d) : ∀ (h : Nat) (t : Tr (h + 1)), WF d (h + 1) t → ∀ (H : Heap) (l : List HP), Sat H (tr c (h + 1) t :: pt r (.cells ⟨[.int .i64 0, .int .i64 0]⟩ 25) :: l) →
    (∀ H1, Sat H1 (tr c (h + 1) t :: l) → R (.returned (.tuple ⟨[.agg ⟨((inL (h + 1) t).head?.getD ⟨0, 0⟩).cells⟩, .bool (inL (h + 1) t).head?.isSome]⟩)) H1) → F50.L0 (at_ t.b) r false H R := by
  intro h
  induction h with
  | zero =>
    intro t hw H l S K
    have h0 : t.ks = [] := leaf_ks no0 t.ks
    obtain ⟨ip, ic, cp, cc, S0⟩ := tr_open S
    refine F50.L0_step ?_
    unfold F50.L0n
    (repeat (first | (refine Step.go ?_; intros) | refine iteB_t (by decide) ?_ | refine iteB_f (by decide) ?_ | (refine Duo.mk (by first | omega | exact rfl | decide) ?_; intros) | (refine Duo.mk (Clo.mk (by kernel_rfl)) ?_; intros)))
    refine iteB_f (by rw [h0]; decide) ?_
    (repeat (first | (refine Step.go ?_; intros) | refine iteB_t (by decide) ?_ | refine iteB_f (by decide) ?_ | (refine Duo.mk (by first | omega | exact rfl | decide) ?_; intros) | (refine Duo.mk (Clo.mk (by kernel_rfl)) ?_; intros)))
    rw [inL_succ, h0] at K
    have K : ∀ H1, Sat H1 (tr c (0 + 1) t :: l) → R (.returned (.tuple ⟨[.agg ⟨(t.xs.head?.getD ⟨0, 0⟩).cells⟩, .bool t.xs.head?.isSome]⟩)) H1 := K
    refine iteB_i (fun h1 => ?_) (fun h1 => ?_)
    · have e : t.xs = [] := List.eq_nil_of_length_eq_zero (by simpa using h1)
      (repeat (first | (refine Step.go ?_; intros) | refine iteB_t (by decide) ?_ | refine iteB_f (by decide) ?_ | (refine Duo.mk (by first | omega | exact rfl | decide) ?_; intros) | (refine Duo.mk (Clo.mk (by kernel_rfl)) ?_; intros)))
      rw [e] at K
      exact K _ (tr_shut (ip := ip) (ic := ic) (cp := cp) (cc := cc) (n := t.xs.length) (m := t.ks.length) Sat.fin)
    · have h2 : 0 < t.xs.length := by
        rcases Nat.eq_zero_or_pos t.xs.length with h | h
        · rw [h] at h1; cases h1
        · exact h
      obtain ⟨x, hx⟩ := get_of h2
      have hI : HasI t.xs 0 x := ⟨hx⟩
      (repeat (first | (refine Step.go ?_; intros) | refine iteB_t (by decide) ?_ | refine iteB_f (by decide) ?_ | (refine Duo.mk (by first | omega | exact rfl | decide) ?_; intros) | (refine Duo.mk (Clo.mk (by kernel_rfl)) ?_; intros)))
      refine Sat.idx (f := Itm.cells) (E := 25) (z := 2) S0 ⟨by omega, by omega, fun r o hr => ?_⟩
      subst hr
      (repeat (first | (refine Step.go ?_; intros) | refine iteB_t (by decide) ?_ | refine iteB_f (by decide) ?_ | (refine Duo.mk (by first | omega | exact rfl | decide) ?_; intros) | (refine Duo.mk (Clo.mk (by kernel_rfl)) ?_; intros)))
      rw [List.head?_eq_getElem?, hx] at K
      exact K _ (tr_shut (ip := some ⟨r, o, none⟩) (ic := ic) (cp := cp) (cc := cc) (n := t.xs.length) (m := t.ks.length) Sat.fin)
  | succ h ih =>
    intro t hw H l S K
    have h0 : t.ks.length = t.xs.length + 1 := hw.1 (Nat.succ_pos h)
    obtain ⟨k0, ks, hks⟩ : ∃ k ks, t.ks = k :: ks := by
      cases e : t.ks with
      | nil => rw [e] at h0; simp at h0
      | cons a b => exact ⟨a, b, rfl⟩
    obtain ⟨ip, ic, cp, cc, S0⟩ := tr_open S
    refine F50.L0_step ?_
    unfold F50.L0n
    (repeat (first | (refine Step.go ?_; intros) | refine iteB_t (by decide) ?_ | refine iteB_f (by decide) ?_ | (refine Duo.mk (by first | omega | exact rfl | decide) ?_; intros) | (refine Duo.mk (Clo.mk (by kernel_rfl)) ?_; intros)))
    refine iteB_t (by rw [h0]; simp) ?_
    have hI : HasI ((t.ks.map (bk (h + 1))).map at_) 0 (at_ (bk (h + 1) k0)) := ⟨by rw [hks]; rfl⟩
    (repeat (first | (refine Step.go ?_; intros) | refine iteB_t (by decide) ?_ | refine iteB_f (by decide) ?_ | (refine Duo.mk (by first | omega | exact rfl | decide) ?_; intros) | (refine Duo.mk (Clo.mk (by kernel_rfl)) ?_; intros)))
    refine Sat.idx (f := ptC) (E := 74) (z := 1) S0 ⟨by omega, by omega, fun r o hr => ?_⟩
    subst hr
    (repeat (first | (refine Step.go ?_; intros) | refine iteB_t (by decide) ?_ | refine iteB_f (by decide) ?_ | (refine Duo.mk (by first | omega | exact rfl | decide) ?_; intros) | (refine Duo.mk (Clo.mk (by kernel_rfl)) ?_; intros)))
    have hk := hw.2 k0 (by rw [hks]; exact List.mem_cons_self ..)
    have S2 : Sat H (star (t.ks.map (tr c (h + 1))) :: _) := S0.to (Ent.bring (by (repeat (first | exact Sel.here | apply Sel.there))))
    have S3 := S2.to (kid_out' (A := []) hks)
    rw [List.nil_append] at S3
    refine ih k0 hk.1 H (star (ks.map (tr c (h + 1))) :: pt t.b _ :: sI ip t.xs.length ic t.xs :: sP (some ⟨r, o, none⟩) t.ks.length cc ((t.ks.map (bk (h + 1))).map at_) :: l) (by (refine Sat.to (by assumption) ?_; apply Ent.pick; (focus (repeat (first | exact Sel.here | apply Sel.there))); apply Ent.pick; (focus (repeat (first | exact Sel.here | apply Sel.there))); apply Ent.pick; (focus (repeat (first | exact Sel.here | apply Sel.there))); apply Ent.pick; (focus (repeat (first | exact Sel.here | apply Sel.there))); apply Ent.pick; (focus (repeat (first | exact Sel.here | apply Sel.there))); apply Ent.pick; (focus (repeat (first | exact Sel.here | apply Sel.there))); exact Ent.refl)) ?_
    intro H1 S4
    have e : inL (h + 1 + 1) t = inL (h + 1) k0 ++ postL t.xs (ks.map (inL (h + 1))) := by rw [inL_succ, hks]; rfl
    obtain ⟨x, L, hL⟩ := List.exists_cons_of_ne_nil (inL_ne hd hk.1 hk.2)
    rw [hL] at e
    rw [e] at K
    rw [hL]
    have S5 := S4.to (kid_in' (F := tr c (h + 1)) (A := []) (B := ks) (k := k0) hks)
    exact K H1 (tr_shut (ip := ip) (ic := ic) (cp := some ⟨r, o, none⟩) (cc := cc) (n := t.xs.length) (m := t.ks.length) Sat.fin)
theorem max_loop (hd : 2 ≤ d) : ∀ (h : Nat) (t : Tr (h + 1)), WF d (h + 1) t → (inL (h + 1) t).length < 2 ^ 40 → ∀ (H : Heap) (l : List HP), Sat H (tr c (h + 1) t :: pt r (.cells ⟨[.int .i64 0, .int .i64 0]⟩ 25) :: l) →
    (∀ H1, Sat H1 (tr c (h + 1) t :: l) → R (.returned (.tuple ⟨[.agg ⟨((inL (h + 1) t).getLast?.getD ⟨0, 0⟩).cells⟩, .bool (inL (h + 1) t).getLast?.isSome]⟩)) H1) → F51.L0 (at_ t.b) r false H R := by
  intro h
  induction h with
  | zero =>
    intro t hw hn H l S K
    have h0 : t.ks = [] := leaf_ks no0 t.ks
    have hxl := (xs_len (g := inL 0) (xs := t.xs) (ks := t.ks) hw.or).1
    rw [inL_succ] at hn
    obtain ⟨ip, ic, cp, cc, S0⟩ := tr_open S
    refine F51.L0_step ?_
    unfold F51.L0n
    (repeat (first | (refine Step.go ?_; intros) | refine iteB_t (by decide) ?_ | refine iteB_f (by decide) ?_ | (refine Duo.mk (by first | omega | exact rfl | decide) ?_; intros) | (refine Duo.mk (Clo.mk (by kernel_rfl)) ?_; intros)))
    refine iteB_f (by rw [h0]; decide) ?_
    (repeat (first | (refine Step.go ?_; intros) | refine iteB_t (by decide) ?_ | refine iteB_f (by decide) ?_ | (refine Duo.mk (by first | omega | exact rfl | decide) ?_; intros) | (refine Duo.mk (Clo.mk (by kernel_rfl)) ?_; intros)))
    rw [inL_succ, h0] at K
    have K : ∀ H1, Sat H1 (tr c (0 + 1) t :: l) → R (.returned (.tuple ⟨[.agg ⟨(t.xs.getLast?.getD ⟨0, 0⟩).cells⟩, .bool t.xs.getLast?.isSome]⟩)) H1 := K
    refine iteB_i (fun h1 => ?_) (fun h1 => ?_)
    · have e : t.xs = [] := List.eq_nil_of_length_eq_zero (by simpa using h1)
      (repeat (first | (refine Step.go ?_; intros) | refine iteB_t (by decide) ?_ | refine iteB_f (by decide) ?_ | (refine Duo.mk (by first | omega | exact rfl | decide) ?_; intros) | (refine Duo.mk (Clo.mk (by kernel_rfl)) ?_; intros)))
      rw [e] at K
      exact K _ (tr_shut (ip := ip) (ic := ic) (cp := cp) (cc := cc) (n := t.xs.length) (m := t.ks.length) Sat.fin)
    · have h2 : 0 < t.xs.length := by
        rcases Nat.eq_zero_or_pos t.xs.length with h | h
        · rw [h] at h1; cases h1
        · exact h
      obtain ⟨x, hx⟩ := get_of (l := t.xs) (i := t.xs.length - 1) (by omega)
      have hI : HasI t.xs ((t.xs.length - 1 : Nat) : Int) x := .nat hx
      (repeat (first | (refine Step.go ?_; intros) | refine iteB_t (by decide) ?_ | refine iteB_f (by decide) ?_ | (refine Duo.mk (by first | omega | exact rfl | decide) ?_; intros) | (refine Duo.mk (Clo.mk (by kernel_rfl)) ?_; intros)))
      rw [wsub1 h2 (by omega)]
      refine Sat.idx (f := Itm.cells) (E := 25) (z := 2) S0 ⟨by omega, by omega, fun r o hr => ?_⟩
      subst hr
      (repeat (first | (refine Step.go ?_; intros) | refine iteB_t (by decide) ?_ | refine iteB_f (by decide) ?_ | (refine Duo.mk (by first | omega | exact rfl | decide) ?_; intros) | (refine Duo.mk (Clo.mk (by kernel_rfl)) ?_; intros)))
      rw [List.getLast?_eq_getElem?, hx] at K
      exact K _ (tr_shut (ip := some ⟨r, o, none⟩) (ic := ic) (cp := cp) (cc := cc) (n := t.xs.length) (m := t.ks.length) Sat.fin)
  | succ h ih =>
    intro t hw hn H l S K
    have h0 : t.ks.length = t.xs.length + 1 := hw.1 (Nat.succ_pos h)
    obtain ⟨hxl, hxk⟩ := (xs_len (g := inL (h + 1)) (xs := t.xs) (ks := t.ks) hw.or)
    rw [inL_succ] at hn
    obtain ⟨ks, k0, hks⟩ : ∃ ks k, t.ks = ks ++ [k] := by
      rcases List.eq_nil_or_concat t.ks with e | ⟨ks, k, e⟩
      · rw [e] at h0; simp at h0
      · exact ⟨ks, k, by rw [e, List.concat_eq_append]⟩
    have hkl : ks.length = t.xs.length := by rw [hks] at h0; simp at h0; exact h0
    obtain ⟨ip, ic, cp, cc, S0⟩ := tr_open S
    refine F51.L0_step ?_
    unfold F51.L0n
    (repeat (first | (refine Step.go ?_; intros) | refine iteB_t (by decide) ?_ | refine iteB_f (by decide) ?_ | (refine Duo.mk (by first | omega | exact rfl | decide) ?_; intros) | (refine Duo.mk (Clo.mk (by kernel_rfl)) ?_; intros)))
    refine iteB_t (by rw [h0]; simp) ?_
    have hI : HasI ((t.ks.map (bk (h + 1))).map at_) ((t.xs.length : Nat) : Int) (at_ (bk (h + 1) k0)) := .nat (by rw [hks, ← hkl]; simp)
    (repeat (first | (refine Step.go ?_; intros) | refine iteB_t (by decide) ?_ | refine iteB_f (by decide) ?_ | (refine Duo.mk (by first | omega | exact rfl | decide) ?_; intros) | (refine Duo.mk (Clo.mk (by kernel_rfl)) ?_; intros)))
    rw [wsub1 (n := t.ks.length) (by omega) (by omega), show t.ks.length - 1 = t.xs.length by omega]
    refine Sat.idx (f := ptC) (E := 74) (z := 1) S0 ⟨by omega, by omega, fun r o hr => ?_⟩
    subst hr
    (repeat (first | (refine Step.go ?_; intros) | refine iteB_t (by decide) ?_ | refine iteB_f (by decide) ?_ | (refine Duo.mk (by first | omega | exact rfl | decide) ?_; intros) | (refine Duo.mk (Clo.mk (by kernel_rfl)) ?_; intros)))
    have hm : k0 ∈ t.ks := by rw [hks]; simp
    have hk := hw.2 k0 hm
    have S2 : Sat H (star (t.ks.map (tr c (h + 1))) :: _) := S0.to (Ent.bring (by (repeat (first | exact Sel.here | apply Sel.there))))
    have S3 := S2.to (kid_out' (A := ks) (B := []) hks)
    rw [List.append_nil] at S3
    refine ih k0 hk.1 (Nat.lt_of_le_of_lt (hxk k0 hm) hn) H (star (ks.map (tr c (h + 1))) :: pt t.b _ :: sI ip t.xs.length ic t.xs :: sP (some ⟨r, o, none⟩) t.ks.length cc ((t.ks.map (bk (h + 1))).map at_) :: l) (by (refine Sat.to (by assumption) ?_; apply Ent.pick; (focus (repeat (first | exact Sel.here | apply Sel.there))); apply Ent.pick; (focus (repeat (first | exact Sel.here | apply Sel.there))); apply Ent.pick; (focus (repeat (first | exact Sel.here | apply Sel.there))); apply Ent.pick; (focus (repeat (first | exact Sel.here | apply Sel.there))); apply Ent.pick; (focus (repeat (first | exact Sel.here | apply Sel.there))); apply Ent.pick; (focus (repeat (first | exact Sel.here | apply Sel.there))); exact Ent.refl)) ?_
    intro H1 S4
    have e : inL (h + 1 + 1) t = preL t.xs (ks.map (inL (h + 1))) ++ inL (h + 1) k0 := by
      have := inter_split (xs1 := t.xs) (xs2 := []) (k := inL (h + 1) k0) (ks1 := ks.map (inL (h + 1))) (ks2 := []) (by simp [hkl])
      rw [List.append_nil] at this
      rw [inL_succ, hks, List.map_append, List.map_cons, List.map_nil, this]
      simp [postL]
    rw [e] at K
    have hne := inL_ne hd hk.1 hk.2
    obtain ⟨x, hx⟩ : ∃ x, (inL (h + 1) k0).getLast? = some x := by
      cases e' : (inL (h + 1) k0).getLast? with
      | none => exact absurd (List.getLast?_eq_none_iff.1 e') hne
      | some x => exact ⟨x, rfl⟩
    rw [hx]
    rw [List.getLast?_append, hx] at K
    rw [show ks = ks ++ [] by simp] at S4
    have S5 := S4.to (kid_in' (F := tr c (h + 1)) (A := ks) (B := []) (k := k0) hks)
    exact K H1 (tr_shut (ip := ip) (ic := ic) (cp := some ⟨r, o, none⟩) (cc := cc) (n := t.xs.length) (m := t.ks.length) Sat.fin)
end
end Go.Proofs.Ytdgcdjlomindhaa

set_option linter.unusedVariables false
set_option linter.unusedSimpArgs false
set_option linter.unnecessarySimpa false
namespace Go.Proofs.Ytdgcdjlomindhaa
open Go Go.Den Go.Proofs
/-! All elements listed, upwards. -/
theorem cut_at' {α : Type} {l : List α} {i : Nat} (h : i < l.length) : ∃ q, l = l.take i ++ q :: l.drop (i + 1) ∧ l[i]? = some q ∧ l.drop i = q :: l.drop (i + 1) :=
  ⟨l[i], by rw [List.getElem_cons_drop, List.take_append_drop], List.getElem?_eq_getElem h, by rw [List.getElem_cons_drop]⟩
def acc (r : Nat) (L : List Itm) : HP := ex fun (q : Option Addr × Nat) => star [pt r (.cells ⟨[.slice q.1 L.length q.2]⟩ 22), sI q.1 L.length q.2 L]
abbrev opC (k t a b f u : Int) (g : Bool) : List Value := [.int .i64 k, .int .i64 t, .int .i64 a, .int .i64 b, .int .i64 f, .int .i64 u, .int .i64 0, .bool g]
abbrev visF (rq ro : Nat) : FV := .mk (.func 53) ⟨[]⟩ ⟨[.pointer (at_ rq), .pointer (at_ ro)]⟩
theorem inter_snoc {x : Itm} {k : List Itm} {xs : List Itm} {ks : List (List Itm)} (h : ks.length = xs.length + 1) : inter (xs ++ [x]) (ks ++ [k]) = inter xs ks ++ x :: k := by
  rcases List.eq_nil_or_concat ks with e | ⟨ks, q, e⟩
  · rw [e] at h; simp at h
  · rw [List.concat_eq_append] at e
    subst e
    have hl : xs.length = ks.length := by simp at h; omega
    have h1 := inter_split (xs1 := xs) (xs2 := []) (k := q) (ks1 := ks) (ks2 := []) hl
    have h2 := inter_split (xs1 := xs ++ [x]) (xs2 := []) (k := k) (ks1 := ks ++ [q]) (ks2 := []) (by simp [hl])
    rw [List.append_nil] at h1 h2
    rw [h1, h2, preL_snoc hl]
    simp [postL]
section
variable {H : Heap} {l : List HP} {c rq ro : Nat} {k t a b f u : Int} {g : Bool}
theorem visit_ok {L : List Itm} {x : Itm} (hn : L.length < 2 ^ 40) (S : Sat H (acc rq L :: pt ro (.cells ⟨opC k t a b f u g⟩ 30) :: l)) :
    CallsH Try.prog 53 ⟨[.agg ⟨x.cells⟩, .pointer (at_ rq), .pointer (at_ ro)]⟩ H (fun en H1 => en = .returned (.bool true) ∧ Sat H1 (acc rq (L ++ [x]) :: pt ro (.cells ⟨opC k t a b f u g⟩ 30) :: l)) := by
  obtain ⟨⟨q, qc⟩, S0⟩ := S.ex
  have S0 := S0.star
  have S0 : Sat H (pt rq (.cells ⟨[.slice q L.length qc]⟩ 22) :: sI q L.length qc L :: pt ro (.cells ⟨opC k t a b f u g⟩ 30) :: l) := S0
  refine F53.calls ?_
  unfold F53.go
  (repeat (first | (refine Step.go ?_; intros) | refine iteB_t (by decide) ?_ | refine iteB_f (by decide) ?_ | (refine Duo.mk (by first | omega | exact rfl | decide) ?_; intros) | (refine Duo.mk (Clo.mk (by kernel_rfl)) ?_; intros)))
  rename_i q' qc' H2 S2 H3 S3
  refine ⟨rfl, ?_⟩
  have S4 : Sat H3 (pt rq (.cells ⟨[.slice q' (L.length + 1) qc']⟩ 22) :: sI q' (L.length + 1) qc' (L ++ [x]) :: pt ro (.cells ⟨opC k t a b f u g⟩ 30) :: l) := Sat.fin
  have e : L.length + 1 = (L ++ [x]).length := by simp
  rw [e] at S4
  exact S4.to (Ent.ex (q', qc') (.star .refl))
abbrev args72 (b : Nat) (dir : Int) (hit : Bool) (rq ro : Nat) : List Value := [.pointer (at_ b), .int .i64 dir, .agg ⟨[.int .i64 0, .int .i64 0, .bool false]⟩, .agg ⟨[.int .i64 0, .int .i64 0, .bool false]⟩, .bool false, .bool hit, FV.v (visF rq ro)]
theorem asc_loop {h : Nat} {tt : Tr (h + 1)} {r r1 : Nat} {R : Ending → Heap → Prop} {M : List Itm} (hor : tt.ks = [] ∨ tt.ks.length = tt.xs.length + 1) (hx : M.length + (inL (h + 1) tt).length < 2 ^ 40)
    (ih : ∀ k' ∈ tt.ks, ∀ (hit : Bool) (L : List Itm) (H : Heap) (l : List HP), L.length + (inL h k').length < 2 ^ 40 → Sat H (tr c h k' :: acc rq L :: pt ro (.cells ⟨opC k t a b f u g⟩ 30) :: l) →
      CallsH Try.prog 72 ⟨args72 (bk h k') 1 hit rq ro⟩ H (fun en H1 => ∃ hit', en = .returned (.tuple ⟨[.bool hit', .bool true]⟩) ∧ Sat H1 (tr c h k' :: acc rq (L ++ inL h k') :: pt ro (.cells ⟨opC k t a b f u g⟩ 30) :: l)))
    (K : ∀ hit' H1, Sat H1 (tr c (h + 1) tt :: acc rq (M ++ inL (h + 1) tt) :: pt ro (.cells ⟨opC k t a b f u g⟩ 30) :: l) → R (.returned (.tuple ⟨[.bool hit', .bool true]⟩)) H1) :
    ∀ (m i : Nat) (L : List Itm) (hit : Bool) (H : Heap), i + m = tt.xs.length → L ++ inter (tt.xs.drop i) ((tt.ks.drop i).map (inL h)) = M ++ inL (h + 1) tt →
      Sat H (tr c (h + 1) tt :: acc rq L :: pt ro (.cells ⟨opC k t a b f u g⟩ 30) :: pt r (.cells ⟨[.int .i64 0, .int .i64 0, .bool false]⟩ 119) :: pt r1 (.cells ⟨[.int .i64 0, .int .i64 0, .bool false]⟩ 119) :: l) →
      F72.L8 (at_ tt.b) 1 false hit (visF rq ro) r r1 (i : Int) H R := by
  have hxl := xs_len (g := inL h) hor
  rw [inL_succ] at hx
  intro m
  induction m with
  | zero =>
    intro i L hit H hi hL S
    have hd : tt.xs.drop i = [] := List.drop_eq_nil_of_le (by omega)
    have hLl := congrArg List.length hL
    rw [inL_succ] at hLl
    simp only [List.length_append] at hLl
    obtain ⟨ip, ic, cp, cc, S0⟩ := tr_open S
    refine F72.L8_step ?_
    unfold F72.L8n
    (repeat (first | (refine Step.go ?_; intros) | refine iteB_t (by decide) ?_ | refine iteB_f (by decide) ?_ | (refine Duo.mk (by first | omega | exact rfl | decide) ?_; intros) | (refine Duo.mk (Clo.mk (by kernel_rfl)) ?_; intros)))
    refine iteB_f (by simp; omega) ?_
    (repeat (first | (refine Step.go ?_; intros) | refine iteB_t (by decide) ?_ | refine iteB_f (by decide) ?_ | (refine Duo.mk (by first | omega | exact rfl | decide) ?_; intros) | (refine Duo.mk (Clo.mk (by kernel_rfl)) ?_; intros)))
    refine iteB_i (fun h1 => ?_) (fun h1 => ?_)
    · have h2 : 0 < tt.ks.length := by have := of_decide_eq_true h1; omega
      have h3 : tt.ks.length = tt.xs.length + 1 := hor.resolve_left (fun h => by rw [h] at h2; simp at h2)
      obtain ⟨q, e1, e2, e5⟩ := cut_at' (l := tt.ks) (i := tt.xs.length) (by omega)
      have hi : i = tt.xs.length := by omega
      subst hi
      have e3 : tt.ks.drop (tt.xs.length + 1) = [] := List.drop_eq_nil_of_le (by omega)
      have hI : HasI ((tt.ks.map (bk h)).map at_) ((tt.xs.length : Nat) : Int) (at_ (bk h q)) := .nat (by simp [e2])
      have hq := List.mem_of_getElem? e2
      have e4 : L ++ inL h q = M ++ inL (h + 1) tt := by
        rw [← hL, hd, e5, e3]
        simp [inter, postL]
      have e4l := congrArg List.length e4
      rw [inL_succ] at e4l
      simp only [List.length_append] at e4l
      (repeat (first | (refine Step.go ?_; intros) | refine iteB_t (by decide) ?_ | refine iteB_f (by decide) ?_ | (refine Duo.mk (by first | omega | exact rfl | decide) ?_; intros) | (refine Duo.mk (Clo.mk (by kernel_rfl)) ?_; intros)))
      rw [wsub1 (n := tt.ks.length) (by omega) (by omega), show tt.ks.length - 1 = tt.xs.length by omega]
      refine Sat.idx (f := ptC) (E := 74) (z := 1) S0 ⟨by omega, by omega, fun r o hr => ?_⟩
      subst hr
      (repeat (first | (refine Step.go ?_; intros) | refine iteB_t (by decide) ?_ | refine iteB_f (by decide) ?_ | (refine Duo.mk (by first | omega | exact rfl | decide) ?_; intros) | (refine Duo.mk (Clo.mk (by kernel_rfl)) ?_; intros)))
      have S2 : Sat H (star (tt.ks.map (tr c h)) :: _) := S0.to (Ent.bring (by (repeat (first | exact Sel.here | apply Sel.there))))
      have S3 := S2.to (kid_out' e1)
      refine call_of (ih q hq hit L H _ (by omega) (by (refine Sat.to (by assumption) ?_; apply Ent.pick; (focus (repeat (first | exact Sel.here | apply Sel.there))); apply Ent.pick; (focus (repeat (first | exact Sel.here | apply Sel.there))); apply Ent.pick; (focus (repeat (first | exact Sel.here | apply Sel.there))); exact Ent.refl))) ?_
      rintro en H1 ⟨hit', rfl, S4⟩
      (repeat (first | (refine Step.go ?_; intros) | refine iteB_t (by decide) ?_ | refine iteB_f (by decide) ?_ | (refine Duo.mk (by first | omega | exact rfl | decide) ?_; intros) | (refine Duo.mk (Clo.mk (by kernel_rfl)) ?_; intros)))
      have S5 : Sat H1 (tr c h q :: star ((tt.ks.take tt.xs.length ++ tt.ks.drop (tt.xs.length + 1)).map (tr c h)) :: _) := S4.to (Ent.pick (by (repeat (first | exact Sel.here | apply Sel.there))) (Ent.pick (by (repeat (first | exact Sel.here | apply Sel.there))) .refl))
      have S6 := S5.to (kid_in' e1)
      rw [e4] at S6
      refine K hit' H1 ?_
      exact tr_shut (ip := ip) (ic := ic) (cp := some ⟨r, o, none⟩) (cc := cc) (n := tt.xs.length) (m := tt.ks.length) Sat.fin
    · have h3 : tt.ks = [] := List.eq_nil_of_length_eq_zero (by have := of_decide_eq_false h1; omega)
      have e4 : L = M ++ inL (h + 1) tt := by
        rw [← hL, hd, h3]; simp [inter]
      rw [e4] at S0
      refine K hit H ?_
      exact tr_shut (ip := ip) (ic := ic) (cp := cp) (cc := cc) (n := tt.xs.length) (m := tt.ks.length) Sat.fin
  | succ m ihm =>
    intro i L hit H hi hL S
    obtain ⟨x, ex1, ex2, ex3⟩ := cut_at' (l := tt.xs) (i := i) (by omega)
    have hLl := congrArg List.length hL
    rw [inL_succ] at hLl
    simp only [List.length_append] at hLl
    have step9 : ∀ (hit : Bool) (L : List Itm) (H : Heap), L ++ x :: inter (tt.xs.drop (i + 1)) ((tt.ks.drop (i + 1)).map (inL h)) = M ++ inL (h + 1) tt →
      Sat H (tr c (h + 1) tt :: acc rq L :: pt ro (.cells ⟨opC k t a b f u g⟩ 30) :: pt r (.cells ⟨[.int .i64 0, .int .i64 0, .bool false]⟩ 119) :: pt r1 (.cells ⟨[.int .i64 0, .int .i64 0, .bool false]⟩ 119) :: l) →
      F72.L9 (at_ tt.b) 1 false hit (visF rq ro) r r1 (i : Int) H R := by
      intro hit L H hL S
      have hLl := congrArg List.length hL
      rw [inL_succ] at hLl
      simp only [List.length_append, List.length_cons] at hLl
      have go10 : F72.L10 (at_ tt.b) 1 false (visF rq ro) r r1 (i : Int) H R := by
        refine F72.L10_step ?_
        unfold F72.L10n
        (repeat (first | (refine Step.go ?_; intros) | refine iteB_t (by decide) ?_ | refine iteB_f (by decide) ?_ | (refine Duo.mk (by first | omega | exact rfl | decide) ?_; intros) | (refine Duo.mk (Clo.mk (by kernel_rfl)) ?_; intros)))
        refine F72.L11_step ?_
        unfold F72.L11n
        obtain ⟨ip, ic, cp, cc, S0⟩ := tr_open S
        have hI : HasI tt.xs (i : Int) x := .nat ex2
        (repeat (first | (refine Step.go ?_; intros) | refine iteB_t (by decide) ?_ | refine iteB_f (by decide) ?_ | (refine Duo.mk (by first | omega | exact rfl | decide) ?_; intros) | (refine Duo.mk (Clo.mk (by kernel_rfl)) ?_; intros)))
        refine Sat.idx (f := Itm.cells) (E := 25) (z := 2) S0 ⟨by omega, by omega, fun r o hr => ?_⟩
        subst hr
        (repeat (first | (refine Step.go ?_; intros) | refine iteB_t (by decide) ?_ | refine iteB_f (by decide) ?_ | (refine Duo.mk (by first | omega | exact rfl | decide) ?_; intros) | (refine Duo.mk (Clo.mk (by kernel_rfl)) ?_; intros)))
        refine call_of (visit_ok (x := x) (L := L) (by omega) (by (refine Sat.to (by assumption) ?_; apply Ent.pick; (focus (repeat (first | exact Sel.here | apply Sel.there))); apply Ent.pick; (focus (repeat (first | exact Sel.here | apply Sel.there))); exact Ent.refl))) ?_
        rintro en H1 ⟨rfl, S1⟩
        (repeat (first | (refine Step.go ?_; intros) | refine iteB_t (by decide) ?_ | refine iteB_f (by decide) ?_ | (refine Duo.mk (by first | omega | exact rfl | decide) ?_; intros) | (refine Duo.mk (Clo.mk (by kernel_rfl)) ?_; intros)))
        refine F72.L13_step ?_
        unfold F72.L13n
        rw [wadd (by omega)]
        refine ihm (i + 1) (L ++ [x]) true H1 (by omega) (by rw [← hL]; simp) ?_
        exact tr_shut (ip := some ⟨r, o, none⟩) (ic := ic) (cp := cp) (cc := cc) (n := tt.xs.length) (m := tt.ks.length) Sat.fin
      refine F72.L9_step ?_
      unfold F72.L9n
      refine iteB_t (by decide) ?_
      cases hit
      · refine iteB_t (by decide) ?_
        (repeat (first | (refine Step.go ?_; intros) | refine iteB_t (by decide) ?_ | refine iteB_f (by decide) ?_ | (refine Duo.mk (by first | omega | exact rfl | decide) ?_; intros) | (refine Duo.mk (Clo.mk (by kernel_rfl)) ?_; intros)))
        exact go10
      · refine iteB_f (by decide) ?_
        exact go10
    obtain ⟨ip, ic, cp, cc, S0⟩ := tr_open S
    refine F72.L8_step ?_
    unfold F72.L8n
    (repeat (first | (refine Step.go ?_; intros) | refine iteB_t (by decide) ?_ | refine iteB_f (by decide) ?_ | (refine Duo.mk (by first | omega | exact rfl | decide) ?_; intros) | (refine Duo.mk (Clo.mk (by kernel_rfl)) ?_; intros)))
    refine iteB_t (by simp; omega) ?_
    (repeat (first | (refine Step.go ?_; intros) | refine iteB_t (by decide) ?_ | refine iteB_f (by decide) ?_ | (refine Duo.mk (by first | omega | exact rfl | decide) ?_; intros) | (refine Duo.mk (Clo.mk (by kernel_rfl)) ?_; intros)))
    refine iteB_i (fun h1 => ?_) (fun h1 => ?_)
    · have h2 : 0 < tt.ks.length := by have := of_decide_eq_true h1; omega
      have h3 : tt.ks.length = tt.xs.length + 1 := hor.resolve_left (fun h => by rw [h] at h2; simp at h2)
      obtain ⟨q, e1, e2, e5⟩ := cut_at' (l := tt.ks) (i := i) (by omega)
      have e7 : L ++ inL h q ++ x :: inter (tt.xs.drop (i + 1)) ((tt.ks.drop (i + 1)).map (inL h)) = M ++ inL (h + 1) tt := by
        rw [← hL, ex3]
        obtain ⟨q2, ks2, e6⟩ : ∃ q2 ks2, tt.ks.drop (i + 1) = q2 :: ks2 := by
          cases e : tt.ks.drop (i + 1) with
          | nil => have := congrArg List.length e; rw [List.length_drop] at this; simp at this; omega
          | cons a b => exact ⟨a, b, rfl⟩
        rw [e5, e6]
        simp [inter, postL]
      have e7l := congrArg List.length e7
      rw [inL_succ] at e7l
      simp only [List.length_append] at e7l
      have hI : HasI ((tt.ks.map (bk h)).map at_) (i : Int) (at_ (bk h q)) := .nat (by simp [e2])
      have hq := List.mem_of_getElem? e2
      (repeat (first | (refine Step.go ?_; intros) | refine iteB_t (by decide) ?_ | refine iteB_f (by decide) ?_ | (refine Duo.mk (by first | omega | exact rfl | decide) ?_; intros) | (refine Duo.mk (Clo.mk (by kernel_rfl)) ?_; intros)))
      refine Sat.idx (f := ptC) (E := 74) (z := 1) S0 ⟨by omega, by omega, fun r o hr => ?_⟩
      subst hr
      (repeat (first | (refine Step.go ?_; intros) | refine iteB_t (by decide) ?_ | refine iteB_f (by decide) ?_ | (refine Duo.mk (by first | omega | exact rfl | decide) ?_; intros) | (refine Duo.mk (Clo.mk (by kernel_rfl)) ?_; intros)))
      have S2 : Sat H (star (tt.ks.map (tr c h)) :: _) := S0.to (Ent.bring (by (repeat (first | exact Sel.here | apply Sel.there))))
      have S3 := S2.to (kid_out' e1)
      refine call_of (ih q hq hit L H _ (by omega) (by (refine Sat.to (by assumption) ?_; apply Ent.pick; (focus (repeat (first | exact Sel.here | apply Sel.there))); apply Ent.pick; (focus (repeat (first | exact Sel.here | apply Sel.there))); apply Ent.pick; (focus (repeat (first | exact Sel.here | apply Sel.there))); exact Ent.refl))) ?_
      rintro en H1 ⟨hit', rfl, S4⟩
      (repeat (first | (refine Step.go ?_; intros) | refine iteB_t (by decide) ?_ | refine iteB_f (by decide) ?_ | (refine Duo.mk (by first | omega | exact rfl | decide) ?_; intros) | (refine Duo.mk (Clo.mk (by kernel_rfl)) ?_; intros)))
      have S5 : Sat H1 (tr c h q :: star ((tt.ks.take i ++ tt.ks.drop (i + 1)).map (tr c h)) :: _) := S4.to (Ent.pick (by (repeat (first | exact Sel.here | apply Sel.there))) (Ent.pick (by (repeat (first | exact Sel.here | apply Sel.there))) .refl))
      have S6 := S5.to (kid_in' e1)
      refine step9 hit' (L ++ inL h q) H1 e7 ?_
      exact tr_shut (ip := ip) (ic := ic) (cp := some ⟨r, o, none⟩) (cc := cc) (n := tt.xs.length) (m := tt.ks.length) Sat.fin
    · have h3 : tt.ks = [] := List.eq_nil_of_length_eq_zero (by have := of_decide_eq_false h1; omega)
      refine step9 hit L H ?_ ?_
      · rw [← hL, ex3, h3]; simp [inter]
      · exact tr_shut (ip := ip) (ic := ic) (cp := cp) (cc := cc) (n := tt.xs.length) (m := tt.ks.length) Sat.fin
theorem asc_ok : ∀ (h : Nat) (d : Nat) (tt : Tr (h + 1)), WF d (h + 1) tt → ∀ (hit : Bool) (L : List Itm) (H : Heap) (l : List HP), L.length + (inL (h + 1) tt).length < 2 ^ 40 → Sat H (tr c (h + 1) tt :: acc rq L :: pt ro (.cells ⟨opC k t a b f u g⟩ 30) :: l) →
      CallsH Try.prog 72 ⟨args72 tt.b 1 hit rq ro⟩ H (fun en H1 => ∃ hit', en = .returned (.tuple ⟨[.bool hit', .bool true]⟩) ∧ Sat H1 (tr c (h + 1) tt :: acc rq (L ++ inL (h + 1) tt) :: pt ro (.cells ⟨opC k t a b f u g⟩ 30) :: l)) := by
  have key : ∀ (h : Nat) (d : Nat) (tt : Tr (h + 1)), WF d (h + 1) tt → (∀ k' ∈ tt.ks, ∀ (hit : Bool) (L : List Itm) (H : Heap) (l : List HP), L.length + (inL h k').length < 2 ^ 40 → Sat H (tr c h k' :: acc rq L :: pt ro (.cells ⟨opC k t a b f u g⟩ 30) :: l) →
      CallsH Try.prog 72 ⟨args72 (bk h k') 1 hit rq ro⟩ H (fun en H1 => ∃ hit', en = .returned (.tuple ⟨[.bool hit', .bool true]⟩) ∧ Sat H1 (tr c h k' :: acc rq (L ++ inL h k') :: pt ro (.cells ⟨opC k t a b f u g⟩ 30) :: l))) →
      ∀ (hit : Bool) (L : List Itm) (H : Heap) (l : List HP), L.length + (inL (h + 1) tt).length < 2 ^ 40 → Sat H (tr c (h + 1) tt :: acc rq L :: pt ro (.cells ⟨opC k t a b f u g⟩ 30) :: l) →
      CallsH Try.prog 72 ⟨args72 tt.b 1 hit rq ro⟩ H (fun en H1 => ∃ hit', en = .returned (.tuple ⟨[.bool hit', .bool true]⟩) ∧ Sat H1 (tr c (h + 1) tt :: acc rq (L ++ inL (h + 1) tt) :: pt ro (.cells ⟨opC k t a b f u g⟩ 30) :: l)) := by
    intro h d tt hw ih hit L H l hn S
    refine F72.calls (s6 := visF rq ro) ?_
    unfold F72.go
    (repeat (first | (refine Step.go ?_; intros) | refine iteB_t (by decide) ?_ | refine iteB_f (by decide) ?_ | (refine Duo.mk (by first | omega | exact rfl | decide) ?_; intros) | (refine Duo.mk (Clo.mk (by kernel_rfl)) ?_; intros)))
    rename_i r H1 S1 r1 H2 S2
    refine F72.L7_step ?_
    unfold F72.L7n
    refine asc_loop (c := c) (M := L) (l := l) hw.or hn ih ?_ tt.xs.length 0 L hit _ (by omega) (by simp [inL_succ]) (by (refine Sat.to (by assumption) ?_; apply Ent.pick; (focus (repeat (first | exact Sel.here | apply Sel.there))); apply Ent.pick; (focus (repeat (first | exact Sel.here | apply Sel.there))); apply Ent.pick; (focus (repeat (first | exact Sel.here | apply Sel.there))); apply Ent.pick; (focus (repeat (first | exact Sel.here | apply Sel.there))); apply Ent.pick; (focus (repeat (first | exact Sel.here | apply Sel.there))); exact Ent.refl))
    intro hit' H3 S3
    exact ⟨hit', rfl, S3⟩
  intro h
  induction h with
  | zero => intro d tt hw; exact key 0 d tt hw (fun k _ => (no0 k).elim)
  | succ h ih => intro d tt hw; exact key (h + 1) d tt hw (fun k hk => ih d k (hw.2 k hk).1)
end
end Go.Proofs.Ytdgcdjlomindhaa

set_option linter.unusedVariables false
set_option linter.unusedSimpArgs false
set_option linter.unnecessarySimpa false
namespace Go.Proofs.Ytdgcdjlomindhaa
open Go Go.Den Go.Proofs
/-! All elements listed, downwards. -/
theorem take_snoc {α : Type} {l : List α} {i : Nat} {x : α} (h : l[i]? = some x) : l.take (i + 1) = l.take i ++ [x] := by rw [List.take_add_one, h]; rfl
section
variable {H : Heap} {l : List HP} {c rq ro : Nat} {k t a b f u : Int} {g : Bool}
theorem desc_loop {h : Nat} {tt : Tr (h + 1)} {r r1 : Nat} {R : Ending → Heap → Prop} {M : List Itm} (hor : tt.ks = [] ∨ tt.ks.length = tt.xs.length + 1) (hx : M.length + (inL (h + 1) tt).length < 2 ^ 40)
    (ih : ∀ k' ∈ tt.ks, ∀ (hit : Bool) (L : List Itm) (H : Heap) (l : List HP), L.length + (inL h k').length < 2 ^ 40 → Sat H (tr c h k' :: acc rq L :: pt ro (.cells ⟨opC k t a b f u g⟩ 30) :: l) →
      CallsH Try.prog 72 ⟨args72 (bk h k') (-1) hit rq ro⟩ H (fun en H1 => ∃ hit', en = .returned (.tuple ⟨[.bool hit', .bool true]⟩) ∧ Sat H1 (tr c h k' :: acc rq (L ++ (inL h k').reverse) :: pt ro (.cells ⟨opC k t a b f u g⟩ 30) :: l)))
    (K : ∀ hit' H1, Sat H1 (tr c (h + 1) tt :: acc rq (M ++ (inL (h + 1) tt).reverse) :: pt ro (.cells ⟨opC k t a b f u g⟩ 30) :: l) → R (.returned (.tuple ⟨[.bool hit', .bool true]⟩)) H1) :
    ∀ (m : Nat) (L : List Itm) (hit : Bool) (H : Heap), m ≤ tt.xs.length → L ++ (inter (tt.xs.take m) ((tt.ks.take (m + 1)).map (inL h))).reverse = M ++ (inL (h + 1) tt).reverse →
      Sat H (tr c (h + 1) tt :: acc rq L :: pt ro (.cells ⟨opC k t a b f u g⟩ 30) :: pt r (.cells ⟨[.int .i64 0, .int .i64 0, .bool false]⟩ 119) :: pt r1 (.cells ⟨[.int .i64 0, .int .i64 0, .bool false]⟩ 119) :: l) →
      F72.L1 (at_ tt.b) (-1) false hit (visF rq ro) r r1 ((m : Int) - 1) H R := by
  have hxl := xs_len (g := inL h) hor
  rw [inL_succ] at hx
  intro m
  induction m with
  | zero =>
    intro L hit H hi hL S
    obtain ⟨ip, ic, cp, cc, S0⟩ := tr_open S
    refine F72.L1_step ?_
    unfold F72.L1n
    refine iteB_f (by decide) ?_
    (repeat (first | (refine Step.go ?_; intros) | refine iteB_t (by decide) ?_ | refine iteB_f (by decide) ?_ | (refine Duo.mk (by first | omega | exact rfl | decide) ?_; intros) | (refine Duo.mk (Clo.mk (by kernel_rfl)) ?_; intros)))
    refine iteB_i (fun h1 => ?_) (fun h1 => ?_)
    · have h2 : 0 < tt.ks.length := by have := of_decide_eq_true h1; omega
      obtain ⟨q, e1, e2, e5⟩ := cut_at' (l := tt.ks) (i := 0) (by omega)
      have hI : HasI ((tt.ks.map (bk h)).map at_) 0 (at_ (bk h q)) := ⟨by rw [e1]; rfl⟩
      have hq := List.mem_of_getElem? e2
      have e4 : L ++ (inL h q).reverse = M ++ (inL (h + 1) tt).reverse := by
        rw [← hL, take_snoc e2]
        simp [inter, postL]
      have e4l := congrArg List.length e4
      rw [inL_succ] at e4l
      simp only [List.length_append, List.length_reverse] at e4l
      (repeat (first | (refine Step.go ?_; intros) | refine iteB_t (by decide) ?_ | refine iteB_f (by decide) ?_ | (refine Duo.mk (by first | omega | exact rfl | decide) ?_; intros) | (refine Duo.mk (Clo.mk (by kernel_rfl)) ?_; intros)))
      refine Sat.idx (f := ptC) (E := 74) (z := 1) S0 ⟨by omega, by omega, fun r o hr => ?_⟩
      subst hr
      (repeat (first | (refine Step.go ?_; intros) | refine iteB_t (by decide) ?_ | refine iteB_f (by decide) ?_ | (refine Duo.mk (by first | omega | exact rfl | decide) ?_; intros) | (refine Duo.mk (Clo.mk (by kernel_rfl)) ?_; intros)))
      have S2 : Sat H (star (tt.ks.map (tr c h)) :: _) := S0.to (Ent.bring (by (repeat (first | exact Sel.here | apply Sel.there))))
      have S3 := S2.to (kid_out' e1)
      refine call_of (ih q hq hit L H _ (by omega) (by (refine Sat.to (by assumption) ?_; apply Ent.pick; (focus (repeat (first | exact Sel.here | apply Sel.there))); apply Ent.pick; (focus (repeat (first | exact Sel.here | apply Sel.there))); apply Ent.pick; (focus (repeat (first | exact Sel.here | apply Sel.there))); exact Ent.refl))) ?_
      rintro en H1 ⟨hit', rfl, S4⟩
      (repeat (first | (refine Step.go ?_; intros) | refine iteB_t (by decide) ?_ | refine iteB_f (by decide) ?_ | (refine Duo.mk (by first | omega | exact rfl | decide) ?_; intros) | (refine Duo.mk (Clo.mk (by kernel_rfl)) ?_; intros)))
      have S5 : Sat H1 (tr c h q :: star ((tt.ks.take 0 ++ tt.ks.drop (0 + 1)).map (tr c h)) :: _) := S4.to (Ent.pick (by (repeat (first | exact Sel.here | apply Sel.there))) (Ent.pick (by (repeat (first | exact Sel.here | apply Sel.there))) .refl))
      have S6 := S5.to (kid_in' e1)
      rw [e4] at S6
      refine K hit' H1 ?_
      exact tr_shut (ip := ip) (ic := ic) (cp := some ⟨r, o, none⟩) (cc := cc) (n := tt.xs.length) (m := tt.ks.length) Sat.fin
    · have h3 : tt.ks = [] := List.eq_nil_of_length_eq_zero (by have := of_decide_eq_false h1; omega)
      have e4 : L = M ++ (inL (h + 1) tt).reverse := by
        rw [← hL, h3]; simp [inter]
      rw [e4] at S0
      refine K hit H ?_
      exact tr_shut (ip := ip) (ic := ic) (cp := cp) (cc := cc) (n := tt.xs.length) (m := tt.ks.length) Sat.fin
  | succ m ihm =>
    intro L hit H hi hL S
    obtain ⟨x, ex1, ex2, ex3⟩ := cut_at' (l := tt.xs) (i := m) (by omega)
    have hLl := congrArg List.length hL
    rw [inL_succ] at hLl
    simp only [List.length_append, List.length_reverse] at hLl
    have em : ((m + 1 : Nat) : Int) - 1 = (m : Int) := by omega
    rw [em]
    have step4 : ∀ (hit : Bool) (L : List Itm) (H : Heap), L ++ x :: (inter (tt.xs.take m) ((tt.ks.take (m + 1)).map (inL h))).reverse = M ++ (inL (h + 1) tt).reverse →
      Sat H (tr c (h + 1) tt :: acc rq L :: pt ro (.cells ⟨opC k t a b f u g⟩ 30) :: pt r (.cells ⟨[.int .i64 0, .int .i64 0, .bool false]⟩ 119) :: pt r1 (.cells ⟨[.int .i64 0, .int .i64 0, .bool false]⟩ 119) :: l) →
      F72.L4 (at_ tt.b) (-1) false hit (visF rq ro) r r1 (m : Int) H R := by
      intro hit L H hL S
      have hLl := congrArg List.length hL
      rw [inL_succ] at hLl
      simp only [List.length_append, List.length_cons, List.length_reverse] at hLl
      refine F72.L4_step ?_
      unfold F72.L4n
      (repeat (first | (refine Step.go ?_; intros) | refine iteB_t (by decide) ?_ | refine iteB_f (by decide) ?_ | (refine Duo.mk (by first | omega | exact rfl | decide) ?_; intros) | (refine Duo.mk (Clo.mk (by kernel_rfl)) ?_; intros)))
      refine F72.L5_step ?_
      unfold F72.L5n
      obtain ⟨ip, ic, cp, cc, S0⟩ := tr_open S
      have hI : HasI tt.xs (m : Int) x := .nat ex2
      (repeat (first | (refine Step.go ?_; intros) | refine iteB_t (by decide) ?_ | refine iteB_f (by decide) ?_ | (refine Duo.mk (by first | omega | exact rfl | decide) ?_; intros) | (refine Duo.mk (Clo.mk (by kernel_rfl)) ?_; intros)))
      refine Sat.idx (f := Itm.cells) (E := 25) (z := 2) S0 ⟨by omega, by omega, fun r o hr => ?_⟩
      subst hr
      (repeat (first | (refine Step.go ?_; intros) | refine iteB_t (by decide) ?_ | refine iteB_f (by decide) ?_ | (refine Duo.mk (by first | omega | exact rfl | decide) ?_; intros) | (refine Duo.mk (Clo.mk (by kernel_rfl)) ?_; intros)))
      refine call_of (visit_ok (x := x) (L := L) (by omega) (by (refine Sat.to (by assumption) ?_; apply Ent.pick; (focus (repeat (first | exact Sel.here | apply Sel.there))); apply Ent.pick; (focus (repeat (first | exact Sel.here | apply Sel.there))); exact Ent.refl))) ?_
      rintro en H1 ⟨rfl, S1⟩
      (repeat (first | (refine Step.go ?_; intros) | refine iteB_t (by decide) ?_ | refine iteB_f (by decide) ?_ | (refine Duo.mk (by first | omega | exact rfl | decide) ?_; intros) | (refine Duo.mk (Clo.mk (by kernel_rfl)) ?_; intros)))
      refine F72.L6_step ?_
      unfold F72.L6n
      rw [wr (by omega) (by omega)]
      refine ihm (L ++ [x]) true H1 (by omega) (by rw [← hL]; simp) ?_
      exact tr_shut (ip := some ⟨r, o, none⟩) (ic := ic) (cp := cp) (cc := cc) (n := tt.xs.length) (m := tt.ks.length) Sat.fin
    obtain ⟨ip, ic, cp, cc, S0⟩ := tr_open S
    refine F72.L1_step ?_
    unfold F72.L1n
    refine iteB_t (by simp) ?_
    (repeat (first | (refine Step.go ?_; intros) | refine iteB_t (by decide) ?_ | refine iteB_f (by decide) ?_ | (refine Duo.mk (by first | omega | exact rfl | decide) ?_; intros) | (refine Duo.mk (Clo.mk (by kernel_rfl)) ?_; intros)))
    refine F72.L3_step ?_
    unfold F72.L3n
    rw [wadd (by omega)]
    (repeat (first | (refine Step.go ?_; intros) | refine iteB_t (by decide) ?_ | refine iteB_f (by decide) ?_ | (refine Duo.mk (by first | omega | exact rfl | decide) ?_; intros) | (refine Duo.mk (Clo.mk (by kernel_rfl)) ?_; intros)))
    refine iteB_i (fun h1 => ?_) (fun h1 => ?_)
    · have h2 : 0 < tt.ks.length := by have := of_decide_eq_true h1; omega
      have h3 : tt.ks.length = tt.xs.length + 1 := hor.resolve_left (fun h => by rw [h] at h2; simp at h2)
      obtain ⟨q, e1, e2, e5⟩ := cut_at' (l := tt.ks) (i := m + 1) (by omega)
      have e7 : L ++ (inL h q).reverse ++ x :: (inter (tt.xs.take m) ((tt.ks.take (m + 1)).map (inL h))).reverse = M ++ (inL (h + 1) tt).reverse := by
        rw [← hL, take_snoc ex2, take_snoc e2, List.map_append, List.map_cons, List.map_nil, inter_snoc (by simp; omega)]
        simp
      have e7l := congrArg List.length e7
      rw [inL_succ] at e7l
      simp only [List.length_append, List.length_reverse] at e7l
      have hI : HasI ((tt.ks.map (bk h)).map at_) ((m + 1 : Nat) : Int) (at_ (bk h q)) := .nat (by simp [e2])
      have hq := List.mem_of_getElem? e2
      (repeat (first | (refine Step.go ?_; intros) | refine iteB_t (by decide) ?_ | refine iteB_f (by decide) ?_ | (refine Duo.mk (by first | omega | exact rfl | decide) ?_; intros) | (refine Duo.mk (Clo.mk (by kernel_rfl)) ?_; intros)))
      refine Sat.idx (f := ptC) (E := 74) (z := 1) S0 ⟨by omega, by omega, fun r o hr => ?_⟩
      subst hr
      (repeat (first | (refine Step.go ?_; intros) | refine iteB_t (by decide) ?_ | refine iteB_f (by decide) ?_ | (refine Duo.mk (by first | omega | exact rfl | decide) ?_; intros) | (refine Duo.mk (Clo.mk (by kernel_rfl)) ?_; intros)))
      have S2 : Sat H (star (tt.ks.map (tr c h)) :: _) := S0.to (Ent.bring (by (repeat (first | exact Sel.here | apply Sel.there))))
      have S3 := S2.to (kid_out' e1)
      refine call_of (ih q hq hit L H _ (by omega) (by (refine Sat.to (by assumption) ?_; apply Ent.pick; (focus (repeat (first | exact Sel.here | apply Sel.there))); apply Ent.pick; (focus (repeat (first | exact Sel.here | apply Sel.there))); apply Ent.pick; (focus (repeat (first | exact Sel.here | apply Sel.there))); exact Ent.refl))) ?_
      rintro en H1 ⟨hit', rfl, S4⟩
      (repeat (first | (refine Step.go ?_; intros) | refine iteB_t (by decide) ?_ | refine iteB_f (by decide) ?_ | (refine Duo.mk (by first | omega | exact rfl | decide) ?_; intros) | (refine Duo.mk (Clo.mk (by kernel_rfl)) ?_; intros)))
      have S5 : Sat H1 (tr c h q :: star ((tt.ks.take (m + 1) ++ tt.ks.drop (m + 1 + 1)).map (tr c h)) :: _) := S4.to (Ent.pick (by (repeat (first | exact Sel.here | apply Sel.there))) (Ent.pick (by (repeat (first | exact Sel.here | apply Sel.there))) .refl))
      have S6 := S5.to (kid_in' e1)
      refine step4 hit' (L ++ (inL h q).reverse) H1 e7 ?_
      exact tr_shut (ip := ip) (ic := ic) (cp := some ⟨r, o, none⟩) (cc := cc) (n := tt.xs.length) (m := tt.ks.length) Sat.fin
    · have h3 : tt.ks = [] := List.eq_nil_of_length_eq_zero (by have := of_decide_eq_false h1; omega)
      refine step4 hit L H ?_ ?_
      · rw [← hL, take_snoc ex2, h3]; simp [inter]
      · exact tr_shut (ip := ip) (ic := ic) (cp := cp) (cc := cc) (n := tt.xs.length) (m := tt.ks.length) Sat.fin
theorem desc_ok : ∀ (h : Nat) (d : Nat) (tt : Tr (h + 1)), WF d (h + 1) tt → ∀ (hit : Bool) (L : List Itm) (H : Heap) (l : List HP), L.length + (inL (h + 1) tt).length < 2 ^ 40 → Sat H (tr c (h + 1) tt :: acc rq L :: pt ro (.cells ⟨opC k t a b f u g⟩ 30) :: l) →
      CallsH Try.prog 72 ⟨args72 tt.b (-1) hit rq ro⟩ H (fun en H1 => ∃ hit', en = .returned (.tuple ⟨[.bool hit', .bool true]⟩) ∧ Sat H1 (tr c (h + 1) tt :: acc rq (L ++ (inL (h + 1) tt).reverse) :: pt ro (.cells ⟨opC k t a b f u g⟩ 30) :: l)) := by
  have key : ∀ (h : Nat) (d : Nat) (tt : Tr (h + 1)), WF d (h + 1) tt → (∀ k' ∈ tt.ks, ∀ (hit : Bool) (L : List Itm) (H : Heap) (l : List HP), L.length + (inL h k').length < 2 ^ 40 → Sat H (tr c h k' :: acc rq L :: pt ro (.cells ⟨opC k t a b f u g⟩ 30) :: l) →
      CallsH Try.prog 72 ⟨args72 (bk h k') (-1) hit rq ro⟩ H (fun en H1 => ∃ hit', en = .returned (.tuple ⟨[.bool hit', .bool true]⟩) ∧ Sat H1 (tr c h k' :: acc rq (L ++ (inL h k').reverse) :: pt ro (.cells ⟨opC k t a b f u g⟩ 30) :: l))) →
      ∀ (hit : Bool) (L : List Itm) (H : Heap) (l : List HP), L.length + (inL (h + 1) tt).length < 2 ^ 40 → Sat H (tr c (h + 1) tt :: acc rq L :: pt ro (.cells ⟨opC k t a b f u g⟩ 30) :: l) →
      CallsH Try.prog 72 ⟨args72 tt.b (-1) hit rq ro⟩ H (fun en H1 => ∃ hit', en = .returned (.tuple ⟨[.bool hit', .bool true]⟩) ∧ Sat H1 (tr c (h + 1) tt :: acc rq (L ++ (inL (h + 1) tt).reverse) :: pt ro (.cells ⟨opC k t a b f u g⟩ 30) :: l)) := by
    intro h d tt hw ih hit L H l hn S
    have hxl := xs_len (g := inL h) hw.or
    have hn' := hn
    rw [inL_succ] at hn'
    obtain ⟨ip, ic, cp, cc, S0⟩ := tr_open S
    refine F72.calls (s6 := visF rq ro) ?_
    unfold F72.go
    (repeat (first | (refine Step.go ?_; intros) | refine iteB_t (by decide) ?_ | refine iteB_f (by decide) ?_ | (refine Duo.mk (by first | omega | exact rfl | decide) ?_; intros) | (refine Duo.mk (Clo.mk (by kernel_rfl)) ?_; intros)))
    rename_i r H1 S1 r1 H2 S2
    refine F72.L0_step ?_
    unfold F72.L0n
    rw [wr (by omega) (by omega)]
    refine desc_loop (c := c) (M := L) (l := l) hw.or hn ih ?_ tt.xs.length L hit _ (by omega) ?_ ?_
    · intro hit' H3 S3
      exact ⟨hit', rfl, S3⟩
    · rw [inL_succ, List.take_length]
      have e : tt.ks.take (tt.xs.length + 1) = tt.ks := List.take_of_length_le (by rcases hw.or with h | h <;> rw [h] <;> simp)
      rw [e]
    · exact tr_shut (ip := ip) (ic := ic) (cp := cp) (cc := cc) (n := tt.xs.length) (m := tt.ks.length) Sat.fin
  intro h
  induction h with
  | zero => intro d tt hw; exact key 0 d tt hw (fun k _ => (no0 k).elim)
  | succ h ih => intro d tt hw; exact key (h + 1) d tt hw (fun k hk => ih d k (hw.2 k hk).1)
end
end Go.Proofs.Ytdgcdjlomindhaa

set_option linter.unusedVariables false
set_option linter.unusedSimpArgs false
set_option linter.unnecessarySimpa false
namespace Go.Proofs.Ytdgcdjlomindhaa
open Go Go.Den Go.Proofs
/-! A node of the tree's own may be changed as it is; a node is split. -/
theorem set_same {α : Type} {l : List α} {i : Nat} {v : α} (h : l[i]? = some v) : l.set i v = l := by
  refine List.ext_getElem? fun j => ?_
  rw [List.getElem?_set]
  split
  · rename_i e; subst e; rw [if_pos (lt_of h), h]
  · rfl
theorem slSame {α : Type} {g : α → List Value} {E : TypeId} {z n c : Nat} {a : Addr} {xs : List α} {H : Heap} {m : List HP} (S : Sat H (sl g E z (some a) n c xs :: m)) {i j : Nat} {x : α} {v : Value} {K : Heap → Prop} (hi : xs[i]? = some x) (hj : (g x)[j]? = some v) (hv : isCell v = true) (k : ∀ H1, ExtH H H1 → K H1) : st1 H (a.add (i * z + j)) v K := by
  obtain ⟨a1, a2, a3, a4⟩ := S.slOpen
  rcases a4 with ⟨h0, _⟩ | ⟨r, pre, sp, he, hl, S1⟩
  · cases h0
  · cases he
    rw [add_mk]
    have h1 := flat_at a2 hi hj
    have h2 : (pre ++ xs.flatMap g ++ sp)[pre.length + (i * z + j)]? = some v := by
      rw [List.append_assoc, List.getElem?_append_right (by omega), Nat.add_sub_cancel_left, List.getElem?_append_left (lt_of h1)]
      exact h1
    have h3 := S1.at_ (List.mem_cons_self ..)
    refine st1_of h3 h2 hv fun H1 u => k H1 ⟨u.size, fun b hb => ?_⟩
    by_cases e : b = r
    · subst e; rw [u.at_, h3, set_same h2]
    · exact u.same b hb e
section
variable {H : Heap} {l : List HP} {b c f : Nat} {e : Itm}
theorem mutFor_ok {w0 w1 : Value} (h : H[b]? = some (.cells ⟨[w0, w1, .pointer (at_ c)]⟩ 94)) : CallsH Try.prog 44 ⟨[.pointer (at_ b), .pointer (at_ c)]⟩ H (fun en H1 => en = .returned (.pointer (at_ b)) ∧ H1 = H) := by
  have A : ∀ (l : List HP) [OldAt l H], At b _ l := atOld h
  have S := Sat.start H
  refine F44.calls ?_
  unfold F44.go
  (repeat (first | (refine Step.go ?_; intros) | refine iteB_t (by decide) ?_ | refine iteB_f (by decide) ?_ | (refine Duo.mk (by first | omega | exact rfl | decide) ?_; intros) | (refine Duo.mk (Clo.mk (by kernel_rfl)) ?_; intros)))
  refine pq_same ?_
  (repeat (first | (refine Step.go ?_; intros) | refine iteB_t (by decide) ?_ | refine iteB_f (by decide) ?_ | (refine Duo.mk (by first | omega | exact rfl | decide) ?_; intros) | (refine Duo.mk (Clo.mk (by kernel_rfl)) ?_; intros)))
  exact ⟨rfl, rfl⟩
theorem mutChild_ok {h : Nat} {t : Tr (h + 1 + 1)} {i : Nat} {k : Tr (h + 1)} (hk : t.ks[i]? = some k) (S : Sat H (tr c (h + 1 + 1) t :: l)) : CallsH Try.prog 68 ⟨[.pointer (at_ t.b), .int .i64 (i : Int)]⟩ H (Gives (.pointer (at_ k.b)) H) := by
  obtain ⟨ip, ic, cp, cc, S0⟩ := tr_open S
  obtain ⟨q, e1, e2, e5⟩ := cut_at' (l := t.ks) (i := i) (lt_of hk)
  rw [hk] at e2
  cases e2
  have hi := lt_of hk
  have hI : HasI ((t.ks.map (bk (h + 1))).map at_) (i : Int) (at_ k.b) := .nat (by simp [hk]; rfl)
  have S2 : Sat H (star (t.ks.map (tr c (h + 1))) :: _) := S0.to (Ent.bring (by (repeat (first | exact Sel.here | apply Sel.there))))
  have S3 := S2.to (kid_out' e1)
  obtain ⟨jp, jc, dp, dc, S4⟩ := tr_open S3
  refine F68.calls ?_
  unfold F68.go
  (repeat (first | (refine Step.go ?_; intros) | refine iteB_t (by decide) ?_ | refine iteB_f (by decide) ?_ | (refine Duo.mk (by first | omega | exact rfl | decide) ?_; intros) | (refine Duo.mk (Clo.mk (by kernel_rfl)) ?_; intros)))
  refine Sat.idx (f := ptC) (E := 74) (z := 1) S0 ⟨by omega, by omega, fun r o hr => ?_⟩
  subst hr
  (repeat (first | (refine Step.go ?_; intros) | refine iteB_t (by decide) ?_ | refine iteB_f (by decide) ?_ | (refine Duo.mk (by first | omega | exact rfl | decide) ?_; intros) | (refine Duo.mk (Clo.mk (by kernel_rfl)) ?_; intros)))
  refine call_of (mutFor_ok (At.get (l := _) inferInstance S4)) ?_
  rintro en H1 ⟨rfl, rfl⟩
  (iterate 4 (refine Step.go ?_; intros))
  refine Sat.idx (f := ptC) (E := 74) (z := 1) S0 ⟨by omega, by omega, fun r o hr => ?_⟩
  cases hr
  have S5 : Sat H1 (sP (some ⟨r, o, none⟩) t.ks.length cc ((t.ks.map (bk (h + 1))).map at_) :: _) := S0.to (Ent.bring (by (repeat (first | exact Sel.here | apply Sel.there))))
  refine slSame S5 (j := 0) (x := at_ k.b) (by have := hI.out; exact this) rfl rfl ?_
  intro H2 hx
  exact ⟨rfl, hx⟩
end
end Go.Proofs.Ytdgcdjlomindhaa

set_option linter.unusedVariables false
set_option linter.unusedSimpArgs false
set_option linter.unnecessarySimpa false
namespace Go.Proofs.Ytdgcdjlomindhaa
open Go Go.Den Go.Proofs
/-! A node is split. -/
section
variable {H : Heap} {l : List HP} {b c f i : Nat} {xs : List Itm} {ks : List Nat}
theorem split_ok {x : Itm} (hx : xs[i]? = some x) (hn : xs.length < 2 ^ 39) (hk : ks = [] ∨ ks.length = xs.length + 1) (S : Sat H (nd b (at_ c) xs ks :: cx c f :: l)) :
    CallsH Try.prog 46 ⟨[.pointer (at_ b), .int .i64 (i : Int)]⟩ H (fun en H1 => ∃ b2, en = .returned (.tuple ⟨[.agg ⟨x.cells⟩, .pointer (at_ b2)]⟩) ∧ Sat H1 (nd b (at_ c) (xs.take i) (ks.take (i + 1)) :: nd b2 (at_ c) (xs.drop (i + 1)) (ks.drop (i + 1)) :: cx c f :: l)) := by
  have hi := lt_of hx
  have hI : HasI xs (i : Int) x := .nat hx
  obtain ⟨ip, ic, cp, cc, S0⟩ := nd_open S
  refine F46.calls ?_
  unfold F46.go
  rw [wadd (by omega)]
  (repeat (first | (refine Step.go ?_; intros) | refine iteB_t (by decide) ?_ | refine iteB_f (by decide) ?_ | (refine Duo.mk (by first | omega | exact rfl | decide) ?_; intros) | (refine Duo.mk (Clo.mk (by kernel_rfl)) ?_; intros)))
  rename_i S1
  refine Sat.idx (f := Itm.cells) (E := 25) (z := 2) S1 ⟨by omega, by omega, fun r o hr => ?_⟩
  subst hr
  (repeat (first | (refine Step.go ?_; intros) | refine iteB_t (by decide) ?_ | refine iteB_f (by decide) ?_ | (refine Duo.mk (by first | omega | exact rfl | decide) ?_; intros) | (refine Duo.mk (Clo.mk (by kernel_rfl)) ?_; intros)))
  refine call_of (new_ok (c := c) (f := f) (by (refine Sat.to (by assumption) ?_; apply Ent.pick; (focus (repeat (first | exact Sel.here | apply Sel.there))); exact Ent.refl))) ?_
  rintro en H5 ⟨b2, rfl, S5⟩
  obtain ⟨jp, jc, dp, dc, S6⟩ := nd_open S5
  have S6 : Sat H5 (pt b2 (.cells ⟨[.slice jp 0 jc, .slice dp 0 dc, .pointer (at_ c)]⟩ 94) :: sI jp 0 jc [] :: sP dp 0 dc [] :: _) := S6
  (repeat (first | (refine Step.go ?_; intros) | refine iteB_t (by decide) ?_ | refine iteB_f (by decide) ?_ | (refine Duo.mk (by first | omega | exact rfl | decide) ?_; intros) | (refine Duo.mk (Clo.mk (by kernel_rfl)) ?_; intros)))
  simp only [Int.toNat_natCast]
  have S7 := Sat.bring S6 (c := sI jp 0 jc []) (by (repeat (first | exact Sel.here | apply Sel.there)))
  have hq := slCells_of (i := i + 1) (f := Itm.cells) (E := 25) (z := 2) (p := some ⟨r, o, none⟩) (n := xs.length) (c := ic) (xs := xs) S7 (by simp) (by omega)
  refine S7.slApp hq (by simp) (fun y _ => rfl) itm_isC rfl (by decide) (by omega) ?_
  intro p' c' H6 S8
  rw [List.nil_append] at S8
  (repeat (first | (refine Step.go ?_; intros) | refine iteB_t (by decide) ?_ | refine iteB_f (by decide) ?_ | (refine Duo.mk (by first | omega | exact rfl | decide) ?_; intros) | (refine Duo.mk (Clo.mk (by kernel_rfl)) ?_; intros)))
  refine call_of (truncI_ok (k := i) (c := ic) (n := xs.length) (xs := xs) (by omega) (by omega) (by (refine Sat.to (by assumption) ?_; apply Ent.pick; (focus (repeat (first | exact Sel.here | apply Sel.there))); apply Ent.pick; (focus (repeat (first | exact Sel.here | apply Sel.there))); exact Ent.refl))) ?_
  rintro en H8 ⟨ip', rfl, S9⟩
  (repeat (first | (refine Step.go ?_; intros) | refine iteB_t (by decide) ?_ | refine iteB_f (by decide) ?_ | (refine Duo.mk (by first | omega | exact rfl | decide) ?_; intros) | (refine Duo.mk (Clo.mk (by kernel_rfl)) ?_; intros)))
  refine iteB_i (fun h1 => ?_) (fun h1 => ?_)
  · have h2 : ks.length = xs.length + 1 := hk.resolve_left (fun h => by rw [h] at h1; simp at h1)
    (repeat (first | (refine Step.go ?_; intros) | refine iteB_t (by decide) ?_ | refine iteB_f (by decide) ?_ | (refine Duo.mk (by first | omega | exact rfl | decide) ?_; intros) | (refine Duo.mk (Clo.mk (by kernel_rfl)) ?_; intros)))
    simp only [Int.toNat_natCast]
    have S10 := Sat.bring S9 (c := sP dp 0 dc []) (by (repeat (first | exact Sel.here | apply Sel.there)))
    have hq := slCells_of (i := i + 1) (f := ptC) (E := 74) (z := 1) (p := cp) (n := ks.length) (c := cc) (xs := ks.map at_) S10 (by simp) (by omega)
    refine S10.slApp hq (by simp) (fun y _ => rfl) ptr_isC rfl (by decide) (by omega) ?_
    intro p2' c2' H9 S11
    rw [List.nil_append] at S11
    (repeat (first | (refine Step.go ?_; intros) | refine iteB_t (by decide) ?_ | refine iteB_f (by decide) ?_ | (refine Duo.mk (by first | omega | exact rfl | decide) ?_; intros) | (refine Duo.mk (Clo.mk (by kernel_rfl)) ?_; intros)))
    refine call_of (truncP_ok (k := i + 1) (c := cc) (n := ks.length) (xs := ks.map at_) (by omega) (by omega) (by (refine Sat.to (by assumption) ?_; apply Ent.pick; (focus (repeat (first | exact Sel.here | apply Sel.there))); apply Ent.pick; (focus (repeat (first | exact Sel.here | apply Sel.there))); exact Ent.refl))) ?_
    rintro en H10 ⟨cp', rfl, S12⟩
    (repeat (first | (refine Step.go ?_; intros) | refine iteB_t (by decide) ?_ | refine iteB_f (by decide) ?_ | (refine Duo.mk (by first | omega | exact rfl | decide) ?_; intros) | (refine Duo.mk (Clo.mk (by kernel_rfl)) ?_; intros)))
    rename_i H11 S13
    refine ⟨b2, rfl, ?_⟩
    have e1 : (ks.map at_).take (i + 1) = (ks.take (i + 1)).map at_ := by simp
    have e2 : (ks.map at_).drop (i + 1) = (ks.drop (i + 1)).map at_ := by simp
    rw [e1] at S13
    rw [e2] at S13
    have T1 : Sat H11 (nd b2 (at_ c) (xs.drop (i + 1)) (ks.drop (i + 1)) :: pt b (.cells ⟨[.slice ip' i ic, .slice cp' (i + 1) cc, .pointer (at_ c)]⟩ 94) :: sI ip' i ic (xs.take i) :: sP cp' (i + 1) cc ((ks.take (i + 1)).map at_) :: cx c f :: l) :=
      nd_close (ip := p') (ic := c') (cp := p2') (cc := c2') (n := 0 + (xs.length - (i + 1))) (m := 0 + (ks.length - (i + 1))) Sat.fin
    exact nd_close (ip := ip') (ic := ic) (cp := cp') (cc := cc) (n := i) (m := i + 1) Sat.fin
  · have h2 : ks = [] := List.eq_nil_of_length_eq_zero (by have := of_decide_eq_false h1; omega)
    subst h2
    (repeat (first | (refine Step.go ?_; intros) | refine iteB_t (by decide) ?_ | refine iteB_f (by decide) ?_ | (refine Duo.mk (by first | omega | exact rfl | decide) ?_; intros) | (refine Duo.mk (Clo.mk (by kernel_rfl)) ?_; intros)))
    rename_i H11 S13
    refine ⟨b2, rfl, ?_⟩
    have S14 : Sat H11 (_ :: _) := S13
    have T1 : Sat H11 (nd b2 (at_ c) (xs.drop (i + 1)) ([] : List Nat) :: pt b (.cells ⟨[.slice ip' i ic, .slice cp ([] : List Nat).length cc, .pointer (at_ c)]⟩ 94) :: sI ip' i ic (xs.take i) :: sP cp ([] : List Nat).length cc (([] : List Nat).map at_) :: cx c f :: l) :=
      nd_close (ip := p') (ic := c') (cp := dp) (cc := dc) (n := 0 + (xs.length - (i + 1))) (m := 0) (S13.to (by
        refine Ent.pick (c := pt b2 _) (by (repeat (first | exact Sel.here | apply Sel.there))) ?_
        refine Ent.pick (c := sI p' (0 + (xs.length - (i + 1))) c' (xs.drop (i + 1))) (by (repeat (first | exact Sel.here | apply Sel.there))) ?_
        refine Ent.pick (c := sP dp 0 dc []) (by (repeat (first | exact Sel.here | apply Sel.there))) ?_
        refine Ent.pick (c := pt b _) (by (repeat (first | exact Sel.here | apply Sel.there))) ?_
        refine Ent.pick (c := sI ip' i ic _) (by (repeat (first | exact Sel.here | apply Sel.there))) ?_
        refine Ent.pick (c := sP cp _ cc _) (by (repeat (first | exact Sel.here | apply Sel.there))) ?_
        refine Ent.pick (c := cx c f) (by (repeat (first | exact Sel.here | apply Sel.there))) ?_
        exact Fits.out))
    have T2 := nd_close (b := b) (cow := at_ c) (H := H11) (ip := ip') (ic := ic) (cp := cp) (cc := cc) (n := i) (m := 0) (xs := xs.take i) (ks := []) (l := nd b2 (at_ c) (xs.drop (i + 1)) [] :: cx c f :: l) (by (refine Sat.to (by assumption) ?_; apply Ent.pick; (focus (repeat (first | exact Sel.here | apply Sel.there))); apply Ent.pick; (focus (repeat (first | exact Sel.here | apply Sel.there))); apply Ent.pick; (focus (repeat (first | exact Sel.here | apply Sel.there))); apply Ent.pick; (focus (repeat (first | exact Sel.here | apply Sel.there))); apply Ent.pick; (focus (repeat (first | exact Sel.here | apply Sel.there))); exact Ent.refl))
    simpa using T2
end
end Go.Proofs.Ytdgcdjlomindhaa
