/- A plain reading of Go functions, proved to be what they do; no condition. -/
/- Calls that only make memory; memory that was there, but for one block; function values. -/
import Derived.Test.YtobolifgehagfaaGreatDenK
set_option linter.unusedVariables false
set_option linter.unusedSectionVars false
namespace Go.Den
open Go
section
variable {H H1 H0 : Heap} {l m : List HP} {c : HP}
theorem of_sub_old {h : PH} (a : Den.old H h) : PH.sub (PH.of H) h := fun b o x => a b o x
theorem onto_aux : ∀ {m : List HP} {k : PH}, SatP k (m ++ [Den.old H]) → SatP (PH.of H) l → SatP k (m ++ l)
  | [], k, ⟨h, h1, h2, _⟩, x => (x.mono (of_sub_old h1)).mono h2
  | c :: m, k, ⟨h, h1, h2, y⟩, x => ⟨h, h1, h2, onto_aux (m := m) y x⟩
/-- What was made over a heap as it was, over what is known of that heap. -/
theorem Sat.onto {m : List HP} (S1 : Sat H1 (m ++ [Den.old H])) (S : Sat H l) : Sat H1 (m ++ l) := ⟨onto_aux S1.out S.out⟩
theorem Sat.ext_of {m : List HP} (S1 : Sat H1 (m ++ [Den.old H])) : ExtH H H1 := S1.old (by simp)
theorem Sat.rowsAt {α : Type} {f : α → List Value} {E : TypeId} {z n k : Nat} {p : Option Addr} {xs : List α} (S : Sat H l) (hm : sl f E z p n k xs ∈ l) : RowsAt f z H p xs := by
  cases p with
  | none =>
    obtain ⟨h, ⟨a1, _, a3, a4⟩, _⟩ := S.mem hm
    rcases a4 with ⟨_, h0⟩ | ⟨r, pre, sp, he, _⟩
    · left; exact List.eq_nil_of_length_eq_zero (by omega)
    · cases he
  | some a =>
    refine .inr ⟨a, rfl, fun i x hi j v hj => ?_⟩
    rw [add_add']
    exact S.slCell hm hi hj
/-- A heap's blocks, but for one. -/
def oldX (b : Nat) (H0 : Heap) : HP := fun h => ∀ i o, i ≠ b → H0[i]? = some o → h i = some o
theorem Sat.startX {b : Nat} {o : Obj} (h : H[b]? = some o) : Sat H [pt b o, oldX b H] := by
  refine ⟨fun i => if i = b then some o else none, if_pos rfl, ?_, PH.minus (PH.of H) (fun i => if i = b then some o else none), ?_, PH.sub.refl, trivial⟩
  · intro i x e
    dsimp only at e
    by_cases hi : i = b
    · subst hi; rw [if_pos rfl] at e; cases e; exact h
    · rw [if_neg hi] at e; cases e
  · intro i x hi e
    rw [PH.minus_none (if_neg hi)]; exact e
theorem Sat.xBlock {b i : Nat} {o : Obj} (S : Sat H l) (hm : oldX b H0 ∈ l) (hi : i ≠ b) (h : H0[i]? = some o) : H[i]? = some o := by
  obtain ⟨g, h1, h2⟩ := S.mem hm
  exact h2 _ _ (h1 i o hi h)
theorem Sat.xUpd {b : Nat} {o : Obj} (S : Sat H1 l) (hm : oldX b H ∈ l) (hb : pt b o ∈ l) : Upd b o H H1 := by
  have hs : H.size ≤ H1.size := by
    rcases Nat.lt_or_ge H1.size H.size with hlt | hge
    · by_cases h : H1.size = b
      · have := block_lt (S.at_ hb); omega
      · have := block_lt (S.xBlock hm h (Array.getElem?_eq_getElem hlt)); omega
    · exact hge
  refine ⟨hs, fun i hi hn => ?_, S.at_ hb⟩
  rw [S.xBlock hm hn (Array.getElem?_eq_getElem hi), Array.getElem?_eq_getElem hi]
theorem atX {b i : Nat} {o : Obj} (hi : i ≠ b) (h : H0[i]? = some o) : ∀ l, At i o (oldX b H0 :: l) := fun l => ⟨fun k x => by
  obtain ⟨g, h1, h2, _⟩ := x
  exact h2 _ _ (h1 i o hi h)⟩
end
/-- A function value. -/
instance {P : Program} {H : Heap} {f : FuncId} {first cap : List Value} {args : List Value} {Q : List PanicEntry → Heap → Prop} {K : Value → Heap → Prop} : Step (callV P (.func (.func f) ⟨first⟩ ⟨cap⟩) args H Q K) (Duo (Clo (fnOk P f)) (callD P f (first ++ args ++ cap) H Q K)) := ⟨fun h => callV_i h.1.out h.2⟩
instance {P : Program} {H : Heap} {f : FuncId} {first cap : List Value} {args : List Value} {Q : List PanicEntry → Heap → Prop} {K : Value → Heap → Prop} : Step (callV P (FV.v (.mk (.func f) ⟨first⟩ ⟨cap⟩)) args H Q K) (Duo (Clo (fnOk P f)) (callD P f (first ++ args ++ cap) H Q K)) := ⟨fun h => callV_i h.1.out h.2⟩
/-- A call that only makes memory. -/
theorem grow_i {P : Program} {f : FuncId} {args : List Value} {H : Heap} {l : List HP} {ι : Type} {v : ι → Value} {m : ι → List HP} {Q : List PanicEntry → Heap → Prop} {K : Value → Heap → Prop} (S : Sat H l) (hc : CallsH P f ⟨args⟩ H (fun e H1 => ∃ x, e = .returned (v x) ∧ Sat H1 (m x ++ [Den.old H]))) (k : ∀ x H1, ExtH H H1 → Sat H1 (m x ++ l) → K (v x) H1) : callD P f args H Q K :=
  CallsH.mono hc fun e H1 ⟨x, he, S1⟩ => by subst he; exact k x H1 S1.ext_of (S1.onto S)
end Go.Den
namespace Go.Den
open Go
theorem Sat.onlyX {H H1 : Heap} {l m1 m2 : List HP} {b : Nat} {o : Obj} [S : Sat H1 l] [T1 : Take (oldX b H) l m1] [T2 : Take (pt b o) l m2] : Upd b o H H1 := S.xUpd (T1.out.perm.mem_iff.2 (List.mem_cons_self ..)) (T2.out.perm.mem_iff.2 (List.mem_cons_self ..))
theorem Sat.thereX {H H1 : Heap} {l m1 : List HP} {b i : Nat} {o : Obj} (S : Sat H1 l) [T1 : Take (oldX b H) l m1] (hi : i ≠ b) (h : H[i]? = some o) : H1[i]? = some o := S.xBlock (T1.out.perm.mem_iff.2 (List.mem_cons_self ..)) hi h
end Go.Den
namespace Go.Den
open Go
theorem Sat.obj {H : Heap} {l : List HP} (S : Sat H l) {r : Nat} {o : Obj} [A : At r o l] : H[r]? = some o := A.get S
end Go.Den
namespace Go.Den
open Go
def valT (P : Program) (t : TypeId) : Bool := match P.underlying t with | some (.pointer _) => false | some _ => true | none => false
/-- A method of a value that is no pointer. -/
theorem callI_val {P : Program} {H : Heap} {t : TypeId} {x : Value} {name : String} {f : FuncId} {args : List Value} {Q : List PanicEntry → Heap → Prop} {K : Value → Heap → Prop} (hm : mthOk P t name f false = true) (hp : valT P t = true) (hf : fnOk P f = true)
    (k : callD P f (x :: args) H Q K) : callI P (.iface t x) name args H Q K := by
  unfold valT at hp
  split at hp
  · cases hp
  · rename_i d hd hu
    exact callI_v hm hu (fun e h => hd e h) hf k
  · cases hp
end Go.Den
namespace Go.Den
open Go
/-- A block that a piece of its own holds is none of those that were there at first. -/
theorem Sat.fresh {H H0 : Heap} {l x y : List HP} {r : Nat} {o : Obj} (S : Sat H l) [T1 : Take (pt r o) l x] [T2 : Take (Den.old H0) x y] : H0.size ≤ r := by
  obtain ⟨h, a, b, c⟩ := SatP.perm T1.out.perm S.out
  obtain ⟨g, a', b', _⟩ := SatP.perm T2.out.perm c
  rcases Nat.lt_or_ge r H0.size with hlt | hge
  · exfalso
    have h1 := a' r _ (Array.getElem?_eq_getElem hlt)
    have h2 := b' _ _ h1
    rw [PH.minus_some (show h r = some o from a)] at h2
    cases h2
  · exact hge
end Go.Den
namespace Go.Den
open Go
theorem flat_of {α : Type} {f : α → List Value} {z : Nat} (hz : ∀ y, (f y).length = z) {v : Value} : ∀ {xs : List α} {k : Nat}, (xs.flatMap f)[k]? = some v → ∃ i x j, xs[i]? = some x ∧ (f x)[j]? = some v ∧ k = i * z + j := by
  intro xs
  induction xs with
  | nil => intro k h; simp at h
  | cons a xs ih =>
    intro k h
    rw [List.flatMap_cons] at h
    rcases Nat.lt_or_ge k (f a).length with h1 | h1
    · rw [List.getElem?_append_left h1] at h
      exact ⟨0, a, k, rfl, h, by omega⟩
    · rw [List.getElem?_append_right h1] at h
      obtain ⟨i, x, j, h2, h3, h4⟩ := ih h
      rw [hz] at h1 h4
      exact ⟨i + 1, x, j, h2, h3, by rw [Nat.succ_mul]; omega⟩
theorem RowsAt.cells {α : Type} {f : α → List Value} {z : Nat} {H : Heap} {q : Option Addr} {ys : List α} (h : RowsAt f z H q ys) (hz : ∀ y, (f y).length = z) : cellsAt H q (ys.flatMap f) := by
  intro k v hk
  obtain ⟨i, x, j, h2, h3, h4⟩ := flat_of hz hk
  rcases h with h | ⟨a, rfl, h⟩
  · subst h; simp at h2
  · exact ⟨a, rfl, by rw [h4, ← add_add']; exact h i x h2 j v h3⟩
/-- A copy of records behind nothing. -/
theorem dup_i {α : Type} {f : α → List Value} {z : Nat} {E : TypeId} {H : Heap} {l : List HP} {q : Option Addr} {ys : List α} {d bytes : Nat} {zs : List Value} {K : Option Addr → Nat → Nat → Heap → Prop} (S : Sat H l) (hR : RowsAt f z H q ys) (hd : ys.length = d) (hz : ∀ y, (f y).length = z) (hc : ∀ y, ∀ v ∈ f y, isCell v = true)
    (hzs : zs.length = z) (hb : bytes ≠ 0) (hs : (2 * d + 768) * bytes ≤ 2 ^ 48) (k : ∀ p' c' H1, ExtH H H1 → Sat H1 (sl f E z p' d c' ys :: l) → K p' d c' H1) : apD H z bytes zs E none 0 0 q d K := by
  have S1 : Sat H (sl f E z none 0 0 [] :: [Den.old H]) := (Sat.start H).to (.slNil .refl)
  refine S1.slApp (ys := ys) (hR.cells hz) hd (fun y _ => hz y) (fun v hv => ?_) hzs hb (by rw [Nat.zero_add]; exact hs) (fun p' c' H1 S2 => ?_)
  · obtain ⟨y, hy, hv⟩ := List.mem_flatMap.1 hv
    exact hc y v hv
  · rw [Nat.zero_add] at S2 ⊢
    rw [List.nil_append] at S2
    exact k p' c' H1 (Sat.ext_of (m := [sl f E z p' d c' ys]) S2) (Sat.onto (m := [sl f E z p' d c' ys]) S2 S)
end Go.Den
