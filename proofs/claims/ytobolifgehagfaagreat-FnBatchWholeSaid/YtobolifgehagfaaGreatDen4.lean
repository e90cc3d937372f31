/- A plain reading of Go functions, proved to be what they do; no condition. -/
import Derived.Test.YtobolifgehagfaaGreatDen3
set_option linter.unusedVariables false
set_option linter.unusedSimpArgs false
set_option linter.unnecessarySimpa false
namespace Go.Den
open Go
/-! Records copied into a slice, and a field without a size. -/
section
variable {α : Type} {f : α → List Value} {E : TypeId} {z n c : Nat} {p : Option Addr} {xs : List α} {H : Heap} {m : List HP}
theorem flat_take {z : Nat} : ∀ {xs : List α} {k : Nat}, (∀ x ∈ xs, (f x).length = z) → (xs.flatMap f).take (k * z) = (xs.take k).flatMap f
  | [], k, _ => by simp
  | x :: xs, 0, _ => by simp
  | x :: xs, k + 1, h => by
    have hx := h x (List.mem_cons_self ..)
    rw [List.flatMap_cons, List.take_succ_cons, List.flatMap_cons, Nat.succ_mul, List.take_append, hx]
    have e : k * z + z - z = k * z := by omega
    rw [e, flat_take (fun y hy => h y (List.mem_cons_of_mem _ hy)), List.take_of_length_le (by omega)]
theorem flat_drop {z : Nat} : ∀ {xs : List α} {k : Nat}, (∀ x ∈ xs, (f x).length = z) → (xs.flatMap f).drop (k * z) = (xs.drop k).flatMap f
  | [], k, _ => by simp
  | x :: xs, 0, _ => by simp
  | x :: xs, k + 1, h => by
    have hx := h x (List.mem_cons_self ..)
    rw [List.flatMap_cons, List.drop_succ_cons, Nat.succ_mul, List.drop_append, hx]
    have e : k * z + z - z = k * z := by omega
    rw [e, flat_drop (fun y hy => h y (List.mem_cons_of_mem _ hy)), List.drop_eq_nil_of_le (by omega), List.nil_append]
theorem Sat.slCopy (S : Sat H (sl f E z p n c xs :: m)) {i d : Nat} {q : Option Addr} {ys : List α} {K : Nat → Heap → Prop} (hi : i ≤ n) (hq : cellsAt H q (ys.flatMap f)) (hd : ys.length = d) (hys : ∀ y ∈ ys, (f y).length = z) (hc : ∀ v ∈ ys.flatMap f, isCell v = true)
    (k : ∀ H1, Sat H1 (sl f E z p n c (xs.take i ++ ys.take (Nat.min d (n - i)) ++ xs.drop (i + Nat.min d (n - i))) :: m) → K (Nat.min d (n - i)) H1) : cpD H z (slP p i c z) (n - i) q d K := by
  have hk1 : Nat.min d (n - i) ≤ d := Nat.min_le_left _ _
  have hk2 : Nat.min d (n - i) ≤ n - i := Nat.min_le_right _ _
  generalize hkk : Nat.min d (n - i) = t at *
  refine ⟨(ys.take t).flatMap f, ?_, ?_, ?_⟩
  · rw [flat_len (fun y hy => hys y (List.mem_of_mem_take hy)), List.length_take, hkk]
    congr 1; omega
  · intro j v hj
    refine hq j v ?_
    rw [← flat_take hys] at hj
    rw [List.getElem?_take] at hj
    split at hj
    · exact hj
    · cases hj
  · rw [hkk]
    by_cases ht : t = 0
    · subst ht
      have e : xs.take i ++ ys.take 0 ++ xs.drop (i + 0) = xs := by simp
      rw [e] at k
      simp only [List.take_zero, List.flatMap_nil]
      unfold stP
      cases slP p i c z <;> exact k H S
    · obtain ⟨a1, a2, a3, a4⟩ := S.slOpen
      rcases a4 with ⟨rfl, h0, _⟩ | ⟨r, pre, sp, rfl, hl, S1⟩
      · omega
      · have hx : (xs.flatMap f).length = n * z := by rw [flat_len a2, a1]
        have hyl : ((ys.take t).flatMap f).length = t * z := by
          rw [flat_len (fun y hy => hys y (List.mem_of_mem_take hy)), List.length_take]; congr 1; omega
        have hmul : i * z + t * z ≤ n * z := by rw [← Nat.add_mul]; exact Nat.mul_le_mul_right z (by omega)
        have hsp : slP (some ⟨r, pre.length, none⟩) i c z = some ⟨r, pre.length + i * z, none⟩ := by
          unfold slP
          rw [if_neg (by omega)]
          simp [add_mk]
        rw [hsp]
        unfold stP
        dsimp only
        rw [add_mk]
        refine stCs_front (o := pre.length + i * z) ((ys.take t).flatMap f) 0 H _ S1 (fun v hv => ?_) (by simp only [List.length_append, hx, hyl]; omega) ?_
        · obtain ⟨y, hy, hv⟩ := List.mem_flatMap.1 hv
          exact hc v (List.mem_flatMap.2 ⟨y, List.mem_of_mem_take hy, hv⟩)
        · intro H1 S2
          refine k H1 (S2.to ?_)
          have e : (pre ++ xs.flatMap f ++ sp).take (pre.length + i * z + 0) ++ (ys.take t).flatMap f ++ (pre ++ xs.flatMap f ++ sp).drop (pre.length + i * z + 0 + ((ys.take t).flatMap f).length) = pre ++ (xs.take i ++ ys.take t ++ xs.drop (i + t)).flatMap f ++ sp := by
            rw [hyl, Nat.add_zero, List.append_assoc pre, List.take_length_add_append, Nat.add_assoc, List.drop_length_add_append, List.take_append_of_le_length (by rw [hx]; omega), List.drop_append_of_le_length (by rw [hx]; omega), flat_take a2, ← Nat.add_mul, flat_drop a2]
            simp only [List.flatMap_append, List.append_assoc]
          rw [e]
          refine Ent.slClose ?_ ?_ a3 rfl hl
          · simp only [List.length_append, List.length_take, List.length_drop]; omega
          · intro x hx'
            rcases List.mem_append.1 hx' with h | h
            · rcases List.mem_append.1 h with h | h
              · exact a2 x (List.mem_of_mem_take h)
              · exact hys x (List.mem_of_mem_take h)
            · exact a2 x (List.mem_of_mem_drop h)
end
/-- The address of a field without a size. -/
def zfOk (P : Program) (T S : TypeId) (f : Nat) : Bool :=
  match P.underlying S with
  | some (.struct fs) => match fs[f]? with
    | some fd => match P.info? fd.type with
      | some i => i.size == 0 && (byteOfCell P P.depth T (0 % P.cellsOf T)).isSome && (byteOfCell P P.depth T (fd.offset % P.cellsOf T)).isSome
      | none => false
    | none => false
  | _ => false
theorem readV_byteOf {P : Program} {H : Heap} {r o : Nat} {c : Array Value} {T : TypeId} {w : Nat} (hb : H[r]? = some (.cells c T (w, w))) (h : (byteOfCell P P.depth T (o % P.cellsOf T)).isSome = true) : ∃ b, readV P (byteOf ⟨r, o, none⟩) H = some b := by
  have hp : plainB H r := ⟨c, T, w, hb⟩
  unfold byteOf
  show ∃ b, readV P (program >>= _) H = some b
  rw [readV_bind]
  show ∃ b, (some P).bind _ = some b
  rw [Option.bind_some, readV_bind, readV_noView hp, Option.bind_some, readV_bind]
  have hs : hshape H r = some (T, c.size) := by unfold hshape; rw [hb]
  rw [readV_shape (plain_lt hp), hs]
  dsimp only [Option.bind_some]
  split
  · exact ⟨_, rfl⟩
  · obtain ⟨b, hb'⟩ := Option.isSome_iff_exists.1 h
    rw [hb']
    exact ⟨_, rfl⟩
theorem zf_i {P : Program} {H : Heap} {S : TypeId} {f : Nat} {r : Nat} {c : Array Value} {T : TypeId} {w : Nat} {k : Addr → Prop} (hz : zfOk P T S f = true) (hb : H[r]? = some (.cells c T (w, w))) (hk : ∀ a, k a) : zfD P H S f (.pointer (some ⟨r, 0, none⟩)) k := by
  unfold zfOk at hz
  split at hz
  · rename_i fs hu
    split at hz
    · rename_i fd hf
      split at hz
      · rename_i i hi
        simp only [Bool.and_eq_true, beq_iff_eq] at hz
        obtain ⟨⟨h1, h2⟩, h3⟩ := hz
        obtain ⟨b1, e1⟩ := readV_byteOf (o := 0) hb h2
        obtain ⟨b2, e2⟩ := readV_byteOf (o := 0 + fd.offset) hb (by rw [Nat.zero_add]; exact h3)
        refine ⟨if b2 = b1 + fd.byteOffset then (⟨r, 0 + fd.offset, none⟩ : Addr) else { (⟨r, 0 + fd.offset, none⟩ : Addr) with spot := some (b1 + fd.byteOffset) }, ?_, hk _⟩
        unfold Instr.fieldAt
        rw [readV_bind, readV_underlying hu]
        simp only [Option.bind_some, hf]
        rw [readV_bind]
        simp only [Instr.sureAddr, readV_pure, Option.bind_some]
        rw [readV_bind]
        unfold fieldPlace
        rw [readV_bind, readV_sizeOf hi, Option.bind_some, if_pos h1]
        unfold partAt
        rw [readV_bind, e1, Option.bind_some]
        dsimp only
        rw [readV_bind, e2, Option.bind_some]
        rfl
      · cases hz
    · cases hz
  · cases hz
end Go.Den
