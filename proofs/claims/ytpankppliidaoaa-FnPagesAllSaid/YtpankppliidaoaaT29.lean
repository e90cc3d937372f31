/- What functions of this seat do, each proved by a walk; no condition. -/
import Derived.Test.YtpankppliidaoaaT28
set_option linter.unusedVariables false
set_option linter.unusedSimpArgs false
namespace Go.Proofs.Ytpankppliidaoaa
open Go Go.Den Go.Proofs
theorem ba_append (x y : By) : (ByteArray.mk ⟨x⟩) ++ (ByteArray.mk ⟨y⟩) = ByteArray.mk ⟨x ++ y⟩ := by
  apply ByteArray.ext
  rw [ByteArray.data_append]
  simp
theorem flat_split {α : Type} {f : α → List Value} {z : Nat} (hz : ∀ x, (f x).length = z) : ∀ (l : List α) (j : Nat) (v : Value), (l.flatMap f)[j]? = some v → ∃ (i : Nat) (x : α) (k : Nat), l[i]? = some x ∧ (f x)[k]? = some v ∧ j = i * z + k := by
  intro l
  induction l with
  | nil => intro j v h; simp at h
  | cons x l ih =>
    intro j v h
    rw [List.flatMap_cons] at h
    rcases Nat.lt_or_ge j (f x).length with hj | hj
    · rw [List.getElem?_append_left hj] at h
      exact ⟨0, x, j, rfl, h, by omega⟩
    · rw [List.getElem?_append_right hj] at h
      obtain ⟨i, y, k, h1, h2, h3⟩ := ih _ v h
      exact ⟨i + 1, y, k, by simpa using h1, h2, by rw [hz] at h3 hj; rw [Nat.succ_mul]; omega⟩
theorem rows_cells {α : Type} {f : α → List Value} {z : Nat} {H : Heap} {p : Option Addr} {l : List α} (hz : ∀ x, (f x).length = z) (h : RowsAt f z H p l) : cellsAt H p (l.flatMap f) := by
  intro j v hj
  rcases h with h | ⟨a, rfl, h⟩
  · subst h; simp at hj
  · obtain ⟨i, x, k, h1, h2, h3⟩ := flat_split hz l j v hj
    refine ⟨a, rfl, ?_⟩
    have := h i x h1 k v h2
    rwa [add_add', ← h3] at this
theorem app_any {F H : Heap} {S : Nat → Prop} {b : List Bk} {E : TypeId} {z : Nat} {p : Option Addr} {n c : Nat} {vs : List Value} (g : Grow F S H b E z p n c vs) {bytes m : Nat} {zs us : List Value} {K : Option Addr → Nat → Nat → Heap → Prop} (hz : zs.length = z) (hb : bytes ≠ 0) (hs : (2 * (n + m) + 768) * bytes ≤ 2 ^ 48) (hu : us.length = m * z) (hcell : ∀ v ∈ us, isCell v = true)
    (k : ∀ p' c' H1, Grow F S H1 b E z p' (n + m) c' (vs ++ us) → K p' (n + m) c' H1) : apV H z bytes zs E p n c m us K := by
  by_cases hm : 0 < m
  · exact g.app hz hb hs hu hm hcell (fun p' c' H1 g' _ => k p' c' H1 g')
  · obtain rfl : m = 0 := by omega
    have hus : us = [] := List.eq_nil_of_length_eq_zero (by simpa using hu)
    subst hus
    have hk := k p c H (by simpa using g)
    have hle : n ≤ c := by
      cases g with
      | nil L => exact Nat.le_refl _
      | mk L h1 h2 h3 => exact h3
    refine ⟨fun _ => ?_, fun h => by omega⟩
    cases p with
    | none => exact hk
    | some a => exact hk
def ba (x : By) : ByteArray := ⟨⟨x⟩⟩
theorem catD_ba {x y : By} {k : ByteArray → Prop} (h : x.length + y.length ≤ 9223372036854775807) (hk : k (ba (x ++ y))) : catD (ba x) (ba y) k := by
  refine ⟨?_, ?_⟩
  · have : (((ba x).size + (ba y).size : Nat) : Int) = ((x.length + y.length : Nat) : Int) := rfl
    rw [this]
    show _ ≤ (9223372036854775807 : Int)
    omega
  · show k (ByteArray.mk ⟨x⟩ ++ ByteArray.mk ⟨y⟩)
    rw [ba_append]; exact hk
theorem texts_succ {ops : List PgOp} {i : Nat} {o : PgOp} (h : ops[i]? = some o) : texts (ops.take (i + 1)) = texts (ops.take i) ++ (if o.flush then [] else o.text) := by
  unfold texts; rw [List.take_add_one, h]; simp
theorem outs_succ {al : List (Ans × List By)} {i : Nat} {y : Ans × List By} (h : al[i]? = some y) : outs (al.take (i + 1)) = outs (al.take i) ++ y.2.flatten := by
  unfold outs; rw [List.take_add_one, h]; simp
theorem outs_le (al : List (Ans × List By)) (i : Nat) : (outs (al.take i)).length ≤ (outs al).length := by
  have : outs al = outs (al.take i) ++ outs (al.drop i) := by unfold outs; rw [← List.flatten_append, ← List.map_append, List.take_append_drop]
  rw [this]; simp
theorem texts_le : ∀ (ops : List PgOp), (texts ops).length ≤ sumT ops := by
  intro ops
  induction ops with
  | nil => simp [texts, sumT]
  | cons o ops ih =>
    simp only [texts, sumT, List.map_cons, List.flatten_cons, List.length_append, List.sum_cons] at ih ⊢
    have : (if o.flush = true then ([] : By) else o.text).length ≤ o.text.length := by split <;> simp
    omega
theorem sum_take : ∀ (ops : List PgOp) (i : Nat), sumT (ops.take i) ≤ sumT ops := by
  intro ops
  induction ops with
  | nil => intro i; simp [sumT]
  | cons o ops ih => intro i; cases i with
    | zero => simp [sumT]
    | succ i => have := ih i; simp [sumT] at this ⊢; omega
theorem sum_mem {ops : List PgOp} {o : PgOp} (h : o ∈ ops) : o.text.length ≤ sumT ops := by
  induction ops with
  | nil => cases h
  | cons x ops ih =>
    simp only [sumT, List.map_cons, List.sum_cons] at ih ⊢
    rcases List.mem_cons.1 h with rfl | h
    · omega
    · have := ih h; omega
section
variable {s3 : Option Addr} {n c : Nat} {out : Option Addr} {oc : Nat} {ops : List PgOp} {al : List (Ans × List By)} {H8 : Heap} {R : Ending → Heap → Prop}
theorem inner7 (y : Ans × List By) (i : Nat) (inS : By) (o0 : By) (hy : y.1.n = y.2.length) (hlen : o0.length + y.2.flatten.length ≤ 1048576) (hn : y.2.length < 1000000) {H : Heap} (hw : RowsAt strCell 1 H y.1.p y.2)
    (k : F7.L0 s3 n c (ba inS) (ba (o0 ++ y.2.flatten)) out (n + 1) oc ((n + 1 : Nat) : Int) (IntKind.wrap .i64 ((i : Int) + (1 : Int))) H R) :
    ∀ (d j : Nat), j + d = y.2.length → F7.L3 s3 n c (ba inS) (ba (o0 ++ (y.2.take j).flatten)) out (n + 1) oc ((n + 1 : Nat) : Int) (i : Int) y.1.p y.1.n y.1.c (y.1.n : Int) (j : Int) H R := by
  intro d
  induction d with
  | zero =>
    intro j hj
    refine F7.L3_step ?_
    unfold F7.L3n
    refine iteB_i (fun h => by simp at h; omega) (fun _ => ?_)
    rw [List.take_of_length_le (by omega)]
    exact k
  | succ d ih =>
    intro j hj
    refine F7.L3_step ?_
    unfold F7.L3n
    refine iteB_i (fun _ => ?_) (fun h => by simp at h; omega)
    refine hw.idx hy (by omega) (by omega) ?_
    intro a s hs hc
    refine ⟨_, at_zero hc rfl, ?_⟩
    have hs' : y.2[j]? = some s := hs
    have htk : (y.2.take (j + 1)).flatten = (y.2.take j).flatten ++ s := by rw [List.take_add_one, hs']; simp
    have hbd : (y.2.take (j + 1)).flatten.length ≤ y.2.flatten.length := by
      have : y.2.flatten = (y.2.take (j + 1)).flatten ++ (y.2.drop (j + 1)).flatten := by rw [← List.flatten_append, List.take_append_drop]
      rw [this]; simp
    refine catD_ba ?_ ?_
    · rw [htk] at hbd
      simp only [List.length_append] at hbd ⊢
      omega
    have e1 : IntKind.wrap .i64 ((j : Int) + (1 : Int)) = ((j + 1 : Nat) : Int) := by rw [wrap64_small (by omega) (by omega)]; rfl
    rw [e1]
    have := ih (j + 1) (by omega)
    rw [htk, ← List.append_assoc] at this
    exact this
theorem outer7 (hn : n = ops.length) (hn3 : n ≤ 300) (hal : al.length = n + 1) (hR : RowsAt PgOp.cells 2 H8 s3 ops) (hA : RowsAt Ans.cells 2 H8 out (al.map (·.1))) (hw : ∀ y ∈ al, RowsAt strCell 1 H8 y.1.p y.2) (hst : ∀ (i : Nat) (y : Ans × List By), al[i]? = some y → y.1.n = y.2.length)
    (hN : ∀ (i : Nat) (o : PgOp) (y : Ans × List By), ops[i]? = some o → al[i]? = some y → o.flush = false → y.1.N = o.text.length) (hsum : sumT ops ≤ 1048576) (heq : outs al = texts ops) (hcnt : ∀ y ∈ al, y.2.length < 1000000) {H0 : Heap} (E0 : ExtH H0 H8) :
    ∀ (d i : Nat) (H : Heap), i + d = n + 1 → ExtH H8 H → F7.L0 s3 n c (ba (texts (ops.take i))) (ba (outs (al.take i))) out (n + 1) oc ((n + 1 : Nat) : Int) (i : Int) H (Gives (.bool true) H0) := by
  intro d
  have htl := texts_le ops
  induction d with
  | zero =>
    intro i H hi E
    obtain rfl : i = n + 1 := by omega
    refine F7.L0_step ?_
    unfold F7.L0n
    refine iteB_i (fun h => by simp at h) (fun _ => ?_)
    rw [List.take_of_length_le (by omega), List.take_of_length_le (by omega), heq]
    refine iteB_i (fun _ => ?_) (fun h => by rw [eqS_refl] at h; cases h)
    refine St.call ((St.start H8).extend E) (pgLive_ok H) ?_
    intro H1 E1 L
    exact tBool_i ⟨rfl, E0.trans L.ext⟩
  | succ d ih =>
    intro i H hi E
    refine F7.L0_step ?_
    unfold F7.L0n
    refine iteB_i (fun _ => ?_) (fun h => by simp at h; omega)
    refine (hA.ext E).idx (by simp [hal]) (by omega) (by omega) ?_
    intro a x hx hc
    obtain ⟨y, hy, rfl⟩ : ∃ y, al[i]? = some y ∧ y.1 = x := by
      have : (al.map (·.1))[i]? = some x := hx
      rw [List.getElem?_map, Option.map_eq_some_iff] at this
      exact this
    refine ⟨_, at_zero hc rfl, _, _, _, hc 1 _ rfl, ?_⟩
    have hos := outs_succ hy
    have hol := outs_le al (i + 1)
    rw [hos, List.length_append] at hol
    have hal2 : (outs al).length = (texts ops).length := by rw [heq]
    have L := St.start H
    refine St.new L ?_
    intro r H1 L
    refine St.st L 0 rfl rfl rfl ?_
    intro H2 L
    refine St.st L 0 rfl rfl rfl ?_
    intro H3 L
    -- behind the test
    have rest : ∀ (ti : By), ti = texts (ops.take (i + 1)) → F7.L2 s3 n c (ba ti) (ba (outs (al.take i))) r out (n + 1) oc ((n + 1 : Nat) : Int) (i : Int) H3 (Gives (.bool true) H0) := by
      intro ti hti
      refine F7.L2_step ?_
      unfold F7.L2n
      refine ⟨_, _, _, L.at_ 0 rfl rfl, ?_⟩
      have e1 : IntKind.wrap .i64 ((i : Int) + (1 : Int)) = ((i + 1 : Nat) : Int) := by rw [wrap64_small (by omega) (by omega)]; rfl
      have := inner7 (s3 := s3) (n := n) (c := c) (out := out) (oc := oc) (R := Gives (.bool true) H0) y i ti (outs (al.take i)) (hst i y hy) (by omega) (hcnt y (List.mem_of_getElem? hy)) ((hw y (List.mem_of_getElem? hy)).ext (E.trans L.ext)) (by
        rw [e1, ← hos, hti]
        exact ih (i + 1) H3 (by omega) (E.trans L.ext)) y.2.length 0 (by omega)
      simpa using this
    refine iteB_i (fun hlt => ?_) (fun hlt => ?_)
    · simp at hlt
      refine (hR.ext (E.trans L.ext)).idx hn (by omega) (by omega) ?_
      intro a o ho hc
      have ho' : ops[i]? = some o := ho
      have hts := texts_succ ho'
      refine ⟨_, hc 1 _ rfl, ?_⟩
      refine iteB_i (fun hf => ?_) (fun hf => ?_)
      · simp at hf
        rw [hf] at hts
        refine F7.L1_step ?_
        unfold F7.L1n
        refine (hR.ext (E.trans L.ext)).idx hn (by omega) (by omega) ?_
        intro a2 o2 ho2 hc2
        obtain rfl : o2 = o := by
          have : ops[i]? = some o2 := ho2
          rw [ho'] at this; injection this with this; exact this.symm
        refine ⟨_, at_zero hc2 rfl, ?_⟩
        have hb1 : (texts (ops.take i)).length ≤ sumT ops := Nat.le_trans (texts_le _) (sum_take ops i)
        have hb2 := sum_mem (List.mem_of_getElem? ho')
        refine catD_ba (x := texts (ops.take i)) (y := o2.text) (by omega) ?_
        refine (hR.ext (E.trans L.ext)).idx hn (by omega) (by omega) ?_
        intro a3 o3 ho3 hc3
        obtain rfl : o3 = o2 := by
          have : ops[i]? = some o3 := ho3
          rw [ho'] at this; injection this with this; exact this.symm
        refine ⟨_, L.at_ 0 rfl rfl, ?_⟩
        refine ⟨_, at_zero hc3 rfl, ?_⟩
        have hNi := hN i o3 y ho' hy hf
        have e : (ByteArray.mk ⟨o3.text⟩).size = o3.text.length := rfl
        dsimp only
        rw [e, hNi]
        refine iteB_i (fun h => by simp at h) (fun _ => ?_)
        exact rest _ (by rw [hts]; rfl)
      · simp at hf
        rw [hf] at hts
        have := rest (texts (ops.take i)) (by rw [hts]; simp)
        exact this
    · simp at hlt
      have : ops.take (i + 1) = ops.take i := by rw [List.take_of_length_le (by omega), List.take_of_length_le (by omega)]
      exact rest _ (by rw [this])
end
end Go.Proofs.Ytpankppliidaoaa
