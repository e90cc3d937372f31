/- A plain reading of Go functions, proved to be what they do; no condition. -/
/- That the plain words for the operations which write or make memory, or call, are the model's. -/
import Derived.Test.YtkenjnllegbmjaaGreatDenN
set_option linter.unusedVariables false
set_option linter.unusedSimpArgs false
namespace Go.Den
open Go
section
variable {P : Program} {H : Heap}

theorem semH_of_pure {α : Type} {s : Sem α} {a : α} (h : pureV P s = some a) {K : α → Heap → Prop} {Q : Value → Heap → Prop} (hk : K a H) : SemH P s H K Q := pureV.sem s h hk
theorem semH_of_read {α : Type} {s : Sem α} {a : α} (h : readV P s H = some a) {K : α → Heap → Prop} {Q : Value → Heap → Prop} (hk : K a H) : SemH P s H K Q := readV.sem s h hk
theorem st1.sem {a : Addr} {v : Value} {K : Heap → Prop} {Q : Value → Heap → Prop} (h : st1 H a v K) : SemH P (store a v) H (fun _ H1 => K H1) Q := by
  obtain ⟨h1, h2, h3, h4⟩ := h
  exact ⟨h1, h2, h3, h4⟩
theorem stCs.sem {a : Addr} : ∀ {vs : List Value} {H : Heap} {i : Nat} {K : Heap → Prop} {Q : Value → Heap → Prop}, stCs a H i vs K → SemH P (storeCells a vs i) H (fun _ H1 => K H1) Q := by
  intro vs
  induction vs with
  | nil => intro H i K Q h; exact h
  | cons v r ih =>
    intro H i K Q h
    simp only [storeCells]
    rw [SemH_bind]
    exact SemH.mono _ (st1.sem (K := fun H1 => stCs a H1 (i + 1) r K) (Q := Q) h) (fun _ H1 h1 => ih h1) (fun _ _ h => h)
theorem newRow.sem {e : TypeId} {cs : Array Value} {K : Addr → Heap → Prop} {Q : Value → Heap → Prop} (h : K ⟨H.size, 0, none⟩ (H.push (.cells cs e))) : SemH P (newRow e cs) H K Q := by
  unfold newRow
  rw [SemH_bind]
  exact h
theorem cellsOf_aux {t : TypeId} {n : Nat} (h : hasInfo P t = true) : ∃ i, P.info? t = some i ∧ P.cellsOf t = i.size := by
  unfold hasInfo at h
  split at h
  · rename_i i hi; exact ⟨i, hi, cellsOf_info hi⟩
  · cases h
theorem storeD.sem {T : TypeId} {a : Addr} {v : Value} {K : Heap → Prop} {Q : Value → Heap → Prop} (h : storeD P T a v H K) : SemH P (storeVar T a v) H (fun _ H1 => K H1) Q := by
  unfold storeD at h
  have h := h.spec
  unfold guardB at h
  split at h
  · rename_i hc
    simp only [Bool.and_eq_true, beq_iff_eq] at hc
    obtain ⟨i, hi, hs⟩ := cellsOf_aux (n := 0) hc.2
    unfold storeVar
    rw [SemH_bind]
    refine semH_of_pure (pureV_sizeOf hi) ?_
    rw [if_neg (by have := hc.1; simp at this; simp [this])]
    exact stCs.sem h
  · exact h.elim
theorem box.sem {T : TypeId} {v : Value} {K : Value → Heap → Prop} {Q : Value → Heap → Prop} (h : boxV P T v H K) : SemH P (Instr.box T v) H K Q := by
  unfold boxV at h
  have h := h.spec
  unfold Instr.box newVar
  rw [SemH_bind]
  refine newRow.sem ?_
  exact h
theorem zeroL.sem {t : TypeId} {zs : List Value} (h : zeroL P t = some zs) : ∃ z, pureV P (zeroValue t) = some z ∧ z.cells = ⟨zs⟩ := by
  obtain ⟨i, z, h1, h2, h3⟩ := zeroL.spec h
  refine ⟨z, ?_, h3⟩
  unfold zeroValue
  rw [pureV_bind, pureV_typeInfo h1]
  simp only [Option.bind_some, h2]
  rfl
theorem alloc.sem {T : TypeId} {zs : List Value} {K : Value → Heap → Prop} {Q : Value → Heap → Prop} (hz : zeroL P T = some zs) (h : newD H (.cells ⟨zs⟩ T) fun r H1 => K (.pointer (some ⟨r, 0, none⟩)) H1) :
    SemH P (Instr.alloc T true (.tuple #[])) H K Q := by
  obtain ⟨z, h1, h2⟩ := zeroL.sem hz
  unfold Instr.alloc
  rw [SemH_bind]
  refine semH_of_pure h1 ?_
  simp only
  unfold newVar
  rw [SemH_bind]
  refine newRow.sem ?_
  rw [h2]
  exact h
theorem range_rep (zs : List Value) (n : Nat) : (Array.range (n * zs.length)).map (fun i => (⟨zs⟩ : Array Value)[i % (⟨zs⟩ : Array Value).size]!) = ⟨(List.replicate n zs).flatten⟩ := by
  induction n with
  | zero => simp
  | succ n ih =>
    have hr : Array.range ((n + 1) * zs.length) = Array.range (n * zs.length) ++ (Array.range zs.length).map (n * zs.length + ·) := by
      rw [Nat.succ_mul]
      apply Array.ext'
      simp [List.range_add]
    rw [hr, Array.map_append, ih, Array.map_map]
    apply Array.ext'
    simp only [Array.toList_append, Array.toList_map, Array.toList_range, List.replicate_succ', List.flatten_append, List.flatten_cons, List.flatten_nil, List.append_nil]
    congr 1
    apply List.ext_getElem
    · simp
    · intro i h1 h2
      simp at h1
      simp [Nat.mod_eq_of_lt h1, h1]
theorem fill_place {e : TypeId} {ie : TypeInfo} (hie : P.info? e = some ie) : ∀ (i off : Nat) (t : TypeId), (fun i => some (i * P.cellsOf e, e)) i = some (off, t) → (fun i => some (i * ie.size, ie.size)) i = some (off, P.cellsOf t) := by
  intro i off t hi
  simp at hi
  obtain ⟨rfl, rfl⟩ := hi
  simp [cellsOf_info hie]
theorem buildSlice.sem {T e : TypeId} {ie : TypeInfo} {zs : List Value} {n : Nat} {parts : Array (Nat × Value)} {K : Value → Heap → Prop} {Q : Value → Heap → Prop} (ht : P.underlying T = some (.slice e)) (hie : P.info? e = some ie) (hz : zeroL P e = some zs)
    (hn : n * ie.size ≤ 1000) (hl : zs.length = ie.size)
    (h : fillD P (fun i => some (i * P.cellsOf e, e)) (List.replicate n zs).flatten parts.toList fun cs => newD H (.cells ⟨cs⟩ e) fun r H1 => K (.slice (some ⟨r, 0, none⟩) n n) H1) :
    SemH P (Instr.buildSlice T n parts) H K Q := by
  obtain ⟨z, h1, h2⟩ := zeroL.sem hz
  obtain ⟨cs, h3, h4⟩ := fillD.spec (pl := fun i => some (i * ie.size, ie.size)) (fill_place hie) h
  unfold Instr.buildSlice
  rw [SemH_bind]
  refine semH_of_pure (pureV_underlying ht) ?_
  simp only
  rw [SemH_bind]
  refine semH_of_pure (pureV_sizeOf hie) ?_
  rw [cellsOf_info hie]
  rw [if_neg (by omega)]
  have key : (Array.range (n * ie.size)).map (fun i => (⟨zs⟩ : Array Value)[i % (⟨zs⟩ : Array Value).size]!) = ⟨(List.replicate n zs).flatten⟩ := by rw [← hl]; exact range_rep zs n
  by_cases h0 : n * ie.size = 0
  · rw [if_pos h0]
    rw [SemH_bind, SemH_pure]
    have e0 : (Array.range (n * ie.size)).map (fun i => (#[] : Array Value)[i % (#[] : Array Value).size]!) = ⟨(List.replicate n zs).flatten⟩ := by
      rw [← key, h0]; simp
    rw [e0, h3]
    simp only
    rw [SemH_bind]
    refine newRow.sem ?_
    exact h4
  · rw [if_neg h0]
    rw [SemH_bind]
    refine semH_of_pure h1 ?_
    rw [SemH_bind, h2, SemH_pure, key, h3]
    simp only
    rw [SemH_bind]
    refine newRow.sem ?_
    exact h4
theorem wrap_id {n : Int} (h0 : 0 ≤ n) (h1 : n ≤ 2 ^ 48) : IntKind.i64.wrap n = n := by
  have e : n % 18446744073709551616 = n := Int.emod_eq_of_lt h0 (by omega)
  show (if (true && decide (n % 18446744073709551616 ≥ 9223372036854775808)) = true then n % 18446744073709551616 - 18446744073709551616 else n % 18446744073709551616) = n
  simp only [e]
  rw [if_neg (by simp; omega)]
theorem repZ_spec (zs : List Value) (n : Nat) : (⟨repZ zs n⟩ : Array Value) = (Array.range (n * zs.length)).map (fun i => (⟨zs⟩ : Array Value)[i % (⟨zs⟩ : Array Value).size]!) := by
  unfold repZ Builtin.zeroCells
  rfl
theorem askRoom.sem {n : Nat} {K : Unit → Heap → Prop} {Q : Value → Heap → Prop} (h : K () H) : SemH P (askRoom n) H K Q := by
  unfold askRoom
  split <;> exact h
theorem makeSlice.sem {T e : TypeId} {ie : TypeInfo} {zs : List Value} {l c : Int} {k1 k2 : IntKind} {K : Value → Heap → Prop} {Q : Value → Heap → Prop} (ht : P.underlying T = some (.slice e)) (hie : P.info? e = some ie) (hz : zeroL P e = some zs) (hl : zs.length = ie.size)
    (h : mkD H ie.bytes zs e l c fun r l c H1 => K (.slice (some ⟨r, 0, none⟩) l c) H1) : SemH P (Instr.makeSlice T (.int k1 l) (.int k2 c)) H K Q := by
  obtain ⟨hb, h0, h1, h2, h3⟩ := h
  obtain ⟨z, h4, h5⟩ := zeroL.sem hz
  have hc : c ≤ 2 ^ 48 := by
    have : (1 : Int) * c ≤ ie.bytes * c := Int.mul_le_mul_of_nonneg_right (by omega) (by omega)
    omega
  unfold Instr.makeSlice
  rw [SemH_bind]
  refine semH_of_pure (pureV_underlying ht) ?_
  simp only
  rw [SemH_bind]
  refine semH_of_pure (a := l) rfl ?_
  rw [SemH_bind]
  refine semH_of_pure (a := c) rfl ?_
  rw [SemH_bind]
  refine semH_of_pure (pureV_typeInfo hie) ?_
  simp only [wrap_id h0 (by omega), wrap_id (Int.le_trans h0 h1) hc]
  have hf : (decide (c < 0) || decide ((ie.bytes : Int) * c > 2 ^ 48) || decide (l < 0) || decide (l > c)) = false := by
    simp; omega
  rw [if_neg (by rw [hf]; simp)]
  simp only [SemH_bind]
  refine askRoom.sem ?_
  refine semH_of_pure (pureV_sizeOf hie) ?_
  rw [cellsOf_info hie]
  have key := repZ_spec zs c.toNat
  rw [hl] at key
  by_cases hn : c.toNat * ie.size = 0
  · rw [if_pos hn, SemH_bind, SemH_pure, SemH_bind]
    refine newRow.sem ?_
    rw [SemH_pure]
    have e0 : (Array.range (c.toNat * ie.size)).map (fun i => (#[] : Array Value)[i % (#[] : Array Value).size]!) = ⟨repZ zs c.toNat⟩ := by
      rw [key, hn]; simp
    rw [e0]
    exact h3
  · rw [if_neg hn, SemH_bind]
    refine semH_of_pure h4 ?_
    rw [SemH_bind, SemH_pure, SemH_bind]
    refine newRow.sem ?_
    rw [SemH_pure, h5, ← key]
    exact h3
theorem sb.sem {e : TypeId} {s : ByteArray} {K : Value → Heap → Prop} {Q : Value → Heap → Prop} (h : sbD H e s fun r c H1 => K (.slice (some ⟨r, 0, none⟩) s.size c) H1) : SemH P (Conv.stringToBytes e s) H K Q := by
  obtain ⟨hs, h⟩ := h
  unfold Conv.stringToBytes
  rw [SemH_bind]
  intro t
  simp only [Question.forced, Bool.false_eq_true, if_false, Question.cut]
  have hge : s.size ≤ s.size + t % (2 ^ 63 - s.size) := by omega
  generalize hcap : s.size + t % (2 ^ 63 - s.size) = cap at hge
  have h := h cap hge
  show SemH P (do let a ← newRow e _; markStringish a; pure (Value.slice (some a) s.size cap)) H K Q
  rw [SemH_bind]
  refine newRow.sem ?_
  rw [SemH_bind]
  unfold markStringish
  have e1 : (s.data.map (fun b => Value.int .u8 b.toNat) ++ Array.replicate (cap - s.size) (.int .u8 0)) = ⟨bytesOf s.data.toList ++ List.replicate (cap - s.size) (.int .u8 0)⟩ := by
    apply Array.ext'; simp [bytesOf]
  rw [e1]
  have hsh : hshape (H.push (.cells ⟨bytesOf s.data.toList ++ List.replicate (cap - s.size) (.int .u8 0)⟩ e)) H.size = some (e, cap) := by
    unfold hshape
    rw [Array.getElem?_push_size]
    simp [bytesOf]
    have : s.data.size = s.size := rfl
    omega
  rw [SemH_bind]
  refine semH_of_read (readV_shape (by simp)) ?_
  rw [hsh]
  simp only
  show SemH P (pure (Value.slice (some ⟨H.size, 0, none⟩) s.size cap)) (hfreeze _ ⟨H.size, cap, none⟩ 1) K Q
  rw [SemH_pure]
  have e2 : hfreeze (H.push (.cells ⟨bytesOf s.data.toList ++ List.replicate (cap - s.size) (.int .u8 0)⟩ e)) { block := H.size, off := cap } 1 = H.push (.cells ⟨bytesOf s.data.toList ++ List.replicate (cap - s.size) (.int .u8 0)⟩ e (cap, cap + 1)) := by
    unfold hfreeze
    rw [if_neg (by omega)]
    apply Array.ext
    · simp
    · intro i h1 h2
      rw [Array.getElem_modify]
      by_cases hi : H.size = i
      · subst hi; simp
      · have : i < H.size := by simp at h2; omega
        simp [hi, Array.getElem_push, this]
  rw [e2]
  exact h
end
end Go.Den
