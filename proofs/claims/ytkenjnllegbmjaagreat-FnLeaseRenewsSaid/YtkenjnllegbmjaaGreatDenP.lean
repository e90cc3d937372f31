/- A plain reading of Go functions, proved to be what they do; no condition. -/
/- That the plain words for the operations which touch no memory are the model's. -/
import Derived.Test.YtkenjnllegbmjaaGreatDenO
set_option linter.unusedVariables false
set_option linter.unusedSimpArgs false
namespace Go.Den
open Go
section
variable {P : Program}

theorem unD.to {op : UnOp} {v : Value} {k : Value → Prop} (h : unD op v k) : To P (Op.unary op v) k := by
  cases op <;> simp only [unD] at h <;> try exact h.elim
  all_goals (cases v <;> simp only at h <;> try exact h.elim)
  all_goals exact .mk h fun w => rfl
theorem cvD.to {s d : TypeId} {v : Value} {k : Value → Prop} (h : cvD P s d v k) : To P (convert s d v) k := by
  unfold cvD at h
  split at h
  · rename_i ks hs
    split at h
    · rename_i kd hd
      cases v <;> simp only at h <;> try exact h.elim
      exact .mk h fun w => by unfold convert; rw [Sem.run_bind, run_und hs, Result.andThen_ok, Sem.run_bind, run_und hd]; rfl
    · rename_i kd hd
      cases v <;> simp only at h <;> try exact h.elim
      exact .mk h fun w => by unfold convert; rw [Sem.run_bind, run_und hs, Result.andThen_ok, Sem.run_bind, run_und hd]; rfl
    · exact h.elim
  · rename_i ks hs
    split at h
    · rename_i kd hd
      cases v <;> simp only at h <;> try exact h.elim
      unfold fiD at h
      split at h
      · rename_i n hn
        refine .mk h.2 fun w => ?_
        unfold convert
        rw [Sem.run_bind, run_und hs, Result.andThen_ok, Sem.run_bind, run_und hd, Result.andThen_ok]
        dsimp only
        unfold Conv.floatToInt
        dsimp only
        rw [hn]
        dsimp only
        rw [if_pos h.1]
        rfl
      · exact h.elim
    · exact h.elim
  · rename_i hs
    split at h
    · rename_i hd
      cases v <;> simp only at h <;> try exact h.elim
      exact .mk h fun w => by unfold convert; rw [Sem.run_bind, run_und hs, Result.andThen_ok, Sem.run_bind, run_und hd]; rfl
    · exact h.elim
  · exact h.elim
theorem faD.to {S : TypeId} {f : Nat} {v : Value} {k : Value → Prop} (h : faD P S f v k) : To P (Instr.fieldAt S v f) k := by
  unfold faD at h
  split at h
  · rename_i fs hs
    split at h
    · rename_i fd hf
      split at h
      · rename_i p
        split at h
        · rename_i a
          split at h
          · rename_i i hi
            split at h
            · exact h.elim
            · rename_i m hm
              refine .mk h fun w => ?_
              unfold Instr.fieldAt
              rw [Sem.run_bind, run_und hs]
              simp only [Result.andThen_ok, hf]
              rw [Sem.run_bind]
              simp only [Instr.sureAddr, Sem.run_pure, Result.andThen_ok]
              rw [Sem.run_bind]
              unfold fieldPlace
              rw [Sem.run_bind, run_size hi]
              simp only [Result.andThen_ok]
              rw [if_neg (by omega)]
              rfl
          · exact h.elim
        · exact h.elim
      · exact h.elim
    · exact h.elim
  · exact h.elim
theorem fldD.to {T : TypeId} {f : Nat} {v : Value} {k : Value → Prop} (h : fldD P T f v k) : To P (Instr.field T v f) k := by
  unfold fldD at h
  split at h
  · rename_i fs hs
    split at h
    · rename_i fd hf
      split at h
      · rename_i cs
        split at h
        · exact h.elim
        · rename_i d hd
          obtain ⟨i, hi⟩ := info_of_underlying hd
          split at h
          · rename_i hag
            refine .mk h fun w => ?_
            unfold Instr.field
            rw [Sem.run_bind, run_und hs]
            simp only [Result.andThen_ok, hf]
            rw [Sem.run_bind]
            simp only [asAgg, Sem.run_pure, Result.andThen_ok]
            unfold part
            rw [Sem.run_bind, run_isAgg hd]
            simp only [Result.andThen_ok, hag, if_true]
            rw [Sem.run_bind, run_size hi]
            simp only [Result.andThen_ok, Sem.run_pure]
            congr 2
            apply Array.ext'
            simp [cellsOf_info hi, List.extract_eq_take_drop]
          · rename_i hag
            split at h
            · rename_i x hx
              refine .mk h fun w => ?_
              unfold Instr.field
              rw [Sem.run_bind, run_und hs]
              simp only [Result.andThen_ok, hf]
              rw [Sem.run_bind]
              simp only [asAgg, Sem.run_pure, Result.andThen_ok]
              unfold part
              rw [Sem.run_bind, run_isAgg hd]
              simp only [Result.andThen_ok, hag, Bool.false_eq_true, if_false]
              rw [show cs[fd.offset]? = some x by simpa using hx]
              rfl
            · exact h.elim
      · exact h.elim
    · exact h.elim
  · exact h.elim
theorem iaD.to {T : TypeId} {vx vi : Value} {k : Value → Prop} (h : iaD P T vx vi k) : To P (Instr.indexAt T vx vi) k := by
  unfold iaD at h
  split at h
  · rename_i kd i
    split at h
    · rename_i e ht
      split at h
      · rename_i ie hie
        split at h
        · rename_i p n c
          obtain ⟨h0, h1, h⟩ := h
          unfold nilD at h
          split at h
          · rename_i a
            refine .mk h fun w => ?_
            unfold Instr.indexAt
            rw [Sem.run_bind]
            simp only [asIntOf, Sem.run_pure, Result.andThen_ok]
            simp only [Sem.run_bind, run_und ht, Result.andThen_ok, Sem.run_pure, Bool.and_false]
            rw [if_pos ⟨h0, h1⟩]
            simp only [Sem.run_bind, run_size hie, Result.andThen_ok, Sem.run_pure]
          · exact h.elim
        · exact h.elim
      · exact h.elim
    · rename_i n e ht
      split at h
      · rename_i ie hie
        split at h
        · rename_i p
          split at h
          · rename_i a
            obtain ⟨h0, h1, h⟩ := h
            refine .mk h fun w => ?_
            unfold Instr.indexAt
            rw [Sem.run_bind]
            simp only [asIntOf, Sem.run_pure, Result.andThen_ok]
            simp only [Sem.run_bind, run_und ht, Result.andThen_ok, Sem.run_pure, Instr.sureAddr]
            rw [if_pos ⟨h0, h1⟩]
            simp only [Sem.run_bind, run_size hie, Result.andThen_ok, Sem.run_pure]
          · exact h.elim
        · exact h.elim
      · exact h.elim
    · exact h.elim
  · exact h.elim
theorem ixD.to {T : TypeId} {vx vi : Value} {k : Value → Prop} (h : ixD P T vx vi k) : To P (Instr.index T vx vi) k := by
  unfold ixD at h
  split at h
  · rename_i kd i
    split at h
    · rename_i ht
      split at h
      · rename_i s
        obtain ⟨h0, b, hb, h⟩ := h
        refine .mk h fun w => ?_
        unfold Instr.index
        rw [Sem.run_bind]
        simp only [asIntOf, Sem.run_pure, Result.andThen_ok]
        simp only [Sem.run_bind, run_und ht, Result.andThen_ok, if_pos h0, hb, Sem.run_pure]
      · exact h.elim
    · exact h.elim
  · exact h.elim
theorem run_sliceBound {v : Value} {i : Int} {kd : IntKind} {y : Nat} {code : BoundsCode} (h0 : 0 ≤ i) (h1 : i ≤ y) (w : World) : (Instr.sliceBound (.int kd i) y code).run P w = .ok i.toNat w := by
  unfold Instr.sliceBound
  rw [Sem.run_bind]
  simp only [asIntOf, Sem.run_pure, Result.andThen_ok, if_pos (show 0 ≤ i ∧ i ≤ (y : Int) from ⟨h0, h1⟩)]
theorem bnd.lo {lo : Option Value} {h : Nat} {isS : Bool} {code : BoundsCode} {k : Nat → Prop} (hb : bnd lo h 0 k) : ∃ l, k l ∧ ∀ w, ((match lo with | some v => Instr.sliceBound v h code | none => pure 0 : Sem Nat)).run P w = .ok l w := by
  cases lo with
  | none => exact ⟨0, hb, fun w => rfl⟩
  | some v =>
    cases v <;> simp only [bnd] at hb <;> try exact hb.elim
    obtain ⟨h0, h1, hb⟩ := hb
    exact ⟨_, hb, fun w => run_sliceBound (v := .nilIface) h0 h1 w⟩
theorem sliceBounds_none {isS : Bool} {len cap : Nat} {lo hi : Option Value} {k : Nat → Nat → Prop} (h : bnd hi cap len fun h => bnd lo h 0 fun l => k l h) :
    ∃ l h, k l h ∧ ∀ w, (Instr.sliceBounds isS len cap lo hi none).run P w = .ok (l, h, cap) w := by
  cases hi with
  | none =>
    have h : bnd lo len 0 fun l => k l len := h
    obtain ⟨l, hk, hr⟩ := bnd.lo (P := P) (isS := isS) (code := .sliceB) h
    refine ⟨l, len, hk, fun w => ?_⟩
    unfold Instr.sliceBounds
    simp only [Sem.run_bind, Sem.run_pure, Result.andThen_ok]
    cases lo with
    | none => have := hr w; simp only [Sem.run_pure] at this; injection this with this; subst this; rfl
    | some v => have := hr w; simp only at this; simp only [Option.isSome_none, Bool.false_eq_true, if_false]; rw [Sem.run_bind, this]; rfl
  | some v =>
    cases v <;> try exact (show False from h).elim
    rename_i kd i
    obtain ⟨h0, h1, h⟩ := h
    have h : bnd lo i.toNat 0 fun l => k l i.toNat := h
    obtain ⟨l, hk, hr⟩ := bnd.lo (P := P) (isS := isS) (code := .sliceB) h
    refine ⟨l, i.toNat, hk, fun w => ?_⟩
    unfold Instr.sliceBounds
    simp only [Sem.run_bind, Sem.run_pure, Result.andThen_ok, run_sliceBound (v := .nilIface) h0 h1]
    cases lo with
    | none => have := hr w; simp only [Sem.run_pure] at this; injection this with this; subst this; rfl
    | some v => have := hr w; simp only at this; simp only [Option.isSome_none, Bool.false_eq_true, if_false]; rw [Sem.run_bind, this]; rfl
theorem sliceBounds_some {len cap : Nat} {lo : Option Value} {hi mx : Value} {k : Nat → Nat → Nat → Prop} (h : bnd (some mx) cap cap fun m => bnd (some hi) m len fun h => bnd lo h 0 fun l => k l h m) :
    ∃ l h m, k l h m ∧ ∀ w, (Instr.sliceBounds true len cap lo (some hi) (some mx)).run P w = .ok (l, h, m) w := by
  cases mx <;> try exact (show False from h).elim
  rename_i kd i
  obtain ⟨h0, h1, h⟩ := h
  cases hi <;> try exact (show False from h).elim
  rename_i kd2 i2
  obtain ⟨h2, h3, h⟩ := h
  have h : bnd lo i2.toNat 0 fun l => k l i2.toNat i.toNat := h
  obtain ⟨l, hk, hr⟩ := bnd.lo (P := P) (isS := true) (code := .slice3C) h
  refine ⟨l, i2.toNat, i.toNat, hk, fun w => ?_⟩
  unfold Instr.sliceBounds
  simp only [Sem.run_bind, Sem.run_pure, Result.andThen_ok, run_sliceBound (v := .nilIface) h0 h1, run_sliceBound (v := .nilIface) h2 h3]
  cases lo with
  | none => have := hr w; simp only [Sem.run_pure] at this; injection this with this; subst this; rfl
  | some v => have := hr w; simp only at this; simp only [Option.isSome_some, if_true]; rw [Sem.run_bind, this]; rfl
theorem slD.to {T : TypeId} {v : Value} {lo hi mx : Option Value} {k : Value → Prop} (h : slD P T v lo hi mx k) : To P (Instr.sliceAt T v lo hi mx) k := by
  unfold slD at h
  split at h
  · rename_i ht
    split at h
    · rename_i s
      split at h
      · obtain ⟨l, h', hk, hr⟩ := sliceBounds_none (P := P) (isS := false) (len := s.size) (cap := s.size) (lo := lo) (hi := hi) (k := fun l h => k (.string (s.extract l h))) h
        refine .mk hk fun w => ?_
        unfold Instr.sliceAt Instr.slice
        simp only [Sem.run_bind, run_und ht, Result.andThen_ok, Option.isSome_none, Bool.false_eq_true, if_false, hr, Sem.run_pure]
      · exact h.elim
    · exact h.elim
  · rename_i e ht
    split at h
    · rename_i ie hie
      split at h
      · rename_i p n c
        split at h
        · obtain ⟨l, h', hk, hr⟩ := sliceBounds_none (P := P) (isS := true) (len := n) (cap := c) (lo := lo) (hi := hi) (k := fun l h => k (slV p l h c ie.size)) h
          refine .mk hk fun w => ?_
          unfold Instr.sliceAt Instr.slice
          simp only [Sem.run_bind, run_und ht, Result.andThen_ok, hr, run_size hie, Sem.run_pure, slV]
        · rename_i mv
          split at h
          · rename_i hv
            obtain ⟨l, h', m, hk, hr⟩ := sliceBounds_some (P := P) (len := n) (cap := c) (lo := lo) (hi := hv) (mx := mv) (k := fun l h m => k (slV p l h m ie.size)) h
            refine .mk hk fun w => ?_
            unfold Instr.sliceAt Instr.slice
            simp only [Sem.run_bind, run_und ht, Result.andThen_ok, hr, run_size hie, Sem.run_pure, slV]
          · exact h.elim
      · exact h.elim
    · exact h.elim
  · rename_i n e ht
    split at h
    · split at h
      · split at h
        · split at h
          · split at h
            · split at h
              · rename_i ie hie
                refine .mk h fun w => ?_
                unfold Instr.sliceAt
                have hb : (Instr.sliceBounds false n n none none none).run P w = .ok (0, n, n) w := rfl
                simp only [Sem.run_bind, run_und ht, Result.andThen_ok, hb, run_size hie]
                simp only [Instr.sureAddr, Sem.run_pure, Result.andThen_ok, hb, Nat.zero_mul, Nat.sub_zero, Addr.add, if_true, ite_self]
              · exact h.elim
            · exact h.elim
          · exact h.elim
        · exact h.elim
      · exact h.elim
    · exact h.elim
  · exact h.elim
theorem exD.to {v : Value} {i : Nat} {k : Value → Prop} (h : exD v i k) : To P (Instr.extract v i) k := by
  unfold exD at h
  split at h
  · rename_i vs
    split at h
    · rename_i x hx
      refine .mk h fun w => ?_
      unfold Instr.extract
      simp only
      rw [show vs[i]? = some x by simpa using hx]
      rfl
    · exact h.elim
  · exact h.elim
theorem minD.to : ∀ {r : List Value} {v : Value} {k : Value → Prop}, minD v r k → To P (r.foldlM Builtin.min2 v) k := by
  intro r
  induction r with
  | nil => intro v k h; simp only [minD] at h; exact .mk h fun w => rfl
  | cons u r ih =>
    intro v k h
    cases v <;> cases u <;> simp only [minD] at h <;> try exact h.elim
    obtain ⟨x, hx, hk⟩ := ih h
    exact .mk hk fun w => by rw [List.foldlM_cons, Sem.run_bind]; exact hx w
theorem maxD.to : ∀ {r : List Value} {v : Value} {k : Value → Prop}, maxD v r k → To P (r.foldlM Builtin.max2 v) k := by
  intro r
  induction r with
  | nil => intro v k h; simp only [maxD] at h; exact .mk h fun w => rfl
  | cons u r ih =>
    intro v k h
    cases v <;> cases u <;> simp only [maxD] at h <;> try exact h.elim
    · obtain ⟨x, hx, hk⟩ := ih h
      exact .mk hk fun w => by rw [List.foldlM_cons, Sem.run_bind]; exact hx w
    · rename_i a b
      obtain ⟨x, hx, hk⟩ := ih h
      refine .mk hk fun w => ?_
      rw [List.foldlM_cons, Sem.run_bind]
      have e : (Builtin.max2 (.string a) (.string b)).run P w = .ok (.string (if ltS a b then b else a)) w := by
        unfold ltS
        cases e2 : Op.bytesLess a.toList b.toList <;> simp [Builtin.max2, Op.stringOp, asBool, Sem.run_bind, e2] <;> rfl
      rw [e]
      exact hx w
theorem lenD.to {t : TypeId} {v : Value} {ts : List TypeId} {vs : List Value} {T : TypeId} {k : Value → Prop} (h : lenD P t v k) : To P (Builtin.len_ ⟨t :: ts⟩ T ⟨v :: vs⟩) k := by
  unfold lenD at h
  split at h
  · rename_i ht
    cases v <;> simp only at h <;> try exact h.elim
    exact .mk h fun w => by
      unfold Builtin.len_
      show (underlying t >>= _).run P w = _
      rw [Sem.run_bind, run_und ht]; rfl
  · rename_i e ht
    cases v <;> simp only at h <;> try exact h.elim
    exact .mk h fun w => by
      unfold Builtin.len_
      show (underlying t >>= _).run P w = _
      rw [Sem.run_bind, run_und ht]; rfl
  · rename_i n e ht
    exact .mk h fun w => by
      unfold Builtin.len_
      show (underlying t >>= _).run P w = _
      rw [Sem.run_bind, run_und ht]; rfl
  · exact h.elim
theorem capD.to {t : TypeId} {v : Value} {ts : List TypeId} {vs : List Value} {T : TypeId} {k : Value → Prop} (h : capD P t v k) : To P (Builtin.cap_ ⟨t :: ts⟩ T ⟨v :: vs⟩) k := by
  unfold capD at h
  split at h
  · rename_i e ht
    cases v <;> simp only at h <;> try exact h.elim
    exact .mk h fun w => by
      unfold Builtin.cap_
      show (underlying t >>= _).run P w = _
      rw [Sem.run_bind, run_und ht]; rfl
  · exact h.elim

theorem zipIdx_fold (off : Nat) : ∀ (cs : List Value) (j : Nat) (zs : List Value), off + j + cs.length ≤ zs.length →
    ((cs.zipIdx j).foldl (fun (acc : Array Value) p => acc.setIfInBounds (off + p.2) p.1) ⟨zs⟩) = ⟨setR zs (off + j) cs⟩ := by
  intro cs
  induction cs with
  | nil => intro j zs h; simp [setR]
  | cons c cs ih =>
    intro j zs h
    simp only [List.length_cons] at h
    rw [List.zipIdx_cons, List.foldl_cons]
    have e : (⟨zs⟩ : Array Value).setIfInBounds (off + j) c = ⟨zs.set (off + j) c⟩ := by simp
    simp only [e]
    rw [ih (j + 1) _ (by simp; omega)]
    congr 1
    unfold setR
    have hlt : off + j < zs.length := by omega
    rw [show off + (j + 1) = off + j + 1 from by omega]
    rw [List.take_succ_eq_append_getElem (by simpa using hlt)]
    simp only [List.getElem_set_self, List.take_set_of_le (Nat.le_refl _), List.length_cons, List.append_assoc, List.cons_append, List.nil_append]
    rw [List.drop_set_of_lt (by omega)]
    rw [show off + j + 1 + cs.length = off + j + (cs.length + 1) from by omega]
theorem cells_isCell {v : Value} (h : isCell v = true) : v.cells = #[v] := by cases v <;> first | rfl | cases h
theorem partC.spec {t : TypeId} {v : Value} {k : List Value → Prop} (h : partC P t v k) : k v.cells.toList := by
  unfold partC at h
  split at h
  · split at h
    · exact h
    · exact h.elim
  · unfold guardB at h
    split at h
    · rename_i hc; rw [cells_isCell hc]; exact h
    · exact h.elim
theorem fillD.spec {place : Nat → Option (Nat × TypeId)} {pl : Nat → Option (Nat × Nat)} (hp : ∀ i off t, place i = some (off, t) → pl i = some (off, P.cellsOf t)) : ∀ {parts : List (Nat × Value)} {zs : List Value} {k : List Value → Prop},
    fillD P place zs parts k → ∃ cs, Instr.fill pl ⟨zs⟩ parts = some ⟨cs⟩ ∧ k cs := by
  intro parts
  induction parts with
  | nil => intro zs k h; exact ⟨zs, rfl, h⟩
  | cons x r ih =>
    intro zs k h
    obtain ⟨i, v⟩ := x
    simp only [fillD] at h
    split at h
    · exact h.elim
    · rename_i off t hpl
      have h := h.spec
      unfold guardB at h
      split at h
      · rename_i hc
        simp only [Bool.and_eq_true, beq_iff_eq, Nat.ble_eq] at hc
        obtain ⟨cs, h1, h2⟩ := ih h
        refine ⟨cs, ?_, h2⟩
        rw [Instr.fill, hp i off t hpl]
        simp only
        have hz := zipIdx_fold off v.cells.toList 0 zs (by omega)
        have e : v.cells.zipIdx.foldl (fun cs (x : Value × Nat) => cs.setIfInBounds (off + x.2) x.1) (⟨zs⟩ : Array Value) = ⟨setR zs off v.cells.toList⟩ := by
          rw [← Array.foldl_toList, Array.toList_zipIdx]
          exact hz
        have hsz : v.cells.size = P.cellsOf t := by rw [← hc.1]; simp
        have hle : ¬ (off + v.cells.size > (⟨zs⟩ : Array Value).size) := by have := hc.2; simp at this ⊢; exact this
        rw [if_neg (by simp [hsz]; simp [hsz] at hle; exact hle)]
        have e' : (v.cells.zipIdx.foldl (fun cs (x : Value × Nat) => match x with | (c, j) => cs.setIfInBounds (off + j) c) (⟨zs⟩ : Array Value)) = ⟨setR zs off v.cells.toList⟩ := e
        rw [e']
        exact h1
      · exact h.elim
theorem zeroL.spec {t : TypeId} {zs : List Value} (h : zeroL P t = some zs) : ∃ i z, P.info? t = some i ∧ i.zero = some z ∧ z.cells = ⟨zs⟩ := by
  unfold zeroL at h
  split at h
  · rename_i i hi
    split at h
    · rename_i z hz
      injection h with h
      exact ⟨i, z, hi, hz, by rw [← h]⟩
    · cases h
  · cases h
theorem places_some : ∀ (fs : List Field), (fs.all fun f => hasInfo P f.type) = true → ∃ pl, fs.mapM (fun f => (P.info? f.type).map fun i => (f.offset, i.size)) = some pl ∧ ∀ (i : Nat) (f : Field), fs[i]? = some f → pl[i]? = some (f.offset, P.cellsOf f.type) := by
  intro fs
  induction fs with
  | nil => intro _; exact ⟨[], rfl, by simp⟩
  | cons f fs ih =>
    intro h
    simp only [List.all_cons, Bool.and_eq_true] at h
    obtain ⟨pl, h1, h2⟩ := ih h.2
    have hf := h.1
    unfold hasInfo at hf
    split at hf
    · rename_i i hi
      refine ⟨(f.offset, i.size) :: pl, by simp [hi, h1], fun j g hj => ?_⟩
      cases j with
      | zero => simp at hj; subst hj; simp [cellsOf_info hi]
      | succ j => simp at hj; simpa using h2 j g hj
    · cases hf
theorem buildD.to {T : TypeId} {parts : Array (Nat × Value)} {k : Value → Prop} (h : buildD P T parts.toList k) : To P (Instr.build T parts) k := by
  unfold buildD at h
  split at h
  · rename_i fs ht
    split at h
    · rename_i zs hz
      unfold guardB at h
      split at h
      · rename_i hall
        obtain ⟨i, z, h1, h2, h3⟩ := zeroL.spec hz
        obtain ⟨pl, hpl, hpl2⟩ := places_some fs.toList hall
        obtain ⟨cs, h4, h5⟩ := fillD.spec (pl := (pl.toArray[·]?)) (fun i off t hi => by
          cases hf : fs.toList[i]? with
          | none => simp [hf] at hi
          | some f =>
            rw [hf] at hi
            simp at hi
            obtain ⟨rfl, rfl⟩ := hi
            simpa using hpl2 i f hf) h
        refine .mk h5 fun w => ?_
        refine run_build w T parts ⟨cs⟩ ?_
        unfold Program.built
        simp only [h1, ht, h2, hpl, h3]
        exact h4
      · exact h.elim
    · exact h.elim
  · rename_i n e ht
    split at h
    · rename_i zs hz
      unfold guardB at h
      split at h
      · rename_i hin
        obtain ⟨i, z, h1, h2, h3⟩ := zeroL.spec hz
        unfold hasInfo at hin
        split at hin
        · rename_i ie hie
          obtain ⟨cs, h4, h5⟩ := fillD.spec (pl := fun i => some (i * ie.size, ie.size)) (fun i off t hi => by
            simp at hi
            obtain ⟨rfl, rfl⟩ := hi
            simp [cellsOf_info hie]) h
          refine .mk h5 fun w => ?_
          refine run_build w T parts ⟨cs⟩ ?_
          unfold Program.built
          simp only [h1, ht, h2, h3, hie]
          exact h4
        · cases hin
      · exact h.elim
    · exact h.elim
  · exact h.elim

theorem To.next {s : Sem Value} {k : Value → Prop} (h : To P s k) : ∃ v, (∀ w, (do pure (.value (← s)) : Sem Next).run P w = .ok (.value v) w) ∧ k v := by
  obtain ⟨v, hr, hk⟩ := h
  exact ⟨v, fun w => by rw [Sem.run_bind, hr]; rfl, hk⟩
theorem pureD.to {o : Oper} {ev : Operand → Value} {k : Value → Prop} (h : pureD P ev o.op k) : ∃ v, (∀ w, (execOp ev o).run P w = .ok (.value v) w) ∧ k v := by
  obtain ⟨dst, op, type, pos, after, guard⟩ := o
  cases op <;> simp only [pureD] at h <;> simp only [execOp] <;> try exact h.elim
  case move x => exact ⟨_, fun w => rfl, h⟩
  case assign x => exact ⟨_, fun w => rfl, h⟩
  case pick c a b =>
    split at h
    · rename_i t ht
      rw [ht]
      cases t with
      | true => exact ⟨_, fun w => by simp [asBool], h⟩
      | false => exact ⟨_, fun w => by simp [asBool], h⟩
    · exact h.elim
  case nilCheck x =>
    generalize ev x = v at h
    unfold nilV at h
    split at h
    · rename_i p
      unfold nilD at h
      split at h
      · exact ⟨_, fun w => rfl, h⟩
      · exact h.elim
    · exact ⟨_, fun w => rfl, h⟩
    · split at h
      · exact ⟨_, fun w => rfl, h⟩
      · unfold nilM at h
        split at h
        · rename_i t0 x0 hf
          obtain ⟨hn, h⟩ := h
          refine ⟨_, fun w => ?_, h⟩
          unfold noNil at hn
          split at hn
          · rename_i hp
            have hr := pureN.run _ hp w
            dsimp only
            rw [hf]
            dsimp only
            rw [Sem.run_bind]
            show Sem.run P (nilAhead (P.types.size + Made.depth) t0 x0 _ >>= _) w = _
            rw [Sem.run_bind, hr]
            rfl
          · cases hn
        · exact h.elim
      · exact h.elim
    · exact h.elim
  case binOp op T x y yt => exact (binD.to (x := x) (y := y) h).next
  case unOp op t x => exact (unD.to h).next
  case convert s d x => exact (cvD.to h).next
  case makeInterface T x =>
    unfold guardB at h
    split at h
    · rename_i hn
      refine To.next (.mk h fun w => ?_)
      unfold Instr.makeInterface
      unfold notIface at hn
      split at hn
      · cases hn
      · rename_i d hni hd
        rw [Sem.run_bind, run_und hd, Result.andThen_ok]
        cases d <;> first | rfl | exact (hni _ rfl).elim
      · cases hn
    · exact h.elim
  case makeFunc fn first cap =>
    refine To.next (.mk h fun w => ?_)
    unfold Instr.makeFunc
    have e1 : first.map ev = ⟨first.toList.map ev⟩ := by apply Array.ext'; simp
    have e2 : cap.map ev = ⟨cap.toList.map ev⟩ := by apply Array.ext'; simp
    rw [e1, e2]; rfl
  case fieldAddr S x f => exact (faD.to h).next
  case field T x f => exact (fldD.to h).next
  case indexAddr T x i => exact (iaD.to h).next
  case index T x i => exact (ixD.to h).next
  case slice T x lo hi mx => exact (slD.to h).next
  case build T parts =>
    refine (buildD.to (parts := parts.map fun (i, x) => (i, ev x)) ?_).next
    have e : (parts.map fun (x : Nat × Operand) => match x with | (i, x) => (i, ev x)).toList = parts.toList.map fun p => (p.1, ev p.2) := by simp
    rw [e]; exact h
  case extract x i => exact (exD.to h).next
  case call c =>
    split at h
    · rename_i b hb
      have hres : ∀ w, (resolve ev c type).run P w = .ok { target := .builtin b c.argTypes type (c.args.map fun | .const _ => true | _ => false), args := c.args.map ev } w := by
        intro w; unfold resolve; simp only [hb]; rfl
      have eargs : c.args.map ev = ⟨c.args.toList.map ev⟩ := by apply Array.ext'; simp
      have etys : c.argTypes = ⟨c.argTypes.toList⟩ := rfl
      have key : To P (match b with | .len => Builtin.len_ c.argTypes type (c.args.map ev) | .cap => Builtin.cap_ c.argTypes type (c.args.map ev) | .min => Builtin.min_ c.argTypes type (c.args.map ev) | _ => Builtin.max_ c.argTypes type (c.args.map ev)) k ∧ (b = .len ∨ b = .cap ∨ b = .min ∨ b = .max) := by
        cases b <;> simp only [bltD] at h <;> try exact h.elim
        · split at h
          · rename_i t ts v vs e1 e2
            refine ⟨?_, by simp⟩
            have : c.argTypes = ⟨t :: ts⟩ := by rw [etys, e1]
            rw [eargs, e2, this]
            exact capD.to h
          · exact h.elim
        · split at h
          · rename_i t ts v vs e1 e2
            refine ⟨?_, by simp⟩
            have : c.argTypes = ⟨t :: ts⟩ := by rw [etys, e1]
            rw [eargs, e2, this]
            exact lenD.to h
          · exact h.elim
        · split at h
          · rename_i v r e2
            refine ⟨?_, by simp⟩
            rw [eargs, e2]
            exact maxD.to h
          · exact h.elim
        · split at h
          · rename_i v r e2
            refine ⟨?_, by simp⟩
            rw [eargs, e2]
            exact minD.to h
          · exact h.elim
      obtain ⟨⟨v, hv, hk⟩, hbb⟩ := key
      refine ⟨v, fun w => ?_, hk⟩
      rw [Sem.run_bind, hres, Result.andThen_ok]
      rcases hbb with rfl | rfl | rfl | rfl <;> (simp only [invoke, builtin]; rw [Sem.run_bind, hv w]; rfl)
    · exact h.elim
end
end Go.Den
