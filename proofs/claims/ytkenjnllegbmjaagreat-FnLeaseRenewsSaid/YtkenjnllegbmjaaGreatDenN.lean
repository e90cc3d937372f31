/- A plain reading of Go functions, proved to be what they do; no condition. -/
/- That the plain words for the operations which touch memory are the model's. -/
import Derived.Test.YtkenjnllegbmjaaGreatDenM
set_option linter.unusedVariables false
set_option linter.unusedSimpArgs false
namespace Go.Den
open Go
section
variable {P : Program} {H : Heap}

theorem tCs.spec : ∀ {Ds : List TypeDesc} {l : List Value} {k : List Value → Prop}, tCs Ds l k → k l := by
  intro Ds; induction Ds with
  | nil => intro l k ⟨h1, h2⟩; subst h1; exact h2
  | cons D Ds ih => intro l k ⟨v, r, h1, h2⟩; subst h1; exact ih (k := fun r' => k (v :: r')) (tyK.spec h2)
theorem tyT.spec {t : TypeId} {v : Value} {k : Value → Prop} (h : tyT P t v k) : k v := by
  unfold tyT at h
  split at h
  · obtain ⟨l, rfl, h⟩ := h; exact tCs.spec h
  · obtain ⟨l, rfl, h⟩ := h; exact tCs.spec h
  · exact tyK.spec h
  · exact h.elim
theorem tL.spec : ∀ {ts : List TypeId} {l : List Value} {k : List Value → Prop}, tL P ts l k → k l := by
  intro ts; induction ts with
  | nil => intro l k ⟨h1, h2⟩; subst h1; exact h2
  | cons t ts ih => intro l k ⟨v, r, h1, h2⟩; subst h1; exact ih (k := fun r' => k (v :: r')) (tyT.spec h2)
theorem resT.spec {t : TypeId} {v : Value} {k : Value → Prop} (h : resT P t v k) : k v := by
  unfold resT at h
  split at h
  · obtain ⟨l, rfl, h⟩ := h; exact tL.spec h
  · exact tyT.spec h

/-! ### Reads -/
theorem block_lt {H : Heap} {b : Nat} {o : Obj} (h : H[b]? = some o) : b < H.size := (Array.getElem?_eq_some_iff.1 h).1
theorem readV_frozen {a : Addr} {b : Bool} (hl : a.block < H.size) (h : hfrozen H a = b) : readV P (frozen a) H = some b := by
  simp only [frozen, readV, if_pos hl, h]
theorem readV_shape {r : Nat} (hl : r < H.size) : readV P (shape r) H = some (hshape H r) := by
  simp only [shape, readV, if_pos hl]
theorem plain_frozen {a : Addr} (h : plainB H a.block) : hfrozen H a = false := by
  obtain ⟨c, T, z, hb⟩ := h
  unfold hfrozen
  rw [hb]
  simp
theorem plain_shape {r : Nat} (h : plainB H r) : ∃ T n, hshape H r = some (T, n) := by
  obtain ⟨c, T, z, hb⟩ := h
  exact ⟨T, c.size, by unfold hshape; rw [hb]⟩
theorem plain_lt {r : Nat} (h : plainB H r) : r < H.size := by obtain ⟨c, T, z, hb⟩ := h; exact block_lt hb
theorem readV_stringish {a : Addr} (h : plainB H a.block) : readV P (stringish a) H = some false := by
  unfold stringish
  obtain ⟨T, n, hs⟩ := plain_shape h
  rw [readV_bind, readV_frozen (plain_lt h) (plain_frozen h)]
  simp only [Option.bind_some, Bool.false_eq_true, if_false]
  rw [readV_bind, readV_shape (plain_lt h), hs]
  simp only [Option.bind_some]
  exact readV_frozen (plain_lt h) (plain_frozen (a := { block := a.block, off := n }) h)
theorem readV_noView {a : Addr} (h : plainB H a.block) : readV P (noView a) H = some () := by
  unfold noView viewAt
  obtain ⟨T, n, hs⟩ := plain_shape h
  rw [readV_bind, readV_bind, readV_shape (plain_lt h), hs]
  rfl
theorem readV_sameAddr {a b : Addr} (hne : a.block ≠ b.block) (ha : plainB H a.block) (hb : plainB H b.block) : readV P (sameAddr a b) H = some false := by
  unfold sameAddr
  rw [if_neg (by simpa using hne)]
  rw [readV_bind, readV_frozen (plain_lt ha) (plain_frozen ha)]
  simp only [Option.bind_some]
  rw [readV_bind, readV_frozen (plain_lt hb) (plain_frozen hb)]
  simp only [Option.bind_some, Bool.and_false, Bool.false_eq_true, if_false]
  rw [readV_bind, readV_noView ha]
  simp only [Option.bind_some]
  rw [readV_bind, readV_noView hb]
  simp only [Option.bind_some]
  rw [readV_bind]
  have : readV P (mayBeOne a b) H = some false := by
    unfold mayBeOne
    obtain ⟨T, n, hs⟩ := plain_shape ha
    obtain ⟨T', n', hs'⟩ := plain_shape hb
    simp only [readV_bind, readV_stringish ha, readV_stringish hb, Option.bind_some, readV_shape (plain_lt ha), readV_shape (plain_lt hb), hs, hs']
    rfl
  rw [this]
  rfl
theorem readV_pure {α : Type} (a : α) : readV P (pure a : Sem α) H = some a := rfl
theorem readV_sizeOf {t : TypeId} {i : TypeInfo} (h : P.info? t = some i) : readV P (sizeOf t) H = some i.size := by
  have := pureV.read _ H (pureV_sizeOf h)
  rw [this, cellsOf_info h]
theorem pqD.spec {T e : TypeId} {p q : Option Addr} {ie : TypeInfo} {k : Bool → Prop} (ht : P.underlying T = some (.pointer e)) (hie : P.info? e = some ie) (hz : ie.size ≠ 0) (h : pqD H p q k) :
    ∃ b, readV P (Op.equal T (.pointer p) (.pointer q)) H = some b ∧ k b := by
  have hu := readV_underlying ht H
  unfold pqD at h
  split at h
  · exact ⟨true, by rw [eq_one, Op.equalIn, readV_bind, hu]; rfl, h⟩
  · exact ⟨false, by rw [eq_one, Op.equalIn, readV_bind, hu]; rfl, h⟩
  · exact ⟨false, by rw [eq_one, Op.equalIn, readV_bind, hu]; rfl, h⟩
  · rename_i a b
    rcases h with ⟨hb, h⟩ | ⟨hb, ha, hb', h⟩
    · refine ⟨a == b, ?_, h⟩
      rw [eq_one, Op.equalIn, readV_bind, hu]
      simp only [Option.bind_some]
      rw [readV_bind, readV_sizeOf hie]
      simp only [Option.bind_some]
      rw [if_pos hz]
      unfold sameAddr
      rw [if_pos (by simpa using hb)]
      rfl
    · refine ⟨false, ?_, h⟩
      rw [eq_one, Op.equalIn, readV_bind, hu]
      simp only [Option.bind_some]
      rw [readV_bind, readV_sizeOf hie]
      simp only [Option.bind_some]
      rw [if_pos hz]
      exact readV_sameAddr hb ha hb'
theorem cellsAt.some {p : Option Addr} {vs : List Value} {a : Addr} (h : cellsAt H p vs) (hp : p = some a) : ∀ j v, vs[j]? = some v → hcell H (a.add j) = some v := by
  intro j v hj
  obtain ⟨a', h1, h2⟩ := h j v hj
  rw [hp] at h1
  injection h1 with h1
  subst h1
  exact h2
theorem cellsAt.none {vs : List Value} (h : cellsAt H none vs) : vs = [] := by
  cases vs with
  | nil => rfl
  | cons v r => obtain ⟨a, h1, _⟩ := h 0 v rfl; cases h1
theorem bytes_fold (f : Value → ByteArray → Sem (ForInStep ByteArray)) (hf : ∀ n s, f (.int .u8 n) s = pure (ForInStep.yield (s.push (UInt8.ofNat n.toNat)))) :
    ∀ (bs : List UInt8) (acc : ByteArray), readV P (forIn (bytesOf bs) acc f) H = some ⟨acc.data ++ bs.toArray⟩ := by
  intro bs
  induction bs with
  | nil => intro acc; simp [bytesOf]; rfl
  | cons b bs ih =>
    intro acc
    simp only [bytesOf, List.map_cons, List.forIn_cons, hf]
    rw [readV_bind]
    simp only [readV_pure, Option.bind_some]
    have := ih (acc.push b)
    simp only [bytesOf] at this
    have e : UInt8.ofNat (b.toNat : Int).toNat = b := by simp
    rw [e, this]
    simp [ByteArray.push]
theorem bsD.spec {p : Option Addr} {n c : Nat} {k : ByteArray → Prop} (h : bsD H p n k) : ∃ s, readV P (Conv.bytesToString (.slice p n c)) H = some (.string s) ∧ k s := by
  obtain ⟨bs, h1, h2, h3⟩ := h
  cases p with
  | none =>
    have := cellsAt.none h2
    have : bs = [] := by simpa [bytesOf] using this
    subst this
    exact ⟨_, rfl, h3⟩
  | some a =>
    refine ⟨_, ?_, h3⟩
    unfold Conv.bytesToString
    simp only
    rw [readV_bind, readV_loadCells (n := n) (vs := bytesOf bs) (by simp [bytesOf, h1]) (cellsAt.some h2 rfl)]
    simp only [Option.bind_some]
    rw [readV_bind]
    rw [show (⟨bytesOf bs⟩ : Array Value) = (bytesOf bs).toArray from rfl, List.forIn_toArray, bytes_fold _ (fun n s => rfl) bs ByteArray.empty]
    simp
    rfl

theorem readD.spec {o : Oper} {ev : Operand → Value} {k : Value → Prop} (h : readD P ev o.op H k) : ∃ v, readV P (execOp ev o) H = some (.value v) ∧ k v := by
  obtain ⟨dst, op, type, pos, after, guard⟩ := o
  cases op <;> simp only [readD] at h <;> simp only [execOp] <;> try exact h.elim
  case load T x =>
    generalize ev x = v at h ⊢
    split at h
    · split at h
      · obtain ⟨v, h1, h2⟩ := ldD.spec h
        refine ⟨v, ?_, h2⟩
        rw [readV_bind]
        unfold Instr.loadAt
        rw [readV_bind]
        simp only [Instr.sureAddr, readV_pure, Option.bind_some, h1]
      · exact h.elim
    · exact h.elim
  case binOp op T x y yt =>
    generalize ev x = vx at h ⊢
    generalize ev y = vy at h ⊢
    split at h
    · obtain ⟨hx, hy, b, h1, h3, h2⟩ := h
      cases op <;> simp only [eqD] at h2 <;> try exact h2.elim
      all_goals
        refine ⟨_, ?_, h2⟩
        rw [readV_bind, readV_bind, h3, Option.bind_some]
        cases vx <;> first | (cases hx; done) | skip
        all_goals
          cases vy <;> first | (cases hy; done) | skip
        all_goals
          simp only [binOp, readV_bind, h1, Option.bind_some, readV_pure]
          try rfl
    · split at h
      · rename_i p
        split at h
        · rename_i q
          split at h
          · rename_i e ht
            split at h
            · rename_i ie hie
              split at h
              · exact h.elim
              · rename_i m hm
                obtain ⟨b, h1, h2⟩ := pqD.spec ht hie (by omega) h
                cases op <;> simp only [eqD] at h2 <;> try exact h2.elim
                · refine ⟨_, ?_, h2⟩
                  rw [readV_bind, readV_bind]
                  simp only [eqGuard, binOp, readV_bind, h1, Option.bind_some, readV_pure]
                  rfl
                · refine ⟨_, ?_, h2⟩
                  rw [readV_bind, readV_bind]
                  simp only [eqGuard, binOp, readV_bind, h1, Option.bind_some, readV_pure]
                  rfl
            · exact h.elim
          · exact h.elim
        · exact h.elim
      · exact h.elim
  case convert s d x =>
    generalize ev x = v at h ⊢
    split at h
    · rename_i e hs
      split at h
      · rename_i kd he
        split at h
        · split at h
          · rename_i hd
            split at h
            · rename_i p n c
              obtain ⟨s', h1, h2⟩ := bsD.spec (P := P) (c := c) h
              refine ⟨_, ?_, h2⟩
              rw [readV_bind]
              unfold convert
              rw [readV_bind, readV_underlying hs, Option.bind_some, readV_bind, readV_underlying hd, Option.bind_some]
              simp only
              rw [readV_bind, readV_underlying he, Option.bind_some]
              simp only [h1, Option.bind_some, readV_pure]
            · exact h.elim
          · exact h.elim
        · exact h.elim
      · exact h.elim
    · exact h.elim
  case fieldAddr S x f =>
    obtain ⟨a, h1, h2⟩ := h
    refine ⟨_, ?_, h2⟩
    rw [readV_bind, h1]
    rfl
end
end Go.Den
