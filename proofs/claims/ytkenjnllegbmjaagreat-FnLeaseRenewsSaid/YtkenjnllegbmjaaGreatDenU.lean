/- A plain reading of Go functions, proved to be what they do; no condition. -/
/- append, copy, calls; every operation's plain word is the model's. -/
import Derived.Test.YtkenjnllegbmjaaGreatDenQ
set_option linter.unusedVariables false
set_option linter.unusedSimpArgs false
namespace Go.Den
open Go
section
variable {P : Program} {H : Heap}

theorem loadCells.sem {a : Addr} {n : Nat} {vs : List Value} {K : Array Value → Heap → Prop} {Q : Value → Heap → Prop} (hn : vs.length = n) (hc : ∀ j v, vs[j]? = some v → hcell H (a.add j) = some v) (h : K ⟨vs⟩ H) : SemH P (loadCells a n) H K Q :=
  semH_of_read (readV_loadCells hn hc) h
/-- What the first cells of a source are. -/
def srcIs (H : Heap) (sz n : Nat) (x : Value) (vs : List Value) : Prop :=
  match x with
  | .slice q _ _ => vs.length = n * sz ∧ cellsAt H q vs
  | .string s => vs = (bytesOf s.data.toList).take n ∧ n ≤ s.size
  | _ => False
theorem firstCells.sem {sz n : Nat} {x : Value} {vs : List Value} {K : Array Value → Heap → Prop} {Q : Value → Heap → Prop} (hs : srcIs H sz n x vs) (h : K ⟨vs⟩ H) : SemH P (Builtin.firstCells sz n x) H K Q := by
  cases x <;> try exact (show False from hs).elim
  case string s =>
    obtain ⟨rfl, hn⟩ := hs
    unfold Builtin.firstCells
    rw [SemH_pure]
    have : ((s.extract 0 n).data.map fun b => Value.int .u8 b.toNat) = ⟨(bytesOf s.data.toList).take n⟩ := by
      apply Array.ext'
      simp [bytesOf, List.map_take, List.extract_eq_take_drop]
    rw [this]; exact h
  case slice q m c =>
    obtain ⟨h1, h2⟩ := hs
    cases q with
    | none =>
      have := cellsAt.none h2
      subst this
      exact h
    | some a => exact loadCells.sem h1 (cellsAt.some h2 rfl) h
theorem stP.sem {p : Option Addr} {off : Nat} {vs : List Value} {K : Heap → Prop} {Q : Value → Heap → Prop} (h : stP H p off vs K) : SemH P (do if let some a := p then storeCells (a.add off) vs) H (fun _ H1 => K H1) Q := by
  cases p with
  | none => exact h
  | some a => exact stCs.sem h
theorem zeroCells_repZ (zs : List Value) (n : Nat) : Builtin.zeroCells ⟨zs⟩ n = ⟨repZ zs n⟩ := by simp [repZ]
theorem append.sem {T Tx e : TypeId} {ie : TypeInfo} {zs : List Value} {p : Option Addr} {n c m : Nat} {x : Value} {vs : List Value} {ts : List TypeId} {rs : List Value} {ty : TypeId} {K : Value → Heap → Prop} {Q : Value → Heap → Prop}
    (ht : P.underlying T = some (.slice e)) (hie : P.info? e = some ie) (hz : zeroL P e = some zs) {dx : TypeDesc} (htx : P.underlying Tx = some dx) (hdx : dx = .string ∨ ∃ e', dx = .slice e')
    (hx : srcIs H ie.size m x vs) (hm : pureV P (Builtin.lenOf x) = some m) (h : apV H ie.size ie.bytes zs e p n c m vs fun p n c H1 => K (.slice p n c) H1) :
    SemH P (Builtin.append_ ⟨T :: Tx :: ts⟩ ty ⟨.slice p n c :: x :: rs⟩) H K Q := by
  obtain ⟨z, h1, h2⟩ := zeroL.sem hz
  obtain ⟨ha, hb⟩ := h
  unfold Builtin.append_
  show SemH P (underlying T >>= _) H K Q
  rw [SemH_bind]
  refine semH_of_pure (pureV_underlying ht) ?_
  show SemH P (sizeOf e >>= _) H K Q
  rw [SemH_bind]
  refine semH_of_pure (pureV_sizeOf hie) ?_
  rw [cellsOf_info hie]
  show SemH P (underlying Tx >>= _) H K Q
  rw [SemH_bind]
  refine semH_of_pure (pureV_underlying htx) ?_
  rw [SemH_bind, SemH_pure]
  rcases hdx with rfl | ⟨e', rfl⟩
  all_goals
    show SemH P (Builtin.lenOf x >>= _) H K Q
    rw [SemH_bind]
    refine semH_of_pure hm ?_
    by_cases hle : n + m ≤ c
    · show SemH P (if n + m ≤ c then _ else _) H K Q
      rw [if_pos hle]
      show SemH P (Builtin.firstCells ie.size m x >>= _) H K Q
      rw [SemH_bind]
      refine firstCells.sem hx ?_
      have ha := ha hle
      cases p with
      | none => exact ha
      | some a =>
        show SemH P (storeCells (a.add (n * ie.size)) vs >>= _) H K Q
        rw [SemH_bind]
        exact stCs.sem (vs := vs) ha
    · show SemH P (if n + m ≤ c then _ else _) H K Q
      rw [if_neg hle]
      obtain ⟨hby, hcap, old, ho1, ho2, hk⟩ := hb (by omega)
      show SemH P (typeInfo e >>= _) H K Q
      rw [SemH_bind]
      refine semH_of_pure (pureV_typeInfo hie) ?_
      show SemH P (if ((n + m : Nat) : Int) > IntKind.i64.max ∧ (false = true ∨ ie.bytes = 0) then _ else _) H K Q
      rw [if_neg (by simp [hby])]
      show SemH P (typeInfo e >>= _) H K Q
      rw [SemH_bind]
      refine semH_of_pure (pureV_typeInfo hie) ?_
      rw [if_neg (by omega)]
      show SemH P (choose (Question.appendCap (n + m) c e) >>= _) H K Q
      rw [SemH_bind]
      intro t
      have hge : n + m ≤ (if (Question.appendCap (n + m) c e).forced then 0 else (Question.appendCap (n + m) c e).cut t) := by
        simp only [Question.forced, Bool.false_eq_true, if_false, Question.cut]; omega
      generalize (if (Question.appendCap (n + m) c e).forced then 0 else (Question.appendCap (n + m) c e).cut t) = cap at hge ⊢
      show SemH P (typeInfo e >>= _) H K Q
      rw [SemH_bind]
      refine semH_of_pure (pureV_typeInfo hie) ?_
      rw [SemH_bind]
      refine askRoom.sem ?_
      rw [SemH_bind]
      refine firstCells.sem (vs := old) (n := n) (x := .slice p n c) ⟨ho1, ho2⟩ ?_
      show SemH P (Builtin.firstCells ie.size m x >>= _) H K Q
      rw [SemH_bind]
      refine firstCells.sem hx ?_
      rw [SemH_bind]
      refine semH_of_pure h1 ?_
      rw [h2, zeroCells_repZ]
      rw [SemH_bind]
      refine newRow.sem ?_
      rw [SemH_pure]
      have e1 : ((⟨old⟩ : Array Value) ++ ⟨vs⟩ ++ ⟨repZ zs (cap - (n + m))⟩) = ⟨old ++ vs ++ repZ zs (cap - (n + m))⟩ := by apply Array.ext'; simp
      rw [e1]
      exact hk cap hge
theorem copy.sem {T e : TypeId} {ie : TypeInfo} {p q : Option Addr} {n c m c' : Nat} {ts : List TypeId} {rs : List Value} {ty : TypeId} {K : Value → Heap → Prop} {Q : Value → Heap → Prop}
    (ht : P.underlying T = some (.slice e)) (hie : P.info? e = some ie) (h : cpD H ie.size p n q m fun l H1 => K (.int .i64 l) H1) :
    SemH P (Builtin.copy_ ⟨T :: ts⟩ ty ⟨.slice p n c :: .slice q m c' :: rs⟩) H K Q := by
  obtain ⟨vs, h1, h2, h3⟩ := h
  unfold Builtin.copy_
  show SemH P (underlying T >>= _) H K Q
  rw [SemH_bind]
  refine semH_of_pure (pureV_underlying ht) ?_
  show SemH P (Builtin.lenOf (.slice q m c') >>= _) H K Q
  rw [SemH_bind]
  refine semH_of_pure (a := m) rfl ?_
  show SemH P (sizeOf e >>= _) H K Q
  rw [SemH_bind]
  refine semH_of_pure (pureV_sizeOf hie) ?_
  rw [cellsOf_info hie, SemH_bind]
  refine firstCells.sem (x := .slice q m c') ⟨h1, h2⟩ ?_
  cases p with
  | none => exact h3
  | some a =>
    show SemH P (storeCells a vs >>= _) H K Q
    rw [SemH_bind]
    have e : a.add 0 = a := by simp [Addr.add]
    have h3 : stCs (a.add 0) H 0 vs _ := h3
    rw [e] at h3
    exact stCs.sem (vs := vs) h3

theorem callFunc.sem {f : FuncId} {args : Array Value} {K : Value → Heap → Prop} {Q : List PanicEntry → Heap → Prop} {Qs : Value → Heap → Prop} (hf : fnOk P f = true) (h : CallsH P f args H (retK K Q)) :
    SemH P (callFunc f args) H (nextH P K Q) Qs := by
  unfold fnOk at hf
  unfold callFunc
  show SemH P (program >>= _) H _ _
  rw [SemH_bind]
  show SemH P (match P.funcs[f]? with | none => _ | some fn => _) H _ _
  split at hf
  · rename_i fn hfn
    rw [hfn]
    simp only [Bool.and_eq_true, Bool.not_eq_true'] at hf
    obtain ⟨hb, hn⟩ := hf
    simp only
    rw [if_neg (by rw [hn]; simp)]
    split at hb
    · rename_i c hc
      rw [if_neg (by simp [hc])]
      exact h
    · cases hb
  · cases hf
theorem callsD.sem {T : TypeId} {c : Call} {ev : Operand → Value} {K : Value → Heap → Prop} {Q : List PanicEntry → Heap → Prop} {Qs : Value → Heap → Prop} (hev : ∀ g, ev (.func g) = .func (.func g) #[] #[]) (h : callsD P T c ev H Q K) :
    SemH P (do let d ← resolve ev c T; invoke d.target d.args) H (nextH P K Q) Qs := by
  have eargs : c.args.map ev = ⟨c.args.toList.map ev⟩ := by apply Array.ext'; simp
  unfold callsD at h
  rw [SemH_bind]
  split at h
  · rename_i f hc
    have hv : callV P (ev f) (c.args.toList.map ev) H Q (fun v H1 => resT P T v fun v' => K v' H1) → SemH P (resolve ev c T) H (fun a H' => SemH P (invoke a.target a.args) H' (nextH P K Q) Qs) Qs := by
      rintro ⟨g, first, cap, hg, hok, hcall⟩
      unfold resolve
      simp only [hc, hg]
      show SemH P (invoke (.fn (.func g) ⟨cap⟩) (⟨first⟩ ++ c.args.map ev)) H (nextH P K Q) Qs
      unfold invoke
      refine callFunc.sem hok ?_
      have e : (⟨first⟩ ++ c.args.map ev ++ ⟨cap⟩ : Array Value) = ⟨first ++ c.args.toList.map ev ++ cap⟩ := by rw [eargs]; apply Array.ext'; simp
      rw [e]
      exact CallsH.mono hcall fun e H' he => retK.mono he (fun v H h => resT.spec (k := fun v' => K v' H) h) (fun _ _ h => h)
    split at h
    · rename_i g
      split at h
      · rename_i hok
        exact hv ⟨g, [], [], hev g, hok, by simpa using h⟩
      · obtain ⟨h⟩ := h
        unfold resolve
        simp only [hc, hev g]
        show SemH P (invoke (.fn (.func g) #[]) (#[] ++ c.args.map ev)) H (nextH P K Q) Qs
        unfold invoke
        show SemH P (callFunc g (#[] ++ c.args.map ev ++ #[])) H (nextH P K Q) Qs
        have e : (#[] ++ c.args.map ev ++ #[] : Array Value) = ⟨c.args.toList.map ev⟩ := by rw [eargs]; apply Array.ext'; simp
        rw [e]
        exact SemH.mono _ h (fun n H' hn => hn.mono (fun v H h => resT.spec (k := fun v' => K v' H) h) (fun _ _ h => h)) (fun _ _ h => h.elim)
    · exact hv h
  · rename_i r name hc
    obtain ⟨t, x, f, recv, hr, hm, hok, hcall⟩ := h
    unfold resolve
    simp only [hc, hr]
    show SemH P (invoke (.fn (.method name) #[]) (#[Value.iface t x] ++ c.args.map ev)) H (nextH P K Q) Qs
    unfold invoke
    have e0 : (#[Value.iface t x] ++ c.args.map ev)[0]? = some (.iface t x) := by rw [Array.getElem?_append_left (by simp)]; rfl
    simp only [e0]
    unfold callMethod
    simp only
    show SemH P (program >>= _) H _ _
    rw [SemH_bind]
    show SemH P (method _ t x name >>= _) H _ _
    rw [SemH_bind]
    refine hm _ _ ?_
    simp only
    refine callFunc.sem hok ?_
    have e : (#[recv] ++ (#[Value.iface t x] ++ c.args.map ev).extract 1 (#[Value.iface t x] ++ c.args.map ev).size : Array Value) = ⟨recv :: c.args.toList.map ev⟩ := by
      rw [eargs]; apply Array.ext'; simp [List.extract_eq_take_drop, List.take_of_length_le]
    rw [e]
    exact CallsH.mono hcall fun e H' he => retK.mono he (fun v H h => resT.spec (k := fun v' => K v' H) h) (fun _ _ h => h)
  · exact h.elim

/-! ### All of them -/
theorem value_next {s : Sem Value} {K : Value → Heap → Prop} {Q : List PanicEntry → Heap → Prop} {Qs : Value → Heap → Prop} (h : SemH P s H K Qs) : SemH P (do pure (.value (← s)) : Sem Next) H (nextH P K Q) Qs := by
  rw [SemH_bind]
  exact h
theorem allocD.sem {o : Oper} {ev : Operand → Value} {K : Value → Heap → Prop} {Q : List PanicEntry → Heap → Prop} (h : allocD P o ev H K) : OperH P o ev H K Q := by
  obtain ⟨dst, op, type, pos, after, guard⟩ := o
  unfold OperH
  cases op <;> simp only [allocD] at h <;> simp only [execOp] <;> try exact h.elim
  case box T x => exact value_next (box.sem h)
  case alloc T =>
    split at h
    · rename_i zs hz; exact value_next (alloc.sem hz h)
    · exact h.elim
  case buildSlice T n parts =>
    split at h
    · rename_i e ht
      split at h
      · rename_i ie hie
        split at h
        · rename_i zs hz
          unfold guardB at h
          split at h
          · rename_i hc
            simp only [Bool.and_eq_true, Nat.ble_eq, beq_iff_eq] at hc
            have e : (parts.map fun (x : Nat × Operand) => match x with | (i, x) => (i, ev x)).toList = parts.toList.map fun p => (p.1, ev p.2) := by simp
            rw [← e] at h
            exact value_next (buildSlice.sem ht hie hz hc.1 hc.2 h)
          · exact h.elim
        · exact h.elim
      · exact h.elim
    · exact h.elim
  case makeSlice T l c =>
    split at h
    · rename_i e ht
      split at h
      · rename_i ie hie
        split at h
        · rename_i zs hz
          split at h
          · rename_i k1 l' hl
            split at h
            · rename_i k2 c' hc
              unfold guardB at h
              split at h
              · rename_i hg
                rw [hl, hc]
                exact value_next (makeSlice.sem ht hie hz (by simpa using hg) h)
              · exact h.elim
            · exact h.elim
          · exact h.elim
        · exact h.elim
      · exact h.elim
    · exact h.elim
  case makeMap t r =>
    split at h
    · exact h
    · exact h.elim
  case convert s d x =>
    split at h
    · rename_i hs
      split at h
      · rename_i e hd
        split at h
        · rename_i kd he
          split at h
          · split at h
            · rename_i s' hx
              rw [hx]
              refine value_next ?_
              unfold convert
              rw [SemH_bind]
              refine semH_of_pure (pureV_underlying hs) ?_
              rw [SemH_bind]
              refine semH_of_pure (pureV_underlying hd) ?_
              show SemH P (underlying e >>= _) H _ _
              rw [SemH_bind]
              refine semH_of_pure (pureV_underlying he) ?_
              exact sb.sem h
            · exact h.elim
          · exact h.elim
        · exact h.elim
      · exact h.elim
    · exact h.elim
theorem loudD.sem {o : Oper} {ev : Operand → Value} {K : Value → Heap → Prop} {Q : List PanicEntry → Heap → Prop} (hev : ∀ g, ev (.func g) = .func (.func g) #[] #[]) (h : loudD P o ev H K Q) : OperH P o ev H K Q := by
  obtain ⟨dst, op, type, pos, after, guard⟩ := o
  unfold loudD at h
  split at h
  · rename_i T a x hop
    simp only at hop
    subst hop
    unfold OperH
    simp only [execOp]
    split at h
    · rename_i p hp
      split at h
      · rename_i a'
        rw [hp, SemH_bind]
        show SemH P (Instr.storeAt T (.pointer (some a')) (ev x)) H _ _
        unfold Instr.storeAt
        rw [SemH_bind]
        exact storeD.sem h
      · exact h.elim
    · exact h.elim
  · rename_i x hop
    simp only at hop
    subst hop
    unfold OperH
    simp only [execOp]
    unfold panD at h
    split at h
    · rename_i t y hv
      rw [hv]
      rw [SemH_bind]
      exact h
    · exact h.elim
  · rename_i c hop
    simp only at hop
    subst hop
    unfold OperH
    simp only [execOp]
    split at h
    · rename_i b hb
      have eargs : c.args.map ev = ⟨c.args.toList.map ev⟩ := by apply Array.ext'; simp
      have hres : pureV P (resolve ev c type) = some { target := .builtin b c.argTypes type (c.args.map fun | .const _ => true | _ => false), args := c.args.map ev } := by
        unfold resolve; simp only [hb]; rfl
      rw [SemH_bind]
      refine semH_of_pure hres ?_
      split at h
      · unfold appD at h
        split at h
        · rename_i T Tx ts e1
          split at h
          · rename_i v x rs e2
            split at h
            · rename_i p n c'
              split at h
              · rename_i e ht
                split at h
                · rename_i ie hie
                  split at h
                  · rename_i zs hz
                    have ea : c.argTypes = ⟨T :: Tx :: ts⟩ := by rw [← e1]
                    split at h
                    · rename_i q m c2
                      split at h
                      · rename_i ex htx
                        obtain ⟨vs, h1, h2, h3⟩ := h
                        simp only [invoke, builtin]
                        rw [eargs, e2, ea]
                        exact value_next (append.sem ht hie hz htx (.inr ⟨_, rfl⟩) (x := .slice q m c2) (m := m) (vs := vs) ⟨h1, h2⟩ rfl h3)
                      · exact h.elim
                    · rename_i s
                      split at h
                      · rename_i htx
                        unfold guardB at h
                        split at h
                        · rename_i hc
                          simp only [Bool.and_eq_true, beq_iff_eq] at hc
                          simp only [invoke, builtin]
                          rw [eargs, e2, ea]
                          refine value_next (append.sem ht hie hz htx (.inl rfl) (x := .string s) (m := s.size) (vs := bytesOf s.data.toList) ⟨?_, Nat.le_refl _⟩ rfl (by rw [hc.1, hc.2]; exact h))
                          rw [List.take_of_length_le]
                          simp [bytesOf]
                        · exact h.elim
                      · exact h.elim
                    · exact h.elim
                  · exact h.elim
                · exact h.elim
              · exact h.elim
            · exact h.elim
          · exact h.elim
        · exact h.elim
      · unfold copyD at h
        split at h
        · rename_i T ts e1
          split at h
          · rename_i v x rs e2
            split at h
            · rename_i p n c'
              split at h
              · rename_i e ht
                split at h
                · rename_i ie hie
                  split at h
                  · rename_i q m c2
                    have ea : c.argTypes = ⟨T :: ts⟩ := by rw [← e1]
                    simp only [invoke, builtin]
                    rw [eargs, e2, ea]
                    exact value_next (copy.sem ht hie h)
                  · exact h.elim
                · exact h.elim
              · exact h.elim
            · exact h.elim
          · exact h.elim
        · exact h.elim
      · exact h.elim
    · exact callsD.sem hev h
  · exact allocD.sem h
theorem okV.spec {e : TypeId} {ok : Bool} {v : Value} {k : Value → Prop} (h : okV P e ok v k) : k v := by
  cases ok with
  | true =>
    obtain ⟨l, rfl, x, l1, rfl, h⟩ := h
    obtain ⟨c, l2, rfl, b, rfl, rfl, h2⟩ := tyT.spec (k := fun x' => tCons l1 fun c l2 => tBool c fun b => tNil l2 (k (.tuple ⟨[x', .bool b]⟩))) h
    exact h2
  | false => exact tyT.spec h
theorem nextK.spec {t : TypeId} {s : Bool} {v : Value} {k : Value → Prop} (h : nextK P t s v k) : k v := by
  obtain ⟨l, rfl, c, l1, rfl, b, rfl, h⟩ := h
  cases b with
  | false => obtain ⟨rfl, h⟩ := h; exact h
  | true =>
    cases s with
    | true =>
      obtain ⟨x, l2, rfl, i, rfl, y, l3, rfl, r, rfl, rfl, h⟩ := h
      exact h
    | false =>
      simp only [iteB] at h
      split at h
      · rename_i kt et hu
        obtain ⟨x, l2, rfl, h⟩ := h
        obtain ⟨y, l3, rfl, h2⟩ := tyT.spec (k := fun x' => tCons l2 fun y l3 => tyT P et y fun y' => tNil l3 (k (.tuple ⟨[.bool true, x', y']⟩))) h
        obtain ⟨rfl, h3⟩ := tyT.spec (k := fun y' => tNil l3 (k (.tuple ⟨[.bool true, x, y']⟩))) h2
        exact h3
      · exact h.elim
theorem valD.sem {s : Sem Value} {K : Value → Heap → Prop} {Q : List PanicEntry → Heap → Prop} (h : valD P s H Q K) : SemH P (do pure (.value (← s)) : Sem Next) H (nextH P K Q) (fun v H' => Q [{ v, recovered := false }] H') := value_next h.out
theorem uniD.sem {s : Sem Unit} {K : Value → Heap → Prop} {Q : List PanicEntry → Heap → Prop} (h : uniD P s H Q fun H1 => K undef H1) : SemH P (do s; pure .skip : Sem Next) H (nextH P K Q) (fun v H' => Q [{ v, recovered := false }] H') := by
  rw [SemH_bind]
  exact h.out
theorem valD.mono {s : Sem Value} {K K' : Value → Heap → Prop} {Q : List PanicEntry → Heap → Prop} (h : valD P s H Q K) (hk : ∀ v H, K v H → K' v H) : valD P s H Q K' := ⟨SemH.mono s h.out hk (fun _ _ => id)⟩
theorem mapElem.of {t : TypeId} {k : TypeId → Prop} (h : mapElem P t k) : ∃ e, k e := by
  unfold mapElem at h
  split at h
  · exact ⟨_, h⟩
  · exact h.elim
theorem heavyD.sem {t : TypeId} {o : Oper} {ev : Operand → Value} {K : Value → Heap → Prop} {Q : List PanicEntry → Heap → Prop} (h : heavyD P t o ev H K Q) : OperH P o ev H K Q := by
  obtain ⟨dst, op, type, pos, after, guard⟩ := o
  unfold OperH
  cases op <;> simp only [heavyD] at h <;> simp only [execOp] <;> try exact h.elim
  case lookup T m k ok =>
    obtain ⟨e, h⟩ := h.of
    exact valD.sem (h.mono fun v H1 h => okV.spec (k := fun v' => K v' H1) h)
  case makeChan t n =>
    refine valD.sem (h.mono fun v H1 h => ?_)
    obtain ⟨r, rfl, h⟩ := h
    exact h
  case typeAssert x xt a ok => exact valD.sem (h.mono fun v H1 h => okV.spec (k := fun v' => K v' H1) h)
  case convert s d x => exact valD.sem (h.mono fun v H1 h => tyT.spec (k := fun v' => K v' H1) h)
  case mapUpdate T m k x => exact uniD.sem h
  case insert T m k x => exact uniD.sem h
  case mapEntry T m k =>
    obtain ⟨e, h⟩ := h.of
    refine valD.sem (h.mono fun v H1 h => ?_)
    obtain ⟨l, rfl, x, l1, rfl, h⟩ := h
    obtain ⟨c, l2, rfl, n, rfl, rfl, h2⟩ := tyT.spec (k := fun x' => tCons l1 fun c l2 => tInt c .i64 fun n => tNil l2 (K (.tuple ⟨[x', .int .i64 n]⟩) H1)) h
    exact h2
  case entryStore T m s x => exact uniD.sem h
  case range T x =>
    refine valD.sem (h.mono fun v H1 h => ?_)
    obtain ⟨p, rfl, h⟩ := h
    exact h
  case next it s => exact valD.sem (h.mono fun v H1 h => nextK.spec (k := fun v' => K v' H1) h)
  case entry it =>
    split at h
    · rename_i kt et hu
      refine valD.sem (h.mono fun v H1 h => ?_)
      obtain ⟨l, rfl, x, l2, rfl, h⟩ := h
      obtain ⟨y, l3, rfl, h2⟩ := tyT.spec (k := fun x' => tCons l2 fun y l3 => tyT P et y fun y' => tNil l3 (K (.tuple ⟨[x', y']⟩) H1)) h
      obtain ⟨rfl, h3⟩ := tyT.spec (k := fun y' => tNil l3 (K (.tuple ⟨[x, y']⟩) H1)) h2
      exact h3
    · exact h.elim
  case call c =>
    split at h
    · rename_i b hb
      have eargs : c.args.map ev = ⟨c.args.toList.map ev⟩ := by apply Array.ext'; simp
      have hres : pureV P (resolve ev c type) = some { target := .builtin b c.argTypes type (c.args.map fun | .const _ => true | _ => false), args := c.args.map ev } := by
        unfold resolve; simp only [hb]; rfl
      rw [SemH_bind]
      refine semH_of_pure hres ?_
      split at h
      · simp only [invoke, builtin]
        rw [eargs]
        refine valD.sem (h.mono fun v H1 h => ?_)
        obtain ⟨l, rfl, rfl, h⟩ := h
        exact h
      · simp only [invoke, builtin]
        rw [eargs]
        refine valD.sem (h.mono fun v H1 h => ?_)
        obtain ⟨n, rfl, h⟩ := h
        exact h
      · simp only [invoke, builtin]
        rw [eargs]
        refine valD.sem (h.mono fun v H1 h => ?_)
        obtain ⟨p, n, c, rfl, h⟩ := h
        exact h
      · exact h.elim
    · exact h.elim
theorem SemH.and_ext {α : Type} (s : Sem α) {K : α → Heap → Prop} {Q : Value → Heap → Prop} (h : SemH P s H K Q) (h2 : SemH P s H (fun _ H' => ExtH H H') (fun _ _ => True)) : SemH P s H (fun a H' => ExtH H H' ∧ K a H') Q := by
  suffices ∀ (H1 : Heap), SemH P s H1 K Q → SemH P s H1 (fun _ H' => ExtH H H') (fun _ _ => True) → SemH P s H1 (fun a H' => ExtH H H' ∧ K a H') Q from this H h h2
  clear h h2
  induction s <;> intro H1 h h2 <;> simp only [SemH] at h h2 ⊢
  case pure => exact ⟨h2, h⟩
  case load ih => obtain ⟨v, h1, h⟩ := h; obtain ⟨v', h3, h2⟩ := h2; rw [h1] at h3; cases h3; exact ⟨v, h1, ih v H1 h h2⟩
  case store ih => exact ⟨h.1, h.2.1, h.2.2.1, ih _ h.2.2.2 h2.2.2.2⟩
  case new ih => exact ih _ _ h h2
  case shape ih => exact ih _ _ h h2
  case freeze ih => exact ih _ h h2
  case frozen ih => exact ih _ _ h h2
  case getObj ih => obtain ⟨v, h1, h4, h⟩ := h; obtain ⟨v', h3, h5, h2⟩ := h2; rw [h1] at h3; cases h3; exact ⟨v, h1, h4, ih v H1 h h2⟩
  case setObj ih => obtain ⟨v, h1, h4, h⟩ := h; obtain ⟨v', h3, h5, h2⟩ := h2; exact ⟨v, h1, h4, ih _ h h2⟩
  case choose ih => exact fun t => ih _ _ (h t) (h2 t)
  case program ih => exact ih _ _ h h2
  case mark ih => exact ih _ h h2
  case halt x => cases x <;> first | exact h | exact h.elim
end
end Go.Den
