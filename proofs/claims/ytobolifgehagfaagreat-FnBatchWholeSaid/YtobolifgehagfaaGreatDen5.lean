/- A plain reading of Go functions, proved to be what they do; no condition. -/
import Derived.Test.YtobolifgehagfaaGreatDen4
set_option linter.unusedVariables false
set_option linter.unusedSimpArgs false
set_option linter.unnecessarySimpa false
namespace Go.Den
open Go
/-! Maps whose keys are pointers to whole blocks. -/
abbrev ptrK (r : Nat) : Value := .pointer (some ⟨r, 0, none⟩)
def eqK (r : Nat) (v : Value) : Bool := match v with | .pointer (some a) => (⟨r, 0, none⟩ : Addr) == a | _ => false
theorem eqK_ok (r r' : Nat) : eqK r (ptrK r') = decide (r = r') := by
  unfold eqK
  rw [Bool.eq_iff_iff]
  simp
section
variable {P : Program} {H : Heap} {kt e : TypeId} {ie : TypeInfo}
theorem equalK (hu : P.underlying kt = some (.pointer e)) (hie : P.info? e = some ie) (hz : ie.size ≠ 0) {r r' : Nat} (h1 : plainB H r) (h2 : plainB H r') : readV P (Op.equal kt (ptrK r) (ptrK r')) H = some (decide (r = r')) := by
  have h : pqD H (some ⟨r, 0, none⟩) (some ⟨r', 0, none⟩) (fun b => b = decide (r = r')) := by
    unfold pqD
    by_cases hr : r = r'
    · refine .inl ⟨hr, ?_⟩
      subst hr; simp
    · exact .inr ⟨hr, h1, h2, by simp [hr]⟩
  obtain ⟨b, hb, rfl⟩ := pqD.spec hu hie hz h
  exact hb
theorem findAskK (hu : P.underlying kt = some (.pointer e)) (hie : P.info? e = some ie) (hz : ie.size ≠ 0) {r : Nat} (h1 : plainB H r) : ∀ (es : List MapEntry) (i : Nat), (∀ x ∈ es, ∃ r', x.key = ptrK r' ∧ plainB H r') → readV P (Instr.findAsking kt (ptrK r) es i) H = some (fnd (eqK r) es i)
  | [], i, _ => rfl
  | x :: es, i, h => by
    obtain ⟨r', hx, h2⟩ := h x (List.mem_cons_self ..)
    unfold Instr.findAsking
    rw [readV_bind, hx, equalK hu hie hz h1 h2, Option.bind_some]
    unfold fnd
    rw [hx, eqK_ok]
    by_cases hr : r = r'
    · simp [hr]; rfl
    · simp only [hr, decide_false, Bool.false_eq_true, if_false]
      exact findAskK hu hie hz h1 es (i + 1) fun y hy => h y (List.mem_cons_of_mem _ hy)
theorem findK (hu : P.underlying kt = some (.pointer e)) (hie : P.info? e = some ie) (hz : ie.size ≠ 0) {r : Nat} (h1 : plainB H r) (es : List MapEntry) (h : ∀ x ∈ es, ∃ r', x.key = ptrK r' ∧ plainB H r') : readV P (Instr.findKey kt (ptrK r) es) H = some (fnd (eqK r) es 0) := by
  unfold Instr.findKey
  rw [readV_bind, readV_underlying hu, Option.bind_some]
  cases es with
  | nil => rfl
  | cons x es =>
    obtain ⟨r', hx, h2⟩ := h x (List.mem_cons_self ..)
    have : Instr.findNow (.pointer e) (ptrK r) (x :: es) 0 = none := by
      unfold Instr.findNow
      rw [hx]
      rfl
    rw [this]
    exact findAskK hu hie hz h1 (x :: es) 0 h
theorem checkK (hu : P.underlying kt = some (.pointer e)) (b : Bool) (r : Nat) : pureV P (Instr.checkKey b 10000 kt (ptrK r)) = some () := by
  unfold Instr.checkKey
  rw [pureV_bind, pureV_underlying hu]
  rfl
variable {Q : List PanicEntry → Heap → Prop} {ν : Type} {fv : ν → Value} {m : List (Nat × ν)} {l : List HP} {t et mr : TypeId} {z : Value}
theorem keysK {es : List MapEntry} (he : es.map (fun e => (e.key, e.val)) = m.map (fun x => (ptrK x.1, fv x.2))) (hp : ∀ x ∈ m, plainB H x.1) : ∀ x ∈ es, ∃ r', x.key = ptrK r' ∧ plainB H r' := by
  intro x hx
  have : (x.key, x.val) ∈ es.map (fun e => (e.key, e.val)) := List.mem_map_of_mem hx
  rw [he] at this
  obtain ⟨y, hy, hh⟩ := List.mem_map.1 this
  exact ⟨y.1, by injection hh with a b; exact a.symm, hp y hy⟩
/-- What a map of pointers needs of its types. -/
structure PtrMap (P : Program) (t kt et e : TypeId) (ie : TypeInfo) (z : Value) : Prop where
  map : P.underlying t = some (.map kt et)
  key : P.underlying kt = some (.pointer e)
  info : P.info? e = some ie
  size : ie.size ≠ 0
  zero : pureV P (zeroValue et) = some z
theorem Sat.lookupK {r : Nat} (T : PtrMap P t kt et e ie z) (S : Sat H l) (hm : mp ptrK fv mr m ∈ l) (hr : plainB H r) (hp : ∀ x ∈ m, plainB H x.1) {ok : Bool} {K : Value → Heap → Prop} (h1 : ∀ v, mget m r = some v → K (if ok then .tuple #[fv v, .bool true] else fv v) H) (h2 : mget m r = none → K (if ok then .tuple #[z, .bool false] else z) H) :
    valD P (Instr.lookup t (.map (some mr)) (ptrK r) ok) H Q K := by
  obtain ⟨h, ⟨es, clk, hb, he, _, _⟩, hs⟩ := S.mem hm
  have hb' := hs _ _ hb
  refine ⟨?_⟩
  unfold Instr.lookup
  rw [SemH_bind]
  refine semH_of_pure (pureV_underlying T.map) ?_
  dsimp only
  rw [SemH_bind, SemH_getObj]
  refine ⟨_, hb', rfl, ?_⟩
  dsimp only
  rw [SemH_bind, SemH_pure, SemH_bind]
  refine semH_of_pure (checkK T.key _ r) ?_
  rw [SemH_bind]
  refine semH_of_read (findK T.key T.info T.size hr es.toList (keysK he hp)) ?_
  rcases fnd_mget_at (fk := ptrK) (eqK_ok r) es.toList m he with ⟨h3, h4⟩ | ⟨j, v, x, h3, h4, _⟩
  · rw [h4]
    dsimp only
    rw [SemH_bind]
    refine semH_of_pure T.zero ?_
    rw [SemH_bind, SemH_pure, SemH_pure]
    exact h2 h3
  · rw [h4]
    dsimp only
    rw [SemH_bind, SemH_pure, SemH_pure]
    exact h1 v h3
/-- A key that is not there yet is put. -/
theorem Sat.mpSetK {r : Nat} (T : PtrMap P t kt et e ie z) (S : Sat H (mp ptrK fv mr m :: l)) (hr : plainB H r) (hp : ∀ x ∈ m, plainB H x.1) (hn : mget m r = none) (v : ν) {K : Heap → Prop} (h : ∀ H1, Sat H1 (mp ptrK fv mr (m ++ [(r, v)]) :: l) → K H1) : uniD P (Instr.mapUpdate t (.map (some mr)) (ptrK r) (fv v)) H Q K := by
  obtain ⟨h', ⟨es, clk, hb, he, hnd, hlt⟩, hs, x⟩ := S.out
  have hb' : H[mr]? = some (.map es clk) := hs _ _ hb
  have upd : ∀ o, Upd mr o H (H.setIfInBounds mr o) := fun o => ⟨by simp, fun b _ hne => by rw [Array.getElem?_setIfInBounds_ne (Ne.symm hne)], by rw [Array.getElem?_setIfInBounds]; simp [block_lt hb']⟩
  have h4 : fnd (eqK r) es.toList 0 = none := by
    rcases fnd_mget_at (fk := ptrK) (eqK_ok r) es.toList m he with ⟨_, h4⟩ | ⟨j, w, y, h3, _⟩
    · exact h4
    · rw [hn] at h3; cases h3
  have S1 : Sat H (pt mr (.map es clk) :: l) := ⟨⟨h', hb, hs, x⟩⟩
  have fin := h _ ((S1.upd (upd (.map (es.push { key := ptrK r, val := fv v, born := clk }) (clk + 1)))).to (Ent.first fun k hk => ⟨_, _, hk, by simp [he], by
      simp only [Array.toList_push, List.map_append, List.map_cons, List.map_nil]
      rw [List.nodup_append]
      refine ⟨hnd, by simp, ?_⟩
      intro a ha b hb
      simp at hb ha
      obtain ⟨y, he1, rfl⟩ := ha
      have := hlt y (by simpa using he1)
      omega, by
      intro y he1
      simp at he1
      rcases he1 with he1 | rfl
      · have := hlt y (by simpa using he1); omega
      · simp⟩))
  refine ⟨?_⟩
  unfold Instr.mapUpdate
  rw [SemH_bind]
  refine semH_of_pure (pureV_underlying T.map) ?_
  dsimp only
  rw [SemH_bind, SemH_getObj]
  refine ⟨_, hb', rfl, ?_⟩
  dsimp only
  rw [SemH_bind]
  refine semH_of_pure (checkK T.key _ r) ?_
  rw [SemH_bind]
  refine semH_of_read (findK T.key T.info T.size hr es.toList (keysK he hp)) ?_
  rw [h4]
  dsimp only
  exact ⟨_, hb', rfl, fin⟩
/-- A channel is made. -/
theorem Sat.mkChan {t el : TypeId} {d : ChanDir} {n : Int} {ie : TypeInfo} (S : Sat H l) (hu : P.underlying t = some (.chan d el)) (hie : P.info? el = some ie) (h0 : 0 ≤ n) (h1 : n ≤ 1000) (h2 : ie.bytes ≤ 1000000) {K : Value → Heap → Prop} (k : ∀ r H1, Sat H1 (pt r (.chan n.toNat #[] false 0 0 false) :: l) → K (.chan (some r)) H1) : valD P (Instr.makeChan t (.int .i64 n)) H Q K := by
  refine ⟨?_⟩
  unfold Instr.makeChan
  rw [SemH_bind]
  show SemH P (underlying t >>= _) H _ _
  rw [SemH_bind]
  refine semH_of_pure (pureV_underlying hu) ?_
  dsimp only
  rw [SemH_bind]
  refine semH_of_pure (a := ie) ?_ ?_
  · show pureV P (typeInfo el) = some ie
    show pureV P (match P.info? el with | some d => pure d | none => stuck "no such type" : Sem TypeInfo) = _
    rw [hie]; rfl
  · have hb : (ie.bytes : Int) * n ≤ 1000000 * 1000 := by
      have : (ie.bytes : Int) ≤ 1000000 := by omega
      exact Int.mul_le_mul this h1 h0 (by omega)
    rw [if_neg (by
      intro h
      rcases h with h | h | h
      · omega
      · have : IntKind.max .i64 = 9223372036854775807 := rfl
        omega
      · omega)]
    exact k _ _ (S.push _)
end
end Go.Den
