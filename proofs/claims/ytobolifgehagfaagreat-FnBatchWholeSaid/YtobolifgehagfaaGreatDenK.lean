/- A plain reading of Go functions, proved to be what they do; no condition. -/
/- Lists of pieces held against each other; maps as pieces of memory; tests. -/
import Derived.Test.YtobolifgehagfaaGreatDenJ
set_option linter.unusedVariables false
set_option linter.unusedSectionVars false
set_option linter.unusedSimpArgs false
namespace Go.Den
open Go
/-! ### Lists of pieces -/
class Take (c : HP) (l : List HP) (r : outParam (List HP)) : Prop where
  out : Sel c l r
instance (priority := 2000) Take.here {c : HP} {l : List HP} : Take c (c :: l) l := ⟨.here⟩
instance (priority := 1000) Take.there {c d : HP} {l r : List HP} [h : Take c l r] : Take c (d :: l) (d :: r) := ⟨.there h.out⟩
class Fits (l m : List HP) : Prop where
  out : Ent l m
instance (priority := 3000) Fits.refl {l : List HP} : Fits l l := ⟨.refl⟩
instance (priority := 2500) Fits.nil {l : List HP} : Fits l [] := ⟨.nil⟩
instance (priority := 2000) Fits.pick {c : HP} {l m r : List HP} [a : Take c l r] [b : Fits r m] : Fits l (c :: m) := ⟨.pick a.out b.out⟩
instance (priority := 1000) Fits.drop {c : HP} {l m : List HP} [b : Fits l m] : Fits (c :: l) m := ⟨.drop b.out⟩
theorem Sat.done {H : Heap} {l m : List HP} (S : Sat H l) [F : Fits l m] : Sat H m := S.to F.out
theorem Sat.fin {H : Heap} {l m : List HP} [S : Sat H l] [F : Fits l m] : Sat H m := S.to F.out
/-- A closed test. -/
structure Clo (b : Bool) : Prop where
  out : b = true
theorem iteB_t {b : Bool} {A B : Prop} (h : b = true) (a : A) : iteB b A B := by subst h; exact a
theorem iteB_f {b : Bool} {A B : Prop} (h : b = false) (a : B) : iteB b A B := by subst h; exact a
/-! ### Assertions of a type -/
def concT (P : Program) (t : TypeId) : Bool := match P.underlying t with | some (.interface _) => false | some _ => true | none => false
section
variable {P : Program} {H : Heap} {Q : List PanicEntry → Heap → Prop}
theorem assert_same {t xt : TypeId} {v : Value} {K : Value → Heap → Prop} (h : concT P t = true) (k : K v H) : valD P (Instr.typeAssert (.iface t v) xt t false) H Q K := by
  refine ⟨?_⟩
  unfold concT at h
  unfold Instr.typeAssert
  split at h
  · cases h
  · rename_i d hni hu
    rw [SemH_bind, SemH_underlying hu]
    cases d <;> simp only [if_true] <;> first | exact k | exact (hni _ rfl).elim
  · cases h
instance {t xt : TypeId} {v : Value} {K : Value → Heap → Prop} : Step (valD P (Instr.typeAssert (.iface t v) xt t false) H Q K) (Duo (Clo (concT P t)) (K v H)) := ⟨fun h => assert_same h.1.out h.2⟩
instance {t xt : TypeId} {v : Value} {K : Value → Heap → Prop} : Step (valD P (Instr.typeAssert (IV.v (.mk t v)) xt t false) H Q K) (Duo (Clo (concT P t)) (K v H)) := ⟨fun h => assert_same h.1.out h.2⟩
end
/-! ### Maps -/
def mget {κ ν : Type} [DecidableEq κ] : List (κ × ν) → κ → Option ν
  | [], _ => none
  | (a, v) :: m, k => if k = a then some v else mget m k
def mset {κ ν : Type} [DecidableEq κ] : List (κ × ν) → κ → ν → List (κ × ν)
  | [], k, v => [(k, v)]
  | (a, w) :: m, k, v => if k = a then (k, v) :: m else (a, w) :: mset m k v
def mdel {κ ν : Type} [DecidableEq κ] : List (κ × ν) → κ → List (κ × ν)
  | [], _ => []
  | (a, w) :: m, k => if k = a then m else (a, w) :: mdel m k
/-- Keys of a map: how they are written, and that they are told apart. -/
structure KeyT (P : Program) (kt : TypeId) {κ : Type} [DecidableEq κ] (fk : κ → Value) : Prop where
  chk : ∀ b k, pureV P (Instr.checkKey b 10000 kt (fk k)) = some ()
  find : ∀ k, ∃ eqv : Value → Bool, (∀ k', eqv (fk k') = decide (k = k')) ∧ ∀ es : List MapEntry, (∀ e ∈ es, ∃ k', e.key = fk k') → pureV P (Instr.findKey kt (fk k) es) = some (fnd eqv es 0)
  bits : ∀ k, Instr.sameBits 10000 (fk k) (fk k) = true
theorem KeyT.int {P : Program} {kt : TypeId} {kd : IntKind} (hu : P.underlying kt = some (.int kd)) : KeyT P kt (Value.int kd) := by
  refine ⟨fun b k => checkKey_int hu, fun k => ?_, fun k => ?_⟩
  · refine ⟨fun v => match v with | .int _ b => k == b | _ => false, fun k' => by simp [BEq.beq, Bool.beq_eq_decide_eq], fun es h => findKey_now hu fun e he => ?_⟩
    obtain ⟨k', e1⟩ := h e he
    rw [e1]
    simp [Instr.sameNow]
  · cases kd <;> simp [Instr.sameBits]
theorem ba_beq (a b : ByteArray) : (a == b) = decide (a = b) := by
  have h : (a == b) = (a.data == b.data) := by cases a; cases b; rfl
  rw [h, Bool.eq_iff_iff]
  simp only [beq_iff_eq, decide_eq_true_eq]
  exact ⟨fun h => by cases a; cases b; cases h; rfl, fun h => by rw [h]⟩
theorem KeyT.string {P : Program} {kt : TypeId} (hu : P.underlying kt = some .string) : KeyT P kt Value.string := by
  refine ⟨fun b k => checkKey_string hu, fun k => ?_, fun k => ?_⟩
  · refine ⟨fun v => match v with | .string b => k == b | _ => false, fun k' => ba_beq k k', fun es h => findKey_now hu fun e he => ?_⟩
    obtain ⟨k', e1⟩ := h e he
    rw [e1]
    simp [Instr.sameNow]
  · simp [Instr.sameBits, ba_beq]
/-- A map: its entries, in the order in which they came. -/
def mp {κ ν : Type} (fk : κ → Value) (fv : ν → Value) (r : Nat) (m : List (κ × ν)) : HP := fun h => ∃ (es : Array MapEntry) (clk : Nat), h r = some (.map es clk) ∧
  es.toList.map (fun e => (e.key, e.val)) = m.map (fun x => (fk x.1, fv x.2)) ∧ (es.toList.map (·.born)).Nodup ∧ ∀ e ∈ es.toList, e.born < clk
section
variable {P : Program} {H : Heap} {κ ν : Type} [DecidableEq κ] {fk : κ → Value} {fv : ν → Value} {kt : TypeId} {r : Nat} {m : List (κ × ν)} {l : List HP}
theorem fnd_mget {eqv : Value → Bool} {k : κ} (hq : ∀ k', eqv (fk k') = decide (k = k')) : ∀ (es : List MapEntry) (m : List (κ × ν)) (i : Nat), es.map (fun e => (e.key, e.val)) = m.map (fun x => (fk x.1, fv x.2)) →
    (mget m k = none ∧ fnd eqv es i = none) ∨ ∃ j v e, mget m k = some v ∧ fnd eqv es i = some (i + j, fv v) ∧ m[j]? = some (k, v) ∧ es[j]? = some e ∧ e.key = fk k
  | [], [], i, h => .inl ⟨rfl, rfl⟩
  | [], _ :: _, i, h => by simp at h
  | _ :: _, [], i, h => by simp at h
  | e :: es, (a, v) :: m, i, h => by
    simp only [List.map_cons, List.cons.injEq, Prod.mk.injEq] at h
    obtain ⟨⟨h1, h2⟩, h3⟩ := h
    unfold mget fnd
    rw [h1, hq]
    by_cases hk : k = a
    · subst hk
      right
      exact ⟨0, v, e, by simp, by simp [h2], by simp, by simp, h1⟩
    · rw [if_neg hk, if_neg (by simpa using hk)]
      rcases fnd_mget hq es m (i + 1) h3 with h4 | ⟨j, w, e', h4, h5, h6, h7, h8⟩
      · exact .inl h4
      · exact .inr ⟨j + 1, w, e', h4, by rw [h5]; congr 2; omega, by simpa using h6, by simpa using h7, h8⟩
theorem mset_none {k : κ} {v : ν} : ∀ {m : List (κ × ν)}, mget m k = none → mset m k v = m ++ [(k, v)]
  | [], _ => rfl
  | (a, w) :: m, h => by
    unfold mget at h
    unfold mset
    split at h
    · cases h
    · rename_i hk; rw [if_neg hk, mset_none h]; rfl
theorem mget_at {k : κ} {v : ν} : ∀ {m : List (κ × ν)}, mget m k = some v → ∃ j, m[j]? = some (k, v) ∧ (∀ w, mset m k w = m.set j (k, w)) ∧ mdel m k = m.eraseIdx j ∧ ∀ i x, i < j → m[i]? = some x → x.1 ≠ k
  | [], h => by cases h
  | (a, u) :: m, h => by
    unfold mget at h
    split at h
    · rename_i hk
      subst hk
      cases h
      exact ⟨0, rfl, fun w => by simp [mset], by simp [mdel], fun i x hi => by omega⟩
    · rename_i hk
      obtain ⟨j, h1, h2, h3, h4⟩ := mget_at h
      refine ⟨j + 1, by simpa using h1, fun w => by simp [mset, hk, h2], by simp [mdel, hk, h3], ?_⟩
      intro i x hi hx
      cases i with
      | zero => simp at hx; subst hx; exact fun e => hk e.symm
      | succ i => exact h4 i x (by omega) (by simpa using hx)
theorem fnd_mget_at {eqv : Value → Bool} {k : κ} (hq : ∀ k', eqv (fk k') = decide (k = k')) (es : List MapEntry) (m : List (κ × ν)) (h : es.map (fun e => (e.key, e.val)) = m.map (fun x => (fk x.1, fv x.2))) :
    (mget m k = none ∧ fnd eqv es 0 = none) ∨ ∃ j v e, mget m k = some v ∧ fnd eqv es 0 = some (j, fv v) ∧ m[j]? = some (k, v) ∧ es[j]? = some e ∧ e.key = fk k := by
  rcases fnd_mget hq es m 0 h with h | ⟨j, v, e, h1, h2, h3⟩
  · exact .inl h
  · exact .inr ⟨j, v, e, h1, by rw [h2, Nat.zero_add], h3⟩
theorem fnd_idx {eqv : Value → Bool} {k : κ} (hq : ∀ k', eqv (fk k') = decide (k = k')) : ∀ (es : List MapEntry) (m : List (κ × ν)) (i j : Nat) (x : Value), es.map (fun e => (e.key, e.val)) = m.map (fun x => (fk x.1, fv x.2)) → fnd eqv es i = some (i + j, x) →
    (∀ w, mset m k w = m.set j (k, w)) ∧ mdel m k = m.eraseIdx j
  | [], _, i, j, x, _, h => by cases h
  | e :: es, [], i, j, x, h, _ => by simp at h
  | e :: es, (a, u) :: m, i, j, x, h, hf => by
    simp only [List.map_cons, List.cons.injEq, Prod.mk.injEq] at h
    obtain ⟨⟨h1, h2⟩, h3⟩ := h
    unfold fnd at hf
    rw [h1, hq] at hf
    by_cases hk : k = a
    · subst hk
      simp at hf
      have : j = 0 := by omega
      subst this
      exact ⟨fun w => by simp [mset], by simp [mdel]⟩
    · rw [if_neg (by simpa using hk)] at hf
      cases j with
      | zero =>
        exfalso
        have key : ∀ (es : List MapEntry) (i : Nat) (p : Nat × Value), fnd eqv es i = some p → i ≤ p.1 := by
          intro es
          induction es with
          | nil => intro i p h; cases h
          | cons e es ih =>
            intro i p h
            unfold fnd at h
            split at h
            · cases h; exact Nat.le_refl _
            · exact Nat.le_trans (Nat.le_succ i) (ih (i + 1) p h)
        have := key es (i + 1) _ hf
        simp at this
        omega
      | succ j =>
        obtain ⟨h4, h5⟩ := fnd_idx hq es m (i + 1) j x h3 (by rw [hf]; congr 2; omega)
        exact ⟨fun w => by simp [mset, hk, h4], by simp [mdel, hk, h5]⟩
theorem mp_keys {es : List MapEntry} {m : List (κ × ν)} (h : es.map (fun e => (e.key, e.val)) = m.map (fun x => (fk x.1, fv x.2))) : ∀ e ∈ es, ∃ k', e.key = fk k' := by
  intro e he
  have : (e.key, e.val) ∈ es.map (fun e => (e.key, e.val)) := List.mem_map_of_mem he
  rw [h] at this
  obtain ⟨x, _, hx⟩ := List.mem_map.1 this
  exact ⟨x.1, by injection hx with a b; exact a.symm⟩
theorem map_erase {α β : Type} (f : α → β) : ∀ (l : List α) (j : Nat), (l.eraseIdx j).map f = (l.map f).eraseIdx j
  | [], j => by simp
  | a :: l, 0 => by simp
  | a :: l, j + 1 => by simp [map_erase f l j]
/-- A map's type: of keys, of elements, their zero. -/
class MapT (P : Program) (t : TypeId) {κ ν : Type} [DecidableEq κ] (fk : κ → Value) (fv : ν → Value) (z : outParam Value) : Prop where
  out : ∃ kt et, P.underlying t = some (.map kt et) ∧ KeyT P kt fk ∧ pureV P (zeroValue et) = some z
class EncV {α : Type} (f : α → Value) (x : Value) (y : outParam α) : Prop where
  out : f y = x
instance {kd : IntKind} {n : Int} : EncV (Value.int kd) (.int kd n) n := ⟨rfl⟩
instance {s : ByteArray} : EncV Value.string (.string s) s := ⟨rfl⟩
instance {s : Bool} : EncV Value.bool (.bool s) s := ⟨rfl⟩
instance {s : Option Addr} : EncV Value.pointer (.pointer s) s := ⟨rfl⟩
class MpAt (r : Nat) (l : List HP) (c : outParam HP) : Prop where
  out : c ∈ l
instance (priority := 2000) MpAt.here {κ ν : Type} {fk : κ → Value} {fv : ν → Value} {r : Nat} {m : List (κ × ν)} {l : List HP} : MpAt r (mp fk fv r m :: l) (mp fk fv r m) := ⟨List.mem_cons_self ..⟩
instance (priority := 1000) MpAt.there {r : Nat} {c d : HP} {l : List HP} [h : MpAt r l c] : MpAt r (d :: l) c := ⟨List.mem_cons_of_mem _ h.out⟩
class MpSel (r : Nat) (c' : HP) (l : List HP) (c : outParam HP) (l' : outParam (List HP)) : Prop where
  out : ∃ m, Sel c l m ∧ Sel c' l' m
instance (priority := 2000) MpSel.here {κ ν : Type} {fk : κ → Value} {fv : ν → Value} {r : Nat} {m : List (κ × ν)} {l : List HP} {c' : HP} : MpSel r c' (mp fk fv r m :: l) (mp fk fv r m) (c' :: l) := ⟨l, .here, .here⟩
instance (priority := 1000) MpSel.there {r : Nat} {c c' d : HP} {l l' : List HP} [h : MpSel r c' l c l'] : MpSel r c' (d :: l) c (d :: l') := by
  obtain ⟨m, a, b⟩ := h.out
  exact ⟨d :: m, a.there, b.there⟩
variable {Q : List PanicEntry → Heap → Prop} {t : TypeId} {z : Value}
theorem Sat.lookup (S : Sat H l) (hm : mp fk fv r m ∈ l) (T : MapT P t fk fv z) (k : κ) {ok : Bool} {K : Value → Heap → Prop} (h1 : ∀ v, mget m k = some v → K (if ok then .tuple #[fv v, .bool true] else fv v) H) (h2 : mget m k = none → K (if ok then .tuple #[z, .bool false] else z) H) :
    valD P (Instr.lookup t (.map (some r)) (fk k) ok) H Q K := by
  obtain ⟨kt, et, hu, KT, hz⟩ := T.out
  obtain ⟨h, ⟨es, clk, hb, he, _, _⟩, hs⟩ := S.mem hm
  obtain ⟨eqv, hq, hf⟩ := KT.find k
  refine lookupD hu (hs _ _ hb) (KT.chk _ k) (hf es.toList (mp_keys he)) hz ?_
  rcases fnd_mget_at hq es.toList m he with ⟨h3, h4⟩ | ⟨j, v, e, h3, h4, _⟩
  · rw [h4]; exact h2 h3
  · rw [h4]; exact h1 v h3
instance {k : κ} {kv : Value} {K : Value → Heap → Prop} [S : Sat H l] [M : MpAt r l (mp fk fv r m)] [E : EncV fk kv k] [T : MapT P t fk fv z] : Step (valD P (Instr.lookup t (.map (some r)) kv true) H Q K) (Duo (∀ v, mget m k = some v → K (.tuple ⟨[fv v, .bool true]⟩) H) (mget m k = none → K (.tuple ⟨[z, .bool false]⟩) H)) :=
  ⟨fun h => by rw [← E.out]; exact S.lookup M.out T k h.1 h.2⟩
instance {k : κ} {kv : Value} {K : Value → Heap → Prop} [S : Sat H l] [M : MpAt r l (mp fk fv r m)] [E : EncV fk kv k] [T : MapT P t fk fv z] : Step (valD P (Instr.lookup t (.map (some r)) kv false) H Q K) (Duo (∀ v, mget m k = some v → K (fv v) H) (mget m k = none → K z H)) :=
  ⟨fun h => by rw [← E.out]; exact S.lookup M.out T k h.1 h.2⟩
instance {u : TypeId} {K : Value → Heap → Prop} [S : Sat H l] [M : MpAt r l (mp fk fv r m)] [T : MapT P t fk fv z] : Step (valD P (Builtin.len_ #[t] u ⟨[.map (some r)]⟩) H Q K) (K (.int .i64 (m.length : Int)) H) := ⟨fun h => by
  obtain ⟨kt, et, hu, KT, hz⟩ := T.out
  obtain ⟨h', ⟨es, clk, hb, he, _, _⟩, hs⟩ := S.mem M.out
  refine mapLen (t := t) rfl hu (hs _ _ hb) ?_
  have := congrArg List.length he
  simp at this
  rw [this]; exact h⟩
theorem Sat.mpNew (S : Sat H (pt r (.map #[] 0) :: l)) (fk : κ → Value) (fv : ν → Value) : Sat H (mp fk fv r [] :: l) := S.to (Ent.first fun k hk => ⟨#[], 0, hk, rfl, by simp, by simp⟩)
theorem Sat.mpSet (S : Sat H (mp fk fv r m :: l)) (T : MapT P t fk fv z) (k : κ) (v : ν) {K : Heap → Prop} (h : ∀ H1, Sat H1 (mp fk fv r (mset m k v) :: l) → K H1) : uniD P (Instr.mapUpdate t (.map (some r)) (fk k) (fv v)) H Q K := by
  obtain ⟨kt, et, hu, KT, hz⟩ := T.out
  obtain ⟨h', ⟨es, clk, hb, he, hn, hlt⟩, hs, x⟩ := S.out
  have hb' : H[r]? = some (.map es clk) := hs _ _ hb
  obtain ⟨eqv, hq, hf⟩ := KT.find k
  have upd : ∀ o, Upd r o H (H.setIfInBounds r o) := fun o => ⟨by simp, fun b _ hne => by rw [Array.getElem?_setIfInBounds_ne (Ne.symm hne)], by rw [Array.getElem?_setIfInBounds]; simp [block_lt hb']⟩
  have sat : ∀ (es' : Array MapEntry) (clk' : Nat) (m' : List (κ × ν)), es'.toList.map (fun e => (e.key, e.val)) = m'.map (fun x => (fk x.1, fv x.2)) → (es'.toList.map (·.born)).Nodup → (∀ e ∈ es'.toList, e.born < clk') → Sat (H.setIfInBounds r (.map es' clk')) (mp fk fv r m' :: l) := by
    intro es' clk' m' a b c
    have S1 : Sat H (pt r (.map es clk) :: l) := ⟨⟨h', hb, hs, x⟩⟩
    exact (S1.upd (upd _)).to (Ent.first fun k hk => ⟨es', clk', hk, a, b, c⟩)
  rcases fnd_mget_at hq es.toList m he with ⟨h3, h4⟩ | ⟨j, w, e, h3, h4, h5, h6, h7⟩
  · refine mapPut_new hu hb' (KT.chk _ k) (hf es.toList (mp_keys he)) h4 (h _ (sat _ _ _ ?_ ?_ ?_))
    · rw [mset_none h3]; simp [he]
    · simp only [Array.toList_push, List.map_append, List.map_cons, List.map_nil]
      rw [List.nodup_append]
      refine ⟨hn, by simp, ?_⟩
      intro a ha b hb
      simp at hb ha
      obtain ⟨e, he1, rfl⟩ := ha
      have := hlt e (by simpa using he1)
      omega
    · intro e he1
      simp at he1
      rcases he1 with he1 | rfl
      · have := hlt e (by simpa using he1); omega
      · simp
  · have hj := fnd_idx hq es.toList m 0 j (fv w) he (by rw [h4, Nat.zero_add])
    refine mapPut_old (e := e) hu hb' (KT.chk _ k) (hf es.toList (mp_keys he)) h4 (by simpa using h6) (by rw [h7]; exact KT.bits k) (h _ (sat _ _ _ ?_ ?_ ?_))
    · rw [hj.1]
      have hl := congrArg (fun q => List.set q j (fk k, fv v)) he
      rw [List.map_set]
      refine Eq.trans ?_ hl
      refine List.ext_getElem? fun i => ?_
      simp only [Array.toList_modify, List.getElem?_map, List.getElem?_modify, List.getElem?_set]
      by_cases hi : j = i
      · subst hi
        rw [h6]
        have hjl : j < es.toList.length := by
          rcases Nat.lt_or_ge j es.toList.length with h | h
          · exact h
          · rw [List.getElem?_eq_none h] at h6; cases h6
        simp [hjl]
        simpa using hjl
      · simp [hi]
    · have : (es.modify j fun e => { e with key := fk k, val := fv v }).toList.map (·.born) = es.toList.map (·.born) := by
        refine List.ext_getElem? fun i => ?_
        simp only [Array.toList_modify, List.getElem?_map, List.getElem?_modify]
        by_cases hi : j = i <;> cases es.toList[i]? <;> simp [hi]
      rw [this]; exact hn
    · intro e he1
      obtain ⟨i, hi⟩ := List.getElem?_of_mem he1
      simp only [Array.toList_modify, List.getElem?_modify] at hi
      cases h8 : es.toList[i]? with
      | none => rw [h8] at hi; simp at hi
      | some e0 =>
        rw [h8] at hi
        have hb0 := hlt e0 (List.mem_of_getElem? h8)
        simp at hi
        split at hi <;> (subst hi; exact hb0)
instance {k : κ} {kv vv : Value} {v : ν} {l' : List HP} {K : Heap → Prop} [S : Sat H l] [M : MpAt r l (mp fk fv r m)] [E : EncV fk kv k] [F : EncV fv vv v] [T : MapT P t fk fv z] [U : MpSel r (mp fk fv r (mset m k v)) l (mp fk fv r m) l'] : Step (uniD P (Instr.mapUpdate t (.map (some r)) kv vv) H Q K) (∀ H1, Sat H1 l' → K H1) :=
  ⟨fun h => by
    rw [← E.out, ← F.out]
    obtain ⟨n, a, b⟩ := U.out
    exact (S.bring a).mpSet T k v fun H1 S1 => h H1 (S1.to fun k x => SatP.perm b.perm.symm x)⟩
theorem Sat.mpDel (S : Sat H (mp fk fv r m :: l)) (T : MapT P t fk fv z) (k : κ) {ts : Array TypeId} (ht : ts[0]? = some t) {u : TypeId} {K : Value → Heap → Prop} (h : ∀ H1, Sat H1 (mp fk fv r (mdel m k) :: l) → K (.tuple #[]) H1) : valD P (Builtin.delete_ ts u ⟨[.map (some r), fk k]⟩) H Q K := by
  obtain ⟨kt, et, hu, KT, hz⟩ := T.out
  obtain ⟨h', ⟨es, clk, hb, he, hn, hlt⟩, hs, x⟩ := S.out
  have hb' : H[r]? = some (.map es clk) := hs _ _ hb
  obtain ⟨eqv, hq, hf⟩ := KT.find k
  have upd : ∀ o, Upd r o H (H.setIfInBounds r o) := fun o => ⟨by simp, fun b _ hne => by rw [Array.getElem?_setIfInBounds_ne (Ne.symm hne)], by rw [Array.getElem?_setIfInBounds]; simp [block_lt hb']⟩
  have sat : ∀ (es' : Array MapEntry) (clk' : Nat) (m' : List (κ × ν)), es'.toList.map (fun e => (e.key, e.val)) = m'.map (fun x => (fk x.1, fv x.2)) → (es'.toList.map (·.born)).Nodup → (∀ e ∈ es'.toList, e.born < clk') → Sat (H.setIfInBounds r (.map es' clk')) (mp fk fv r m' :: l) := by
    intro es' clk' m' a b c
    have S1 : Sat H (pt r (.map es clk) :: l) := ⟨⟨h', hb, hs, x⟩⟩
    exact (S1.upd (upd _)).to (Ent.first fun k hk => ⟨es', clk', hk, a, b, c⟩)
  refine ⟨?_⟩
  unfold Builtin.delete_
  have h0 : (⟨[Value.map (some r), fk k]⟩ : Array Value)[0]? = some (.map (some r)) := rfl
  have h1 : (⟨[Value.map (some r), fk k]⟩ : Array Value)[1]? = some (fk k) := rfl
  rw [ht, h0, h1]
  dsimp only
  rw [SemH_bind]
  refine semH_of_pure (pureV_underlying hu) ?_
  dsimp only
  rw [SemH_bind, SemH_getObj]
  refine ⟨_, hb', rfl, ?_⟩
  dsimp only
  rw [SemH_bind]
  refine semH_of_pure (KT.chk _ k) ?_
  rw [SemH_bind]
  refine semH_of_pure (hf es.toList (mp_keys he)) ?_
  rcases fnd_mget_at hq es.toList m he with ⟨h3, h4⟩ | ⟨j, w, e, h3, h4, h5, h6, h7⟩
  · rw [h4]
    refine ⟨_, hb', rfl, ?_⟩
    refine h _ (sat _ _ _ ?_ hn hlt)
    rw [he]
    congr 1
    have : ∀ (m : List (κ × ν)), mget m k = none → mdel m k = m := by
      intro m
      induction m with
      | nil => intro _; rfl
      | cons x m ih =>
        obtain ⟨a, b⟩ := x
        intro hh
        unfold mget at hh
        unfold mdel
        split at hh
        · cases hh
        · rename_i hk; rw [if_neg hk, ih hh]
    exact (this m h3).symm
  · have hj := fnd_idx hq es.toList m 0 j (fv w) he (by rw [h4, Nat.zero_add])
    rw [h4]
    refine ⟨_, hb', rfl, ?_⟩
    have el : (es.eraseIdxIfInBounds j).toList = es.toList.eraseIdx j := by
      unfold Array.eraseIdxIfInBounds
      split
      · simp
      · rename_i hh; rw [List.eraseIdx_of_length_le (by simpa using hh)]
    refine h _ (sat _ _ _ ?_ ?_ ?_)
    · rw [hj.2, el, map_erase, he, ← map_erase]
    · rw [el, map_erase]; exact hn.sublist (List.eraseIdx_sublist ..)
    · intro e he1; rw [el] at he1; exact hlt e (List.mem_of_mem_eraseIdx he1)
instance {k : κ} {kv : Value} {u w : TypeId} {l' : List HP} {K : Value → Heap → Prop} [S : Sat H l] [M : MpAt r l (mp fk fv r m)] [E : EncV fk kv k] [T : MapT P t fk fv z] [U : MpSel r (mp fk fv r (mdel m k)) l (mp fk fv r m) l'] : Step (valD P (Builtin.delete_ #[t, w] u ⟨[.map (some r), kv]⟩) H Q K) (∀ H1, Sat H1 l' → K (.tuple ⟨[]⟩) H1) :=
  ⟨fun h => by
    rw [← E.out]
    obtain ⟨n, a, b⟩ := U.out
    exact (S.bring a).mpDel T k rfl fun H1 S1 => h H1 (S1.to fun k x => SatP.perm b.perm.symm x)⟩
end
end Go.Den
namespace Go.Den
open Go
/-- A method of a slice type, called through a pointer to a slice. -/
theorem callI_sl {P : Program} {H : Heap} {t e u : TypeId} {a : Addr} {name : String} {f : FuncId} {args : List Value} {Q : List PanicEntry → Heap → Prop} {K : Value → Heap → Prop} (hm : mthOk P t name f false = true) (hp : P.underlying t = some (.pointer e)) (he : P.underlying e = some (.slice u)) (hf : fnOk P f = true)
    (k : ldSl H a fun p n c => callD P f (.slice p n c :: args) H Q K) : callI P (.iface t (.pointer (some a))) name args H Q K := by
  refine callI_at hm hp hf ?_
  unfold ldD
  rw [he]
  obtain ⟨p, n, c, h1, h2⟩ := k
  exact ⟨p, n, c, h1, h2⟩
end Go.Den
namespace Go.Den
open Go
theorem wr64 {i : Int} (h0 : -9223372036854775808 ≤ i) (h1 : i < 9223372036854775808) : IntKind.wrap .i64 i = i := by
  show (if (true && decide (i % 18446744073709551616 ≥ 9223372036854775808)) = true then i % 18446744073709551616 - 18446744073709551616 else i % 18446744073709551616) = i
  split
  · rename_i h; simp at h; omega
  · rename_i h; simp at h; omega
theorem wr32 {i : Int} (h0 : -2147483648 ≤ i) (h1 : i < 2147483648) : IntKind.wrap .i32 i = i := by
  show (if (true && decide (i % 4294967296 ≥ 2147483648)) = true then i % 4294967296 - 4294967296 else i % 4294967296) = i
  split
  · rename_i h; simp at h; omega
  · rename_i h; simp at h; omega
theorem wrU64 {i : Int} (h0 : 0 ≤ i) (h1 : i < 18446744073709551616) : IntKind.wrap .u64 i = i := by
  show (if (false && decide (i % 18446744073709551616 ≥ 9223372036854775808)) = true then i % 18446744073709551616 - 18446744073709551616 else i % 18446744073709551616) = i
  simp; omega
theorem wrU32 {i : Int} (h0 : 0 ≤ i) (h1 : i < 4294967296) : IntKind.wrap .u32 i = i := by
  show (if (false && decide (i % 4294967296 ≥ 2147483648)) = true then i % 4294967296 - 4294967296 else i % 4294967296) = i
  simp; omega
theorem wrU8 {i : Int} (h0 : 0 ≤ i) (h1 : i < 256) : IntKind.wrap .u8 i = i := by
  show (if (false && decide (i % 256 ≥ 128)) = true then i % 256 - 256 else i % 256) = i
  simp; omega
theorem lt_of {α : Type} {l : List α} {i : Nat} {x : α} (h : l[i]? = some x) : i < l.length := by
  rcases Nat.lt_or_ge i l.length with h1 | h1
  · exact h1
  · rw [List.getElem?_eq_none h1] at h; cases h
theorem get_of {α : Type} {l : List α} {i : Nat} (h : i < l.length) : ∃ x, l[i]? = some x := ⟨_, List.getElem?_eq_getElem h⟩
end Go.Den
namespace Go.Den
open Go
/-- What was there at first is there as it was. -/
theorem Sat.grown {H0 H : Heap} {l r : List HP} [S : Sat H l] [T : Take (Den.old H0) l r] : ExtH H0 H := S.old (T.out.perm.mem_iff.2 (List.mem_cons_self ..))
/-- What a call gives back that changes nothing. -/
theorem gives_i {P : Program} {f : FuncId} {args : List Value} {H : Heap} {v : Value} {Q : List PanicEntry → Heap → Prop} {K : Value → Heap → Prop} {l : List HP} (S : Sat H l) (hc : CallsH P f ⟨args⟩ H (Gives v H)) (k : ∀ H1, ExtH H H1 → Sat H1 l → K v H1) : callD P f args H Q K :=
  CallsH.mono hc fun e H1 ⟨he, hx⟩ => by subst he; exact k H1 hx (S.ext hx)
end Go.Den
namespace Go.Den
open Go
/-! ### Records that came in -/
class OldAt (l : List HP) (H0 : outParam Heap) : Prop where
  out : Den.old H0 ∈ l
instance (priority := 2000) OldAt.here {H0 : Heap} {l : List HP} : OldAt (Den.old H0 :: l) H0 := ⟨List.mem_cons_self ..⟩
instance (priority := 1000) OldAt.there {H0 : Heap} {c : HP} {l : List HP} [h : OldAt l H0] : OldAt (c :: l) H0 := ⟨List.mem_cons_of_mem _ h.out⟩
/-- Records lie in a row in the heap that was there at first. -/
class RowsC (H0 : Heap) (p : Option Addr) {α : outParam Type} (f : outParam (α → List Value)) (z : outParam Nat) (xs : outParam (List α)) : Prop where
  out : RowsAt f z H0 p xs
section
variable {α : Type} {f : α → List Value} {z : Nat} {xs : List α} {H H0 : Heap} {l : List HP} {A a : Addr} {i : Int} {j : Nat} {x : α}
theorem RowsC.idx {p : Option Addr} {n : Nat} {k : Addr → Prop} (R : RowsC H0 p f z xs) (hn : xs.length = n) (h : 0 ≤ i ∧ i < n ∧ ∀ a, p = some a → k a) : idxD p n i k := by
  obtain ⟨h0, h1, h2⟩ := h
  rcases R.out with h3 | ⟨a, rfl, _⟩
  · subst h3; simp at hn; omega
  · exact ⟨h0, h1, h2 a rfl⟩
theorem row_cell {v : Value} (S : Sat H l) (L : Elt A a i z j) (O : OldAt l H0) (R : RowsC H0 (some a) f z xs) (X : HasI xs i x) (N : Nth (f x) j v) : hcell H A = some v := by
  refine (S.old O.out).cell ?_
  rcases R.out with h3 | ⟨a', he, h⟩
  · subst h3; have := X.out; simp at this
  · cases he
    rw [L.out, ← add_add']
    exact h _ _ X.out _ _ N.out
instance (priority := 900) {kd : IntKind} {k : Int} {K : Int → Prop} [S : Sat H l] [L : Elt A a i z j] [O : OldAt l H0] [R : RowsC H0 (some a) f z xs] [X : HasI xs i x] [N : Nth (f x) j (.int kd k)] : Step (ldInt H A kd K) (K k) := ⟨fun h => ⟨_, row_cell S L O R X N, h⟩⟩
instance (priority := 900) {k : Bool} {K : Bool → Prop} [S : Sat H l] [L : Elt A a i z j] [O : OldAt l H0] [R : RowsC H0 (some a) f z xs] [X : HasI xs i x] [N : Nth (f x) j (.bool k)] : Step (ldBool H A K) (K k) := ⟨fun h => ⟨_, row_cell S L O R X N, h⟩⟩
instance (priority := 900) {k : ByteArray} {K : ByteArray → Prop} [S : Sat H l] [L : Elt A a i z j] [O : OldAt l H0] [R : RowsC H0 (some a) f z xs] [X : HasI xs i x] [N : Nth (f x) j (.string k)] : Step (ldStr H A K) (K k) := ⟨fun h => ⟨_, row_cell S L O R X N, h⟩⟩
instance (priority := 900) {p : Option Addr} {u w : Nat} {K : Option Addr → Nat → Nat → Prop} [S : Sat H l] [L : Elt A a i z j] [O : OldAt l H0] [R : RowsC H0 (some a) f z xs] [X : HasI xs i x] [N : Nth (f x) j (.slice p u w)] : Step (ldSl H A K) (K p u w) := ⟨fun h => ⟨_, _, _, row_cell S L O R X N, h⟩⟩
end
theorem HasI.nat {α : Type} {xs : List α} {i : Nat} {x : α} (h : xs[i]? = some x) : HasI xs (i : Int) x := ⟨by simpa using h⟩
end Go.Den
namespace Go.Den
open Go
theorem perm_erase {α : Type} : ∀ {l : List α} {j : Nat} {x : α}, l[j]? = some x → l.Perm (x :: l.eraseIdx j)
  | [], j, x, h => by simp at h
  | a :: l, 0, x, h => by simp at h; subst h; simp
  | a :: l, j + 1, x, h => by
    have := perm_erase (l := l) (j := j) (x := x) (by simpa using h)
    simpa using (this.cons a).trans (.swap _ _ _)
end Go.Den
namespace Go.Den
theorem repZ_zero (zs : List Go.Value) : repZ zs 0 = [] := List.eq_nil_of_length_eq_zero (by rw [repZ_length]; simp)
end Go.Den
