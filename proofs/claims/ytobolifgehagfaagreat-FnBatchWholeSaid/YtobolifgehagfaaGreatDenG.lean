/- A plain reading of Go functions, proved to be what they do; no condition. -/
/- Maps: what is found, put and counted at a map that is known. -/
import Derived.Test.YtobolifgehagfaaGreatDenC
import Derived.Test.YtobolifgehagfaaGreatDenY
set_option linter.unusedVariables false
set_option linter.unusedSimpArgs false
namespace Go.Den
open Go
section
variable {P : Program}
theorem pureEq_int {t : TypeId} {kd : IntKind} {d : Nat} {a b : Int} (hu : P.underlying t = some (.int kd)) : pureV P (Op.equalIn (d + 1) t (.int kd a) (.int kd b)) = some (a == b) := by
  rw [Op.equalIn, pureV_bind, pureV_underlying hu]
  simp [pureV]
  rfl
theorem pureEq_string {t : TypeId} {d : Nat} {a b : ByteArray} (hu : P.underlying t = some .string) : pureV P (Op.equalIn (d + 1) t (.string a) (.string b)) = some (a == b) := by
  rw [Op.equalIn, pureV_bind, pureV_underlying hu]
  rfl
theorem purePart_leaf {t : TypeId} {d : TypeDesc} {xs : Array Value} {off : Nat} {v : Value} (hu : P.underlying t = some d) (ha : aggT P t = false) (hx : xs[off]? = some v) : pureV P (part t xs off) = some v := by
  unfold part
  rw [pureV_bind, pureV_isAgg hu, ha]
  simp only [Option.bind_some, Bool.false_eq_true, if_false, hx]
  rfl
inductive PEqF (P : Program) (d : Nat) (xs ys : Array Value) : List Field → List Bool → Prop where
  | nil : PEqF P d xs ys [] []
  | cons {f : Field} {fs : List Field} {b : Bool} {bs : List Bool} {vx vy : Value} (hn : f.name ≠ "_") (hx : pureV P (part f.type xs f.offset) = some vx) (hy : pureV P (part f.type ys f.offset) = some vy)
      (he : pureV P (Op.equalIn d f.type vx vy) = some b) (r : PEqF P d xs ys fs bs) : PEqF P d xs ys (f :: fs) (b :: bs)
theorem PEqF.loop {d : Nat} {xs ys : Array Value} {fs : List Field} {bs : List Bool} (h : PEqF P d xs ys fs bs) :
    pureV P (forIn fs ((none, ()) : Option Bool × Unit) fun f _ => (do
      if f.name ≠ "_" then
        let vx ← part f.type xs f.offset
        let vy ← part f.type ys f.offset
        let b ← Op.equalIn d f.type vx vy
        if (!b) = true then pure (ForInStep.done (some false, ())) else pure (ForInStep.yield (none, ()))
      else pure (ForInStep.yield (none, ())) : Sem (ForInStep (Option Bool × Unit)))) = some (if bs.all id then (none, ()) else (some false, ())) := by
  induction h with
  | nil => rfl
  | @cons f fs b bs vx vy hn hx hy he r ih =>
    rw [List.forIn_cons, pureV_bind]
    rw [if_pos hn, pureV_bind, hx, Option.bind_some, pureV_bind, hy, Option.bind_some, pureV_bind, he, Option.bind_some]
    cases b with
    | true =>
      simp only [Bool.not_true, Bool.false_eq_true, if_false]
      show (some (ForInStep.yield ((none, ()) : Option Bool × Unit))).bind _ = _
      rw [Option.bind_some]
      simp only
      rw [ih]
      simp
    | false =>
      simp only [Bool.not_false, if_true]
      show (some (ForInStep.done ((some false, ()) : Option Bool × Unit))).bind _ = _
      rw [Option.bind_some]
      simp
      rfl
theorem pureEq_struct {t : TypeId} {fs : Array Field} {d : Nat} {xs ys : Array Value} {bs : List Bool} (hu : P.underlying t = some (.struct fs)) (hs : P.stoodInHeld t = false) (h : PEqF P d xs ys fs.toList bs) :
    pureV P (Op.equalIn (d + 1) t (.agg xs) (.agg ys)) = some (bs.all id) := by
  rw [Op.equalIn, pureV_bind, pureV_underlying hu, Option.bind_some]
  show pureV P (program >>= _) = _
  rw [pureV_bind]
  show pureV P (if P.stoodInHeld t = true then _ else _ : Sem Bool) = _
  rw [if_neg (by rw [hs]; simp)]
  have hl := h.loop
  have e := Array.forIn_toList (m := Sem) (xs := fs) (b := ((none, ()) : Option Bool × Unit)) (f := fun f _ => (do
      if f.name ≠ "_" then
        let vx ← part f.type xs f.offset
        let vy ← part f.type ys f.offset
        let b ← Op.equalIn d f.type vx vy
        if (!b) = true then pure (ForInStep.done (some false, ())) else pure (ForInStep.yield (none, ()))
      else pure (ForInStep.yield (none, ())) : Sem (ForInStep (Option Bool × Unit))))
  rw [e] at hl
  refine (pureV_bind ..).trans ?_
  refine (congrArg (fun r => Option.bind r _) hl).trans ?_
  cases bs.all id <;> rfl
/-! ### Keys -/
/-- The first entry whose key is equal. -/
def fnd (eqv : Value → Bool) : List MapEntry → Nat → Option (Nat × Value)
  | [], _ => none
  | e :: es, i => if eqv e.key then some (i, e.val) else fnd eqv es (i + 1)
theorem findAsking_pure {kt : TypeId} {k : Value} {eqv : Value → Bool} : ∀ (es : List MapEntry) (i : Nat), (∀ e ∈ es, pureV P (Op.equal kt k e.key) = some (eqv e.key)) → pureV P (Instr.findAsking kt k es i) = some (fnd eqv es i) := by
  intro es
  induction es with
  | nil => intro i _; rfl
  | cons e es ih =>
    intro i h
    rw [Instr.findAsking, pureV_bind, h e (List.mem_cons_self ..), Option.bind_some, fnd]
    cases eqv e.key with
    | true => rfl
    | false => exact ih (i + 1) fun x hx => h x (List.mem_cons_of_mem _ hx)
theorem findNow_eq {d : TypeDesc} {k : Value} {eqv : Value → Bool} : ∀ (es : List MapEntry) (i : Nat), (∀ e ∈ es, Instr.sameNow d k e.key = some (eqv e.key)) → Instr.findNow d k es i = some (fnd eqv es i) := by
  intro es
  induction es with
  | nil => intro i _; rfl
  | cons e es ih =>
    intro i h
    rw [Instr.findNow, h e (List.mem_cons_self ..), fnd]
    cases eqv e.key with
    | true => rfl
    | false => exact ih (i + 1) fun x hx => h x (List.mem_cons_of_mem _ hx)
/-- The key's type is one that the model looks up at once: numbers and texts. -/
theorem findKey_now {kt : TypeId} {d : TypeDesc} {k : Value} {eqv : Value → Bool} {es : List MapEntry} (hu : P.underlying kt = some d) (h : ∀ e ∈ es, Instr.sameNow d k e.key = some (eqv e.key)) : pureV P (Instr.findKey kt k es) = some (fnd eqv es 0) := by
  unfold Instr.findKey
  rw [pureV_bind, pureV_underlying hu, Option.bind_some, findNow_eq es 0 h]
  rfl
/-- A struct as key. -/
theorem findKey_struct {kt : TypeId} {fs : Array Field} {k : Value} {eqv : Value → Bool} {es : List MapEntry} (hu : P.underlying kt = some (.struct fs)) (h : ∀ e ∈ es, pureV P (Op.equal kt k e.key) = some (eqv e.key)) : pureV P (Instr.findKey kt k es) = some (fnd eqv es 0) := by
  unfold Instr.findKey
  rw [pureV_bind, pureV_underlying hu, Option.bind_some]
  cases es with
  | nil => rfl
  | cons e es =>
    have : Instr.findNow (.struct fs) k (e :: es) 0 = none := rfl
    rw [this]
    exact findAsking_pure (e :: es) 0 h
theorem checkKey_int {b : Bool} {n : Nat} {t : TypeId} {kd : IntKind} {v : Value} (hu : P.underlying t = some (.int kd)) : pureV P (Instr.checkKey b (n + 1) t v) = some () := by
  rw [Instr.checkKey, pureV_bind, pureV_underlying hu, Option.bind_some]
  cases v <;> rfl
theorem checkKey_string {b : Bool} {n : Nat} {t : TypeId} {v : Value} (hu : P.underlying t = some .string) : pureV P (Instr.checkKey b (n + 1) t v) = some () := by
  rw [Instr.checkKey, pureV_bind, pureV_underlying hu, Option.bind_some]
  cases v <;> rfl
inductive PKey (P : Program) (b : Bool) (n : Nat) (cs : Array Value) : List Field → Prop where
  | nil : PKey P b n cs []
  | cons {f : Field} {fs : List Field} {v : Value} (hn : f.name ≠ "_") (hx : pureV P (part f.type cs f.offset) = some v) (hk : pureV P (Instr.checkKey b n f.type v) = some ()) (r : PKey P b n cs fs) : PKey P b n cs (f :: fs)
theorem PKey.loop {b : Bool} {n : Nat} {cs : Array Value} {fs : List Field} (h : PKey P b n cs fs) : pureV P (forIn fs PUnit.unit fun f _ => (do
            if f.name ≠ "_" then
              let v ← part f.type cs f.offset
              Instr.checkKey b n f.type v
              pure (ForInStep.yield PUnit.unit)
            else pure (ForInStep.yield PUnit.unit) : Sem (ForInStep PUnit))) = some PUnit.unit := by
  induction h with
  | nil => rfl
  | @cons f fs v hn hx hk r ih =>
    rw [List.forIn_cons, pureV_bind]
    rw [if_pos hn, pureV_bind, hx, Option.bind_some, pureV_bind, hk, Option.bind_some]
    exact ih
theorem checkKey_struct {b : Bool} {n : Nat} {t : TypeId} {fs : Array Field} {cs : Array Value} (hu : P.underlying t = some (.struct fs)) (h : PKey P b n cs fs.toList) : pureV P (Instr.checkKey b (n + 1) t (.agg cs)) = some () := by
  rw [Instr.checkKey, pureV_bind, pureV_underlying hu, Option.bind_some]
  dsimp only
  rw [pureV_bind, ← Array.forIn_toList]
  have hl := h.loop
  refine (congrArg (fun r => Option.bind r _) hl).trans ?_
  rfl
/-! ### The steps -/
variable {H : Heap} {Q : List PanicEntry → Heap → Prop}
theorem SemH_getObj {r : Nat} {K : Obj → Heap → Prop} {Q : Value → Heap → Prop} : SemH P (getObj r) H K Q = (∃ o, H[r]? = some o ∧ isCells o = false ∧ K o H) := rfl
theorem lookupD {t kt et r : Nat} {es : Array MapEntry} {clock : Nat} {k z : Value} {eqv : Value → Bool} {ok : Bool} {K : Value → Heap → Prop} (hu : P.underlying t = some (.map kt et)) (hm : H[r]? = some (.map es clock))
    (hc : pureV P (Instr.checkKey es.isEmpty 10000 kt k) = some ()) (hf : pureV P (Instr.findKey kt k es.toList) = some (fnd eqv es.toList 0)) (hz : pureV P (zeroValue et) = some z)
    (hk : K (match fnd eqv es.toList 0 with | some (_, v) => if ok then .tuple #[v, .bool true] else v | none => if ok then .tuple #[z, .bool false] else z) H) : valD P (Instr.lookup t (.map (some r)) k ok) H Q K := by
  refine ⟨?_⟩
  unfold Instr.lookup
  rw [SemH_bind]
  refine semH_of_pure (pureV_underlying hu) ?_
  dsimp only
  rw [SemH_bind, SemH_getObj]
  refine ⟨_, hm, rfl, ?_⟩
  dsimp only
  rw [SemH_bind, SemH_pure, SemH_bind]
  refine semH_of_pure hc ?_
  rw [SemH_bind]
  refine semH_of_pure hf ?_
  cases hh : fnd eqv es.toList 0 with
  | some p =>
    obtain ⟨i, v⟩ := p
    rw [hh] at hk
    dsimp only
    rw [SemH_bind, SemH_pure, SemH_pure]
    exact hk
  | none =>
    rw [hh] at hk
    dsimp only
    rw [SemH_bind]
    refine semH_of_pure hz ?_
    rw [SemH_bind, SemH_pure, SemH_pure]
    exact hk
theorem lookupNil {t kt et : Nat} {k z : Value} {ok : Bool} {K : Value → Heap → Prop} (hu : P.underlying t = some (.map kt et))
    (hc : pureV P (Instr.checkKey true 10000 kt k) = some ()) {d : TypeDesc} (hkt : P.underlying kt = some d) (hz : pureV P (zeroValue et) = some z)
    (hk : K (if ok then .tuple #[z, .bool false] else z) H) : valD P (Instr.lookup t (.map none) k ok) H Q K := by
  refine ⟨?_⟩
  unfold Instr.lookup
  rw [SemH_bind]
  refine semH_of_pure (pureV_underlying hu) ?_
  dsimp only
  rw [SemH_bind, SemH_pure, SemH_bind]
  refine semH_of_pure hc ?_
  rw [SemH_bind]
  have hf : pureV P (Instr.findKey kt k []) = some none := by
    unfold Instr.findKey
    rw [pureV_bind, pureV_underlying hkt]
    rfl
  refine semH_of_pure hf ?_
  dsimp only
  rw [SemH_bind]
  refine semH_of_pure hz ?_
  rw [SemH_bind, SemH_pure, SemH_pure]
  exact hk
/-- A key that is not there yet. -/
theorem mapPut_new {t kt et r : Nat} {es : Array MapEntry} {clock : Nat} {k v : Value} {eqv : Value → Bool} {K : Heap → Prop} (hu : P.underlying t = some (.map kt et)) (hm : H[r]? = some (.map es clock))
    (hc : pureV P (Instr.checkKey false 10000 kt k) = some ()) (hf : pureV P (Instr.findKey kt k es.toList) = some (fnd eqv es.toList 0)) (hn : fnd eqv es.toList 0 = none)
    (hk : K (H.setIfInBounds r (.map (es.push { key := k, val := v, born := clock }) (clock + 1)))) : uniD P (Instr.mapUpdate t (.map (some r)) k v) H Q K := by
  refine ⟨?_⟩
  unfold Instr.mapUpdate
  rw [SemH_bind]
  refine semH_of_pure (pureV_underlying hu) ?_
  dsimp only
  rw [SemH_bind, SemH_getObj]
  refine ⟨_, hm, rfl, ?_⟩
  dsimp only
  rw [SemH_bind]
  refine semH_of_pure hc ?_
  rw [SemH_bind]
  refine semH_of_pure hf ?_
  rw [hn]
  dsimp only
  exact ⟨_, hm, rfl, hk⟩
/-- A key that is there: its value turns; the key that is put is the same, bit for bit. -/
theorem mapPut_old {t kt et r i : Nat} {es : Array MapEntry} {clock : Nat} {k v u : Value} {e : MapEntry} {eqv : Value → Bool} {K : Heap → Prop} (hu : P.underlying t = some (.map kt et)) (hm : H[r]? = some (.map es clock))
    (hc : pureV P (Instr.checkKey false 10000 kt k) = some ()) (hf : pureV P (Instr.findKey kt k es.toList) = some (fnd eqv es.toList 0)) (hn : fnd eqv es.toList 0 = some (i, u)) (he : es[i]? = some e) (hb : Instr.sameBits 10000 e.key k = true)
    (hk : K (H.setIfInBounds r (.map (es.modify i fun e => { e with key := k, val := v }) clock))) : uniD P (Instr.mapUpdate t (.map (some r)) k v) H Q K := by
  refine ⟨?_⟩
  unfold Instr.mapUpdate
  rw [SemH_bind]
  refine semH_of_pure (pureV_underlying hu) ?_
  dsimp only
  rw [SemH_bind, SemH_getObj]
  refine ⟨_, hm, rfl, ?_⟩
  dsimp only
  rw [SemH_bind]
  refine semH_of_pure hc ?_
  rw [SemH_bind]
  refine semH_of_pure hf ?_
  rw [hn]
  dsimp only
  rw [SemH_bind]
  have hs : pureV P (Instr.keyThatStays (((es[i]?).map (·.key)).getD k) k) = some k := by
    unfold Instr.keyThatStays
    rw [he]
    simp only [Option.map_some, Option.getD_some, hb, if_true]
    rfl
  refine semH_of_pure hs ?_
  exact ⟨_, hm, rfl, hk⟩
theorem mapLen {ts : Array TypeId} {t kt et r : Nat} {T : TypeId} {es : Array MapEntry} {clock : Nat} {K : Value → Heap → Prop} (ht : ts[0]? = some t) (hu : P.underlying t = some (.map kt et)) (hm : H[r]? = some (.map es clock)) (hk : K (.int .i64 es.size) H) :
    valD P (Builtin.len_ ts T ⟨[.map (some r)]⟩) H Q K := by
  refine ⟨?_⟩
  unfold Builtin.len_
  have h0 : (⟨[Value.map (some r)]⟩ : Array Value)[0]? = some (.map (some r)) := rfl
  rw [ht, h0]
  rw [SemH_bind]
  refine semH_of_pure (pureV_underlying hu) ?_
  dsimp only
  rw [SemH_bind, SemH_getObj]
  exact ⟨_, hm, rfl, hk⟩
theorem mapLenNil {ts : Array TypeId} {t kt et : Nat} {T : TypeId} {K : Value → Heap → Prop} (ht : ts[0]? = some t) (hu : P.underlying t = some (.map kt et)) (hk : K (.int .i64 0) H) :
    valD P (Builtin.len_ ts T ⟨[.map none]⟩) H Q K := by
  refine ⟨?_⟩
  unfold Builtin.len_
  have h0 : (⟨[Value.map none]⟩ : Array Value)[0]? = some (.map none) := rfl
  rw [ht, h0]
  rw [SemH_bind]
  refine semH_of_pure (pureV_underlying hu) ?_
  exact hk
end
end Go.Den
