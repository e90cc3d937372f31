/- A plain reading of Go functions, proved to be what they do; no condition. -/
/- Structs held against one another. -/
import Derived.Test.YtobolifgehagfaaGreatDenX
set_option linter.unusedVariables false
set_option linter.unusedSimpArgs false
namespace Go.Den
open Go
section
variable {P : Program}
theorem part_leaf {t : TypeId} {d : TypeDesc} {xs : Array Value} {off : Nat} {v : Value} (hu : P.underlying t = some d) (ha : aggT P t = false) (hx : xs[off]? = some v) (w : World) : (part t xs off).run P w = .ok v w := by
  unfold part
  rw [Sem.run_bind, run_isAgg hu, ha]
  simp only [Result.andThen_ok, Bool.false_eq_true, if_false, hx]
  rfl
theorem part_agg {t : TypeId} {d : TypeDesc} {i : TypeInfo} {xs : Array Value} {off : Nat} (hu : P.underlying t = some d) (hi : P.info? t = some i) (ha : aggT P t = true) (w : World) : (part t xs off).run P w = .ok (.agg (xs.extract off (off + i.size))) w := by
  unfold part
  rw [Sem.run_bind, run_isAgg hu, ha]
  simp only [Result.andThen_ok, if_true]
  rw [Sem.run_bind, run_size hi]
  rfl
theorem equalIn_int {t : TypeId} {kd : IntKind} {d : Nat} {a b : Int} (hu : P.underlying t = some (.int kd)) (w : World) : (Op.equalIn (d + 1) t (.int kd a) (.int kd b)).run P w = .ok (a == b) w := by
  rw [Op.equalIn, Sem.run_bind, run_und hu]
  simp
theorem equalIn_string {t : TypeId} {d : Nat} {a b : ByteArray} (hu : P.underlying t = some .string) (w : World) : (Op.equalIn (d + 1) t (.string a) (.string b)).run P w = .ok (a == b) w := by
  rw [Op.equalIn, Sem.run_bind, run_und hu]
  rfl
theorem equalIn_bool {t : TypeId} {d : Nat} {a b : Bool} (hu : P.underlying t = some .bool) (w : World) : (Op.equalIn (d + 1) t (.bool a) (.bool b)).run P w = .ok (a == b) w := by
  rw [Op.equalIn, Sem.run_bind, run_und hu]
  rfl
inductive EqF (P : Program) (d : Nat) (xs ys : Array Value) : List Field → List Bool → Prop where
  | nil : EqF P d xs ys [] []
  | cons {f : Field} {fs : List Field} {b : Bool} {bs : List Bool} {vx vy : Value} (hn : f.name ≠ "_") (hx : ∀ w, (part f.type xs f.offset).run P w = .ok vx w) (hy : ∀ w, (part f.type ys f.offset).run P w = .ok vy w)
      (he : ∀ w, (Op.equalIn d f.type vx vy).run P w = .ok b w) (r : EqF P d xs ys fs bs) : EqF P d xs ys (f :: fs) (b :: bs)
theorem EqF.loop {d : Nat} {xs ys : Array Value} {fs : List Field} {bs : List Bool} (h : EqF P d xs ys fs bs) (w : World) :
    (forIn fs ((none, ()) : Option Bool × Unit) fun f _ => (do
      if f.name ≠ "_" then
        let vx ← part f.type xs f.offset
        let vy ← part f.type ys f.offset
        let b ← Op.equalIn d f.type vx vy
        if (!b) = true then pure (ForInStep.done (some false, ())) else pure (ForInStep.yield (none, ()))
      else pure (ForInStep.yield (none, ())) : Sem (ForInStep (Option Bool × Unit)))).run P w = .ok (if bs.all id then (none, ()) else (some false, ())) w := by
  induction h with
  | nil => rfl
  | @cons f fs b bs vx vy hn hx hy he r ih =>
    rw [List.forIn_cons, Sem.run_bind]
    rw [if_pos hn, Sem.run_bind, hx, Result.andThen_ok, Sem.run_bind, hy, Result.andThen_ok, Sem.run_bind, he, Result.andThen_ok]
    cases b with
    | true =>
      simp only [Bool.not_true, Bool.false_eq_true, if_false, Sem.run_pure, Result.andThen_ok]
      rw [ih]
      simp
    | false =>
      simp only [Bool.not_false, if_true, Sem.run_pure, Result.andThen_ok]
      simp
theorem equalIn_struct {t : TypeId} {fs : Array Field} {d : Nat} {xs ys : Array Value} {bs : List Bool} (hu : P.underlying t = some (.struct fs)) (hs : P.stoodInHeld t = false) (h : EqF P d xs ys fs.toList bs) (w : World) :
    (Op.equalIn (d + 1) t (.agg xs) (.agg ys)).run P w = .ok (bs.all id) w := by
  rw [Op.equalIn, Sem.run_bind, run_und hu, Result.andThen_ok]
  show (program >>= _).run P w = _
  rw [Sem.run_bind]
  show (if P.stoodInHeld t = true then _ else _ : Sem Bool).run P w = _
  rw [if_neg (by rw [hs]; simp)]
  have hl := h.loop w
  have e := Array.forIn_toList (m := Sem) (xs := fs) (b := ((none, ()) : Option Bool × Unit)) (f := fun f _ => (do
      if f.name ≠ "_" then
        let vx ← part f.type xs f.offset
        let vy ← part f.type ys f.offset
        let b ← Op.equalIn d f.type vx vy
        if (!b) = true then pure (ForInStep.done (some false, ())) else pure (ForInStep.yield (none, ()))
      else pure (ForInStep.yield (none, ())) : Sem (ForInStep (Option Bool × Unit))))
  rw [e] at hl
  refine (Sem.run_bind ..).trans ?_
  refine (congrArg (fun r => Result.andThen r _) hl).trans ?_
  cases bs.all id <;> rfl
theorem rawB_struct {op : BinOp} {T : TypeId} {fs : Array Field} {xs ys : Array Value} {bs : List Bool} {k : Bool → Prop} (hu : P.underlying T = some (.struct fs)) (hs : P.stoodInHeld T = false) (hg : P.eqGuardType P.depth T = false) (h : EqF P 9999 xs ys fs.toList bs) (hk : k (bs.all id)) :
    rawB P op T (.agg xs) (.agg ys) k := by
  refine ⟨_, fun w => ?_, fun cx cy w => ?_, hk⟩
  · rw [eq_one]; exact equalIn_struct hu hs h w
  · unfold eqGuard
    cases op <;> try rfl
    all_goals
      show (program >>= _).run P w = _
      rw [Sem.run_bind]
      show (if (!(P.eqGuardType P.depth T)) = true then _ else _ : Sem Unit).run P w = _
      rw [hg]
      rfl
end
end Go.Den
