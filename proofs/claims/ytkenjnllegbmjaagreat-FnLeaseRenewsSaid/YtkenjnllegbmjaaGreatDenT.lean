/- A plain reading of Go functions, proved to be what they do; no condition. -/
/- What each operation does, said plainly; and a function's text run through, from label to label. -/
import Derived.Test.YtkenjnllegbmjaaGreatDenS
set_option linter.unusedVariables false
set_option linter.unusedSimpArgs false
namespace Go.Den
open Go

/-! ### Words that the printed texts use -/
inductive IV where
  | nil
  | mk (t : TypeId) (x : Value)
def IV.v : IV → Value
  | .nil => .nilIface
  | .mk t x => .iface t x
def IV.isNil : IV → Bool
  | .nil => true
  | .mk _ _ => false
inductive FV where
  | nil
  | mk (fn : Fn) (first captured : Array Value)
def FV.v : FV → Value
  | .nil => .nilFunc
  | .mk fn a b => .func fn a b

def guardB (b : Bool) (X : Prop) : Prop := match b with | true => X | false => False
def iteB (b : Bool) (A B : Prop) : Prop := match b with | true => A | false => B
def andD (A B : Prop) : Prop := A ∧ B
def nilD (p : Option Addr) (k : Addr → Prop) : Prop := match p with | some a => k a | none => False
def idxD (p : Option Addr) (n : Nat) (i : Int) (k : Addr → Prop) : Prop := 0 ≤ i ∧ i < (n : Int) ∧ nilD p k
def idxA (n : Nat) (i : Int) (k : Prop) : Prop := 0 ≤ i ∧ i < (n : Int) ∧ k
def ixS (s : ByteArray) (i : Int) (k : UInt8 → Prop) : Prop := 0 ≤ i ∧ ∃ b, s[i.toNat]? = some b ∧ k b
def divD (b : Int) (k : Prop) : Prop := b ≠ 0 ∧ k
def shD (b : Int) (k : Prop) : Prop := 0 ≤ b ∧ k
def bndD (i : Int) (y : Nat) (k : Nat → Prop) : Prop := 0 ≤ i ∧ i ≤ (y : Int) ∧ k i.toNat
def slV (p : Option Addr) (l h m size : Nat) : Value := .slice (if m = l then p else p.map (·.add (l * size))) (h - l) (m - l)
def slP (p : Option Addr) (l m size : Nat) : Option Addr := if m = l then p else p.map (·.add (l * size))
def shlZ (k : IntKind) (a b : Int) : Int := k.wrap (a * 2 ^ (min b.toNat k.bits))
def shrZ (k : IntKind) (a b : Int) : Int := a.fdiv (2 ^ (min b.toNat k.bits))
def andZ (k : IntKind) (a b : Int) : Int := k.wrap ((BitVec.ofInt k.bits a &&& BitVec.ofInt k.bits b).toNat : Int)
def orZ (k : IntKind) (a b : Int) : Int := k.wrap ((BitVec.ofInt k.bits a ||| BitVec.ofInt k.bits b).toNat : Int)
def xorZ (k : IntKind) (a b : Int) : Int := k.wrap ((BitVec.ofInt k.bits a ^^^ BitVec.ofInt k.bits b).toNat : Int)
def andNotZ (k : IntKind) (a b : Int) : Int := k.wrap ((BitVec.ofInt k.bits a &&& ~~~ BitVec.ofInt k.bits b).toNat : Int)
def eqS (a b : ByteArray) : Bool := a.toList == b.toList
def ltS (a b : ByteArray) : Bool := Op.bytesLess a.toList b.toList
def catD (a b : ByteArray) (k : ByteArray → Prop) : Prop := ((a.size + b.size : Nat) : Int) ≤ IntKind.i64.max ∧ k (a ++ b)
def ifNilD (v : Value) (k : Bool → Prop) : Prop := match v with | .nilIface => k true | .iface _ _ => k false | _ => False
def fnNilD (v : Value) (k : Bool → Prop) : Prop := match v with | .nilFunc => k true | .func _ _ _ => k false | _ => False

/-- A value by its type: the shape that it has. -/
def tInt (v : Value) (kd : IntKind) (k : Int → Prop) : Prop := ∃ n, v = .int kd n ∧ k n
def tBool (v : Value) (k : Bool → Prop) : Prop := ∃ b, v = .bool b ∧ k b
def tStr (v : Value) (k : ByteArray → Prop) : Prop := ∃ s, v = .string s ∧ k s
def tPtr (v : Value) (k : Option Addr → Prop) : Prop := ∃ p, v = .pointer p ∧ k p
def tSl (v : Value) (k : Option Addr → Nat → Nat → Prop) : Prop := ∃ p n c, v = .slice p n c ∧ k p n c
def tMap (v : Value) (k : Option Nat → Prop) : Prop := ∃ r, v = .map r ∧ k r
def tCh (v : Value) (k : Option Nat → Prop) : Prop := ∃ r, v = .chan r ∧ k r
def tIf (v : Value) (k : IV → Prop) : Prop := ∃ i : IV, v = i.v ∧ k i
def tFn (v : Value) (k : FV → Prop) : Prop := ∃ f : FV, v = f.v ∧ k f
def tFlt (v : Value) (kd : FloatKind) (k : Nat → Prop) : Prop := ∃ n, v = .float kd n ∧ k n
def flD (r : Option Nat) (k : Nat → Prop) : Prop := match r with | some n => k n | none => False
/-- A float made whole. -/
def fiD (sk : FloatKind) (b : Nat) (kd : IntKind) (k : Int → Prop) : Prop :=
  match (sk.decode b).toInt .zero with
  | some n => (kd.min ≤ n ∧ n ≤ kd.max) ∧ k n
  | none => False
def tyK (D : TypeDesc) (v : Value) (k : Value → Prop) : Prop :=
  match D with
  | .int kd => tInt v kd fun n => k (.int kd n)
  | .float kd => tFlt v kd fun n => k (.float kd n)
  | .bool => tBool v fun b => k (.bool b)
  | .string => tStr v fun s => k (.string s)
  | .pointer _ => tPtr v fun p => k (.pointer p)
  | .slice _ => tSl v fun p n c => k (.slice p n c)
  | .map _ _ => tMap v fun r => k (.map r)
  | .chan _ _ => tCh v fun r => k (.chan r)
  | .interface _ => tIf v fun i => k i.v
  | .func _ _ _ => tFn v fun f => k f.v
  | _ => False
theorem tyK.spec {D : TypeDesc} {v : Value} {k : Value → Prop} (h : tyK D v k) : k v := by
  unfold tyK at h
  cases D <;> simp only at h <;> try exact h.elim
  all_goals first
    | (obtain ⟨p, n, c, rfl, h⟩ := h; exact h)
    | (obtain ⟨b, rfl, h⟩ := h; exact h)

/-- A cell that is read, by its type. -/
def ldC (H : Heap) (a : Addr) (D : TypeDesc) (k : Value → Prop) : Prop :=
  match D with
  | .int kd => ∃ n, hcell H a = some (.int kd n) ∧ k (.int kd n)
  | .bool => ∃ b, hcell H a = some (.bool b) ∧ k (.bool b)
  | .string => ∃ s, hcell H a = some (.string s) ∧ k (.string s)
  | .pointer _ => ∃ p, hcell H a = some (.pointer p) ∧ k (.pointer p)
  | .slice _ => ∃ p n c, hcell H a = some (.slice p n c) ∧ k (.slice p n c)
  | .map _ _ => ∃ r, hcell H a = some (.map r) ∧ k (.map r)
  | .chan _ _ => ∃ r, hcell H a = some (.chan r) ∧ k (.chan r)
  | .interface _ => ∃ i : IV, hcell H a = some i.v ∧ k i.v
  | .func _ _ _ => ∃ f : FV, hcell H a = some f.v ∧ k f.v
  | _ => False
def ldInt (H : Heap) (a : Addr) (kd : IntKind) (k : Int → Prop) : Prop := ∃ n, hcell H a = some (.int kd n) ∧ k n
def ldBool (H : Heap) (a : Addr) (k : Bool → Prop) : Prop := ∃ b, hcell H a = some (.bool b) ∧ k b
def ldStr (H : Heap) (a : Addr) (k : ByteArray → Prop) : Prop := ∃ s, hcell H a = some (.string s) ∧ k s
def ldPtr (H : Heap) (a : Addr) (k : Option Addr → Prop) : Prop := ∃ p, hcell H a = some (.pointer p) ∧ k p
def ldSl (H : Heap) (a : Addr) (k : Option Addr → Nat → Nat → Prop) : Prop := ∃ p n c, hcell H a = some (.slice p n c) ∧ k p n c
def ldMap (H : Heap) (a : Addr) (k : Option Nat → Prop) : Prop := ∃ r, hcell H a = some (.map r) ∧ k r
def ldIf (H : Heap) (a : Addr) (k : IV → Prop) : Prop := ∃ i : IV, hcell H a = some i.v ∧ k i
def ldFn (H : Heap) (a : Addr) (k : FV → Prop) : Prop := ∃ f : FV, hcell H a = some f.v ∧ k f
theorem ldC.spec {H : Heap} {a : Addr} {D : TypeDesc} {k : Value → Prop} (h : ldC H a D k) : ∃ v, hcell H a = some v ∧ k v := by
  unfold ldC at h
  cases D <;> simp only at h <;> try exact h.elim
  all_goals first
    | (obtain ⟨p, n, c, h1, h⟩ := h; exact ⟨_, h1, h⟩)
    | (obtain ⟨b, h1, h⟩ := h; exact ⟨_, h1, h⟩)
def ldCh (H : Heap) (a : Addr) (k : Option Nat → Prop) : Prop := ∃ r, hcell H a = some (.chan r) ∧ k r
def ldCs (H : Heap) (a : Addr) : Nat → List TypeDesc → (List Value → Prop) → Prop
  | _, [], k => k []
  | i, D :: Ds, k => ldC H (a.add i) D fun v => ldCs H a (i + 1) Ds fun vs => k (v :: vs)
theorem ldCs.spec {H : Heap} {a : Addr} : ∀ {Ds : List TypeDesc} {i : Nat} {k : List Value → Prop}, ldCs H a i Ds k → ∃ vs, vs.length = Ds.length ∧ (∀ j v, vs[j]? = some v → hcell H (a.add (i + j)) = some v) ∧ k vs := by
  intro Ds
  induction Ds with
  | nil => intro i k h; exact ⟨[], rfl, by simp, h⟩
  | cons D Ds ih =>
    intro i k h
    obtain ⟨v, h1, h⟩ := ldC.spec h
    obtain ⟨vs, h2, h3, h4⟩ := ih h
    refine ⟨v :: vs, by simp [h2], fun j u hj => ?_, h4⟩
    cases j with
    | zero => simp at hj; subst hj; simpa using h1
    | succ j => simp at hj; have := h3 j u hj; rw [show i + (j + 1) = i + 1 + j from by omega]; exact this
/-- The cells of a type, one behind the other. -/
def flatD (P : Program) : Nat → TypeId → List TypeDesc
  | 0, _ => []
  | f + 1, t => match P.underlying t with
    | some (.struct fs) => fs.toList.flatMap fun x => flatD P f x.type
    | some (.array n e) => (List.replicate n (flatD P f e)).flatten
    | some d => [d]
    | none => []
def aggT (P : Program) (t : TypeId) : Bool := match P.underlying t with | some (.struct _) => true | some (.array _ _) => true | _ => false
def ldD (P : Program) (t : TypeId) (a : Addr) (H : Heap) (k : Value → Prop) : Prop :=
  match P.underlying t with
  | some (.struct _) => guardB ((flatD P 8 t).length == P.cellsOf t) (ldCs H a 0 (flatD P 8 t) fun vs => k (.agg ⟨vs⟩))
  | some (.array _ _) => guardB ((flatD P 8 t).length == P.cellsOf t) (ldCs H a 0 (flatD P 8 t) fun vs => k (.agg ⟨vs⟩))
  | some D => ldC H a D k
  | none => False

/-! ### Run equations of the model's small words -/
section
variable {P : Program}
theorem pureV_underlying {t : TypeId} {d : TypeDesc} (h : P.underlying t = some d) : pureV P (underlying t) = some d := by
  show pureV P (match P.underlying t with | some d => pure d | none => stuck "no such type") = some d
  rw [h]; rfl
theorem readV_underlying {t : TypeId} {d : TypeDesc} (h : P.underlying t = some d) (H : Heap) : readV P (underlying t) H = some d := pureV.read _ H (pureV_underlying h)
theorem pureV_typeInfo {t : TypeId} {i : TypeInfo} (h : P.info? t = some i) : pureV P (typeInfo t) = some i := by
  show pureV P (match P.info? t with | some d => pure d | none => stuck "no such type") = some i
  rw [h]; rfl
theorem info_of_underlying {t : TypeId} {d : TypeDesc} (h : P.underlying t = some d) : ∃ i, P.info? t = some i := by
  unfold Program.underlying at h
  cases hi : P.info? t with
  | none => rw [hi] at h; cases h
  | some i => exact ⟨i, rfl⟩
theorem pureV_sizeOf {t : TypeId} {i : TypeInfo} (h : P.info? t = some i) : pureV P (sizeOf t) = some (P.cellsOf t) := by
  unfold sizeOf
  rw [pureV_bind, pureV_typeInfo h]
  simp [Program.cellsOf, h]; rfl
theorem pureV_isAgg {t : TypeId} {d : TypeDesc} (h : P.underlying t = some d) : pureV P (isAgg t) = some (aggT P t) := by
  unfold isAgg
  rw [pureV_bind, pureV_underlying h]
  simp only [Option.bind_some, aggT, h]
  cases d <;> rfl
theorem readV_load {a : Addr} {H : Heap} {v : Value} (h : hcell H a = some v) : readV P (load a) H = some v := by simp only [load, readV, h]
theorem readV_loadCellsFrom {a : Addr} {H : Heap} : ∀ (n i : Nat) (acc : Array Value) (vs : List Value), vs.length = n → (∀ j v, vs[j]? = some v → hcell H (a.add (i + j)) = some v) →
    readV P (loadCellsFrom a i n acc) H = some (acc ++ vs.toArray) := by
  intro n
  induction n with
  | zero => intro i acc vs h _; obtain rfl := List.eq_nil_of_length_eq_zero h; simp [loadCellsFrom]; rfl
  | succ n ih =>
    intro i acc vs h hc
    cases vs with
    | nil => cases h
    | cons v vs =>
      simp only [loadCellsFrom]
      rw [readV_bind]
      have h0 := hc 0 v rfl
      have : readV P (load (a.add i)) H = some v := readV_load h0
      rw [this]
      simp only [Option.bind_some]
      rw [ih (i + 1) (acc.push v) vs (by simpa using h) (fun j u hj => by rw [show i + 1 + j = i + (j + 1) from by omega]; exact hc (j + 1) u (by simpa using hj))]
      simp
theorem readV_loadCells {a : Addr} {H : Heap} {n : Nat} {vs : List Value} (hn : vs.length = n) (hc : ∀ j v, vs[j]? = some v → hcell H (a.add j) = some v) : readV P (loadCells a n) H = some ⟨vs⟩ := by
  unfold loadCells
  rw [readV_loadCellsFrom n 0 #[] vs hn (fun j v h => by rw [Nat.zero_add]; exact hc j v h)]
  simp
theorem ldD.spec {t : TypeId} {a : Addr} {H : Heap} {k : Value → Prop} (h : ldD P t a H k) : ∃ v, readV P (loadVar t a) H = some v ∧ k v := by
  unfold ldD at h
  cases hu : P.underlying t with
  | none => rw [hu] at h; exact h.elim
  | some d =>
    obtain ⟨i, hi⟩ := info_of_underlying hu
    have hagg := pureV.read _ H (pureV_isAgg hu)
    have hsz := pureV.read _ H (pureV_sizeOf hi)
    rw [hu] at h
    have key : guardB ((flatD P 8 t).length == P.cellsOf t) (ldCs H a 0 (flatD P 8 t) fun vs => k (.agg ⟨vs⟩)) → aggT P t = true → ∃ v, readV P (loadVar t a) H = some v ∧ k v := by
      intro h hag
      unfold guardB at h
      split at h
      · rename_i hl
        obtain ⟨vs, h1, h2, h3⟩ := ldCs.spec h
        refine ⟨_, ?_, h3⟩
        unfold loadVar
        rw [readV_bind, hagg, hag]
        simp only [Option.bind_some, if_true]
        rw [readV_bind, hsz]
        simp only [Option.bind_some]
        rw [readV_bind, readV_loadCells (n := P.cellsOf t) (by rw [h1]; simpa using hl) (fun j v hj => by have := h2 j v hj; rwa [Nat.zero_add] at this)]
        rfl
      · exact h.elim
    have key2 : ldC H a d k → aggT P t = false → ∃ v, readV P (loadVar t a) H = some v ∧ k v := by
      intro h hag
      obtain ⟨v, h1, h2⟩ := ldC.spec h
      refine ⟨v, ?_, h2⟩
      unfold loadVar
      rw [readV_bind, hagg, hag]
      simp only [Option.bind_some, Bool.false_eq_true, if_false]
      exact readV_load h1
    cases d <;> simp only at h <;> first
      | exact key h (by simp [aggT, hu])
      | exact key2 h (by simp [aggT, hu])
end
end Go.Den
