/- A plain reading of Go functions, proved to be what they do; no condition. -/
/- What each operation does, said plainly: the operations that touch no memory. -/
import Derived.Test.YtkenjnllegbmjaaGreatDenT
import Derived.Laws.Tables
import Derived.Laws.Sem
set_option linter.unusedVariables false
set_option linter.unusedSimpArgs false
namespace Go.Den
open Go

def isC : Operand → Bool
  | .const _ => true
  | _ => false
def intD (op : BinOp) (kx : IntKind) (a b : Int) (k : Value → Prop) : Prop :=
  match op with
  | .add => k (.int kx (kx.wrap (a + b)))
  | .sub => k (.int kx (kx.wrap (a - b)))
  | .mul => k (.int kx (kx.wrap (a * b)))
  | .quo => divD b (k (.int kx (kx.wrap (a.tdiv b))))
  | .rem => divD b (k (.int kx (a.tmod b)))
  | .and => k (.int kx (andZ kx a b))
  | .or => k (.int kx (orZ kx a b))
  | .xor => k (.int kx (xorZ kx a b))
  | .andNot => k (.int kx (andNotZ kx a b))
  | .eql => k (.bool (a == b))
  | .neq => k (.bool (a != b))
  | .lss => k (.bool (decide (a < b)))
  | .leq => k (.bool (decide (a ≤ b)))
  | .gtr => k (.bool (decide (a > b)))
  | .geq => k (.bool (decide (a ≥ b)))
  | .shl => shD b (k (.int kx (shlZ kx a b)))
  | .shr => shD b (k (.int kx (shrZ kx a b)))
def fltD (op : BinOp) (kx : FloatKind) (a b : Nat) (k : Value → Prop) : Prop :=
  match op with
  | .add => flD (kx.format.add a b) fun r => k (.float kx r)
  | .sub => flD (kx.format.sub a b) fun r => k (.float kx r)
  | .mul => flD (kx.format.mul a b) fun r => k (.float kx r)
  | .quo => flD (kx.format.div a b) fun r => k (.float kx r)
  | .eql => k (.bool (kx.format.order a b == some .eq))
  | .neq => k (.bool (kx.format.order a b != some .eq))
  | .lss => k (.bool (kx.format.order a b == some .lt))
  | .leq => k (.bool (kx.format.order a b == some .lt || kx.format.order a b == some .eq))
  | .gtr => k (.bool (kx.format.order a b == some .gt))
  | .geq => k (.bool (kx.format.order a b == some .gt || kx.format.order a b == some .eq))
  | _ => False
def isSh : BinOp → Bool
  | .shl => true
  | .shr => true
  | _ => false
def strD (op : BinOp) (a b : ByteArray) (k : Value → Prop) : Prop :=
  match op with
  | .add => catD a b fun s => k (.string s)
  | .eql => k (.bool (eqS a b))
  | .neq => k (.bool (!eqS a b))
  | .lss => k (.bool (ltS a b))
  | .leq => k (.bool (ltS a b || eqS a b))
  | .gtr => k (.bool (!(ltS a b || eqS a b)))
  | .geq => k (.bool (!ltS a b))
  | _ => False
/-- '==' or '!=', once it is known whether the two are the same. -/
def eqD (op : BinOp) (e : Bool) (k : Value → Prop) : Prop :=
  match op with
  | .eql => k (.bool e)
  | .neq => k (.bool (!e))
  | _ => False
def rawB (P : Program) (op : BinOp) (T : TypeId) (x y : Value) (k : Bool → Prop) : Prop :=
  ∃ b, (∀ w, (Op.equal T x y).run P w = .ok b w) ∧ (∀ (cx cy : Operand) w, (eqGuard op T cx cy x y).run P w = .ok () w) ∧ k b
/-- Two interface values neither of which is written down are compared by the model's own words. -/
def rawIf (P : Program) (op : BinOp) (T : TypeId) (cst : Bool) : Bool :=
  (match op with | .eql => true | .neq => true | _ => false) && !cst && (match P.underlying T with | some (.interface _) => true | _ => false)
def isIfV : Value → Bool
  | .iface _ _ => true
  | .nilIface => true
  | _ => false
def rawI (P : Program) (op : BinOp) (T : TypeId) (x y : Value) (k : Bool → Prop) : Prop := isIfV x = true ∧ isIfV y = true ∧ rawB P op T x y k
def ptD (P : Program) (op : BinOp) (T : TypeId) (p q : Option Addr) (k : Bool → Prop) : Prop :=
  match q with
  | none => k p.isNone
  | some b => match p with
    | none => k false
    | some a => rawB P op T (.pointer (some a)) (.pointer (some b)) k
def binC (P : Program) (op : BinOp) (T : TypeId) (cst : Bool) (vx vy : Value) (k : Value → Prop) : Prop :=
  match vy with
  | .int ky b => match vx with
    | .int kx a => guardB (isSh op || decide (kx = ky)) (intD op kx a b k)
    | _ => False
  | .float ky b => match vx with
    | .float kx a => guardB (decide (kx = ky)) (fltD op kx a b k)
    | _ => False
  | .string b => match vx with
    | .string a => strD op a b k
    | _ => False
  | .bool b => match vx with
    | .bool a => match P.underlying T with
      | some .bool => eqD op (a == b) k
      | _ => False
    | _ => False
  | .pointer q => match vx with
    | .pointer p => match P.underlying T with
      | some (.pointer _) => ptD P op T p q fun b => eqD op b k
      | _ => False
    | _ => False
  | .slice q _ _ => match vx with
    | .slice p _ _ => match P.underlying T with
      | some (.slice _) => match q with
        | none => eqD op p.isNone k
        | some _ => match p with
          | none => eqD op false k
          | some _ => False
      | _ => False
    | _ => False
  | .map q => match vx with
    | .map p => match P.underlying T with
      | some (.map _ _) => match q with
        | none => eqD op p.isNone k
        | some _ => False
      | _ => False
    | _ => False
  | .chan q => match vx with
    | .chan p => match P.underlying T with
      | some (.chan _ _) => match q with
        | none => eqD op p.isNone k
        | some _ => False
      | _ => False
    | _ => False
  | .nilIface => match P.underlying T with
    | some (.interface _) => guardB cst (ifNilD vx fun b => eqD op b k)
    | _ => False
  | .nilFunc => match P.underlying T with
    | some (.func _ _ _) => fnNilD vx fun b => eqD op b k
    | _ => False
  | .agg ys => match vx with
    | .agg xs => rawB P op T (.agg xs) (.agg ys) fun b => eqD op b k
    | _ => False
  | _ => False
def binD (P : Program) (op : BinOp) (T : TypeId) (cst : Bool) (vx vy : Value) (k : Value → Prop) : Prop :=
  match rawIf P op T cst with
  | true => rawI P op T vx vy fun b => eqD op b k
  | false => binC P op T cst vx vy k
def unD (op : UnOp) (v : Value) (k : Value → Prop) : Prop :=
  match op with
  | .not => match v with | .bool b => k (.bool (!b)) | _ => False
  | .neg => match v with | .int kd n => k (.int kd (kd.wrap (0 - n))) | .float kd n => k (.float kd (Op.negFloat kd n)) | _ => False
  | .xor => match v with | .int kd n => k (.int kd (xorZ kd (if kd.signed then -1 else kd.max) n)) | _ => False
  | _ => False
def cvD (P : Program) (s d : TypeId) (v : Value) (k : Value → Prop) : Prop :=
  match P.underlying s with
  | some (.int _) => match P.underlying d with
    | some (.int kd) => match v with | .int _ n => k (.int kd (kd.wrap n)) | _ => False
    | some (.float kd) => match v with | .int _ n => k (.float kd (kd.nearest n)) | _ => False
    | _ => False
  | some (.float _) => match P.underlying d with
    | some (.int kd) => match v with | .float sk b => fiD sk b kd fun n => k (.int kd n) | _ => False
    | _ => False
  | some .string => match P.underlying d with
    | some .string => match v with | .string s => k (.string s) | _ => False
    | _ => False
  | _ => False
/-- What a piece of the machine gives that only looks at the program. -/
def pureN (P : Program) {α : Type} : Sem α → Option α
  | .pure a => some a
  | .program k => pureN P (k P)
  | _ => none
theorem pureN.run {P : Program} {α : Type} (s : Sem α) : ∀ {a : α}, pureN P s = some a → ∀ w, s.run P w = .ok a w := by
  induction s <;> intro x h w <;> simp only [pureN] at h <;> try cases h
  case pure a => rfl
  case program k ih => exact ih P h w
/-- Whether a method of what an interface has is there for sure. -/
def noNil (P : Program) (t : TypeId) (x : Value) (nm : String) : Bool :=
  match pureN P (nilAhead (P.types.size + Made.depth) t x nm) with
  | some (some false) => true
  | _ => false
def nilM (P : Program) (nm : String) (first : Array Value) (k : Prop) : Prop :=
  match (first[0]? : Option Value) with
  | some (.iface t x) => noNil P t x nm = true ∧ k
  | _ => False
def nilV (P : Program) (v : Value) (k : Value → Prop) : Prop :=
  match v with
  | .pointer p => nilD p fun a => k (.pointer (some a))
  | .iface t x => k (.iface t x)
  | .func fn first cap => match fn with
    | .func f => k (.func (.func f) first cap)
    | .method nm => nilM P nm first (k (.func (.method nm) first cap))
    | _ => False
  | _ => False
def faD (P : Program) (S : TypeId) (f : Nat) (v : Value) (k : Value → Prop) : Prop :=
  match P.underlying S with
  | some (.struct fs) => match fs[f]? with
    | some fd => match v with
      | .pointer p => match p with
        | some a => match P.info? fd.type with
          | some i => match i.size with
            | 0 => False
            | _ + 1 => k (.pointer (some (a.add fd.offset)))
          | none => False
        | none => False
      | _ => False
    | none => False
  | _ => False
def fldD (P : Program) (T : TypeId) (f : Nat) (v : Value) (k : Value → Prop) : Prop :=
  match P.underlying T with
  | some (.struct fs) => match fs[f]? with
    | some fd => match v with
      | .agg cs => match P.underlying fd.type with
        | none => False
        | some _ => match aggT P fd.type with
          | true => k (.agg ⟨(cs.toList.drop fd.offset).take (P.cellsOf fd.type)⟩)
          | false => match cs.toList[fd.offset]? with
            | some x => k x
            | none => False
      | _ => False
    | none => False
  | _ => False
def iaD (P : Program) (T : TypeId) (vx vi : Value) (k : Value → Prop) : Prop :=
  match vi with
  | .int _ i => match P.underlying T with
    | some (.slice e) => match P.info? e with
      | some ie => match vx with
        | .slice p n _ => idxD p n i fun a => k (.pointer (some (a.add (i.toNat * ie.size))))
        | _ => False
      | none => False
    | some (.array n e) => match P.info? e with
      | some ie => match vx with
        | .pointer p => match p with
          | some a => idxA n i (k (.pointer (some (a.add (i.toNat * ie.size)))))
          | none => False
        | _ => False
      | none => False
    | _ => False
  | _ => False
def ixD (P : Program) (T : TypeId) (vx vi : Value) (k : Value → Prop) : Prop :=
  match vi with
  | .int _ i => match P.underlying T with
    | some .string => match vx with
      | .string s => ixS s i fun b => k (.int .u8 b.toNat)
      | _ => False
    | _ => False
  | _ => False
def bnd (v : Option Value) (y dflt : Nat) (k : Nat → Prop) : Prop :=
  match v with
  | none => k dflt
  | some v => match v with
    | .int _ i => bndD i y k
    | _ => False
def slD (P : Program) (T : TypeId) (v : Value) (lo hi mx : Option Value) (k : Value → Prop) : Prop :=
  match P.underlying T with
  | some .string => match v with
    | .string s => match mx with
      | none => bnd hi s.size s.size fun h => bnd lo h 0 fun l => k (.string (s.extract l h))
      | some _ => False
    | _ => False
  | some (.slice e) => match P.info? e with
    | some ie => match v with
      | .slice p n c => match mx with
        | none => bnd hi c n fun h => bnd lo h 0 fun l => k (slV p l h c ie.size)
        | some _ => match hi with
          | some _ => bnd mx c c fun m => bnd hi m n fun h => bnd lo h 0 fun l => k (slV p l h m ie.size)
          | none => False
      | _ => False
    | none => False
  | some (.array n e) => match v with
    | .pointer p => match p with
      | some a => match lo with
        | none => match hi with
          | none => match mx with
            | none => match P.info? e with
              | some _ => k (.slice (some a) n n)
              | none => False
            | some _ => False
          | some _ => False
        | some _ => False
      | none => False
    | _ => False
  | _ => False
def exD (v : Value) (i : Nat) (k : Value → Prop) : Prop :=
  match v with
  | .tuple vs => match vs.toList[i]? with
    | some x => k x
    | none => False
  | _ => False
def minD : Value → List Value → (Value → Prop) → Prop
  | v, [], k => k v
  | .int kx a, .int _ b :: r, k => minD (.int kx (if b < a then b else a)) r k
  | _, _, _ => False
def maxD : Value → List Value → (Value → Prop) → Prop
  | v, [], k => k v
  | .int kx a, .int _ b :: r, k => maxD (.int kx (if b > a then b else a)) r k
  | .string a, .string b :: r, k => maxD (.string (if ltS a b then b else a)) r k
  | _, _, _ => False
def lenD (P : Program) (T : TypeId) (v : Value) (k : Value → Prop) : Prop :=
  match P.underlying T with
  | some .string => match v with | .string s => k (.int .i64 s.size) | _ => False
  | some (.slice _) => match v with | .slice _ n _ => k (.int .i64 n) | _ => False
  | some (.array n _) => k (.int .i64 n)
  | _ => False
def capD (P : Program) (T : TypeId) (v : Value) (k : Value → Prop) : Prop :=
  match P.underlying T with
  | some (.slice _) => match v with | .slice _ _ c => k (.int .i64 c) | _ => False
  | _ => False
def setR (zs : List Value) (off : Nat) (cs : List Value) : List Value := zs.take off ++ cs ++ zs.drop (off + cs.length)
def partC (P : Program) (t : TypeId) (v : Value) (k : List Value → Prop) : Prop :=
  match aggT P t with
  | true => match v with | .agg cs => k cs.toList | _ => False
  | false => guardB (isCell v) (k [v])
def fillD (P : Program) (place : Nat → Option (Nat × TypeId)) : List Value → List (Nat × Value) → (List Value → Prop) → Prop
  | zs, [], k => k zs
  | zs, (i, v) :: r, k => match place i with
    | none => False
    | some (off, t) => partC P t v fun cs => guardB (cs.length == P.cellsOf t && Nat.ble (off + cs.length) zs.length) (fillD P place (setR zs off cs) r k)
def zeroL (P : Program) (t : TypeId) : Option (List Value) :=
  match P.info? t with
  | some i => match i.zero with
    | some z => some z.cells.toList
    | none => none
  | none => none
def hasInfo (P : Program) (t : TypeId) : Bool := match P.info? t with | some _ => true | none => false
def buildD (P : Program) (T : TypeId) (parts : List (Nat × Value)) (k : Value → Prop) : Prop :=
  match P.underlying T with
  | some (.struct fs) => match zeroL P T with
    | some zs => guardB (fs.toList.all fun f => hasInfo P f.type) (fillD P (fun i => (fs.toList[i]?).map fun f => (f.offset, f.type)) zs parts fun cs => k (.agg ⟨cs⟩))
    | none => False
  | some (.array _ e) => match zeroL P T with
    | some zs => guardB (hasInfo P e) (fillD P (fun i => some (i * P.cellsOf e, e)) zs parts fun cs => k (.agg ⟨cs⟩))
    | none => False
  | _ => False
def notIface (P : Program) (T : TypeId) : Bool := match P.underlying T with | some (.interface _) => false | some _ => true | none => false
def bltD (P : Program) (b : Builtin) (ts : List TypeId) (vs : List Value) (k : Value → Prop) : Prop :=
  match b with
  | .len => match ts, vs with | t :: _, v :: _ => lenD P t v k | _, _ => False
  | .cap => match ts, vs with | t :: _, v :: _ => capD P t v k | _, _ => False
  | .min => match vs with | v :: r => minD v r k | [] => False
  | .max => match vs with | v :: r => maxD v r k | [] => False
  | _ => False
def pureD (P : Program) (ev : Operand → Value) (op : Op) (k : Value → Prop) : Prop :=
  match op with
  | .move x => k (ev x)
  | .assign x => k (ev x)
  | .pick c a b => match ev c with | .bool t => iteB t (k (ev a)) (k (ev b)) | _ => False
  | .nilCheck x => nilV P (ev x) k
  | .binOp op T x y _ => binD P op T (isC x || isC y) (ev x) (ev y) k
  | .unOp op _ x => unD op (ev x) k
  | .convert s d x => cvD P s d (ev x) k
  | .makeInterface T x => guardB (notIface P T) (k (.iface T (ev x)))
  | .makeFunc fn first cap => k (.func fn ⟨first.toList.map ev⟩ ⟨cap.toList.map ev⟩)
  | .fieldAddr S x f => faD P S f (ev x) k
  | .field T x f => fldD P T f (ev x) k
  | .indexAddr T x i => iaD P T (ev x) (ev i) k
  | .index T x i => ixD P T (ev x) (ev i) k
  | .slice T x lo hi mx => slD P T (ev x) (lo.map ev) (hi.map ev) (mx.map ev) k
  | .build T parts => buildD P T (parts.toList.map fun p => (p.1, ev p.2)) k
  | .extract x i => exD (ev x) i k
  | .call c => match c.callee with | .builtin b => bltD P b c.argTypes.toList (c.args.toList.map ev) k | _ => False
  | _ => False

/-! ### That it is so -/
section
variable {P : Program}
def To (P : Program) (s : Sem Value) (k : Value → Prop) : Prop := ∃ v, (∀ w, s.run P w = .ok v w) ∧ k v
theorem To.mk {s : Sem Value} {k : Value → Prop} {v : Value} (h : k v) (hr : ∀ w, s.run P w = .ok v w) : To P s k := ⟨v, hr, h⟩
theorem run_und {t : TypeId} {d : TypeDesc} (h : P.underlying t = some d) (w : World) : (underlying t).run P w = .ok d w := by
  show (match P.underlying t with | some d => pure d | none => stuck "no such type" : Sem TypeDesc).run P w = .ok d w
  rw [h]; rfl
theorem run_info {t : TypeId} {i : TypeInfo} (h : P.info? t = some i) (w : World) : (typeInfo t).run P w = .ok i w := by
  show (match P.info? t with | some d => pure d | none => stuck "no such type" : Sem TypeInfo).run P w = .ok i w
  rw [h]; rfl
theorem run_size {t : TypeId} {i : TypeInfo} (h : P.info? t = some i) (w : World) : (sizeOf t).run P w = .ok i.size w := by
  unfold sizeOf; rw [Sem.run_bind, run_info h]; rfl
theorem run_isAgg {t : TypeId} {d : TypeDesc} (h : P.underlying t = some d) (w : World) : (isAgg t).run P w = .ok (aggT P t) w := by
  unfold isAgg; rw [Sem.run_bind, run_und h]
  simp only [Result.andThen_ok, aggT, h]
  cases d <;> rfl
theorem cellsOf_info {t : TypeId} {i : TypeInfo} (h : P.info? t = some i) : P.cellsOf t = i.size := by simp [Program.cellsOf, h]

theorem intD.to {op : BinOp} {T : TypeId} {x y : Operand} {kx ky : IntKind} {a b : Int} {k : Value → Prop} (hk : (isSh op || decide (kx = ky)) = true) (h : intD op kx a b k) :
    To P (do eqGuard op T x y (.int kx a) (.int ky b); binOp op T (.int kx a) (.int ky b)) k := by
  have hg : ∀ w, (eqGuard op T x y (.int kx a) (.int ky b)).run P w = .ok () w := by
    intro w; unfold eqGuard; cases op <;> rfl
  have key : To P (binOp op T (.int kx a) (.int ky b)) k := by
    cases op <;> simp only [isSh, Bool.false_or, Bool.true_or, decide_eq_true_eq] at hk <;> (try subst hk) <;> simp only [intD] at h
    case add => exact .mk h fun w => by simp [binOp, Op.intArith]
    case sub => exact .mk h fun w => by simp [binOp, Op.intArith]
    case mul => exact .mk h fun w => by simp [binOp, Op.intArith]
    case quo => obtain ⟨h0, h⟩ := h; exact .mk h fun w => by simp [binOp, Op.intDiv, h0]
    case rem => obtain ⟨h0, h⟩ := h; exact .mk h fun w => by simp [binOp, Op.intDiv, h0]
    case and => exact .mk h fun w => by simp [binOp, Op.intBits, andZ]
    case or => exact .mk h fun w => by simp [binOp, Op.intBits, orZ]
    case xor => exact .mk h fun w => by simp [binOp, Op.intBits, xorZ]
    case andNot => exact .mk h fun w => by simp [binOp, Op.intBits, andNotZ]
    case eql => exact .mk h fun w => by simp [binOp, Op.intCmp]
    case neq => exact .mk h fun w => by simp [binOp, Op.intCmp]
    case lss => exact .mk h fun w => by simp [binOp, Op.intCmp]
    case leq => exact .mk h fun w => by simp [binOp, Op.intCmp]
    case gtr => exact .mk h fun w => by simp [binOp, Op.intCmp]
    case geq => exact .mk h fun w => by simp [binOp, Op.intCmp]
    case shl => obtain ⟨h0, h⟩ := h; exact .mk h fun w => by simp [binOp, Op.shift, shlZ, Int.not_lt.2 h0]
    case shr => obtain ⟨h0, h⟩ := h; exact .mk h fun w => by simp [binOp, Op.shift, shrZ, Int.not_lt.2 h0]
  obtain ⟨v, hv, hkv⟩ := key
  exact .mk hkv fun w => by rw [Sem.run_bind, hg]; exact hv w
theorem fltD.to {op : BinOp} {T : TypeId} {x y : Operand} {kx : FloatKind} {a b : Nat} {k : Value → Prop} (h : fltD op kx a b k) :
    To P (do eqGuard op T x y (.float kx a) (.float kx b); binOp op T (.float kx a) (.float kx b)) k := by
  have hg : ∀ w, (eqGuard op T x y (.float kx a) (.float kx b)).run P w = .ok () w := by
    intro w; unfold eqGuard; cases op <;> rfl
  have key : To P (binOp op T (.float kx a) (.float kx b)) k := by
    cases op <;> simp only [fltD] at h
    case eql => exact .mk h fun w => by simp [binOp, Op.floatCmp]
    case neq => exact .mk h fun w => by simp [binOp, Op.floatCmp]
    case lss => exact .mk h fun w => by simp [binOp, Op.floatCmp]
    case leq => exact .mk h fun w => by simp [binOp, Op.floatCmp]
    case gtr => exact .mk h fun w => by simp [binOp, Op.floatCmp]
    case geq => exact .mk h fun w => by simp [binOp, Op.floatCmp]
    all_goals first
      | exact h.elim
      | (unfold flD at h
         split at h
         · rename_i r hr
           exact .mk h fun w => by simp [binOp, Op.floatArith, hr]
         · exact h.elim)
  obtain ⟨v, hv, hkv⟩ := key
  exact .mk hkv fun w => by rw [Sem.run_bind, hg]; exact hv w
theorem strD.to {op : BinOp} {T : TypeId} {x y : Operand} {a b : ByteArray} {k : Value → Prop} (h : strD op a b k) :
    To P (do eqGuard op T x y (.string a) (.string b); binOp op T (.string a) (.string b)) k := by
  have hg : ∀ w, (eqGuard op T x y (.string a) (.string b)).run P w = .ok () w := by
    intro w; unfold eqGuard; cases op <;> rfl
  have key : To P (binOp op T (.string a) (.string b)) k := by
    cases op <;> simp only [strD] at h
    case add =>
      obtain ⟨h0, h⟩ := h
      exact .mk h fun w => by simp only [binOp, Op.stringOp]; rw [if_neg (by omega)]; rfl
    case eql => exact .mk h fun w => by simp [binOp, Op.stringOp, eqS]
    case neq => exact .mk h fun w => by simp [binOp, Op.stringOp, eqS]
    case lss => exact .mk h fun w => by simp [binOp, Op.stringOp, ltS]
    case leq => exact .mk h fun w => by simp [binOp, Op.stringOp, ltS, eqS]
    case gtr => exact .mk h fun w => by simp [binOp, Op.stringOp, ltS, eqS]
    case geq => exact .mk h fun w => by simp [binOp, Op.stringOp, ltS]
    all_goals exact h.elim
  obtain ⟨v, hv, hkv⟩ := key
  exact .mk hkv fun w => by rw [Sem.run_bind, hg]; exact hv w
/-- '==' by what Op.equal says. -/
theorem eqD.to {op : BinOp} {T : TypeId} {x y : Operand} {vx vy : Value} {e : Bool} {k : Value → Prop} (h : eqD op e k)
    (hb : ∀ (op : BinOp), op = .eql ∨ op = .neq → binOp op T vx vy = match op with | .eql => (do pure (.bool (← Op.equal T vx vy))) | _ => (do pure (.bool (!(← Op.equal T vx vy)))))
    (hg : ∀ w, (eqGuard op T x y vx vy).run P w = .ok () w) (he : ∀ w, (Op.equal T vx vy).run P w = .ok e w) :
    To P (do eqGuard op T x y vx vy; binOp op T vx vy) k := by
  cases op <;> simp only [eqD] at h <;> try exact h.elim
  · exact .mk h fun w => by rw [Sem.run_bind, hg, Result.andThen_ok, hb .eql (.inl rfl)]; dsimp only; rw [Sem.run_bind, he]; rfl
  · exact .mk h fun w => by rw [Sem.run_bind, hg, Result.andThen_ok, hb .neq (.inr rfl)]; dsimp only; rw [Sem.run_bind, he]; rfl
theorem eq_one (T : TypeId) (x y : Value) : Op.equal T x y = Op.equalIn (9999 + 1) T x y := rfl
theorem binC.to {op : BinOp} {T : TypeId} {x y : Operand} {vx vy : Value} {k : Value → Prop} (h : binC P op T (isC x || isC y) vx vy k) :
    To P (do eqGuard op T x y vx vy; binOp op T vx vy) k := by
  have eqv : ∀ {d : TypeDesc}, P.underlying T = some d → ∀ (f : TypeDesc → Value → Value → Sem Bool) (w : World), True := fun _ _ _ => trivial
  cases vy <;> simp only [binC] at h
  case int ky b =>
    cases vx <;> simp only at h <;> try exact h.elim
    unfold guardB at h
    split at h
    · rename_i hc; exact intD.to hc h
    · exact h.elim
  case float ky b =>
    cases vx <;> simp only at h <;> try exact h.elim
    unfold guardB at h
    split at h
    · rename_i hc
      obtain rfl := of_decide_eq_true hc
      exact fltD.to h
    · exact h.elim
  case string b =>
    cases vx <;> simp only at h <;> try exact h.elim
    exact strD.to h
  case bool b =>
    cases vx <;> simp only at h <;> try exact h.elim
    split at h
    · rename_i hu
      refine eqD.to h (fun op ho => by rcases ho with rfl | rfl <;> rfl) (fun w => by unfold eqGuard; cases op <;> rfl) fun w => ?_
      (rw [eq_one, Op.equalIn, Sem.run_bind, run_und hu]; rfl)
    · exact h.elim
  case pointer q =>
    cases vx <;> simp only at h <;> try exact h.elim
    rename_i p
    split at h
    · rename_i e hu
      unfold ptD at h
      cases q with
      | none =>
        refine eqD.to h (fun op ho => by rcases ho with rfl | rfl <;> rfl) (fun w => by unfold eqGuard; cases op <;> rfl) fun w => ?_
        cases p <;> (rw [eq_one, Op.equalIn, Sem.run_bind, run_und hu]; rfl)
      | some b =>
        cases p with
        | none =>
          refine eqD.to h (fun op ho => by rcases ho with rfl | rfl <;> rfl) (fun w => by unfold eqGuard; cases op <;> rfl) fun w => ?_
          (rw [eq_one, Op.equalIn, Sem.run_bind, run_und hu]; rfl)
        | some a =>
          obtain ⟨b, h1, h2, h3⟩ := h
          exact eqD.to h3 (fun op ho => by rcases ho with rfl | rfl <;> rfl) (fun w => h2 x y w) h1
    · exact h.elim
  case slice q m c =>
    cases vx <;> simp only at h <;> try exact h.elim
    rename_i p _ _
    split at h
    · rename_i e hu
      cases q with
      | none =>
        refine eqD.to h (fun op ho => by rcases ho with rfl | rfl <;> rfl) (fun w => by unfold eqGuard; cases op <;> rfl) fun w => ?_
        cases p <;> (rw [eq_one, Op.equalIn, Sem.run_bind, run_und hu]; rfl)
      | some b =>
        cases p with
        | none =>
          refine eqD.to h (fun op ho => by rcases ho with rfl | rfl <;> rfl) (fun w => by unfold eqGuard; cases op <;> rfl) fun w => ?_
          (rw [eq_one, Op.equalIn, Sem.run_bind, run_und hu]; rfl)
        | some a => exact h.elim
    · exact h.elim
  case map q =>
    cases vx <;> simp only at h <;> try exact h.elim
    rename_i p
    split at h
    · rename_i e hu
      cases q with
      | none =>
        refine eqD.to h (fun op ho => by rcases ho with rfl | rfl <;> rfl) (fun w => by unfold eqGuard; cases op <;> rfl) fun w => ?_
        cases p <;> (rw [eq_one, Op.equalIn, Sem.run_bind, run_und hu]; rfl)
      | some b => exact h.elim
    · exact h.elim
  case chan q =>
    cases vx <;> simp only at h <;> try exact h.elim
    rename_i p
    split at h
    · rename_i e hu
      cases q with
      | none =>
        refine eqD.to h (fun op ho => by rcases ho with rfl | rfl <;> rfl) (fun w => by unfold eqGuard; cases op <;> rfl) fun w => ?_
        cases p <;> (rw [eq_one, Op.equalIn, Sem.run_bind, run_und hu]; rfl)
      | some b => exact h.elim
    · exact h.elim
  case nilIface =>
    split at h
    · rename_i ms hu
      unfold guardB at h
      split at h
      · rename_i hc
        unfold ifNilD at h
        split at h
        · refine eqD.to h (fun op ho => by rcases ho with rfl | rfl <;> rfl) (fun w => ?_) fun w => ?_
          · cases x <;> cases y <;> (try simp [isC] at hc) <;> (unfold eqGuard; cases op <;> rfl)
          · (rw [eq_one, Op.equalIn, Sem.run_bind, run_und hu]; rfl)
        · refine eqD.to h (fun op ho => by rcases ho with rfl | rfl <;> rfl) (fun w => by unfold eqGuard; cases op <;> rfl) fun w => ?_
          (rw [eq_one, Op.equalIn, Sem.run_bind, run_und hu]; rfl)
        · exact h.elim
      · exact h.elim
    · exact h.elim
  case nilFunc =>
    split at h
    · rename_i hu
      unfold fnNilD at h
      split at h
      · refine eqD.to h (fun op ho => by rcases ho with rfl | rfl <;> rfl) (fun w => by unfold eqGuard; cases op <;> rfl) fun w => ?_
        (rw [eq_one, Op.equalIn, Sem.run_bind, run_und hu]; rfl)
      · refine eqD.to h (fun op ho => by rcases ho with rfl | rfl <;> rfl) (fun w => by unfold eqGuard; cases op <;> rfl) fun w => ?_
        (rw [eq_one, Op.equalIn, Sem.run_bind, run_und hu]; rfl)
      · exact h.elim
    · exact h.elim
  case agg ys =>
    cases vx <;> simp only at h <;> try exact h.elim
    obtain ⟨b, h1, h2, h3⟩ := h
    exact eqD.to h3 (fun op ho => by rcases ho with rfl | rfl <;> rfl) (fun w => h2 x y w) h1
  all_goals exact h.elim
theorem binD.to {op : BinOp} {T : TypeId} {x y : Operand} {vx vy : Value} {k : Value → Prop} (h : binD P op T (isC x || isC y) vx vy k) :
    To P (do eqGuard op T x y vx vy; binOp op T vx vy) k := by
  unfold binD at h
  split at h
  · obtain ⟨i1, i2, b, h1, h2, h3⟩ := h
    refine eqD.to h3 (fun op ho => ?_) (fun w => h2 x y w) h1
    cases vx <;> simp only [isIfV] at i1 <;> first | cases i1 | skip
    all_goals
      cases vy <;> simp only [isIfV] at i2 <;> first | cases i2 | skip
      all_goals rcases ho with rfl | rfl <;> rfl
  · exact binC.to h
end
end Go.Den
