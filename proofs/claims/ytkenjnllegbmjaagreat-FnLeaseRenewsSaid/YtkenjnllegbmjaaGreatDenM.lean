/- A plain reading of Go functions, proved to be what they do; no condition. -/
/- What each operation does that touches memory, said plainly; and that it is the model's. -/
import Derived.Test.YtkenjnllegbmjaaGreatDenP
set_option linter.unusedVariables false
set_option linter.unusedSimpArgs false
namespace Go.Den
open Go

/-! ### Words -/
def plainB (H : Heap) (r : Nat) : Prop := ∃ c T z, H[r]? = some (.cells c T (z, z))
def pqD (H : Heap) (p q : Option Addr) (k : Bool → Prop) : Prop :=
  match p, q with
  | none, none => k true
  | none, some _ => k false
  | some _, none => k false
  | some a, some b => (a.block = b.block ∧ k (a == b)) ∨ (a.block ≠ b.block ∧ plainB H a.block ∧ plainB H b.block ∧ k false)
def cellsAt (H : Heap) (q : Option Addr) (vs : List Value) : Prop := ∀ j v, vs[j]? = some v → ∃ a, q = some a ∧ hcell H (a.add j) = some v
def bytesOf (bs : List UInt8) : List Value := bs.map fun b => .int .u8 b.toNat
def bsD (H : Heap) (p : Option Addr) (n : Nat) (k : ByteArray → Prop) : Prop := ∃ bs : List UInt8, bs.length = n ∧ cellsAt H p (bytesOf bs) ∧ k ⟨⟨bs⟩⟩
def st1 (H : Heap) (a : Addr) (v : Value) (K : Heap → Prop) : Prop := isCell v = true ∧ (∃ u, hcell H a = some u) ∧ hfrozen H a = false ∧ K (hset H a v)
def stCs (a : Addr) : Heap → Nat → List Value → (Heap → Prop) → Prop
  | H, _, [], K => K H
  | H, i, v :: r, K => st1 H (a.add i) v fun H1 => stCs a H1 (i + 1) r K
def newD (H : Heap) (o : Obj) (K : Nat → Heap → Prop) : Prop := K H.size (H.push o)
def stP (H : Heap) (p : Option Addr) (off : Nat) (vs : List Value) (K : Heap → Prop) : Prop := match p with | some a => stCs (a.add off) H 0 vs K | none => K H
def repZ (zs : List Value) (n : Nat) : List Value := (Builtin.zeroCells ⟨zs⟩ n).toList
def apV (H : Heap) (sz bytes : Nat) (zs : List Value) (E : TypeId) (p : Option Addr) (n c m : Nat) (vs : List Value) (K : Option Addr → Nat → Nat → Heap → Prop) : Prop :=
  (n + m ≤ c → stP H p (n * sz) vs fun H1 => K p (n + m) c H1) ∧
  (c < n + m → bytes ≠ 0 ∧ Builtin.nextslicecap (n + m) c * bytes ≤ 2 ^ 48 ∧ ∃ old : List Value, old.length = n * sz ∧ cellsAt H p old ∧
    ∀ cap, n + m ≤ cap → K (some ⟨H.size, 0, none⟩) (n + m) cap (H.push (.cells ⟨old ++ vs ++ repZ zs (cap - (n + m))⟩ E)))
def apD (H : Heap) (sz bytes : Nat) (zs : List Value) (E : TypeId) (p : Option Addr) (n c : Nat) (q : Option Addr) (m : Nat) (K : Option Addr → Nat → Nat → Heap → Prop) : Prop :=
  ∃ vs : List Value, vs.length = m * sz ∧ cellsAt H q vs ∧ apV H sz bytes zs E p n c m vs K
def apS (H : Heap) (E : TypeId) (p : Option Addr) (n c : Nat) (s : ByteArray) (K : Option Addr → Nat → Nat → Heap → Prop) : Prop :=
  apV H 1 1 [.int .u8 0] E p n c s.size (bytesOf s.data.toList) K
def cpD (H : Heap) (sz : Nat) (p : Option Addr) (n : Nat) (q : Option Addr) (m : Nat) (K : Nat → Heap → Prop) : Prop :=
  ∃ vs : List Value, vs.length = (Nat.min m n) * sz ∧ cellsAt H q vs ∧ stP H p 0 vs fun H1 => K (Nat.min m n) H1
def mkD (H : Heap) (bytes : Nat) (zs : List Value) (E : TypeId) (l c : Int) (K : Nat → Nat → Nat → Heap → Prop) : Prop :=
  bytes ≠ 0 ∧ 0 ≤ l ∧ l ≤ c ∧ (bytes : Int) * c ≤ 2 ^ 48 ∧ newD H (.cells ⟨repZ zs c.toNat⟩ E) fun r H1 => K r l.toNat c.toNat H1
def sbD (H : Heap) (E : TypeId) (s : ByteArray) (K : Nat → Nat → Heap → Prop) : Prop :=
  s.size < 2 ^ 63 ∧ ∀ cap, s.size ≤ cap → newD H (.cells ⟨bytesOf s.data.toList ++ List.replicate (cap - s.size) (.int .u8 0)⟩ E (cap, cap + 1)) fun r H1 => K r cap H1
def panD (v : Value) (H : Heap) (Q : List PanicEntry → Heap → Prop) : Prop := match v with | .iface t x => Q [{ v := .iface t x, recovered := false }] H | _ => False
def callD (P : Program) (f : FuncId) (args : List Value) (H : Heap) (Q : List PanicEntry → Heap → Prop) (K : Value → Heap → Prop) : Prop := CallsH P f ⟨args⟩ H (retK K Q)
def fnOk (P : Program) (f : FuncId) : Bool := match P.funcs[f]? with | some fn => (match fn.body with | some _ => true | none => false) && !(fn.name == "runtime.NumGoroutine") | none => false
/-- A function without a text: what the model itself says of it. -/
structure callX (P : Program) (f : FuncId) (args : List Value) (H : Heap) (Q : List PanicEntry → Heap → Prop) (K : Value → Heap → Prop) : Prop where
  out : SemH P (callFunc f ⟨args⟩) H (nextH P K Q) (fun _ _ => False)
def callV (P : Program) (v : Value) (args : List Value) (H : Heap) (Q : List PanicEntry → Heap → Prop) (K : Value → Heap → Prop) : Prop :=
  ∃ f first cap, v = .func (.func f) ⟨first⟩ ⟨cap⟩ ∧ fnOk P f = true ∧ callD P f (first ++ args ++ cap) H Q K
def callI (P : Program) (v : Value) (name : String) (args : List Value) (H : Heap) (Q : List PanicEntry → Heap → Prop) (K : Value → Heap → Prop) : Prop :=
  ∃ t x f recv, v = .iface t x ∧ (∀ (K' : FuncId × Value → Heap → Prop) Q', K' (f, recv) H → SemH P (method (P.types.size + Made.depth) t x name) H K' Q') ∧ fnOk P f = true ∧ callD P f (recv :: args) H Q K
def tAgg (v : Value) (k : List Value → Prop) : Prop := ∃ l, v = .agg ⟨l⟩ ∧ k l
def tTup (v : Value) (k : List Value → Prop) : Prop := ∃ l, v = .tuple ⟨l⟩ ∧ k l
def tNil (l : List Value) (K : Prop) : Prop := l = [] ∧ K
def tCons (l : List Value) (k : Value → List Value → Prop) : Prop := ∃ v r, l = v :: r ∧ k v r
def tCs : List TypeDesc → List Value → (List Value → Prop) → Prop
  | [], l, k => tNil l (k [])
  | D :: Ds, l, k => tCons l fun v r => tyK D v fun v' => tCs Ds r fun r' => k (v' :: r')
def tyT (P : Program) (t : TypeId) (v : Value) (k : Value → Prop) : Prop :=
  match P.underlying t with
  | some (.struct _) => tAgg v fun l => tCs (flatD P 8 t) l fun l' => k (.agg ⟨l'⟩)
  | some (.array _ _) => tAgg v fun l => tCs (flatD P 8 t) l fun l' => k (.agg ⟨l'⟩)
  | some D => tyK D v k
  | none => False
def tL (P : Program) : List TypeId → List Value → (List Value → Prop) → Prop
  | [], l, k => tNil l (k [])
  | t :: ts, l, k => tCons l fun v r => tyT P t v fun v' => tL P ts r fun r' => k (v' :: r')
def resT (P : Program) (t : TypeId) (v : Value) (k : Value → Prop) : Prop :=
  match P.underlying t with
  | some (.tuple ts) => tTup v fun l => tL P ts.toList l fun l' => k (.tuple ⟨l'⟩)
  | _ => tyT P t v k

/-! ### The operations -/
/-- The address of a field without a size: some address. -/
def zfD (P : Program) (H : Heap) (S : TypeId) (f : Nat) (v : Value) (k : Addr → Prop) : Prop := ∃ a, readV P (Instr.fieldAt S v f) H = some (.pointer (some a)) ∧ k a
/-- Two interface values are compared; memory may be read for it. -/
def rawR (P : Program) (H : Heap) (op : BinOp) (T : TypeId) (x y : Value) (k : Bool → Prop) : Prop :=
  isIfV x = true ∧ isIfV y = true ∧ ∃ b, readV P (Op.equal T x y) H = some b ∧ (∀ (cx cy : Operand), readV P (eqGuard op T cx cy x y) H = some ()) ∧ k b
def readD (P : Program) (ev : Operand → Value) (op : Op) (H : Heap) (k : Value → Prop) : Prop :=
  match op with
  | .load T x => match ev x with
    | .pointer p => match p with
      | some a => ldD P T a H k
      | none => False
    | _ => False
  | .binOp op T x y _ => match rawIf P op T false with
    | true => rawR P H op T (ev x) (ev y) fun b => eqD op b k
    | false => match ev x with
      | .pointer p => match ev y with
        | .pointer q => match P.underlying T with
          | some (.pointer e) => match P.info? e with
            | some ie => match ie.size with
              | 0 => False
              | _ + 1 => pqD H p q fun b => eqD op b k
            | none => False
          | _ => False
        | _ => False
      | _ => False
  | .convert s d x => match P.underlying s with
    | some (.slice e) => match P.underlying e with
      | some (.int kd) => match kd with
        | .u8 => match P.underlying d with
          | some .string => match ev x with
            | .slice p n _ => bsD H p n fun s => k (.string s)
            | _ => False
          | _ => False
        | _ => False
      | _ => False
    | _ => False
  | .fieldAddr S x f => zfD P H S f (ev x) fun a => k (.pointer (some a))
  | _ => False
def boxV (P : Program) (T : TypeId) (v : Value) (H : Heap) (K : Value → Heap → Prop) : Prop :=
  partC P T v fun cs => newD H (.cells ⟨cs⟩ T) fun r H1 => K (.pointer (some ⟨r, 0, none⟩)) H1
def allocD (P : Program) (o : Oper) (ev : Operand → Value) (H : Heap) (K : Value → Heap → Prop) : Prop :=
  match o.op with
  | .box T x => boxV P T (ev x) H K
  | .alloc T => match zeroL P T with
    | some zs => newD H (.cells ⟨zs⟩ T) fun r H1 => K (.pointer (some ⟨r, 0, none⟩)) H1
    | none => False
  | .buildSlice T n parts => match P.underlying T with
    | some (.slice e) => match P.info? e with
      | some ie => match zeroL P e with
        | some zs => guardB (Nat.ble (n * ie.size) 1000 && zs.length == ie.size) (fillD P (fun i => some (i * P.cellsOf e, e)) (List.replicate n zs).flatten (parts.toList.map fun p => (p.1, ev p.2)) fun cs =>
            newD H (.cells ⟨cs⟩ e) fun r H1 => K (.slice (some ⟨r, 0, none⟩) n n) H1)
        | none => False
      | none => False
    | _ => False
  | .makeSlice T l c => match P.underlying T with
    | some (.slice e) => match P.info? e with
      | some ie => match zeroL P e with
        | some zs => match ev l with
          | .int _ l => match ev c with
            | .int _ c => guardB (zs.length == ie.size) (mkD H ie.bytes zs e l c fun r l c H1 => K (.slice (some ⟨r, 0, none⟩) l c) H1)
            | _ => False
          | _ => False
        | none => False
      | none => False
    | _ => False
  | .makeMap t r => match r with
    | none => newD H (.map #[] 0) fun r H1 => K (.map (some r)) H1
    | some _ => False
  | .convert s d x => match P.underlying s with
    | some .string => match P.underlying d with
      | some (.slice e) => match P.underlying e with
        | some (.int kd) => match kd with
          | .u8 => match ev x with
            | .string s => sbD H e s fun r c H1 => K (.slice (some ⟨r, 0, none⟩) s.size c) H1
            | _ => False
          | _ => False
        | _ => False
      | _ => False
    | _ => False
  | _ => False
def storeD (P : Program) (T : TypeId) (a : Addr) (v : Value) (H : Heap) (K : Heap → Prop) : Prop :=
  partC P T v fun cs => guardB (cs.length == P.cellsOf T && hasInfo P T) (stCs a H 0 cs K)
def appD (P : Program) (ts : List TypeId) (vs : List Value) (H : Heap) (K : Value → Heap → Prop) : Prop :=
  match ts with
  | T :: Tx :: _ => match vs with
    | v :: x :: _ => match v with
      | .slice p n c => match P.underlying T with
        | some (.slice e) => match P.info? e with
          | some ie => match zeroL P e with
            | some zs => match x with
              | .slice q m _ => match P.underlying Tx with
                | some (.slice _) => apD H ie.size ie.bytes zs e p n c q m fun p n c H1 => K (.slice p n c) H1
                | _ => False
              | .string s => match P.underlying Tx with
                | some .string => guardB (ie.size == 1 && ie.bytes == 1) (apV H 1 1 zs e p n c s.size (bytesOf s.data.toList) fun p n c H1 => K (.slice p n c) H1)
                | _ => False
              | _ => False
            | none => False
          | none => False
        | _ => False
      | _ => False
    | _ => False
  | _ => False
def copyD (P : Program) (ts : List TypeId) (vs : List Value) (H : Heap) (K : Value → Heap → Prop) : Prop :=
  match ts with
  | T :: _ => match vs with
    | v :: x :: _ => match v with
      | .slice p n _ => match P.underlying T with
        | some (.slice e) => match P.info? e with
          | some ie => match x with
            | .slice q m _ => cpD H ie.size p n q m fun l H1 => K (.int .i64 l) H1
            | _ => False
          | none => False
        | _ => False
      | _ => False
    | _ => False
  | _ => False
def callsD (P : Program) (T : TypeId) (c : Call) (ev : Operand → Value) (H : Heap) (Q : List PanicEntry → Heap → Prop) (K : Value → Heap → Prop) : Prop :=
  match c.callee with
  | .value f => match f with
    | .func g => match fnOk P g with
      | true => callD P g (c.args.toList.map ev) H Q fun v H1 => resT P T v fun v' => K v' H1
      | false => callX P g (c.args.toList.map ev) H Q fun v H1 => resT P T v fun v' => K v' H1
    | f => callV P (ev f) (c.args.toList.map ev) H Q fun v H1 => resT P T v fun v' => K v' H1
  | .invoke r name => callI P (ev r) name (c.args.toList.map ev) H Q fun v H1 => resT P T v fun v' => K v' H1
  | _ => False
def loudD (P : Program) (o : Oper) (ev : Operand → Value) (H : Heap) (K : Value → Heap → Prop) (Q : List PanicEntry → Heap → Prop) : Prop :=
  match o.op with
  | .store T a x => match ev a with
    | .pointer p => match p with
      | some a => storeD P T a (ev x) H fun H1 => K undef H1
      | none => False
    | _ => False
  | .panic x => panD (ev x) H Q
  | .call c => match c.callee with
    | .builtin b => match b with
      | .append => appD P c.argTypes.toList (c.args.toList.map ev) H K
      | .copy => copyD P c.argTypes.toList (c.args.toList.map ev) H K
      | _ => False
    | _ => callsD P o.type c ev H Q K
  | _ => allocD P o ev H K
def growD (P : Program) (o : Oper) (ev : Operand → Value) (H : Heap) (K : Value → Heap → Prop) : Prop :=
  match o.op with
  | .call c => match c.callee with
    | .builtin b => match b with
      | .append => appD P c.argTypes.toList (c.args.toList.map ev) H fun v H1 => ExtH H H1 ∧ K v H1
      | _ => False
    | _ => callsD P o.type c ev H nope fun v H1 => ExtH H H1 ∧ K v H1
  | _ => allocD P o ev H K
/-- A step of the model's own, said as it is. -/
structure valD (P : Program) (s : Sem Value) (H : Heap) (Q : List PanicEntry → Heap → Prop) (K : Value → Heap → Prop) : Prop where
  out : SemH P s H K (fun v H' => Q [{ v, recovered := false }] H')
structure uniD (P : Program) (s : Sem Unit) (H : Heap) (Q : List PanicEntry → Heap → Prop) (K : Heap → Prop) : Prop where
  out : SemH P s H (fun _ H' => K H') (fun v H' => Q [{ v, recovered := false }] H')
def okV (P : Program) (e : TypeId) (ok : Bool) (v : Value) (k : Value → Prop) : Prop :=
  match ok with
  | true => tTup v fun l => tCons l fun x l1 => tyT P e x fun x' => tCons l1 fun c l2 => tBool c fun b => tNil l2 (k (.tuple ⟨[x', .bool b]⟩))
  | false => tyT P e v k
def nextK (P : Program) (t : TypeId) (isString : Bool) (v : Value) (k : Value → Prop) : Prop :=
  tTup v fun l => tCons l fun c l1 => tBool c fun b => iteB b (match isString with
    | true => tCons l1 fun x l2 => tInt x .i64 fun i => tCons l2 fun y l3 => tInt y .i32 fun r => tNil l3 (k (.tuple ⟨[.bool true, .int .i64 i, .int .i32 r]⟩))
    | false => match P.underlying t with
      | some (.map kt et) => tCons l1 fun x l2 => tyT P kt x fun x' => tCons l2 fun y l3 => tyT P et y fun y' => tNil l3 (k (.tuple ⟨[.bool true, x', y']⟩))
      | _ => False) (tNil l1 (k (.tuple ⟨[.bool false]⟩)))
def mapElem (P : Program) (t : TypeId) (k : TypeId → Prop) : Prop := match P.underlying t with | some (.map _ e) => k e | _ => False
def heavyD (P : Program) (t : TypeId) (o : Oper) (ev : Operand → Value) (H : Heap) (K : Value → Heap → Prop) (Q : List PanicEntry → Heap → Prop) : Prop :=
  match o.op with
  | .lookup T m k ok => mapElem P T fun e => valD P (Instr.lookup T (ev m) (ev k) ok) H Q fun v H1 => okV P e ok v fun v' => K v' H1
  | .makeChan t n => valD P (Instr.makeChan t (ev n)) H Q fun v H1 => tCh v fun r => K (.chan r) H1
  | .typeAssert x xt a ok => valD P (Instr.typeAssert (ev x) xt a ok) H Q fun v H1 => okV P a ok v fun v' => K v' H1
  | .convert s d x => valD P (Go.convert s d (ev x)) H Q fun v H1 => tyT P d v fun v' => K v' H1
  | .mapUpdate T m k x => uniD P (Instr.mapUpdate T (ev m) (ev k) (ev x)) H Q fun H1 => K undef H1
  | .insert T m k x => uniD P (Instr.mapUpdate T (ev m) (ev k) (ev x)) H Q fun H1 => K undef H1
  | .mapEntry T m k => mapElem P T fun e => valD P (Instr.mapEntry T (ev m) (ev k)) H Q fun v H1 => tTup v fun l => tCons l fun x l1 => tyT P e x fun x' => tCons l1 fun c l2 => tInt c .i64 fun n => tNil l2 (K (.tuple ⟨[x', .int .i64 n]⟩) H1)
  | .entryStore T m s x => uniD P (Instr.entryStore T (ev m) (ev s) (ev x)) H Q fun H1 => K undef H1
  | .range T x => valD P (Instr.range T (ev x)) H Q fun v H1 => tPtr v fun p => K (.pointer p) H1
  | .next it s => valD P (Instr.next (ev it) s o.type) H Q fun v H1 => nextK P t s v fun v' => K v' H1
  | .entry it => match P.underlying t with
    | some (.map kt et) => valD P (Instr.entry (ev it)) H Q fun v H1 => tTup v fun l => tCons l fun x l2 => tyT P kt x fun x' => tCons l2 fun y l3 => tyT P et y fun y' => tNil l3 (K (.tuple ⟨[x', y']⟩) H1)
    | _ => False
  | .call c => match c.callee with
    | .builtin b => match b with
      | .delete => valD P (Builtin.delete_ c.argTypes o.type ⟨c.args.toList.map ev⟩) H Q fun v H1 => tTup v fun l => tNil l (K (.tuple ⟨[]⟩) H1)
      | .len => valD P (Builtin.len_ c.argTypes o.type ⟨c.args.toList.map ev⟩) H Q fun v H1 => tInt v .i64 fun n => K (.int .i64 n) H1
      | .append => valD P (Builtin.append_ c.argTypes o.type ⟨c.args.toList.map ev⟩) H Q fun v H1 => tSl v fun p n c => K (.slice p n c) H1
      | _ => False
    | _ => False
  | _ => False
def opD (P : Program) (kd : Kind) (o : Oper) (ev : Operand → Value) (H : Heap) (K : Value → Heap → Prop) (Q : List PanicEntry → Heap → Prop) : Prop :=
  match kd with
  | .pure => pureD P ev o.op fun v => K v H
  | .read => readD P ev o.op H fun v => K v H
  | .grow => growD P o ev H K
  | .loud => loudD P o ev H K Q
  | .heavy t => heavyD P t o ev H K Q
end Go.Den
