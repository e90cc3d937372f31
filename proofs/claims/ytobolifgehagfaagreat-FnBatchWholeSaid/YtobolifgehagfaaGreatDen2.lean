/- A plain reading of Go functions, proved to be what they do; no condition. -/
import Derived.Test.YtobolifgehagfaaGreatDenD
import Derived.Lib.Bytealg
import Derived.Lib.Walk
set_option linter.unusedVariables false
set_option linter.unusedSimpArgs false
set_option linter.unnecessarySimpa false
namespace Go.Den
open Go
/-! Functions without a text, interfaces compared, bytes read. -/
section
variable {P : Program} {H : Heap}
theorem callFunc_ext {f : FuncId} {fn : Func} {e : Array Value → Sem Value} {args : List Value} {v : Value} {Q : List PanicEntry → Heap → Prop} {K : Value → Heap → Prop} (hf : P.funcs[f]? = some fn) (hn : (fn.name == "runtime.NumGoroutine") = false) (hb : fn.body.isNone = true) (hx : Extern.findNext fn = none) (he : Extern.find fn = some e)
    (hr : readV P (e ⟨args⟩) H = some v) (hk : K v H) : callX P f args H Q K := by
  refine ⟨semH_of_read (a := Next.value v) ?_ (show nextH P K Q (.value v) H from hk)⟩
  have h1 : fn.name ≠ "runtime.NumGoroutine" := by simpa using hn
  have h2 : fn.body = none := by simpa using hb
  unfold callFunc
  show readV P (match P.funcs[f]? with | none => _ | some fn => _) H = _
  rw [hf]
  dsimp only
  rw [if_neg (by rw [hn]; simp), if_pos hb, readV_bind]
  show (some ()).bind _ = _
  rw [Option.bind_some, hx, he]
  dsimp only
  rw [readV_bind, hr]
  rfl
theorem readV_loadBytes : ∀ (bs : List UInt8) (a : Addr) (acc : ByteArray), (∀ j v, (bytesOf bs)[j]? = some v → hcell H (a.add j) = some v) → readV P (Extern.Bytes.loadBytes a bs.length acc) H = some ⟨acc.data ++ bs.toArray⟩ := by
  intro bs
  induction bs with
  | nil => intro a acc _; simp [Extern.Bytes.loadBytes]; rfl
  | cons b bs ih =>
    intro a acc h
    have h0 := h 0 (.int .u8 b.toNat) (by simp [bytesOf])
    have ea : a.add 0 = a := by simp [Addr.add]
    rw [ea] at h0
    simp only [List.length_cons, Extern.Bytes.loadBytes]
    rw [readV_bind]
    have e1 : readV P (load a) H = some (.int .u8 b.toNat) := by
      exact readV_load h0
    rw [e1]
    simp only [Option.bind_some]
    have := ih (a.add 1) (acc.push (b.toNat : Int).toNat.toUInt8) (fun j v hj => by
      have := h (j + 1) v (by simpa [bytesOf] using hj)
      rw [add_add', Nat.add_comm 1 j]; exact this)
    rw [this]
    have e : ((b.toNat : Int).toNat.toUInt8) = b := by simp
    rw [e]
    simp [ByteArray.push]
theorem readV_bytesOf {p : Option Addr} {n c : Nat} {s : ByteArray} (hn : s.size = n) (h : cellsAt H p (bytesOf s.data.toList)) : readV P (Extern.Bytes.bytesOf (.slice p n c)) H = some s := by
  have hl : s.data.toList.length = n := by rw [← hn]; rfl
  cases p with
  | none =>
    have h1 := cellsAt.none h
    have h2 : s.data.toList = [] := by simpa [bytesOf] using h1
    have h3 : s = ByteArray.empty := by
      obtain ⟨⟨l⟩⟩ := s
      simp at h2
      subst h2
      rfl
    subst h3
    rfl
  | some a =>
    show readV P (Extern.Bytes.loadBytes a n ByteArray.empty) H = _
    rw [← hl, readV_loadBytes s.data.toList a _ (cellsAt.some h rfl)]
    simp
/-- bytealg.Compare. -/
theorem cmpX {f : FuncId} {fn : Func} {p q : Option Addr} {n m c d : Nat} {a b : ByteArray} {Q : List PanicEntry → Heap → Prop} {K : Value → Heap → Prop} (hf : P.funcs[f]? = some fn) (hn : (fn.name == "runtime.NumGoroutine") = false) (hb : fn.body.isNone = true) (hx : Extern.findNext fn = none) (he : Extern.find fn = some Extern.BytealgCompare.compare)
    (h1 : a.size = n) (h2 : b.size = m) (ha : cellsAt H p (bytesOf a.data.toList)) (hb' : cellsAt H q (bytesOf b.data.toList)) (hk : K (.int .i64 (Lib.compareBytes a.data.toList b.data.toList)) H) : callX P f [.slice p n c, .slice q m d] H Q K := by
  refine callFunc_ext hf hn hb hx he ?_ hk
  show readV P (do pure (goInt (Extern.BytealgCompare.cmp (← Extern.Bytes.bytesOf (.slice p n c)) (← Extern.Bytes.bytesOf (.slice q m d))))) H = _
  rw [readV_bind, readV_bytesOf h1 ha]
  simp only [Option.bind_some]
  rw [readV_bind, readV_bytesOf h2 hb']
  simp only [Option.bind_some]
  rw [Lib.cmp_eq]
  rfl
/-- The bytes of a block. -/
theorem cellsAt_block {r : Nat} {s : ByteArray} {rest : List Value} {E : TypeId} {fr : Nat × Nat} (h : H[r]? = some (.cells ⟨bytesOf s.data.toList ++ rest⟩ E fr)) : cellsAt H (some ⟨r, 0, none⟩) (bytesOf s.data.toList) := by
  intro j v hj
  refine ⟨_, rfl, ?_⟩
  rw [add_mk, Nat.zero_add]
  refine hcell_of h ?_
  rw [List.getElem?_append_left]
  · exact hj
  · rcases Nat.lt_or_ge j (bytesOf s.data.toList).length with h | h
    · exact h
    · rw [List.getElem?_eq_none h] at hj; cases hj
theorem bsD_of {p : Option Addr} {n : Nat} {s : ByteArray} {k : ByteArray → Prop} (hn : s.size = n) (h : cellsAt H p (bytesOf s.data.toList)) (hk : k s) : bsD H p n k := ⟨s.data.toList, by rw [← hn]; rfl, h, by obtain ⟨⟨l⟩⟩ := s; exact hk⟩
instance {l : List HP} {r : Nat} {s : ByteArray} {rest : List Value} {E : TypeId} {fr : Nat × Nat} {k : ByteArray → Prop} [S : Sat H l] [A : At r (.cells ⟨bytesOf s.data.toList ++ rest⟩ E fr) l] : Step (bsD H (some ⟨r, 0, none⟩) s.size k) (k s) := ⟨fun h => bsD_of rfl (cellsAt_block (A.get S)) h⟩
theorem rawI_of {op : BinOp} {T t : TypeId} {ms : Array (String × TypeId)} {x y : Value} {ti : TypeInfo} {b : Bool} {k : Bool → Prop} (hT : P.underlying T = some (.interface ms)) (hi : P.info? t = some ti) (hc : ti.comparable = true) (he : ∀ w, (Op.equalIn 9999 t x y).run P w = .ok b w) (hk : k b) : rawI P op T (.iface t x) (.iface t y) k := by
  refine ⟨rfl, rfl, b, fun w => ?_, fun cx cy w => by unfold eqGuard; cases op <;> rfl, hk⟩
  rw [eq_one, Op.equalIn, Sem.run_bind, run_und hT, Result.andThen_ok]
  simp only
  rw [if_neg (by simp), Sem.run_bind]
  have e : (typeInfo t).run P w = .ok ti w := by
    show (match P.info? t with | some i => pure i | none => stuck "no such type" : Sem TypeInfo).run P w = _
    rw [hi]; rfl
  rw [e, Result.andThen_ok, if_neg (by rw [hc]; simp)]
  exact he w
theorem rawI_ne {op : BinOp} {T t u : TypeId} {ms : Array (String × TypeId)} {x y : Value} {k : Bool → Prop} (hT : P.underlying T = some (.interface ms)) (hn : t ≠ u) (hk : k false) : rawI P op T (.iface t x) (.iface u y) k := by
  refine ⟨rfl, rfl, false, fun w => ?_, fun cx cy w => by unfold eqGuard; cases op <;> rfl, hk⟩
  rw [eq_one, Op.equalIn, Sem.run_bind, run_und hT, Result.andThen_ok]
  simp only
  rw [if_pos hn]
  rfl
theorem rawI_str {op : BinOp} {T t : TypeId} {ms : Array (String × TypeId)} {x y : ByteArray} {ti : TypeInfo} {k : Bool → Prop} (hT : P.underlying T = some (.interface ms)) (hi : P.info? t = some ti) (hc : ti.comparable = true) (hu : P.underlying t = some .string) (hk : k (x == y)) : rawI P op T (.iface t (.string x)) (.iface t (.string y)) k :=
  rawI_of hT hi hc (fun w => by rw [Op.equalIn, Sem.run_bind, run_und hu]; rfl) hk
end
end Go.Den
