/- A plain reading of Go functions, proved to be what they do; no condition. -/
/- Going through a text step by step over memory in pieces: each step is found by its form. -/
import Derived.Test.YtobolifgehagfaaGreatDenH
set_option linter.unusedVariables false
set_option linter.unusedSimpArgs false
namespace Go.Den
open Go
/-- To show G it is enough to show G'. -/
class Step (G : Prop) (G' : outParam Prop) : Prop where
  go : G' → G
/-- Both; apart from 'and', so that nothing is unfolded to find it. -/
structure Duo (A B : Prop) : Prop where
  l : A
  r : B
class At (r : Nat) (o : outParam Obj) (l : List HP) : Prop where
  out : ∀ k, SatP k l → k r = some o
theorem At.of {r : Nat} {o : Obj} {l : List HP} (h : pt r o ∈ l) : At r o l := ⟨fun k x => by obtain ⟨g, h1, h2⟩ := x.mem h; exact h2 _ _ h1⟩
instance (priority := 2000) At.here {r : Nat} {o : Obj} {l : List HP} : At r o (pt r o :: l) := .of (List.mem_cons_self ..)
instance (priority := 1500) At.star {r : Nat} {o : Obj} {l m : List HP} [h : At r o m] : At r o (star m :: l) := ⟨fun k x => by obtain ⟨g, h1, h2, _⟩ := x; exact h2 _ _ (h.out g h1)⟩
instance (priority := 1000) At.there {r : Nat} {o : Obj} {c : HP} {l : List HP} [h : At r o l] : At r o (c :: l) := ⟨fun k x => h.out k x.tail⟩
theorem At.get {H : Heap} {r : Nat} {o : Obj} {l : List HP} (A : At r o l) (S : Sat H l) : H[r]? = some o := A.out _ S.out
class Put (r : Nat) (o' : Obj) (l : List HP) (l' : outParam (List HP)) : Prop where
  out : ∃ o m, Sel (pt r o) l m ∧ Sel (pt r o') l' m
instance (priority := 2000) Put.here {r : Nat} {o o' : Obj} {l : List HP} : Put r o' (pt r o :: l) (pt r o' :: l) := ⟨o, l, .here, .here⟩
instance (priority := 1000) Put.there {r : Nat} {o' : Obj} {c : HP} {l l' : List HP} [h : Put r o' l l'] : Put r o' (c :: l) (c :: l') := by
  obtain ⟨o, m, a, b⟩ := h.out
  exact ⟨o, c :: m, a.there, b.there⟩
class Nth {α : Type} (l : List α) (j : Nat) (v : outParam α) : Prop where
  out : l[j]? = some v
instance (priority := 2000) Nth.here {α : Type} {a : α} {l : List α} : Nth (a :: l) 0 a := ⟨rfl⟩
instance (priority := 1000) Nth.there {α : Type} {a v : α} {l : List α} {j : Nat} [h : Nth l j v] : Nth (a :: l) (j + 1) v := ⟨by simpa using h.out⟩
class SetN {α : Type} (l : List α) (j : Nat) (v : α) (l' : outParam (List α)) : Prop where
  out : l.set j v = l'
instance (priority := 2000) SetN.here {α : Type} {a v : α} {l : List α} : SetN (a :: l) 0 v (v :: l) := ⟨rfl⟩
instance (priority := 1000) SetN.there {α : Type} {a v : α} {l l' : List α} {j : Nat} [h : SetN l j v l'] : SetN (a :: l) (j + 1) v (a :: l') := ⟨by rw [List.set_cons_succ, h.out]⟩
class IsC (v : Value) : Prop where
  out : isCell v = true
instance {k n} : IsC (.int k n) := ⟨rfl⟩
instance {b} : IsC (.bool b) := ⟨rfl⟩
instance {b} : IsC (.string b) := ⟨rfl⟩
instance {b} : IsC (.pointer b) := ⟨rfl⟩
instance {a b c} : IsC (.slice a b c) := ⟨rfl⟩
instance {b} : IsC (.map b) := ⟨rfl⟩
instance {a b} : IsC (.iface a b) := ⟨rfl⟩
instance : IsC .nilIface := ⟨rfl⟩
instance {a b c} : IsC (.func a b c) := ⟨rfl⟩
instance : IsC .nilFunc := ⟨rfl⟩
instance {i : IV} : IsC i.v := ⟨isCell_IV i⟩
instance {i : FV} : IsC i.v := ⟨isCell_FV i⟩
/-- An address's block and place. -/
class Loca (a : Addr) (r j : outParam Nat) : Prop where
  out : a = ⟨r, j, none⟩
instance (priority := 2000) {r j : Nat} : Loca ⟨r, j, none⟩ r j := ⟨rfl⟩
instance (priority := 1900) {r k : Nat} : Loca (Addr.add ⟨r, 0, none⟩ k) r k := ⟨by rw [add_mk, Nat.zero_add]⟩
instance (priority := 1000) {a : Addr} {r i k : Nat} [h : Loca a r i] : Loca (Addr.add a k) r (i + k) := ⟨by rw [h.out, add_mk]⟩
section
variable {P : Program} {H : Heap} {l : List HP} {r j : Nat} {a : Addr} {cs : List Value} {T : TypeId} {fr : Nat × Nat}
theorem at_cell {v : Value} (S : Sat H l) (L : Loca a r j) (A : At r (.cells ⟨cs⟩ T fr) l) (N : Nth cs j v) : hcell H a = some v := by
  rw [L.out]
  exact hcell_of (A.get S) N.out
instance {kd : IntKind} {n : Int} {K : Int → Prop} [S : Sat H l] [L : Loca a r j] [A : At r (.cells ⟨cs⟩ T fr) l] [N : Nth cs j (.int kd n)] : Step (ldInt H a kd K) (K n) := ⟨fun h => ⟨_, at_cell S L A N, h⟩⟩
instance {n : Bool} {K : Bool → Prop} [S : Sat H l] [L : Loca a r j] [A : At r (.cells ⟨cs⟩ T fr) l] [N : Nth cs j (.bool n)] : Step (ldBool H a K) (K n) := ⟨fun h => ⟨_, at_cell S L A N, h⟩⟩
instance {n : ByteArray} {K : ByteArray → Prop} [S : Sat H l] [L : Loca a r j] [A : At r (.cells ⟨cs⟩ T fr) l] [N : Nth cs j (.string n)] : Step (ldStr H a K) (K n) := ⟨fun h => ⟨_, at_cell S L A N, h⟩⟩
instance {n : Option Addr} {K : Option Addr → Prop} [S : Sat H l] [L : Loca a r j] [A : At r (.cells ⟨cs⟩ T fr) l] [N : Nth cs j (.pointer n)] : Step (ldPtr H a K) (K n) := ⟨fun h => ⟨_, at_cell S L A N, h⟩⟩
instance {p : Option Addr} {n c : Nat} {K : Option Addr → Nat → Nat → Prop} [S : Sat H l] [L : Loca a r j] [A : At r (.cells ⟨cs⟩ T fr) l] [N : Nth cs j (.slice p n c)] : Step (ldSl H a K) (K p n c) := ⟨fun h => ⟨_, _, _, at_cell S L A N, h⟩⟩
instance {n : Option Nat} {K : Option Nat → Prop} [S : Sat H l] [L : Loca a r j] [A : At r (.cells ⟨cs⟩ T fr) l] [N : Nth cs j (.map n)] : Step (ldMap H a K) (K n) := ⟨fun h => ⟨_, at_cell S L A N, h⟩⟩
instance {K : IV → Prop} [S : Sat H l] [L : Loca a r j] [A : At r (.cells ⟨cs⟩ T fr) l] [N : Nth cs j .nilIface] : Step (ldIf H a K) (K .nil) := ⟨fun h => ⟨.nil, at_cell S L A N, h⟩⟩
instance {t : TypeId} {x : Value} {K : IV → Prop} [S : Sat H l] [L : Loca a r j] [A : At r (.cells ⟨cs⟩ T fr) l] [N : Nth cs j (.iface t x)] : Step (ldIf H a K) (K (.mk t x)) := ⟨fun h => ⟨.mk t x, at_cell S L A N, h⟩⟩
instance {i : IV} {K : IV → Prop} [S : Sat H l] [L : Loca a r j] [A : At r (.cells ⟨cs⟩ T fr) l] [N : Nth cs j i.v] : Step (ldIf H a K) (K i) := ⟨fun h => ⟨i, at_cell S L A N, h⟩⟩
instance {K : FV → Prop} [S : Sat H l] [L : Loca a r j] [A : At r (.cells ⟨cs⟩ T fr) l] [N : Nth cs j .nilFunc] : Step (ldFn H a K) (K .nil) := ⟨fun h => ⟨.nil, at_cell S L A N, h⟩⟩
instance {fn : Fn} {x y : Array Value} {K : FV → Prop} [S : Sat H l] [L : Loca a r j] [A : At r (.cells ⟨cs⟩ T fr) l] [N : Nth cs j (.func fn x y)] : Step (ldFn H a K) (K (.mk fn x y)) := ⟨fun h => ⟨.mk fn x y, at_cell S L A N, h⟩⟩
instance {i : FV} {K : FV → Prop} [S : Sat H l] [L : Loca a r j] [A : At r (.cells ⟨cs⟩ T fr) l] [N : Nth cs j i.v] : Step (ldFn H a K) (K i) := ⟨fun h => ⟨i, at_cell S L A N, h⟩⟩
theorem Sat.put {o' : Obj} {l' : List HP} {H1 : Heap} (S : Sat H l) (U : Put r o' l l') (u : Upd r o' H H1) : Sat H1 l' := by
  obtain ⟨o, m, a, b⟩ := U.out
  exact ((S.bring a).upd u).to (fun k x => SatP.perm b.perm.symm x)
instance {v : Value} {cs' : List Value} {l' : List HP} {u : Value} {K : Heap → Prop} [S : Sat H l] [L : Loca a r j] [A : At r (.cells ⟨cs⟩ T) l] [N : Nth cs j u] [V : SetN cs j v cs'] [C : IsC v] [U : Put r (.cells ⟨cs'⟩ T) l l'] :
    Step (st1 H a v K) (∀ H1, Sat H1 l' → K H1) := ⟨fun h => by
  rw [L.out]
  refine st1_of (A.get S) N.out C.out fun H1 u => h H1 ?_
  rw [V.out] at u
  exact S.put U u⟩
instance {o : Obj} {K : Nat → Heap → Prop} [S : Sat H l] : Step (newD H o K) (∀ r H1, Sat H1 (pt r o :: l) → K r H1) := ⟨fun h => h _ _ (S.push o)⟩
instance {bytes : Nat} {zs : List Value} {E : TypeId} {n c : Int} {K : Nat → Nat → Nat → Heap → Prop} [S : Sat H l] : Step (mkD H bytes zs E n c K) (Duo (bytes ≠ 0) (Duo (0 ≤ n) (Duo (n ≤ c) (Duo ((bytes : Int) * c ≤ 2 ^ 48) (∀ r H1, Sat H1 (pt r (.cells ⟨repZ zs c.toNat⟩ E) :: l) → K r n.toNat c.toNat H1))))) :=
  ⟨fun h => ⟨h.1, h.2.1, h.2.2.1, h.2.2.2.1, h.2.2.2.2 _ _ (S.push _)⟩⟩
instance {E : TypeId} {s : ByteArray} {K : Nat → Nat → Heap → Prop} [S : Sat H l] : Step (sbD H E s K) (Duo (s.size < 2 ^ 63) (∀ r c H1, s.size ≤ c → Sat H1 (pt r (.cells ⟨bytesOf s.data.toList ++ List.replicate (c - s.size) (.int .u8 0)⟩ E (c, c + 1)) :: l) → K r c H1)) :=
  ⟨fun h => ⟨h.1, fun cap hc => h.2 _ cap _ hc (S.push _)⟩⟩
instance {a : Addr} {k : Addr → Prop} : Step (nilD (some a) k) (k a) := ⟨id⟩
instance {X : Prop} : Step (guardB true X) X := ⟨id⟩
instance {A B : Prop} : Step (iteB true A B) A := ⟨id⟩
instance {A B : Prop} : Step (iteB false A B) B := ⟨id⟩
instance {kd : IntKind} {n : Int} {k : Int → Prop} : Step (tInt (.int kd n) kd k) (k n) := ⟨tInt_i⟩
instance {n : Bool} {k : Bool → Prop} : Step (tBool (.bool n) k) (k n) := ⟨tBool_i⟩
instance {n : ByteArray} {k : ByteArray → Prop} : Step (tStr (.string n) k) (k n) := ⟨tStr_i⟩
instance {n : Option Addr} {k : Option Addr → Prop} : Step (tPtr (.pointer n) k) (k n) := ⟨tPtr_i⟩
instance {p : Option Addr} {n c : Nat} {k : Option Addr → Nat → Nat → Prop} : Step (tSl (.slice p n c) k) (k p n c) := ⟨tSl_i⟩
instance {n : Option Nat} {k : Option Nat → Prop} : Step (tMap (.map n) k) (k n) := ⟨tMap_i⟩
instance {n : IV} {k : IV → Prop} : Step (tIf n.v k) (k n) := ⟨tIf_i⟩
instance {k : IV → Prop} : Step (tIf .nilIface k) (k .nil) := ⟨tIf_nil⟩
instance {t : TypeId} {x : Value} {k : IV → Prop} : Step (tIf (.iface t x) k) (k (.mk t x)) := ⟨tIf_mk⟩
instance {n : FV} {k : FV → Prop} : Step (tFn n.v k) (k n) := ⟨tFn_i⟩
instance {k : FV → Prop} : Step (tFn .nilFunc k) (k .nil) := ⟨fun h => ⟨.nil, rfl, h⟩⟩
instance {fn : Fn} {x y : Array Value} {k : FV → Prop} : Step (tFn (.func fn x y) k) (k (.mk fn x y)) := ⟨tFn_mk⟩
instance {l : List Value} {k : List Value → Prop} : Step (tAgg (.agg ⟨l⟩) k) (k l) := ⟨tAgg_i⟩
instance {l : List Value} {k : List Value → Prop} : Step (tTup (.tuple ⟨l⟩) k) (k l) := ⟨tTup_i⟩
instance {v : Value} {r : List Value} {k : Value → List Value → Prop} : Step (tCons (v :: r) k) (k v r) := ⟨tCons_i⟩
instance {K : Prop} : Step (tNil [] K) K := ⟨tNil_i⟩
instance {K : Value → Heap → Prop} {Q : List PanicEntry → Heap → Prop} {v : Value} : Step (retK K Q (.returned v) H) (K v H) := ⟨id⟩
instance {A B : Prop} : Step (andD A B) (Duo A B) := ⟨fun h => ⟨h.1, h.2⟩⟩
/-- A place in a slice. -/
instance {a : Addr} {n : Nat} {i : Int} {k : Addr → Prop} : Step (idxD (some a) n i k) (Duo (0 ≤ i ∧ i < n) (k a)) := ⟨fun h => ⟨h.1.1, h.1.2, h.2⟩⟩
instance {n : Nat} {i : Int} {k : Prop} : Step (idxA n i k) (Duo (0 ≤ i ∧ i < n) k) := ⟨fun h => ⟨h.1.1, h.1.2, h.2⟩⟩
instance {i : Int} {y : Nat} {k : Nat → Prop} : Step (bndD i y k) (Duo (0 ≤ i ∧ i ≤ y) (k i.toNat)) := ⟨fun h => ⟨h.1.1, h.1.2, h.2⟩⟩
instance {b : Int} {k : Prop} : Step (divD b k) (Duo (b ≠ 0) k) := ⟨fun h => ⟨h.1, h.2⟩⟩
instance {b : Int} {k : Prop} : Step (shD b k) (Duo (0 ≤ b) k) := ⟨fun h => ⟨h.1, h.2⟩⟩
end
/-- What a call gives back, and the heap behind it. -/
theorem call_of {P : Program} {f : FuncId} {args : List Value} {H : Heap} {S : Ending → Heap → Prop} {Q : List PanicEntry → Heap → Prop} {K : Value → Heap → Prop} (hc : CallsH P f ⟨args⟩ H S) (k : ∀ e H1, S e H1 → retK K Q e H1) : callD P f args H Q K := CallsH.mono hc k
end Go.Den
