/- A plain reading of Go functions, proved to be what they do; no condition. -/
/- Calls through an interface. -/
import Derived.Test.YtobolifgehagfaaGreatDenC
set_option linter.unusedVariables false
set_option linter.unusedSimpArgs false
namespace Go.Den
open Go
/-- The type's own method of that name is function f; pr: it takes the pointer. -/
def mthOk (P : Program) (t : TypeId) (name : String) (f : FuncId) (pr : Bool) : Bool :=
  match P.info? t with
  | some i => match i.methods.find? (fun m => m.name == name) with
    | some m => match m.func with
      | some (g, b) => m.path.isEmpty && (g == f) && (b == pr)
      | none => false
    | none => false
  | none => false
def ptrT (P : Program) (t : TypeId) : Bool := match P.underlying t with | some (.pointer _) => true | _ => false
section
variable {P : Program} {H : Heap}
theorem SemH_typeInfo {t : TypeId} {i : TypeInfo} (hi : P.info? t = some i) {H : Heap} {K : TypeInfo → Heap → Prop} {Q : Value → Heap → Prop} : SemH P (typeInfo t) H K Q = K i H := by
  show SemH P (match P.info? t with | some d => pure d | none => stuck "no such type") H K Q = _
  rw [hi]; rfl
theorem SemH_underlying {t : TypeId} {d : TypeDesc} (hu : P.underlying t = some d) {H : Heap} {K : TypeDesc → Heap → Prop} {Q : Value → Heap → Prop} : SemH P (underlying t) H K Q = K d H := by
  show SemH P (match P.underlying t with | some d => pure d | none => stuck "no such type") H K Q = _
  rw [hu]; rfl
theorem methodH_ptr {t : TypeId} {x : Value} {name : String} {f : FuncId} (hm : mthOk P t name f true = true) (hp : ptrT P t = true) (n : Nat) (H : Heap) (K : FuncId × Value → Heap → Prop) (Q : Value → Heap → Prop) (hk : K (f, x) H) :
    SemH P (method (n + 1) t x name) H K Q := by
  unfold mthOk at hm
  unfold ptrT at hp
  split at hm
  · rename_i i hi
    split at hm
    · rename_i m hf
      split at hm
      · rename_i g b hg
        simp only [Bool.and_eq_true, beq_iff_eq] at hm
        obtain ⟨⟨h1, rfl⟩, rfl⟩ := hm
        split at hp
        · rename_i e hu
          have hpath : m.path = #[] := by simpa using h1
          rw [method, SemH_bind, SemH_typeInfo hi]
          simp only [hf, hpath, hg]
          rw [SemH_bind]
          rw [follow, SemH_pure]
          rw [SemH_bind]
          unfold receiverAt
          rw [SemH_bind, SemH_underlying hu]
          exact hk
        · cases hp
      · cases hm
    · cases hm
  · cases hm
theorem callI_i {t : TypeId} {x : Value} {name : String} {f : FuncId} {args : List Value} {Q : List PanicEntry → Heap → Prop} {K : Value → Heap → Prop} (hm : mthOk P t name f true = true) (hp : ptrT P t = true) (hf : fnOk P f = true)
    (k : callD P f (x :: args) H Q K) : callI P (.iface t x) name args H Q K :=
  ⟨t, x, f, x, rfl, fun K' Q' h => by
    have : P.types.size + Made.depth = (P.types.size + 99) + 1 := rfl
    rw [this]
    exact methodH_ptr hm hp _ H K' Q' h, hf, k⟩
theorem mthOk_get {t : TypeId} {name : String} {f : FuncId} {pr : Bool} (hm : mthOk P t name f pr = true) : ∃ i m, P.info? t = some i ∧ i.methods.find? (fun m => m.name == name) = some m ∧ m.path = #[] ∧ m.func = some (f, pr) := by
  unfold mthOk at hm
  split at hm
  · rename_i i hi
    split at hm
    · rename_i m hf
      split at hm
      · rename_i g b hg
        simp only [Bool.and_eq_true, beq_iff_eq] at hm
        obtain ⟨⟨h1, rfl⟩, rfl⟩ := hm
        exact ⟨i, m, hi, hf, by simpa using h1, hg⟩
      · cases hm
    · cases hm
  · cases hm
/-- A method of a value, called through a pointer: the value is read. -/
theorem callI_at {t e : TypeId} {a : Addr} {name : String} {f : FuncId} {args : List Value} {Q : List PanicEntry → Heap → Prop} {K : Value → Heap → Prop} (hm : mthOk P t name f false = true) (hp : P.underlying t = some (.pointer e)) (hf : fnOk P f = true)
    (k : ldD P e a H fun v => callD P f (v :: args) H Q K) : callI P (.iface t (.pointer (some a))) name args H Q K := by
  obtain ⟨v, hv, k⟩ := ldD.spec k
  refine ⟨t, _, f, v, rfl, fun K' Q' h => ?_, hf, k⟩
  have e1 : P.types.size + Made.depth = (P.types.size + 99) + 1 := rfl
  rw [e1]
  obtain ⟨i, m, hi, hfd, hpath, hg⟩ := mthOk_get hm
  rw [method, SemH_bind, SemH_typeInfo hi]
  simp only [hfd, hpath, hg]
  rw [SemH_bind, follow, SemH_pure, SemH_bind]
  unfold receiverAt
  rw [SemH_bind, SemH_underlying hp]
  show SemH P (Builtin.ssaWrapNilChk_ #[t] t #[.pointer (some a), strVal "", strVal ((name.splitOn ".").getLastD name)] >>= fun ptr => asAddr ptr >>= fun b => loadVar e b) H _ _
  rw [SemH_bind]
  show SemH P (pure (.pointer (some a)) : Sem Value) H _ _
  rw [SemH_pure, SemH_bind]
  show SemH P (pure a : Sem Addr) H _ _
  rw [SemH_pure]
  exact semH_of_read hv h
/-- A method of a value. -/
theorem callI_v {t : TypeId} {d : TypeDesc} {x : Value} {name : String} {f : FuncId} {args : List Value} {Q : List PanicEntry → Heap → Prop} {K : Value → Heap → Prop} (hm : mthOk P t name f false = true) (hp : P.underlying t = some d) (hd : ∀ e, d ≠ .pointer e) (hf : fnOk P f = true)
    (k : callD P f (x :: args) H Q K) : callI P (.iface t x) name args H Q K := by
  refine ⟨t, x, f, x, rfl, fun K' Q' h => ?_, hf, k⟩
  have e1 : P.types.size + Made.depth = (P.types.size + 99) + 1 := rfl
  rw [e1]
  obtain ⟨i, m, hi, hfd, hpath, hg⟩ := mthOk_get hm
  rw [method, SemH_bind, SemH_typeInfo hi]
  simp only [hfd, hpath, hg]
  rw [SemH_bind, follow, SemH_pure, SemH_bind]
  unfold receiverAt
  rw [SemH_bind, SemH_underlying hp]
  cases d <;> first | (exact (hd _ rfl).elim) | exact h
end
/-! ### More on footprints -/
section
variable {F H H1 : Heap} {S S' : Nat → Prop} {l l' : List Bk}
/-- Listed blocks have turned to what l' says. -/
theorem St.renew (L : St F S H l) (h : Chg S' H H1) (hs : ∀ i, S' i → S i ∨ F.size ≤ i) (hl : l'.map (·.1) = l.map (·.1)) (hl' : ∀ (i r : Nat) (o : Obj), l'[i]? = some (r, o) → H1[r]? = some o) : St F S H1 l' := by
  have key : ∀ (i : Nat) (x : Bk), l'[i]? = some x → ∃ y, l[i]? = some y ∧ y.1 = x.1 := by
    intro i x hi
    have := congrArg (fun m => m[i]?) hl
    simp only [List.getElem?_map, hi, Option.map_some] at this
    cases hy : l[i]? with
    | none => rw [hy] at this; cases this
    | some y => rw [hy] at this; simp at this; exact ⟨y, rfl, this.symm⟩
  refine ⟨⟨Nat.le_trans L.chg.size h.size, fun i hi hn => (h.same i (Nat.lt_of_lt_of_le hi L.chg.size) (fun hh => by rcases hs i hh with h1 | h1 <;> first | exact hn h1 | omega)).trans (L.chg.same i hi hn)⟩, fun i r o hi => ?_, fun i j x y hi hj he => ?_⟩
  · obtain ⟨y, hy, he⟩ := key i _ hi
    refine ⟨?_, hl' i r o hi⟩
    have := (L.own i y.1 y.2 hy).1
    rwa [he] at this
  · obtain ⟨x', hx, ex⟩ := key i x hi
    obtain ⟨y', hy, ey⟩ := key j y hj
    exact L.apart i j x' y' hx hy (by rw [ex, ey, he])
variable {b b' : List Bk} {E : TypeId} {z : Nat} {p : Option Addr} {n c : Nat} {vs : List Value}
theorem Grow.renew (g : Grow F S H b E z p n c vs) (h : Chg S' H H1) (hs : ∀ i, S' i → S i ∨ F.size ≤ i) (hp : ∀ i, S' i → p ≠ some ⟨i, 0, none⟩) (hl : b'.map (·.1) = b.map (·.1)) (hl' : ∀ (i r : Nat) (o : Obj), b'[i]? = some (r, o) → H1[r]? = some o) : Grow F S H1 b' E z p n c vs := by
  cases g with
  | nil L => exact .nil (L.renew h hs hl hl')
  | mk L h1 h2 h3 =>
    rename_i r sp
    refine .mk (L.renew h hs (by simp [hl]) ?_) h1 h2 h3
    intro i r' o hi
    cases i with
    | zero =>
      simp at hi
      obtain ⟨rfl, rfl⟩ := hi
      exact h.block (fun hh => hp _ hh rfl) (L.own 0 _ _ rfl).2
    | succ i => exact hl' i r' o (by simpa using hi)
theorem Grow.push (g : Grow F S H b E z p n c vs) (o : Obj) : Grow F S (H.push o) ((H.size, o) :: b) E z p n c vs := by
  cases g with
  | nil L => exact .nil (L.push o)
  | mk L h1 h2 h3 =>
    rename_i r sp
    have L2 := L.push o
    refine .mk ⟨L2.chg, ?_, ?_⟩ h1 h2 h3
    · intro i r' ob hi
      match i with
      | 0 => exact L2.own 1 r' ob (by simpa using hi)
      | 1 => exact L2.own 0 r' ob (by simpa using hi)
      | i + 2 => exact L2.own (i + 2) r' ob (by simpa using hi)
    · intro i j x y hi hj he
      have sw : ∀ (i : Nat) (x : Bk), ((r, Obj.cells ⟨vs ++ sp⟩ E) :: (H.size, o) :: b)[i]? = some x → ∃ k, ((H.size, o) :: (r, Obj.cells ⟨vs ++ sp⟩ E) :: b)[k]? = some x ∧ (match i with | 0 => k = 1 | 1 => k = 0 | i + 2 => k = i + 2) := by
        intro i x hi
        match i with
        | 0 => exact ⟨1, by simpa using hi, rfl⟩
        | 1 => exact ⟨0, by simpa using hi, rfl⟩
        | i + 2 => exact ⟨i + 2, by simpa using hi, rfl⟩
      obtain ⟨a, ha, ea⟩ := sw i x hi
      obtain ⟨d, hd, ed⟩ := sw j y hj
      have had := L2.apart a d x y ha hd he
      subst had
      match i, j with
      | 0, 0 => rfl
      | 0, 1 => simp at ea ed; omega
      | 0, j + 2 => simp at ea ed; omega
      | 1, 0 => simp at ea ed; omega
      | 1, 1 => rfl
      | 1, j + 2 => simp at ea ed; omega
      | i + 2, 0 => simp at ea ed; omega
      | i + 2, 1 => simp at ea ed; omega
      | i + 2, j + 2 => simp at ea ed; omega
theorem Grow.new (g : Grow F S H b E z p n c vs) {o : Obj} {K : Nat → Heap → Prop} (k : ∀ r H1, r = H.size → ExtH H H1 → Grow F S H1 ((r, o) :: b) E z p n c vs → K r H1) : newD H o K := k _ _ rfl (ExtH.push _ _) (g.push o)
end
end Go.Den
namespace Go.Den
open Go
section
variable {F H H1 : Heap} {S : Nat → Prop} {b : List Bk} {E : TypeId} {z : Nat} {p : Option Addr} {n c : Nat} {vs : List Value}
/-- A listed block beside the growing slice turns. -/
theorem Grow.upd (g : Grow F S H b E z p n c vs) (i : Nat) {r : Nat} {o o' : Obj} (hi : b[i]? = some (r, o)) (u : Upd r o' H H1) : Grow F S H1 (b.set i (r, o')) E z p n c vs := by
  cases g with
  | nil L => exact .nil (L.upd i hi u)
  | mk L h1 h2 h3 =>
    refine .mk ?_ h1 h2 h3
    have := L.upd (i + 1) (by simpa using hi) u
    simpa using this
theorem Grow.st1 (g : Grow F S H b E z p n c vs) (i : Nat) {r : Nat} {cs : List Value} {T : TypeId} {j : Nat} {u v : Value} {K : Heap → Prop} (hi : b[i]? = some (r, .cells ⟨cs⟩ T)) (hj : cs[j]? = some u) (hv : isCell v = true)
    (k : ∀ H1, Grow F S H1 (b.set i (r, .cells ⟨cs.set j v⟩ T)) E z p n c vs → K H1) : Den.st1 H ⟨r, j, none⟩ v K :=
  st1_of (g.st.own i r _ hi).2 hj hv fun H1 u => k H1 (g.upd i hi u)
theorem Grow.stCs (i : Nat) {r : Nat} {T : TypeId} {o : Nat} {K : Heap → Prop} : ∀ (us : List Value) (t : Nat) (H : Heap) (b : List Bk) (cs : List Value), Grow F S H b E z p n c vs → b[i]? = some (r, .cells ⟨cs⟩ T) → (∀ v ∈ us, isCell v = true) → o + t + us.length ≤ cs.length →
    (∀ H1, Grow F S H1 (b.set i (r, .cells ⟨cs.take (o + t) ++ us ++ cs.drop (o + t + us.length)⟩ T)) E z p n c vs → K H1) → Den.stCs ⟨r, o, none⟩ H t us K := by
  intro us
  induction us with
  | nil =>
    intro t H b cs g hi _ hl k
    have h := k H
    simp only [List.append_nil, List.length_nil, Nat.add_zero, List.take_append_drop] at h
    refine h ?_
    have : b.set i (r, .cells ⟨cs⟩ T) = b := by
      refine List.ext_getElem? fun j => ?_
      rw [List.getElem?_set]
      split
      · rename_i hij
        subst hij
        split
        · exact hi.symm
        · rename_i h; rw [List.getElem?_eq_none (by omega)] at hi; cases hi
      · rfl
    rw [this]; exact g
  | cons v us ih =>
    intro t H b cs g hi hc hl k
    simp only [Den.stCs]
    have hlt : o + t < cs.length := by simp at hl; omega
    rw [add_mk]
    refine g.st1 i hi (List.getElem?_eq_getElem hlt) (hc v (List.mem_cons_self ..)) ?_
    intro H1 g1
    have hil : i < b.length := by
      rcases Nat.lt_or_ge i b.length with h | h
      · exact h
      · rw [List.getElem?_eq_none h] at hi; cases hi
    refine ih (t + 1) H1 _ (cs.set (o + t) v) g1 (by simp [hil]) (fun v hv => hc v (List.mem_cons_of_mem _ hv)) (by simp at hl ⊢; omega) ?_
    intro H2 g2
    refine k H2 ?_
    have e : (cs.set (o + t) v).take (o + (t + 1)) ++ us ++ (cs.set (o + t) v).drop (o + (t + 1) + us.length) = cs.take (o + t) ++ (v :: us) ++ cs.drop (o + t + (v :: us).length) := by
      rw [show o + (t + 1) = o + t + 1 from by omega, List.take_add_one, List.take_set_of_le (by omega)]
      simp only [List.getElem?_set_self hlt, Option.toList_some]
      rw [List.drop_set_of_lt (by omega)]
      simp only [List.append_assoc, List.singleton_append, List.cons_append, List.nil_append, List.length_cons, List.append_cancel_left_eq]
      rw [show o + t + 1 + us.length = o + t + (us.length + 1) from by omega]
    rw [e] at g2
    rwa [List.set_set] at g2
end
theorem slP_zero {p : Option Addr} {m z : Nat} : slP p 0 m z = p := by
  unfold slP
  split
  · rfl
  · cases p with
    | none => rfl
    | some a => simp [add_zero']
end Go.Den
namespace Go.Den
open Go
section
variable {F H H1 : Heap} {S T : Nat → Prop} {b b' : List Bk} {E : TypeId} {z : Nat} {p p' : Option Addr} {n n' c c' : Nat} {vs vs' : List Value}
theorem St.rebase {l : List Bk} (L : St F S H l) (T : Nat → Prop) (h : ∀ (i r : Nat) (o : Obj), l[i]? = some (r, o) → T r) : St H T H l := ⟨Chg.refl, fun i r o hi => ⟨.inl (h i r o hi), (L.own i r o hi).2⟩, L.apart⟩
theorem St.unbase {l l' : List Bk} (L : St F S H l) (L' : St H T H1 l') (hT : ∀ i, T i → S i ∨ F.size ≤ i) : St F S H1 l' := by
  refine ⟨⟨Nat.le_trans L.chg.size L'.chg.size, fun i hi hn => (L'.chg.same i (Nat.lt_of_lt_of_le hi L.chg.size) (fun h => by rcases hT i h with h | h <;> first | exact hn h | omega)).trans (L.chg.same i hi hn)⟩, fun i r o hi => ?_, L'.apart⟩
  obtain ⟨h1, h2⟩ := L'.own i r o hi
  refine ⟨?_, h2⟩
  rcases h1 with h1 | h1
  · exact hT r h1
  · exact .inr (Nat.le_trans L.chg.size h1)
theorem Grow.rebase (g : Grow F S H b E z p n c vs) (T : Nat → Prop) (hp : ∀ i, p = some ⟨i, 0, none⟩ → T i) (h : ∀ (i r : Nat) (o : Obj), b[i]? = some (r, o) → T r) : Grow H T H b E z p n c vs := by
  cases g with
  | nil L => exact .nil (L.rebase T h)
  | mk L h1 h2 h3 =>
    refine .mk (L.rebase T ?_) h1 h2 h3
    intro i r o hi
    cases i with
    | zero => simp at hi; exact hp r (by rw [hi.1])
    | succ i => exact h i r o (by simpa using hi)
theorem Grow.unbase (g : Grow F S H b E z p n c vs) (g' : Grow H T H1 b' E z p' n' c' vs') (hT : ∀ i, T i → S i ∨ F.size ≤ i) : Grow F S H1 b' E z p' n' c' vs' := by
  cases g' with
  | nil L => exact .nil (g.st.unbase L hT)
  | mk L h1 h2 h3 => exact .mk (g.st.unbase L hT) h1 h2 h3
theorem Grow.apart (g : Grow F S H b E z p n c vs) {r : Nat} (hp : p = some ⟨r, 0, none⟩) {i r' : Nat} {o : Obj} (hi : b[i]? = some (r', o)) : r' ≠ r := by
  cases g with
  | nil L => cases hp
  | mk L h1 h2 h3 =>
    injection hp with hp
    injection hp with hp
    subst hp
    exact L.ne (i := i + 1) (j := 0) (by simpa using hi) rfl (by omega)
theorem Grow.tail {x : Bk} (g : Grow F S H (x :: b) E z p n c vs) : Grow F S H b E z p n c vs := by
  cases g with
  | nil L => exact .nil L.tail
  | mk L h1 h2 h3 =>
    rename_i r sp
    have sw : ∀ (i : Nat) (y : Bk), ((r, Obj.cells ⟨vs ++ sp⟩ E) :: b)[i]? = some y → ((r, Obj.cells ⟨vs ++ sp⟩ E) :: x :: b)[if i = 0 then 0 else i + 1]? = some y := by
      intro i y hi
      cases i with
      | zero => simpa using hi
      | succ i => simpa using hi
    refine .mk ⟨L.chg, fun i r o hi => L.own _ r o (sw i _ hi), fun i j y w hi hj he => ?_⟩ h1 h2 h3
    have := L.apart _ _ y w (sw i y hi) (sw j w hj) he
    split at this <;> split at this <;> omega
/-- What the slice's block, and the listed ones, come from. -/
theorem Grow.all (g : Grow F S H b E z p n c vs) : (∀ i, p = some ⟨i, 0, none⟩ → S i ∨ F.size ≤ i) ∧ ∀ (i r : Nat) (o : Obj), b[i]? = some (r, o) → S r ∨ F.size ≤ r :=
  ⟨fun i h => g.from_ h, fun i r o hi => (g.st.own i r o hi).1⟩
end
end Go.Den
namespace Go.Den
open Go
/-- Two slices that grow side by side: the one outlives the other's growth. -/
theorem Grow.beside {F H H1 : Heap} {S : Nat → Prop} {E : TypeId} {z : Nat} {p k k' : Option Addr} {n c : Nat} {vs : List Value} (g : Grow F S H [] E z p n c vs) (ch : Chg S F H1) (G : Grown k k' H H1) (hne : ∀ i, p = some ⟨i, 0, none⟩ → k ≠ some ⟨i, 0, none⟩) :
    Grow F S H1 [] E z p n c vs ∧ ∀ i, p = some ⟨i, 0, none⟩ → k' ≠ some ⟨i, 0, none⟩ := by
  cases g with
  | nil L => exact ⟨.nil ⟨ch, by simp, by simp⟩, fun i h => by cases h⟩
  | mk L h1 h2 h3 =>
    rename_i r sp
    have hr := (L.own 0 _ _ rfl)
    have sm := G.same r (block_lt hr.2) (hne r rfl)
    refine ⟨.mk ⟨ch, fun i r' o hi => ?_, fun i j x y hi hj _ => ?_⟩ h1 h2 h3, fun i h => ?_⟩
    · cases i with
      | zero => simp at hi; obtain ⟨rfl, rfl⟩ := hi; exact ⟨hr.1, sm.1.trans hr.2⟩
      | succ i => simp at hi
    · cases i with
      | zero => cases j with
        | zero => rfl
        | succ j => simp at hj
      | succ i => simp at hi
    · injection h with h; injection h with h; subst h; exact sm.2
end Go.Den
