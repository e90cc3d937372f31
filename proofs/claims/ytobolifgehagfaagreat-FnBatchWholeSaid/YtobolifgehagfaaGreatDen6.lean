/- A plain reading of Go functions, proved to be what they do; no condition. -/
import Derived.Test.YtobolifgehagfaaGreatDen5
set_option linter.unusedVariables false
set_option linter.unusedSimpArgs false
set_option linter.unnecessarySimpa false
namespace Go.Den
open Go
/-! A part of memory that stays, and what is made. -/
def has (g : PH) : HP := fun h => PH.sub g h
class HasG (l : List HP) (g : outParam PH) : Prop where
  out : has g ∈ l
instance (priority := 2000) HasG.here {g : PH} {l : List HP} : HasG (has g :: l) g := ⟨List.mem_cons_self ..⟩
instance (priority := 1000) HasG.there {g : PH} {c : HP} {l : List HP} [h : HasG l g] : HasG (c :: l) g := ⟨List.mem_cons_of_mem _ h.out⟩
theorem HasG.sub {H : Heap} {l : List HP} {g : PH} (G : HasG l g) (S : Sat H l) : PH.sub g (PH.of H) := by
  obtain ⟨h, h1, h2⟩ := S.mem G.out
  exact h1.trans h2
abbrev pA (b : Nat) : Value := .pointer (some ⟨b, 0, none⟩)
abbrev aA (b : Nat) : Addr := ⟨b, 0, none⟩
theorem freshS {H H0 : Heap} {l x y : List HP} {r : Nat} {o : Obj} (S : Sat H l) (s1 : Sel (pt r o) l x) (s2 : Sel (Den.old H0) x y) : H0.size ≤ r :=
  @Sat.fresh H H0 l x y r o S ⟨s1⟩ ⟨s2⟩
def newOf (H H1 : Heap) : PH := fun b => if H.size ≤ b then H1[b]? else none
theorem sub_new {H H1 : Heap} : PH.sub (newOf H H1) (PH.of H1) := by
  intro b o e
  unfold newOf at e
  split at e
  · exact e
  · cases e
/-- What was made is added to what stays. -/
def plus (g : PH) (H H1 : Heap) : PH := PH.join g (newOf H H1)
theorem sub_plus_l {g : PH} {H H1 : Heap} : PH.sub g (plus g H H1) := by
  intro b o e
  unfold plus PH.join
  rw [e]
theorem sub_plus_r {g : PH} {H H1 : Heap} {l : List HP} [G : HasG l g] (S : Sat H l) : PH.sub (newOf H H1) (plus g H H1) := by
  intro b o e
  unfold plus PH.join
  have : g b = none := by
    cases h : g b with
    | none => rfl
    | some x =>
      have h1 := block_lt (G.sub S b x h)
      unfold newOf at e
      split at e
      · omega
      · cases e
  rw [this]
  exact e
theorem plus_has {g : PH} {H H1 : Heap} {l : List HP} (S : Sat H (has g :: l)) (E : ExtH H H1) : Sat H1 (has (plus g H H1) :: l) := by
  obtain ⟨h, h1, h2, x⟩ := S.out
  refine ⟨PH.join h (newOf H H1), ?_, ?_, x.mono ?_⟩
  · intro b o e
    unfold plus PH.join at e
    unfold PH.join
    split at e
    · rename_i o' e'
      cases e
      rw [h1 b _ e']
    · rename_i e'
      cases hb : h b with
      | none => exact e
      | some y =>
        have := block_lt (h2 b y hb)
        unfold newOf at e
        split at e
        · omega
        · cases e
  · intro b o e
    unfold PH.join at e
    split at e
    · rename_i o' e'
      cases e
      exact E.block_some (h2 b _ e')
    · exact sub_new b o e
  · intro b o e
    obtain ⟨e1, e2⟩ := PH.of_minus e
    have hl := block_lt e2
    have : PH.join h (newOf H H1) b = none := by
      unfold PH.join
      rw [e1]
      unfold newOf
      rw [if_neg (by omega)]
    rw [PH.minus_none this]
    exact E.block_some e2
theorem extOf {H H0 : Heap} {l : List HP} {g : PH} (S : Sat H l) [G : HasG l g] (h : PH.sub (PH.of H0) g) : ExtH H0 H := by
  have key : ∀ b o, H0[b]? = some o → H[b]? = some o := fun b o e => G.sub S b o (h b o e)
  refine ⟨?_, fun b hb => ?_⟩
  · rcases Nat.lt_or_ge H.size H0.size with hlt | hge
    · have := block_lt (key H.size _ (Array.getElem?_eq_getElem hlt)); omega
    · exact hge
  · rw [key b _ (Array.getElem?_eq_getElem hb), Array.getElem?_eq_getElem hb]
theorem newOf_at {H H1 : Heap} {r : Nat} {o : Obj} (h : H.size ≤ r) (e : H1[r]? = some o) : newOf H H1 r = some o := by
  unfold newOf
  rw [if_pos h]
  exact e
theorem cellsAt_ext {H H1 : Heap} {p : Option Addr} {vs : List Value} (h : cellsAt H p vs) (e : ExtH H H1) : cellsAt H1 p vs := by
  intro j v hj
  obtain ⟨a, h1, h2⟩ := h j v hj
  exact ⟨a, h1, e.cell h2⟩
theorem cellsAt_one {H : Heap} {r : Nat} {cs : List Value} {T : TypeId} {fr : Nat × Nat} (h : H[r]? = some (.cells ⟨cs⟩ T fr)) : cellsAt H (some ⟨r, 0, none⟩) cs := by
  intro j v hj
  refine ⟨_, rfl, ?_⟩
  rw [add_mk, Nat.zero_add]
  exact hcell_of h hj
theorem subExt {H H1 : Heap} {g : PH} (h : PH.sub g (PH.of H)) (e : ExtH H H1) : PH.sub g (PH.of H1) := h.trans fun b o x => e.block_some x
theorem has_nothing {H : Heap} {l : List HP} (S : Sat H l) : Sat H (has (fun _ => none) :: l) := by
  have h1 : has (fun _ => none) (fun _ => none) := fun b o e => by cases e
  have h2 : PH.sub (fun _ => none) (PH.of H) := fun b o e => by cases e
  exact ⟨fun _ => none, h1, h2, S.out.mono fun b o e => by rw [PH.minus_none rfl]; exact e⟩
def put1 (g : PH) (r : Nat) (o : Obj) : PH := fun b => if b = r then some o else g b
/-- A block of one's own is let go: it stays. -/
theorem has_put {H : Heap} {l : List HP} {g : PH} {r : Nat} {o : Obj} (S : Sat H (pt r o :: has g :: l)) : Sat H (has (put1 g r o) :: l) ∧ PH.sub g (put1 g r o) ∧ put1 g r o r = some o := by
  obtain ⟨h, h1, h2, h', h3, h4, x⟩ := S.out
  have hd : ∀ b y, h' b = some y → h b = none ∧ PH.of H b = some y := fun b y e => PH.of_minus (h4 b y e)
  refine ⟨⟨PH.join h h', ?_, ?_, x.mono ?_⟩, ?_, if_pos rfl⟩
  · intro b y e
    unfold put1 at e
    unfold PH.join
    split at e
    · rename_i hb
      subst hb
      rw [show h b = some o from h1]; exact e
    · have e2 := h3 b y e
      rw [(hd b y e2).1]; exact e2
  · intro b y e
    unfold PH.join at e
    split at e
    · rename_i y' e'
      cases e
      exact h2 b _ e'
    · exact (hd b y e).2
  · intro b y e
    obtain ⟨e1, e2⟩ := PH.of_minus e
    obtain ⟨e3, e4⟩ := PH.of_minus e2
    have : PH.join h h' b = none := by
      unfold PH.join
      rw [e3]; exact e1
    rw [PH.minus_none this]; exact e4
  · intro b y e
    unfold put1
    split
    · rename_i hb
      subst hb
      have := (hd b y (h3 b y e)).1
      rw [show h b = some o from h1] at this; cases this
    · exact e
/-! Blocks that are only looked at. -/
class Blc (H : Heap) (r : Nat) (o : outParam Obj) : Prop where
  out : H[r]? = some o
section
variable {P : Program} {H : Heap} {l : List HP} {r j : Nat} {a : Addr} {cs : List Value} {T : TypeId} {fr : Nat × Nat}
theorem blk_cell {v : Value} (L : Loca a r j) (A : Blc H r (.cells ⟨cs⟩ T fr)) (N : Nth cs j v) : hcell H a = some v := by
  rw [L.out]
  exact hcell_of A.out N.out
instance (priority := 400) {kd : IntKind} {n : Int} {K : Int → Prop} [L : Loca a r j] [A : Blc H r (.cells ⟨cs⟩ T fr)] [N : Nth cs j (.int kd n)] : Step (ldInt H a kd K) (K n) := ⟨fun h => ⟨_, blk_cell L A N, h⟩⟩
instance (priority := 400) {n : Bool} {K : Bool → Prop} [L : Loca a r j] [A : Blc H r (.cells ⟨cs⟩ T fr)] [N : Nth cs j (.bool n)] : Step (ldBool H a K) (K n) := ⟨fun h => ⟨_, blk_cell L A N, h⟩⟩
instance (priority := 400) {n : ByteArray} {K : ByteArray → Prop} [L : Loca a r j] [A : Blc H r (.cells ⟨cs⟩ T fr)] [N : Nth cs j (.string n)] : Step (ldStr H a K) (K n) := ⟨fun h => ⟨_, blk_cell L A N, h⟩⟩
instance (priority := 400) {n : Option Addr} {K : Option Addr → Prop} [L : Loca a r j] [A : Blc H r (.cells ⟨cs⟩ T fr)] [N : Nth cs j (.pointer n)] : Step (ldPtr H a K) (K n) := ⟨fun h => ⟨_, blk_cell L A N, h⟩⟩
instance (priority := 400) {p : Option Addr} {n c : Nat} {K : Option Addr → Nat → Nat → Prop} [L : Loca a r j] [A : Blc H r (.cells ⟨cs⟩ T fr)] [N : Nth cs j (.slice p n c)] : Step (ldSl H a K) (K p n c) := ⟨fun h => ⟨_, _, _, blk_cell L A N, h⟩⟩
instance (priority := 400) {K : IV → Prop} [L : Loca a r j] [A : Blc H r (.cells ⟨cs⟩ T fr)] [N : Nth cs j .nilIface] : Step (ldIf H a K) (K .nil) := ⟨fun h => ⟨.nil, blk_cell L A N, h⟩⟩
instance (priority := 400) {t : TypeId} {x : Value} {K : IV → Prop} [L : Loca a r j] [A : Blc H r (.cells ⟨cs⟩ T fr)] [N : Nth cs j (.iface t x)] : Step (ldIf H a K) (K (.mk t x)) := ⟨fun h => ⟨.mk t x, blk_cell L A N, h⟩⟩
instance (priority := 400) {i : IV} {K : IV → Prop} [L : Loca a r j] [A : Blc H r (.cells ⟨cs⟩ T fr)] [N : Nth cs j i.v] : Step (ldIf H a K) (K i) := ⟨fun h => ⟨i, blk_cell L A N, h⟩⟩
end
theorem Blc.ext {H H1 : Heap} {r : Nat} {o : Obj} (h : Blc H r o) (e : ExtH H H1) : Blc H1 r o := ⟨e.block_some h.out⟩
end Go.Den
