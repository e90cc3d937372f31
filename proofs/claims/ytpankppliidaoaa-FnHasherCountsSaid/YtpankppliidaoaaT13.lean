/- What functions of this seat do, each proved by a walk; no condition. -/
import Derived.Test.YtpankppliidaoaaT4
import Derived.Test.YtpankppliidaoaaDenC
set_option linter.unusedVariables false
namespace Go.Proofs.Ytpankppliidaoaa
open Go Go.Den Go.Proofs
/-! Key-values: read, turned into the store's, turned back. -/
structure KVr where
  k : ByteArray
  v : ByteArray
  cr : Int
  mod : Int
  ver : Int
  lease : Int
def KVr.cells (x : KVr) : List Value := [.string x.k, .string x.v, .int .i64 x.cr, .int .i64 x.mod, .int .i64 x.ver, .int .i64 x.lease]
def okKV (x : KVr) : Prop := x.k.size < 2 ^ 63 ∧ x.v.size < 2 ^ 63
/-- The block of a slice. -/
def isp (p : Option Addr) : Nat → Prop := fun i => p = some ⟨i, 0, none⟩
/-- A key-value of the store at block b, none of whose blocks is barred. -/
def KVat (H : Heap) (ban : Nat → Prop) (b : Nat) (x : KVr) : Prop := ∃ r1 c1 r2 c2, ¬ ban b ∧ ¬ ban r1 ∧ ¬ ban r2 ∧
  H[b]? = some (.cells ⟨[.slice (some ⟨r1, 0, none⟩) x.k.size c1, .int .i64 x.cr, .int .i64 x.mod, .int .i64 x.ver, .slice (some ⟨r2, 0, none⟩) x.v.size c2, .int .i64 x.lease]⟩ 144) ∧ Str H r1 x.k ∧ Str H r2 x.v
theorem KVat.chg {H H1 : Heap} {p p' : Option Addr} {b : Nat} {x : KVr} (h : KVat H (isp p) b x) (g : Grown p p' H H1) : KVat H1 (isp p') b x := by
  obtain ⟨r1, c1, r2, c2, h1, h2, h3, hb, s1, s2⟩ := h
  have lb := block_lt hb
  exact ⟨r1, c1, r2, c2, (g.same _ lb h1).2, (g.same _ s1.1 h2).2, (g.same _ s2.1 h3).2, (g.same _ lb h1).1.trans hb, s1.same g.size (g.same _ s1.1 h2).1, s2.same g.size (g.same _ s2.1 h3).1⟩
theorem KVat.chgs {H H1 : Heap} {S : Nat → Prop} {b : Nat} {x : KVr} (h : KVat H S b x) (g : Chg S H H1) : KVat H1 S b x := by
  obtain ⟨r1, c1, r2, c2, h1, h2, h3, hb, s1, s2⟩ := h
  have lb := block_lt hb
  exact ⟨r1, c1, r2, c2, h1, h2, h3, (g.same _ lb h1).trans hb, s1.same g.size (g.same _ s1.1 h2), s2.same g.size (g.same _ s2.1 h3)⟩
theorem KVat.more {H : Heap} {S S' : Nat → Prop} {b : Nat} {x : KVr} (h : KVat H S b x) (hs : ∀ i, i < H.size → S' i → S i) : KVat H S' b x := by
  obtain ⟨r1, c1, r2, c2, h1, h2, h3, hb, s1, s2⟩ := h
  exact ⟨r1, c1, r2, c2, fun k => h1 (hs _ (block_lt hb) k), fun k => h2 (hs _ s1.1 k), fun k => h3 (hs _ s2.1 k), hb, s1, s2⟩
theorem Grown.of_ext {H H1 : Heap} {p : Option Addr} (e : ExtH H H1) : Grown p p H H1 := ⟨e.size, fun i hi hp => ⟨e.block i hi, hp⟩⟩
theorem KVat.ext {H H1 : Heap} {S : Nat → Prop} {b : Nat} {x : KVr} (h : KVat H S b x) (e : ExtH H H1) : KVat H1 S b x := h.chgs (Chg.of_ext e)
theorem kvIn_ok (x : KVr) (hx : okKV x) (H : Heap) (p : Option Addr) (hp : ∀ i, p = some ⟨i, 0, none⟩ → i < H.size) : CallsH Try.prog 57 ⟨[.agg ⟨x.cells⟩]⟩ H
    (fun e H1 => ∃ b, e = .returned (.pointer (some ⟨b, 0, none⟩)) ∧ ExtH H H1 ∧ KVat H1 (isp p) b x) := by
  refine F57.calls ?_
  unfold F57.go
  have L := St.start H
  repeat (first
    | (refine St.sb L (by first | exact hx.1 | exact hx.2) ?_; intro _r _c _H _hc L)
    | (refine St.new L ?_; intro _r _H L)
    | refine St.int L 0 rfl rfl ?_
    | refine St.bool L 0 rfl rfl ?_
    | refine St.str L 0 rfl rfl ?_
    | refine St.ptr L 0 rfl rfl ?_
    | refine St.sl L 0 rfl rfl ?_
    | refine St.map L 0 rfl rfl ?_
    | refine St.ifmk L 0 rfl rfl ?_
    | refine St.ifnil L 0 rfl rfl ?_
    | refine St.ifv L 0 rfl rfl ?_
    | refine St.fnmk L 0 rfl rfl ?_
    | refine St.fnv L 0 rfl rfl ?_
    | (refine St.st L 0 rfl rfl (by first | rfl | exact isCell_IV _ | exact isCell_FV _) ?_; intro _H L)
    | refine St.int L 1 rfl rfl ?_
    | refine St.bool L 1 rfl rfl ?_
    | refine St.str L 1 rfl rfl ?_
    | refine St.ptr L 1 rfl rfl ?_
    | refine St.sl L 1 rfl rfl ?_
    | refine St.map L 1 rfl rfl ?_
    | refine St.ifmk L 1 rfl rfl ?_
    | refine St.ifnil L 1 rfl rfl ?_
    | refine St.ifv L 1 rfl rfl ?_
    | refine St.fnmk L 1 rfl rfl ?_
    | refine St.fnv L 1 rfl rfl ?_
    | (refine St.st L 1 rfl rfl (by first | rfl | exact isCell_IV _ | exact isCell_FV _) ?_; intro _H L)
    | refine St.int L 2 rfl rfl ?_
    | refine St.bool L 2 rfl rfl ?_
    | refine St.str L 2 rfl rfl ?_
    | refine St.ptr L 2 rfl rfl ?_
    | refine St.sl L 2 rfl rfl ?_
    | refine St.map L 2 rfl rfl ?_
    | refine St.ifmk L 2 rfl rfl ?_
    | refine St.ifnil L 2 rfl rfl ?_
    | refine St.ifv L 2 rfl rfl ?_
    | refine St.fnmk L 2 rfl rfl ?_
    | refine St.fnv L 2 rfl rfl ?_
    | (refine St.st L 2 rfl rfl (by first | rfl | exact isCell_IV _ | exact isCell_FV _) ?_; intro _H L)
    | refine tInt_i ?_
    | refine tBool_i ?_
    | refine tStr_i ?_
    | refine tPtr_i ?_
    | refine tSl_i ?_
    | refine tMap_i ?_
    | refine tIf_nil ?_
    | refine tIf_mk ?_
    | refine tIf_i ?_
    | refine tFn_mk ?_
    | refine tFn_i ?_
    | refine tAgg_i ?_
    | refine tTup_i ?_
    | refine tCons_i ?_
    | refine tNil_i ?_
    | refine andD_i (by assumption) ?_
    | refine nilD_i ?_)
  exact ⟨_, rfl, L.ext, _, _, _, _, L.far hp 0 rfl, L.far hp 2 rfl, L.far hp 1 rfl, (L.own 0 _ _ rfl).2, Str.of (L.own 2 _ _ rfl).2, Str.of (L.own 1 _ _ rfl).2⟩
def ptrs (bs : List Nat) : List Value := bs.map fun b => .pointer (some ⟨b, 0, none⟩)
def KVsat (H : Heap) (p : Nat → Prop) (bs : List Nat) (l : List KVr) : Prop := bs.length = l.length ∧ ∀ (i b : Nat) (x : KVr), bs[i]? = some b → l[i]? = some x → KVat H p b x
theorem wrap_i64 {i : Int} (h0 : -9223372036854775808 ≤ i) (h1 : i < 9223372036854775808) : IntKind.wrap .i64 i = i := wrap64_small h0 h1
theorem take_succ_of {α : Type} {l : List α} {i : Nat} {x : α} (h : l[i]? = some x) : l.take (i + 1) = l.take i ++ [x] := by
  rw [List.take_add_one, h]; rfl
theorem kvsIn_loop (p : Option Addr) (n c : Nat) (l : List KVr) (hn : n = l.length) (h1000 : n ≤ 1000) (hl : ∀ x ∈ l, okKV x) (H0 : Heap) (hR : RowsAt KVr.cells 6 H0 p l) :
    ∀ (d i : Nat) (q : Option Addr) (qc : Nat) (bs : List Nat) (H : Heap), i + d = n → Grow H0 Nn H [] 106 1 q i qc (ptrs bs) → KVsat H (isp q) bs (l.take i) →
      F32.L0 p n c q i qc (i : Int) H (fun e H1 => ∃ q' qc' bs', e = .returned (.slice q' n qc') ∧ Grow H0 Nn H1 [] 106 1 q' n qc' (ptrs bs') ∧ KVsat H1 (isp q') bs' l) := by
  intro d
  induction d with
  | zero =>
    intro i q qc bs H hi g hk
    refine F32.L0_step ?_
    unfold F32.L0n
    refine iteB_i (fun h => by simp at h; omega) (fun _ => ?_)
    obtain rfl : i = n := by omega
    refine ⟨q, qc, bs, rfl, g, ?_⟩
    rwa [List.take_of_length_le (by omega)] at hk
  | succ d ih =>
    intro i q qc bs H hi g hk
    refine F32.L0_step ?_
    unfold F32.L0n
    refine iteB_i (fun _ => ?_) (fun h => by simp at h; omega)
    refine (hR.ext g.st.ext).idx hn (by omega) (by omega) ?_
    intro a x hx hc
    have hxl : l[i]? = some x := hx
    refine ⟨_, at_zero hc rfl, ?_⟩
    refine ⟨_, hc 1 _ rfl, ?_⟩
    refine ⟨_, hc 2 _ rfl, ?_⟩
    refine ⟨_, hc 3 _ rfl, ?_⟩
    refine ⟨_, hc 4 _ rfl, ?_⟩
    refine ⟨_, hc 5 _ rfl, ?_⟩
    refine callD_i (kvIn_ok x (hl x (List.mem_of_getElem? hxl)) H q (fun j hj => g.lt hj)) ?_
    rintro e H1 ⟨b, rfl, E1, kb⟩
    refine tPtr_i ?_
    have g1 := g.extend E1
    -- the new element's own block
    show newD H1 _ _
    have E2 := ExtH.push H1 (.cells ⟨[.pointer (some ⟨b, 0, none⟩)]⟩ 106)
    refine ⟨[.pointer (some ⟨b, 0, none⟩)], rfl, fun j v hj => ⟨_, rfl, ?_⟩, ?_⟩
    · rw [add_mk, Nat.zero_add]
      exact hcell_of (H := H1.push _) (by rw [Array.getElem?_push, if_pos rfl]) hj
    refine Grow.app (g1.extend E2) rfl (by decide) (by omega) rfl (by decide) (by intro v hv; simp at hv; subst hv; rfl) ?_
    intro q' qc' H3 g3 G
    have e1 : IntKind.wrap .i64 ((i : Int) + (1 : Int)) = ((i + 1 : Nat) : Int) := by rw [wrap_i64 (by omega) (by omega)]; rfl
    rw [e1]
    refine ih (i + 1) q' qc' (bs ++ [b]) H3 (by omega) ?_ ?_
    · simpa [ptrs] using g3
    · rw [take_succ_of hxl]
      refine ⟨by simp [hk.1], fun j b' x' hb hx' => ?_⟩
      rcases Nat.lt_or_ge j bs.length with hj | hj
      · rw [List.getElem?_append_left hj] at hb
        rw [List.getElem?_append_left (by rw [← hk.1]; exact hj)] at hx'
        exact ((hk.2 j b' x' hb hx').ext (E1.trans E2)).chg G
      · rw [List.getElem?_append_right hj] at hb
        rw [List.getElem?_append_right (by rw [← hk.1]; exact hj), ← hk.1] at hx'
        have hj0 : j - bs.length = 0 := by
          rcases Nat.eq_zero_or_pos (j - bs.length) with h | h
          · exact h
          · rw [List.getElem?_eq_none (by simp; omega)] at hb; cases hb
        rw [hj0] at hb hx'
        simp at hb hx'
        subst hb; subst hx'
        exact (kb.ext E2).chg G
theorem kvsIn_ok (p : Option Addr) (n c : Nat) (l : List KVr) (hn : n = l.length) (h1000 : n ≤ 1000) (hl : ∀ x ∈ l, okKV x) (H : Heap) (hR : RowsAt KVr.cells 6 H p l) :
    CallsH Try.prog 32 ⟨[.slice p n c]⟩ H (fun e H1 => ∃ q qc bs, e = .returned (.slice q n qc) ∧ Grow H Nn H1 [] 106 1 q n qc (ptrs bs) ∧ KVsat H1 (isp q) bs l) := by
  refine F32.calls ?_
  unfold F32.go
  exact kvsIn_loop p n c l hn h1000 hl H hR n 0 none 0 [] H (by omega) (.nil (St.start H)) ⟨rfl, by simp⟩
theorem kvOf_ok (b : Nat) (x : KVr) (H : Heap) (p : Nat → Prop) (hk : KVat H p b x) : CallsH Try.prog 55 ⟨[.pointer (some ⟨b, 0, none⟩)]⟩ H (Gives (.agg ⟨x.cells⟩) H) := by
  obtain ⟨r1, c1, r2, c2, _, _, _, hb, s1, s2⟩ := hk
  refine F55.calls ?_
  unfold F55.go
  refine St.new (St.start H) ?_
  intro r H1 L
  have hb := L.ext.block_some hb
  have s1 := s1.ext L.ext
  have s2 := s2.ext L.ext
  repeat (first
    | (refine St.new L ?_; intro _r _H L)
    | refine St.int L 0 rfl rfl ?_
    | refine St.bool L 0 rfl rfl ?_
    | refine St.str L 0 rfl rfl ?_
    | refine St.ptr L 0 rfl rfl ?_
    | refine St.sl L 0 rfl rfl ?_
    | refine St.map L 0 rfl rfl ?_
    | refine St.ifmk L 0 rfl rfl ?_
    | refine St.ifnil L 0 rfl rfl ?_
    | refine St.ifv L 0 rfl rfl ?_
    | refine St.fnmk L 0 rfl rfl ?_
    | refine St.fnv L 0 rfl rfl ?_
    | (refine St.st L 0 rfl rfl (by first | rfl | exact isCell_IV _ | exact isCell_FV _) ?_; intro _H L)
    | refine tInt_i ?_
    | refine tBool_i ?_
    | refine tStr_i ?_
    | refine tPtr_i ?_
    | refine tSl_i ?_
    | refine tMap_i ?_
    | refine tIf_nil ?_
    | refine tIf_mk ?_
    | refine tIf_i ?_
    | refine tFn_mk ?_
    | refine tFn_i ?_
    | refine tAgg_i ?_
    | refine tTup_i ?_
    | refine tCons_i ?_
    | refine tNil_i ?_
    | refine andD_i (by assumption) ?_
    | refine nilD_i ?_)
  refine ⟨_, _, _, hcell_of hb rfl, ?_⟩
  refine bsD_i s1 ?_
  simp only [add_mk]
  refine ⟨_, _, _, hcell_of hb rfl, ?_⟩
  refine bsD_i s2 ?_
  refine ⟨_, hcell_of hb rfl, ?_⟩
  refine ⟨_, hcell_of hb rfl, ?_⟩
  refine ⟨_, hcell_of hb rfl, ?_⟩
  refine ⟨_, hcell_of hb rfl, ?_⟩
  repeat (first
    | (refine St.new L ?_; intro _r _H L)
    | refine St.int L 0 rfl rfl ?_
    | refine St.bool L 0 rfl rfl ?_
    | refine St.str L 0 rfl rfl ?_
    | refine St.ptr L 0 rfl rfl ?_
    | refine St.sl L 0 rfl rfl ?_
    | refine St.map L 0 rfl rfl ?_
    | refine St.ifmk L 0 rfl rfl ?_
    | refine St.ifnil L 0 rfl rfl ?_
    | refine St.ifv L 0 rfl rfl ?_
    | refine St.fnmk L 0 rfl rfl ?_
    | refine St.fnv L 0 rfl rfl ?_
    | (refine St.st L 0 rfl rfl (by first | rfl | exact isCell_IV _ | exact isCell_FV _) ?_; intro _H L)
    | refine tInt_i ?_
    | refine tBool_i ?_
    | refine tStr_i ?_
    | refine tPtr_i ?_
    | refine tSl_i ?_
    | refine tMap_i ?_
    | refine tIf_nil ?_
    | refine tIf_mk ?_
    | refine tIf_i ?_
    | refine tFn_mk ?_
    | refine tFn_i ?_
    | refine tAgg_i ?_
    | refine tTup_i ?_
    | refine tCons_i ?_
    | refine tNil_i ?_
    | refine andD_i (by assumption) ?_
    | refine nilD_i ?_)
  exact ⟨rfl, L.ext⟩
theorem kvsOf_loop (p : Option Addr) (n c : Nat) (bs : List Nat) (l : List KVr) (hn : n = l.length) (h1000 : n ≤ 1000) (H0 : Heap) (hR : RowsAt (fun b => [.pointer (some ⟨b, 0, none⟩)]) 1 H0 p bs) (hk : KVsat H0 (isp p) bs l) :
    ∀ (d i : Nat) (q : Option Addr) (qc : Nat) (H : Heap), i + d = n → Grow H0 Nn H [] 32 6 q i qc ((l.take i).flatMap KVr.cells) →
      F30.L0 p n c q i qc (i : Int) H (fun e H1 => ∃ q' qc', e = .returned (.slice q' n qc') ∧ Grow H0 Nn H1 [] 32 6 q' n qc' (l.flatMap KVr.cells)) := by
  intro d
  induction d with
  | zero =>
    intro i q qc H hi g
    refine F30.L0_step ?_
    unfold F30.L0n
    refine iteB_i (fun h => by simp at h; omega) (fun _ => ?_)
    have : i = n := by omega
    subst this
    rw [List.take_of_length_le (by omega)] at g
    exact ⟨q, qc, rfl, g⟩
  | succ d ih =>
    intro i q qc H hi g
    refine F30.L0_step ?_
    unfold F30.L0n
    refine iteB_i (fun _ => ?_) (fun h => by simp at h; omega)
    refine (hR.ext g.st.ext).idx (by rw [hk.1]; exact hn) (by omega) (by omega) ?_
    intro a b hb hc
    have hb' : bs[i]? = some b := hb
    have hil : i < l.length := by omega
    have hxl : l[i]? = some l[i] := List.getElem?_eq_getElem hil
    refine ⟨_, at_zero hc rfl, ?_⟩
    refine callD_i (kvOf_ok b l[i] H (isp p) ((hk.2 i b _ hb' hxl).ext g.st.ext)) ?_
    rintro e H1 ⟨rfl, E1⟩
    repeat (first
    | (refine St.new L ?_; intro _r _H L)
    | refine tInt_i ?_
    | refine tBool_i ?_
    | refine tStr_i ?_
    | refine tPtr_i ?_
    | refine tSl_i ?_
    | refine tMap_i ?_
    | refine tIf_nil ?_
    | refine tIf_mk ?_
    | refine tIf_i ?_
    | refine tFn_mk ?_
    | refine tFn_i ?_
    | refine tAgg_i ?_
    | refine tTup_i ?_
    | refine tCons_i ?_
    | refine tNil_i ?_
    | refine andD_i (by assumption) ?_
    | refine nilD_i ?_)
    have g1 := g.extend E1
    show newD H1 _ _
    have E2 := ExtH.push H1 (.cells ⟨l[i].cells⟩ 32)
    refine ⟨l[i].cells, rfl, fun j v hj => ⟨_, rfl, ?_⟩, ?_⟩
    · rw [add_mk, Nat.zero_add]
      exact hcell_of (H := H1.push _) (by rw [Array.getElem?_push, if_pos rfl]; rfl) hj
    refine Grow.app (g1.extend E2) rfl (by decide) (by omega) rfl (by decide) (by intro v hv; simp [KVr.cells] at hv; rcases hv with h | h | h | h | h | h <;> subst h <;> rfl) ?_
    intro q' qc' H3 g3 G
    have e1 : IntKind.wrap .i64 ((i : Int) + (1 : Int)) = ((i + 1 : Nat) : Int) := by rw [wrap_i64 (by omega) (by omega)]; rfl
    rw [e1]
    refine ih (i + 1) q' qc' H3 (by omega) ?_
    rw [take_succ_of hxl, List.flatMap_append]
    simpa using g3
theorem kvsOf_ok (p : Option Addr) (n c : Nat) (bs : List Nat) (l : List KVr) (hn : n = l.length) (h1000 : n ≤ 1000) (H : Heap) (hR : RowsAt (fun b => [.pointer (some ⟨b, 0, none⟩)]) 1 H p bs) (hk : KVsat H (isp p) bs l) :
    CallsH Try.prog 30 ⟨[.slice p n c]⟩ H (fun e H1 => ∃ q qc, e = .returned (.slice q n qc) ∧ ExtH H H1 ∧ RowsAt KVr.cells 6 H1 q l) := by
  refine F30.calls ?_
  unfold F30.go
  have h := kvsOf_loop p n c bs l hn h1000 H hR hk n 0 none 0 H (by omega) (.nil (St.start H))
  refine GoL.mono h ?_
  rintro e H1 ⟨q, qc, rfl, g⟩
  exact ⟨q, qc, rfl, g.st.ext, (g.rows (fun x => rfl) (by decide)).1⟩
end Go.Proofs.Ytpankppliidaoaa
