/- What functions of this seat do, each proved by a walk; no condition. -/
import Derived.Test.YtpankppliidaoaaT4
import Derived.Test.YtpankppliidaoaaDenF
set_option linter.unusedVariables false
set_option linter.unusedSimpArgs false
namespace Go.Proofs.Ytpankppliidaoaa
open Go Go.Den Go.Proofs
/-! A writer of pages. -/
abbrev By := List UInt8
def strs (ws : List By) : List Value := ws.map fun w => .string ⟨⟨w⟩⟩
/-- The writer of pages at pw, the writer below at b, the buffer at rb; then other blocks. -/
def pws (pw b rb : Nat) (po : Int) (P B n : Nat) (wp : Option Addr) (wn wc : Nat) (buf : List Value) (tl : List Bk) : List Bk :=
  (pw, .cells ⟨[.iface 86 (.pointer (some ⟨b, 0, none⟩)), .int .i64 po, .int .i64 P, .int .i64 n, .slice (some ⟨rb, 0, none⟩) (B + P) (B + P), .int .i64 B]⟩ 126) ::
  (b, .cells ⟨[.slice wp wn wc]⟩ 88) :: (rb, .cells ⟨buf⟩ 5) :: tl
/-- Bytes that lie in one of the other blocks. -/
def DatIn (tl : List Bk) (p : Option Addr) (d : By) : Prop := d = [] ∨ ∃ (i r o : Nat) (cs : List Value) (T : TypeId) (fr : Nat × Nat), tl[i]? = some (r, Obj.cells ⟨cs⟩ T fr) ∧ p = some ⟨r, o, none⟩ ∧ ∀ j v, (bytesOf d)[j]? = some v → cs[o + j]? = some v
theorem bytesOf_length (d : By) : (bytesOf d).length = d.length := by simp [bytesOf]
theorem bytesOf_cell {d : By} {v : Value} (h : v ∈ bytesOf d) : isCell v = true := by
  simp [bytesOf] at h; obtain ⟨a, _, rfl⟩ := h; rfl
theorem bytesOf_take (d : By) (k : Nat) : bytesOf (d.take k) = (bytesOf d).take k := by simp [bytesOf, List.map_take]
theorem bytesOf_drop (d : By) (k : Nat) : bytesOf (d.drop k) = (bytesOf d).drop k := by simp [bytesOf, List.map_drop]
theorem bytesOf_append (d e : By) : bytesOf (d ++ e) = bytesOf d ++ bytesOf e := by simp [bytesOf]
theorem DatIn.take {tl : List Bk} {p : Option Addr} {d : By} (h : DatIn tl p d) (k : Nat) : DatIn tl p (d.take k) := by
  rcases h with h | ⟨i, r, o, cs, T, fr, h1, h2, h3⟩
  · subst h; exact .inl (by simp)
  · refine .inr ⟨i, r, o, cs, T, fr, h1, h2, fun j v hj => h3 j v ?_⟩
    rw [bytesOf_take, List.getElem?_take] at hj
    split at hj
    · exact hj
    · cases hj
theorem DatIn.drop {tl : List Bk} {p : Option Addr} {d : By} (h : DatIn tl p d) {c k : Nat} (hc : d.length ≤ c) : DatIn tl (slP p k c 1) (d.drop k) := by
  rcases h with h | ⟨i, r, o, cs, T, fr, h1, h2, h3⟩
  · subst h; exact .inl (by simp)
  · by_cases hk : c = k
    · exact .inl (List.drop_of_length_le (by omega))
    · refine .inr ⟨i, r, o + k, cs, T, fr, h1, by subst h2; rw [slP_mk hk, Nat.mul_one], fun j v hj => ?_⟩
      rw [bytesOf_drop, List.getElem?_drop] at hj
      have := h3 (k + j) v hj
      rwa [show o + k + j = o + (k + j) from by omega]
theorem DatIn.read {tl : List Bk} {p : Option Addr} {d : By} (h : DatIn tl p d) {F H : Heap} {S : Nat → Prop} {l : List Bk} (L : St F S H l) (ht : ∀ i, l[i + 3]? = tl[i]?) : cellsAt H p (bytesOf d) := by
  intro j v hj
  rcases h with h | ⟨i, r, o, cs, T, fr, h1, h2, h3⟩
  · subst h; simp [bytesOf] at hj
  · subst h2
    refine ⟨_, rfl, ?_⟩
    rw [add_mk]
    exact hcell_of (L.own (i + 3) r _ (by rw [ht]; exact h1)).2 (h3 j v hj)
section
variable {F H : Heap} {S : Nat → Prop} {pw b rb : Nat} {po : Int} {P B : Nat} {wp : Option Addr} {wc : Nat} {buf : List Value} {tl : List Bk}
theorem bsD_of {p : Option Addr} {d : By} {k : ByteArray → Prop} (h : cellsAt H p (bytesOf d)) (hk : k ⟨⟨d⟩⟩) : bsD H p d.length k := ⟨d, rfl, h, hk⟩
theorem below_ok {n : Nat} {ws : List By} {p : Option Addr} {d : By} (pc : Nat) (hw : ws.length ≤ 100000) (g : Grow F S H (pws pw b rb po P B n wp ws.length wc buf tl) 9 1 wp ws.length wc (strs ws)) (hd : cellsAt H p (bytesOf d)) :
    CallsH Try.prog 99 ⟨[.pointer (some ⟨b, 0, none⟩), .slice p d.length pc]⟩ H (fun e H1 => e = .returned (.tuple ⟨[.int .i64 d.length, .nilIface]⟩) ∧
      ∃ wp' wc', Grow F S H1 (pws pw b rb po P B n wp' (ws ++ [d]).length wc' buf tl) 9 1 wp' (ws ++ [d]).length wc' (strs (ws ++ [d]))) := by
  refine F99.calls ?_
  unfold F99.go
  refine nilD_i ?_
  refine ⟨_, _, _, g.st.at_ 1 rfl rfl, ?_⟩
  refine bsD_of hd ?_
  show newD H _ _
  have E2 := ExtH.push H (.cells ⟨[.string ⟨⟨d⟩⟩]⟩ 9)
  refine ⟨[.string ⟨⟨d⟩⟩], rfl, fun j v hj => ⟨_, rfl, ?_⟩, ?_⟩
  · rw [add_mk, Nat.zero_add]
    exact hcell_of (H := H.push _) (by rw [Array.getElem?_push, if_pos rfl]) hj
  refine Grow.app (g.extend E2) rfl (by decide) (by omega) rfl (by decide) (by intro v hv; simp at hv; subst hv; rfl) ?_
  intro wp' wc' H2 g2 _
  refine nilD_i ?_
  refine g2.st1 1 rfl rfl rfl ?_
  intro H3 g3
  refine ⟨rfl, wp', wc', ?_⟩
  simpa [pws, strs] using g3
/-- What a flush hands on. -/
def fl (bs : By) : List By := if bs = [] then [] else [bs]
theorem mth86 : mthOk Try.prog 86 "Write" 99 true = true := by kernel_rfl
theorem ptr86 : ptrT Try.prog 86 = true := by kernel_rfl
theorem fnOk99 : fnOk Try.prog 99 = true := by kernel_rfl
/-- All that is known of the writer between calls. -/
structure Good (po : Int) (P B : Nat) (bs : By) (buf : List Value) : Prop where
  p0 : 0 ≤ po
  p1 : po ≤ 1073741824
  pg : 0 < P
  pg1 : P ≤ 65536
  pb : P ≤ B
  b1 : B ≤ 1048576
  len : buf.length = B + P
  has : buf.take bs.length = bytesOf bs
  le : bs.length ≤ B + P
def Room (po : Int) (P B : Nat) (bs : By) : Prop := bs.length ≤ B ∨ (0 < (po + bs.length) % P ∧ bs.length + P - (po + bs.length) % P ≤ B + P)
theorem Good.none_ {bs : By} (h : Good po P B bs buf) {po' : Int} (h0 : 0 ≤ po') (h1 : po' ≤ 1073741824) : Good po' P B [] buf :=
  ⟨h0, h1, h.pg, h.pg1, h.pb, h.b1, h.len, by simp [bytesOf], by simp⟩
theorem flush66_ok {ws : List By} {bs : By} (gd : Good po P B bs buf) (hw : ws.length ≤ 100000) (g : Grow F S H (pws pw b rb po P B bs.length wp ws.length wc buf tl) 9 1 wp ws.length wc (strs ws)) :
    CallsH Try.prog 66 ⟨[.pointer (some ⟨pw, 0, none⟩)]⟩ H (fun e H1 => (∃ N, e = .returned (.tuple ⟨[.int .i64 N, .nilIface]⟩)) ∧
      ∃ po' wp' wc', Good po' P B [] buf ∧ Grow F S H1 (pws pw b rb po' P B 0 wp' (ws ++ fl bs).length wc' buf tl) 9 1 wp' (ws ++ fl bs).length wc' (strs (ws ++ fl bs))) := by
  have hle := gd.le
  have hpg := gd.pg; have hpg1 := gd.pg1; have hb1 := gd.b1; have hp0 := gd.p0; have hp1 := gd.p1
  refine F66.calls ?_
  unfold F66.go
  refine nilD_i ?_
  simp only [add_mk, Nat.zero_add]
  refine ⟨_, g.st.at_ 0 rfl rfl, ?_⟩
  refine iteB_i (fun h => ?_) (fun h => ?_)
  · have : bs = [] := by
      cases bs with
      | nil => rfl
      | cons a r => simp at h; omega
    subst this
    refine ⟨⟨_, rfl⟩, po, wp, wc, gd, ?_⟩
    simpa [fl] using g
  have hne : bs ≠ [] := by rintro rfl; simp at h
  refine nilD_i (nilD_i (nilD_i ?_))
  simp only [add_mk, Nat.zero_add]
  refine ⟨.mk 86 _, g.st.at_ 0 rfl rfl, ?_⟩
  show ldSl H _ _
  refine ⟨_, _, _, g.st.at_ 0 rfl rfl, ?_⟩
  refine ⟨_, g.st.at_ 0 rfl rfl, ?_⟩
  refine bndD_i (by omega) (by omega) ?_
  rw [slP_zero]
  refine callI_i mth86 ptr86 fnOk99 ?_
  have hread : cellsAt H (some ⟨rb, 0, none⟩) (bytesOf bs) := by
    intro j v hj
    refine ⟨_, rfl, ?_⟩
    rw [add_mk, Nat.zero_add]
    refine g.st.at_ 2 rfl ?_
    have hb := gd.has
    rw [← hb, List.getElem?_take] at hj
    split at hj
    · exact hj
    · cases hj
  refine callD_i (below_ok (B + P) hw g hread) ?_
  rintro e H1 ⟨rfl, wp', wc', g1⟩
  repeat (first
    | (refine St.new L ?_; intro _r _H L)
    | refine tInt_i ?_
    | refine tBool_i ?_
    | refine tStr_i ?_
    | refine tPtr_i ?_
    | refine tSl_i ?_
    | refine tMap_i ?_
    | refine tIf_nil ?_
    | refine tIf_mk ?_
    | refine tIf_i ?_
    | refine tFn_mk ?_
    | refine tFn_i ?_
    | refine tAgg_i ?_
    | refine tTup_i ?_
    | refine tCons_i ?_
    | refine tNil_i ?_
    | refine andD_i (by assumption) ?_
    | refine nilD_i ?_)
  simp only [add_mk, Nat.zero_add]
  refine ⟨_, g1.st.at_ 0 rfl rfl, ?_⟩
  refine ⟨_, g1.st.at_ 0 rfl rfl, ?_⟩
  refine ⟨_, g1.st.at_ 0 rfl rfl, ?_⟩
  refine ⟨by omega, ?_⟩
  refine nilD_i ?_
  rw [add_mk, Nat.zero_add]
  refine g1.st1 0 rfl rfl rfl ?_
  intro H2 g2
  refine nilD_i ?_
  rw [add_mk, Nat.zero_add]
  refine g2.st1 0 rfl rfl rfl ?_
  intro H3 g3
  have e1 : Int.tmod (IntKind.wrap .i64 (po + (bs.length : Int))) P = (po + bs.length) % P := by
    rw [wrap64_small (by omega) (by omega), Int.tmod_eq_emod_of_nonneg (by omega)]
  rw [e1] at g3
  have q0 := Int.emod_nonneg (po + bs.length) (show (P : Int) ≠ 0 by omega)
  have q1 := Int.emod_lt_of_pos (po + bs.length) (show (0 : Int) < P by omega)
  refine ⟨⟨_, rfl⟩, (po + bs.length) % P, wp', wc', gd.none_ q0 (by omega), ?_⟩
  simpa [pws, fl, hne] using g3
theorem flush_ok {ws : List By} {bs : By} (gd : Good po P B bs buf) (hw : ws.length ≤ 100000) (g : Grow F S H (pws pw b rb po P B bs.length wp ws.length wc buf tl) 9 1 wp ws.length wc (strs ws)) :
    CallsH Try.prog 47 ⟨[.pointer (some ⟨pw, 0, none⟩)]⟩ H (fun e H1 => e = .returned .nilIface ∧
      ∃ po' wp' wc', Good po' P B [] buf ∧ Grow F S H1 (pws pw b rb po' P B 0 wp' (ws ++ fl bs).length wc' buf tl) 9 1 wp' (ws ++ fl bs).length wc' (strs (ws ++ fl bs))) := by
  refine F47.calls ?_
  unfold F47.go
  refine callD_i (flush66_ok gd hw g) ?_
  rintro e H1 ⟨⟨N, rfl⟩, po', wp', wc', h1, h2⟩
  repeat (first
    | (refine St.new L ?_; intro _r _H L)
    | refine tInt_i ?_
    | refine tBool_i ?_
    | refine tStr_i ?_
    | refine tPtr_i ?_
    | refine tSl_i ?_
    | refine tMap_i ?_
    | refine tIf_nil ?_
    | refine tIf_mk ?_
    | refine tIf_i ?_
    | refine tFn_mk ?_
    | refine tFn_i ?_
    | refine tAgg_i ?_
    | refine tTup_i ?_
    | refine tCons_i ?_
    | refine tNil_i ?_
    | refine andD_i (by assumption) ?_
    | refine nilD_i ?_)
  exact ⟨rfl, po', wp', wc', h1, h2⟩
end
end Go.Proofs.Ytpankppliidaoaa
