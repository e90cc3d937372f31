/- What functions of this seat do, each proved by a walk; no condition. -/
import Derived.Test.YtpankppliidaoaaT16
import Derived.Test.YtpankppliidaoaaDenY
set_option linter.unusedVariables false
set_option linter.unusedSimpArgs false
namespace Go.Proofs.Ytpankppliidaoaa
open Go Go.Den Go.Proofs
def keptL (pr : KVr → Bool) (l : List KVr) : List KVr := l.filter fun x => !pr x
def sieveL (mm xm mc xc : Int) (l : List KVr) : List KVr := keptL (cMin mc) (keptL (cMax xc) (keptL (pMin mm) (keptL (pMax xm) l)))
theorem kept_snd (pr : KVr → Bool) (bl : List PB) : (kept pr bl).map (·.2) = keptL pr (bl.map (·.2)) := by
  unfold kept keptL
  rw [List.filter_map]
  rfl
theorem sieve_snd (mm xm mc xc : Int) (bl : List PB) : (sieve mm xm mc xc bl).map (·.2) = sieveL mm xm mc xc (bl.map (·.2)) := by
  unfold sieve sieveL
  simp only [kept_snd]
theorem sieve_mem {mm xm mc xc : Int} {bl : List PB} {y : PB} (h : y ∈ sieve mm xm mc xc bl) : y ∈ bl := kept_mem (kept_mem (kept_mem (kept_mem h)))
theorem filtered_ok (p : Option Addr) (n c : Nat) (l : List KVr) (hn : n = l.length) (h1000 : n ≤ 1000) (hl : ∀ x ∈ l, okKV x)
    (r0 : Int) (r1 r2 r3 : ByteArray) (r4 r5 r6 r7 r8 mm xm mc xc : Int) (b13 b14 b15 b16 b17 : Bool) (p18 : Option Addr) (n18 c18 : Nat) (p19 : Option Addr) (n19 c19 : Nat) (p20 : Option Addr) (n20 c20 : Nat) (h1 : r1.size < 2 ^ 63) (h2 : r2.size < 2 ^ 63) (H : Heap) (hR : RowsAt KVr.cells 6 H p l) :
    CallsH Try.prog 11 ⟨[.slice p n c, .agg ⟨[.int .i64 r0, .string r1, .string r2, .string r3, .int .i64 r4, .int .i64 r5, .int .i64 r6, .int .i64 r7, .int .i64 r8, .int .i64 mm, .int .i64 xm, .int .i64 mc, .int .i64 xc, .bool b13, .bool b14, .bool b15, .bool b16, .bool b17, .slice p18 n18 c18, .slice p19 n19 c19, .slice p20 n20 c20]⟩]⟩ H
      (fun e H1 => ∃ q qc, e = .returned (.slice q (sieveL mm xm mc xc l).length qc) ∧ ExtH H H1 ∧ RowsAt KVr.cells 6 H1 q (sieveL mm xm mc xc l)) := by
  refine F11.calls ?_
  unfold F11.go
  have L := St.start H
  refine St.new L ?_
  intro r H1 L
  have E1 := L.ext
  repeat (first
    | (refine St.new L ?_; intro _r _H L)
    | refine St.int L 0 rfl rfl ?_
    | refine St.bool L 0 rfl rfl ?_
    | refine St.str L 0 rfl rfl ?_
    | refine St.ptr L 0 rfl rfl ?_
    | refine St.sl L 0 rfl rfl ?_
    | refine St.map L 0 rfl rfl ?_
    | refine St.ifmk L 0 rfl rfl ?_
    | refine St.ifnil L 0 rfl rfl ?_
    | refine St.ifv L 0 rfl rfl ?_
    | refine St.fnmk L 0 rfl rfl ?_
    | refine St.fnv L 0 rfl rfl ?_
    | (refine St.st L 0 rfl rfl (by first | rfl | exact isCell_IV _ | exact isCell_FV _) ?_; intro _H L)
    | refine tInt_i ?_
    | refine tBool_i ?_
    | refine tStr_i ?_
    | refine tPtr_i ?_
    | refine tSl_i ?_
    | refine tMap_i ?_
    | refine tIf_nil ?_
    | refine tIf_mk ?_
    | refine tIf_i ?_
    | refine tFn_mk ?_
    | refine tFn_i ?_
    | refine tAgg_i ?_
    | refine tTup_i ?_
    | refine tCons_i ?_
    | refine tNil_i ?_
    | refine andD_i (by assumption) ?_
    | refine nilD_i ?_)
  refine callD_i (kvsIn_ok p n c l hn h1000 hl H1 (hR.ext E1)) ?_
  rintro e H2 ⟨q, qc, bs, rfl, g, hk⟩
  refine tSl_i ?_
  refine andD_i g.st.ext ?_
  refine callD_i (rangeIn_ok r0 r1 r2 r3 r4 r5 r6 r7 r8 mm xm mc xc b13 b14 b15 b16 b17 p18 n18 c18 p19 n19 c19 p20 n20 c20 h1 h2 H2) ?_
  rintro e H3 ⟨rq, rfl, E3, hrq, hreq⟩
  refine tPtr_i ?_
  have hlen : bs.length = l.length := hk.1
  generalize hbl : bs.zip l = bl
  have hbf : bl.map (·.1) = bs := by subst hbl; exact List.map_fst_zip (by omega)
  have hbs : bl.map (·.2) = l := by subst hbl; exact List.map_snd_zip (by omega)
  have hbn : n = bl.length := by rw [hn, ← hbs]; simp
  have hpr : PRow H2 q n qc bs := by
    rcases g.what with ⟨h1, h2, h3, h4⟩ | ⟨r', sp, h1, h2, h3, h4, _⟩
    · exact .inl ⟨h1, h2, h3, by simpa [ptrs] using h4⟩
    · exact .inr ⟨r', sp, h1, by simp [ptrs] at h2; omega, h3, h4⟩
  have hqs : ∀ i, isp q i → H1.size ≤ i ∧ i < H2.size := fun i h => ⟨(g.from_ h).resolve_left id, g.lt h⟩
  have hkv : ∀ y ∈ bl, KVat H3 (isp q) y.1 y.2 := by
    intro y hy
    subst hbl
    obtain ⟨i, hi⟩ := List.mem_iff_getElem?.1 hy
    rw [List.getElem?_zip_eq_some] at hi
    exact (hk.2 i y.1 y.2 hi.1 hi.2).ext E3
  subst hbf
  rw [hbn]
  refine callD_i (zzFilter_ok rq H3 bl q qc mm xm mc xc (by omega) (fun i h => Nat.lt_of_lt_of_le (hqs i h).2 E3.size) (by rw [← hbn]; exact hpr.ext E3) hkv hreq (fun h => by have := (hqs _ h).2; omega)) ?_
  rintro e H4 ⟨rfl, c4, hpr4, hk4⟩
  refine tSl_i ?_
  have hsl : (sieve mm xm mc xc bl).length = (sieveL mm xm mc xc l).length := by rw [← hbs, ← sieve_snd]; simp
  rw [hsl] at hpr4 ⊢
  have hle : (sieve mm xm mc xc bl).length ≤ bl.length := Nat.le_trans (kept_len _ _) (Nat.le_trans (kept_len _ _) (Nat.le_trans (kept_len _ _) (kept_len _ _)))
  refine callD_i (kvsOf_ok q _ qc ((sieve mm xm mc xc bl).map (·.1)) (sieveL mm xm mc xc l) rfl (by omega) H4 ?_ ?_) ?_
  · rcases hpr4 with ⟨h1, h2, h3, h4⟩ | ⟨r', sp, h1, h2, h3, h4⟩
    · exact .inl h4
    · rw [h1]
      refine RowsAt.of_block h4 ?_
      intro i b hi j v hj
      cases j with
      | zero => simp at hj; subst hj; simpa using ptrs_get hi
      | succ j => simp at hj
  · refine ⟨by rw [← hbs, ← sieve_snd]; simp, fun i b x hb hx => ?_⟩
    rw [← hbs, ← sieve_snd] at hx
    simp only [List.getElem?_map, Option.map_eq_some_iff] at hb hx
    obtain ⟨y, hy, rfl⟩ := hb
    obtain ⟨y', hy', rfl⟩ := hx
    rw [hy] at hy'
    cases hy'
    exact hk4 y (sieve_mem (List.mem_of_getElem? hy))
  rintro e H5 ⟨q5, qc5, rfl, E5, hR5⟩
  refine tSl_i ⟨q5, qc5, rfl, ?_, hR5⟩
  have c2 : Chg (isp q) H H4 := (Chg.of_ext (((E1.trans g.st.ext)).trans E3)).trans c4
  exact (c2.ext (fun i h => by have := (hqs i h).1; have := E1.size; omega)).trans E5
end Go.Proofs.Ytpankppliidaoaa
