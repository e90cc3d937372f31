/- What functions of this seat do, each proved by a walk; no condition. -/
import Derived.Test.YtpankppliidaoaaT25
set_option linter.unusedVariables false
set_option linter.unusedSimpArgs false
namespace Go.Proofs.Ytpankppliidaoaa
open Go Go.Den Go.Proofs
def pwCells (b rb : Nat) (po : Int) (P B n : Nat) : List Value := [.iface 86 (.pointer (some ⟨b, 0, none⟩)), .int .i64 po, .int .i64 P, .int .i64 n, .slice (some ⟨rb, 0, none⟩) (B + P) (B + P), .int .i64 B]
/-- What holds between two operations. -/
structure PgInv (H0 H : Heap) (pw b rb P B : Nat) (out : Option Addr) (i oc : Nat) (ops : List PgOp) (al : List (Ans × List By)) (bs : By) : Prop where
  ex : ∃ (po : Int) (wp : Option Addr) (wn wc : Nat) (buf : List Value), Good po P B bs buf ∧ Room po P B bs ∧ Grow H0 Nn H (pws pw b rb po P B bs.length wp wn wc buf []) 55 2 out i oc ((al.map (·.1)).flatMap Ans.cells)
  ok : ∀ y ∈ al, AnsOk H (banP out pw b rb) y
  steps : Steps B (ops.take i) al bs
theorem pg_end (s3 : Option Addr) (s3n s3c : Nat) {H0 H : Heap} {pw b rb P B : Nat} {out : Option Addr} {i oc : Nat} {ops : List PgOp} {al : List (Ans × List By)} {bs : By} {o : PgOp} (hi : i < 1000) (ho : ops[i]? = some o) (inv : PgInv H0 H pw b rb P B out i oc ops al bs)
    {H5 : Heap} {r : Nat} {N : Int} {po' : Int} {wp' : Option Addr} {wc' : Nat} {buf' : List Value} {ws : List By} {bs' : By} (hr : H.size ≤ r) (gd : Good po' P B bs' buf') (rm : Room po' P B bs') (st : StepOk B bs o N ws bs')
    (g5 : Grow H (banP out pw b rb) H5 ((r, .cells ⟨[.int .i64 N, .slice none 0 0]⟩ 55) :: pws pw b rb po' P B bs'.length wp' ws.length wc' buf' []) 55 2 out i oc ((al.map (·.1)).flatMap Ans.cells))
    (wr : ws = [] ∨ ∃ r' sp, wp' = some ⟨r', 0, none⟩ ∧ H.size ≤ r' ∧ r' ≠ r ∧ H5[r']? = some (.cells ⟨strs ws ++ sp⟩ 9)) {R : Ending → Heap → Prop}
    (k : ∀ out' oc' al' H6, PgInv H0 H6 pw b rb P B out' (i + 1) oc' ops al' bs' → F22.L1 s3 s3n s3c b (some ⟨pw, 0, none⟩) out' (i + 1) oc' ((i + 1 : Nat) : Int) H6 R) :
    F22.L2 s3 s3n s3c b (some ⟨pw, 0, none⟩) out i oc (i : Int) r H5 R := by
  obtain ⟨⟨po, wp, wn, wc, buf, gd0, rm0, g0⟩, ok, steps⟩ := inv
  refine F22.L2_step ?_
  unfold F22.L2n
  refine ⟨_, _, _, g5.st.at_ 2 rfl rfl, ?_⟩
  refine st1_of (g5.st.own 0 _ _ rfl).2 rfl rfl ?_
  intro H5' u5
  have g5' := g5.upd 0 rfl u5
  refine ⟨_, g5'.st.at_ 0 rfl rfl, ?_⟩
  refine ⟨_, _, _, g5'.st.at_ 0 rfl rfl, ?_⟩
  refine g5'.new ?_
  intro r2 H6 hr2 E6 g6
  have hr2b := (g6.st.own 0 _ _ rfl).2
  refine ⟨[.int .i64 N, .slice wp' ws.length wc'], rfl, fun j v hj => ⟨_, rfl, ?_⟩, ?_⟩
  · rw [add_mk, Nat.zero_add]; exact hcell_of hr2b hj
  refine Grow.app g6 rfl (by decide) (by omega) rfl (by decide) (by intro v hv; simp at hv; rcases hv with rfl | rfl <;> rfl) ?_
  intro out' oc' H7 g7 G
  have e1 : IntKind.wrap .i64 ((i : Int) + (1 : Int)) = ((i + 1 : Nat) : Int) := by rw [wrap64_small (by omega) (by omega)]; rfl
  rw [e1]
  have g8 := g7.tail.tail
  have hT : ∀ j, banP out pw b rb j → Nn j ∨ H0.size ≤ j := by
    rintro j (h | h | h | h)
    · exact g0.all.1 j h
    · subst h; exact g0.all.2 0 _ _ rfl
    · subst h; exact g0.all.2 1 _ _ rfl
    · subst h; exact g0.all.2 2 _ _ rfl
  have g9 := g0.unbase g8 hT
  refine k out' oc' (al ++ [(⟨N, wp', ws.length, wc'⟩, ws)]) H7 ⟨⟨po', wp', ws.length, wc', buf', gd, rm, ?_⟩, ?_, ?_⟩
  · simpa [Ans.cells] using g9
  · intro y hy
    rcases List.mem_append.1 hy with hy | hy
    · refine (ok y hy).chg fun j hj hn => ⟨g8.st.chg.same j hj hn, ?_⟩
      rintro (h | h | h | h)
      · rcases g8.from_ h with h | h
        · exact hn h
        · omega
      · exact hn (.inr (.inl h))
      · exact hn (.inr (.inr (.inl h)))
      · exact hn (.inr (.inr (.inr h)))
    · simp at hy
      subst hy
      rcases wr with h | ⟨r', sp, h1, h2, h3, h4⟩
      · exact .inl h
      · have hout : out ≠ some ⟨r', 0, none⟩ := fun h => by have := g0.lt h; omega
        have l5 := block_lt h4
        have l5' : r' < H5'.size := Nat.lt_of_lt_of_le l5 u5.size
        have s6 : H6[r']? = H5[r']? := (E6.block r' l5').trans (u5.same r' l5 h3)
        have sm := G.same r' (Nat.lt_of_lt_of_le l5' E6.size) hout
        refine .inr ⟨r', sp, h1, ?_, ?_⟩
        · rintro (h | h | h | h)
          · exact sm.2 h
          · have := g0.st.lt (i := 0) rfl; omega
          · have := g0.st.lt (i := 1) rfl; omega
          · have := g0.st.lt (i := 2) rfl; omega
        · rw [sm.1, s6]; exact h4
  · rw [List.take_add_one, ho]
    exact .snoc steps st rfl
theorem pg_loop (s3 : Option Addr) (s3n s3c : Nat) (H0 : Heap) (pw b rb P B : Nat) (ops : List PgOp) (hn : s3n = ops.length) (h1000 : s3n ≤ 1000) (ht : ∀ o ∈ ops, o.text.length ≤ 1048576) (hR : RowsAt PgOp.cells 2 H0 s3 ops) :
    ∀ (d i : Nat) (out : Option Addr) (oc : Nat) (al : List (Ans × List By)) (bs : By) (H : Heap), i + d = s3n → PgInv H0 H pw b rb P B out i oc ops al bs →
      F22.L1 s3 s3n s3c b (some ⟨pw, 0, none⟩) out i oc (i : Int) H (fun e H1 => ∃ out' oc' al' bs', e = .returned (.slice out' s3n oc') ∧ PgInv H0 H1 pw b rb P B out' s3n oc' ops al' bs') := by
  intro d
  induction d with
  | zero =>
    intro i out oc al bs H hi inv
    obtain rfl : i = s3n := by omega
    refine F22.L1_step ?_
    unfold F22.L1n
    exact iteB_i (fun h => by simp at h) (fun _ => ⟨out, oc, al, bs, rfl, inv⟩)
  | succ d ih =>
    intro i out oc al bs H hi inv
    have inv0 := inv
    obtain ⟨⟨po, wp, wn, wc, buf, gd, rm, g0⟩, ok, steps⟩ := inv
    refine F22.L1_step ?_
    unfold F22.L1n
    refine iteB_i (fun _ => ?_) (fun h => by simp at h; omega)
    have hT : ∀ j, banP out pw b rb j → Nn j ∨ H0.size ≤ j := by
      rintro j (h | h | h | h)
      · exact g0.all.1 j h
      · subst h; exact g0.all.2 0 _ _ rfl
      · subst h; exact g0.all.2 1 _ _ rfl
      · subst h; exact g0.all.2 2 _ _ rfl
    have g1 : Grow H (banP out pw b rb) H (pws pw b rb po P B bs.length wp wn wc buf []) 55 2 out i oc ((al.map (·.1)).flatMap Ans.cells) := by
      refine g0.rebase _ (fun j h => .inl h) ?_
      intro j r o hj
      match j with
      | 0 => simp [pws] at hj; exact .inr (.inl hj.1.symm)
      | 1 => simp [pws] at hj; exact .inr (.inr (.inl hj.1.symm))
      | 2 => simp [pws] at hj; exact .inr (.inr (.inr hj.1.symm))
      | j + 3 => simp [pws] at hj
    have ext : ∀ {H' : Heap} {l : List Bk} {E z p n c vs}, Grow H (banP out pw b rb) H' l E z p n c vs → ExtH H0 H' := fun g => (g0.st.unbase g.st hT).ext
    refine g1.new ?_
    intro r H1 hr E1 g
    have hrH : H.size ≤ r := by omega
    refine g.st1 0 rfl rfl rfl ?_
    intro H2 g
    refine g.st1 0 rfl rfl rfl ?_
    intro H3 g
    refine g.st1 2 rfl rfl rfl ?_
    intro H4 g
    have hs4 : H.size ≤ H4.size := g.st.chg.size
    have hil : i < ops.length := by omega
    have hoi : ops[i]? = some ops[i] := List.getElem?_eq_getElem hil
    generalize ops[i] = o at hoi
    refine (hR.ext (ext g)).idx hn (by omega) (by omega) ?_
    intro a x hx hc
    obtain rfl : x = o := by
      have : ops[i]? = some x := hx
      rw [hoi] at this; injection this with this; exact this.symm
    refine ⟨_, hc 1 _ rfl, ?_⟩
    have ne1 : ∀ {H' : Heap} {l : List Bk} {E z p n c vs}, Grow H (banP out pw b rb) H' l E z p n c vs → True := fun _ => trivial
    refine iteB_i (fun hf => ?_) (fun hf => ?_)
    · refine callD_i (did_flush hf gd g.st.tail) ?_
      rintro e H5 ⟨rfl, po', wp', wc', buf', ws, bs', D⟩
      refine tIf_nil ?_
      have g5 : Grow H (banP out pw b rb) H5 ((r, .cells ⟨[.int .i64 0, .slice none 0 0]⟩ 55) :: pws pw b rb po' P B bs'.length wp' ws.length wc' buf' []) 55 2 out i oc ((al.map (·.1)).flatMap Ans.cells) := by
        refine g.renew D.chg ?_ ?_ rfl ?_
        · rintro j (h | h | h)
          · exact .inl (.inr (.inl h))
          · exact .inl (.inr (.inr (.inl h)))
          · exact .inl (.inr (.inr (.inr h)))
        · rintro j (h | h | h) hp
          · subst h; exact g.apart hp (i := 1) rfl rfl
          · subst h; exact g.apart hp (i := 2) rfl rfl
          · subst h; exact g.apart hp (i := 3) rfl rfl
        · intro j r' ob hj
          match j with
          | 0 =>
            simp at hj
            obtain ⟨rfl, rfl⟩ := hj
            refine D.chg.block ?_ (g.st.own 0 _ _ rfl).2
            rintro (h | h | h)
            · exact g.st.ne (i := 0) (j := 1) rfl rfl (by decide) h
            · exact g.st.ne (i := 0) (j := 2) rfl rfl (by decide) h
            · exact g.st.ne (i := 0) (j := 3) rfl rfl (by decide) h
          | 1 => simp [pws] at hj; obtain ⟨rfl, rfl⟩ := hj; exact D.hpw
          | 2 => simp [pws] at hj; obtain ⟨rfl, rfl⟩ := hj; exact D.hb
          | 3 => simp [pws] at hj; obtain ⟨rfl, rfl⟩ := hj; exact D.hrb
          | j + 4 => simp [pws] at hj
      refine pg_end s3 s3n s3c (by omega) hoi inv0 hrH D.good D.room D.step g5 ?_ ?_
      · rcases D.wrote with h | ⟨r', sp, h1, h2, h3⟩
        · exact .inl h
        · have := g.st.lt (i := 0) rfl
          exact .inr ⟨r', sp, h1, by omega, by omega, h3⟩
      · intro out' oc' al' H6 inv'
        exact ih (i + 1) out' oc' al' bs' H6 (by omega) inv'
    · refine (hR.ext (ext g)).idx hn (by omega) (by omega) ?_
      intro a x' hx' hc'
      obtain rfl : x' = x := by
        have : ops[i]? = some x' := hx'
        rw [hoi] at this; injection this with this; exact this.symm
      refine ⟨_, at_zero hc' rfl, ?_⟩
      have htx := ht x' (List.mem_of_getElem? hoi)
      refine ⟨by show x'.text.length < 2 ^ 63; omega, fun cap hcap => ?_⟩
      refine g.new ?_
      intro rd H5 hrd E5 g'
      have L := g'.st.pick [2, 3, 4, 0] (by decide) (l' := pws pw b rb po P B bs.length none 0 0 buf [(rd, .cells ⟨bytesOf x'.text ++ List.replicate (cap - (ByteArray.mk ⟨x'.text⟩).size) (.int .u8 0)⟩ 5 (cap, cap + 1))]) rfl rfl
      refine callD_i (did_write hf gd rm htx hcap L) ?_
      rintro e H6 ⟨rfl, po', wp', wc', buf', ws, bs', D⟩
      refine tTup_i (tCons_i (tInt_i (tCons_i (tIf_nil (tNil_i ?_)))))
      have g6 : Grow H (banP out pw b rb) H6 ((r, .cells ⟨[.int .i64 0, .slice none 0 0]⟩ 55) :: pws pw b rb po' P B bs'.length wp' ws.length wc' buf' []) 55 2 out i oc ((al.map (·.1)).flatMap Ans.cells) := by
        refine g'.tail.renew D.chg ?_ ?_ rfl ?_
        · rintro j (h | h | h)
          · exact .inl (.inr (.inl h))
          · exact .inl (.inr (.inr (.inl h)))
          · exact .inl (.inr (.inr (.inr h)))
        · rintro j (h | h | h) hp
          · subst h; exact g.apart hp (i := 1) rfl rfl
          · subst h; exact g.apart hp (i := 2) rfl rfl
          · subst h; exact g.apart hp (i := 3) rfl rfl
        · intro j r' ob hj
          match j with
          | 0 =>
            simp at hj
            obtain ⟨rfl, rfl⟩ := hj
            refine D.chg.block ?_ (g'.tail.st.own 0 _ _ rfl).2
            rintro (h | h | h)
            · exact g.st.ne (i := 0) (j := 1) rfl rfl (by decide) h
            · exact g.st.ne (i := 0) (j := 2) rfl rfl (by decide) h
            · exact g.st.ne (i := 0) (j := 3) rfl rfl (by decide) h
          | 1 => simp [pws] at hj; obtain ⟨rfl, rfl⟩ := hj; exact D.hpw
          | 2 => simp [pws] at hj; obtain ⟨rfl, rfl⟩ := hj; exact D.hb
          | 3 => simp [pws] at hj; obtain ⟨rfl, rfl⟩ := hj; exact D.hrb
          | j + 4 => simp [pws] at hj
      refine st1_of (g6.st.own 0 _ _ rfl).2 rfl rfl ?_
      intro H7 u7
      have g7 := g6.upd 0 rfl u7
      refine pg_end s3 s3n s3c (by omega) hoi inv0 hrH D.good D.room D.step g7 ?_ ?_
      · rcases D.wrote with h | ⟨r', sp, h1, h2, h3⟩
        · exact .inl h
        · have := g.st.lt (i := 0) rfl
          have := E5.size
          refine .inr ⟨r', sp, h1, by omega, by omega, ?_⟩
          rw [u7.same r' (block_lt h3) (by omega)]
          exact h3
      · intro out' oc' al' H8 inv'
        exact ih (i + 1) out' oc' al' bs' H8 (by omega) inv'
end Go.Proofs.Ytpankppliidaoaa
