/- What functions of this seat do, each proved by a walk; no condition. -/
import Derived.Test.YtpankppliidaoaaT24
set_option linter.unusedVariables false
set_option linter.unusedSimpArgs false
namespace Go.Proofs.Ytpankppliidaoaa
open Go Go.Den Go.Proofs
theorem assert_ok (msg : ByteArray) (v : Option Addr) (vn vc : Nat) (H : Heap) : CallsH Try.prog 78 ⟨[.bool true, .string msg, .slice v vn vc]⟩ H (Gives (.tuple ⟨[]⟩) H) := by
  refine F78.calls ?_
  unfold F78.go
  exact iteB_i (fun h => by cases h) (fun _ => ⟨rfl, ExtH.refl _⟩)
theorem newPW_ok (b : Nat) (P B : Nat) (po : Int) (hP : 0 < P) (hP1 : P ≤ 65536) (hB : B ≤ 1048576) (H : Heap) : CallsH Try.prog 46 ⟨[.iface 86 (.pointer (some ⟨b, 0, none⟩)), .int .i64 B, .int .i64 P, .int .i64 po]⟩ H
    (fun e H1 => ∃ pw rb l, e = .returned (.pointer (some ⟨pw, 0, none⟩)) ∧
      St H Nn H1 ((rb, .cells ⟨List.replicate (B + P) (.int .u8 0)⟩ 5) :: (pw, .cells ⟨[.iface 86 (.pointer (some ⟨b, 0, none⟩)), .int .i64 po, .int .i64 P, .int .i64 0, .slice (some ⟨rb, 0, none⟩) (B + P) (B + P), .int .i64 B]⟩ 126) :: l)) := by
  refine F46.calls (w := .mk 86 (.pointer (some ⟨b, 0, none⟩))) ?_
  unfold F46.go
  have h65 : CallsH Try.prog 65 ⟨[.iface 86 (.pointer (some ⟨b, 0, none⟩)), .int .i64 P, .int .i64 po]⟩ H (fun e H1 => ∃ pw l v4 v5, e = .returned (.pointer (some ⟨pw, 0, none⟩)) ∧
      St H Nn H1 ((pw, .cells ⟨[.iface 86 (.pointer (some ⟨b, 0, none⟩)), .int .i64 po, .int .i64 P, .int .i64 0, v4, v5]⟩ 126) :: l)) := by
    refine F65.calls (w := .mk 86 (.pointer (some ⟨b, 0, none⟩))) ?_
    unfold F65.go
    have L := St.start H
    refine St.new L ?_
    intro r H1 L
    have hd : decide ((P : Int) > 0) = true := by simp; omega
    rw [hd]
    refine St.call L (assert_ok _ _ _ _ _) ?_
    intro H2 E L
    refine tTup_i (tNil_i ?_)
    rw [wrap64_small (by omega) (by omega)]
    refine St.make L (by decide) (by omega) (by omega) (by omega) ?_
    intro r1 H3 E L
    refine guardB_i rfl ?_
    refine St.new L ?_
    intro r2 H4 L
    exact ⟨_, _, _, _, rfl, L⟩
  refine callD_i h65 ?_
  rintro e H1 ⟨pw, l, v4, v5, rfl, L⟩
  refine tPtr_i ?_
  have e1 : IntKind.wrap .i64 ((B : Int) + (P : Int)) = ((B + P : Nat) : Int) := by rw [wrap64_small (by omega) (by omega)]; simp
  rw [e1]
  refine St.make L (by decide) (by omega) (by omega) (by omega) ?_
  intro rb H2 E L
  refine nilD_i ?_
  rw [add_mk, Nat.zero_add]
  refine St.st L 1 rfl rfl rfl ?_
  intro H3 L
  refine nilD_i ?_
  rw [add_mk, Nat.zero_add]
  refine St.st L 1 rfl rfl rfl ?_
  intro H4 L
  refine ⟨pw, rb, l, rfl, ?_⟩
  simp only [repZ_one, Int.toNat_natCast] at L
  exact L
structure PgOp where
  text : By
  flush : Bool
def PgOp.cells (o : PgOp) : List Value := [.string ⟨⟨o.text⟩⟩, .bool o.flush]
structure Ans where
  N : Int
  p : Option Addr
  n : Nat
  c : Nat
def Ans.cells (a : Ans) : List Value := [.int .i64 a.N, .slice a.p a.n a.c]
/-- What one operation does. -/
def StepOk (B : Nat) (bs : By) (o : PgOp) (N : Int) (ws : List By) (bs' : By) : Prop :=
  ws.length ≤ 2 ∧ if o.flush then N = 0 ∧ ws = fl bs ∧ bs' = [] else N = o.text.length ∧ ws.flatten ++ bs' = bs ++ o.text ∧ (bs.length + o.text.length ≤ B → ws = [] ∧ bs' = bs ++ o.text)
inductive Steps (B : Nat) : List PgOp → List (Ans × List By) → By → Prop
  | nil : Steps B [] [] []
  | snoc {ops al bs o a ws bs'} : Steps B ops al bs → StepOk B bs o a.N ws bs' → a.n = ws.length → Steps B (ops ++ [o]) (al ++ [(a, ws)]) bs'
/-- What an answer's slice leads to. -/
def AnsOk (H : Heap) (ban : Nat → Prop) (y : Ans × List By) : Prop := y.2 = [] ∨ ∃ r sp, y.1.p = some ⟨r, 0, none⟩ ∧ ¬ ban r ∧ H[r]? = some (.cells ⟨strs y.2 ++ sp⟩ 9)
theorem AnsOk.chg {H H1 : Heap} {ban ban' : Nat → Prop} {y : Ans × List By} (h : AnsOk H ban y) (c : ∀ i, i < H.size → ¬ ban i → H1[i]? = H[i]? ∧ ¬ ban' i) : AnsOk H1 ban' y := by
  rcases h with h | ⟨r, sp, h1, h2, h3⟩
  · exact .inl h
  · have := c r (block_lt h3) h2
    exact .inr ⟨r, sp, h1, this.2, this.1.trans h3⟩
def banP (out : Option Addr) (pw b rb : Nat) : Nat → Prop := fun i => out = some ⟨i, 0, none⟩ ∨ i = pw ∨ i = b ∨ i = rb
theorem emptyFl : fl [] = [] := rfl
/-- The operation itself: what stands in the writer's blocks behind it. -/
structure Did (pw b rb P B : Nat) (bs : By) (o : PgOp) (H H1 : Heap) (N : Int) (po' : Int) (wp' : Option Addr) (wc' : Nat) (buf' : List Value) (ws : List By) (bs' : By) : Prop where
  good : Good po' P B bs' buf'
  room : Room po' P B bs'
  step : StepOk B bs o N ws bs'
  chg : Chg (fun i => i = pw ∨ i = b ∨ i = rb) H H1
  hpw : H1[pw]? = some (.cells ⟨[.iface 86 (.pointer (some ⟨b, 0, none⟩)), .int .i64 po', .int .i64 P, .int .i64 bs'.length, .slice (some ⟨rb, 0, none⟩) (B + P) (B + P), .int .i64 B]⟩ 126)
  hb : H1[b]? = some (.cells ⟨[.slice wp' ws.length wc']⟩ 88)
  hrb : H1[rb]? = some (.cells ⟨buf'⟩ 5)
  wrote : ws = [] ∨ ∃ r sp, wp' = some ⟨r, 0, none⟩ ∧ H.size ≤ r ∧ H1[r]? = some (.cells ⟨strs ws ++ sp⟩ 9)
def inTl (pw b rb : Nat) (tl : List Bk) : Nat → Prop := fun i => i = pw ∨ i = b ∨ i = rb ∨ ∃ (k : Nat) (o : Obj), tl[k]? = some (i, o)
theorem did_of {pw b rb P B : Nat} {bs : By} {o : PgOp} {H H1 : Heap} {N po' : Int} {wp' : Option Addr} {wc' : Nat} {buf' : List Value} {ws : List By} {bs' : By} {tl : List Bk} (good : Good po' P B bs' buf') (room : Room po' P B bs') (step : StepOk B bs o N ws bs')
    (htl : ∀ (i r : Nat) (o : Obj), tl[i]? = some (r, o) → H[r]? = some o)
    (g : Grow H (inTl pw b rb tl) H1 (pws pw b rb po' P B bs'.length wp' ws.length wc' buf' tl) 9 1 wp' ws.length wc' (strs ws)) : Did pw b rb P B bs o H H1 N po' wp' wc' buf' ws bs' := by
  have c := g.st.chg
  refine ⟨good, room, step, ⟨c.size, fun i hi hn => ?_⟩, (g.st.own 0 _ _ rfl).2, (g.st.own 1 _ _ rfl).2, (g.st.own 2 _ _ rfl).2, ?_⟩
  · by_cases ht : ∃ (k : Nat) (o : Obj), tl[k]? = some (i, o)
    · obtain ⟨k, o, hk⟩ := ht
      rw [htl k i o hk]
      exact (g.st.own (k + 3) i o (by simpa [pws] using hk)).2
    · refine c.same i hi ?_
      rintro (h | h | h | h)
      · exact hn (.inl h)
      · exact hn (.inr (.inl h))
      · exact hn (.inr (.inr h))
      · exact ht h
  rcases g.what with ⟨_, h, _, _⟩ | ⟨r, sp, h1, _, _, h4, h5⟩
  · exact .inl (List.eq_nil_of_length_eq_zero h)
  · refine .inr ⟨r, sp, h1, ?_, h4⟩
    rcases h5 with h5 | h5
    · rcases h5 with rfl | rfl | rfl | ⟨k, o, hk⟩
      · exact absurd rfl (g.apart h1 (i := 0) rfl)
      · exact absurd rfl (g.apart h1 (i := 1) rfl)
      · exact absurd rfl (g.apart h1 (i := 2) rfl)
      · exact absurd rfl (g.apart h1 (i := k + 3) (o := o) (by simpa [pws] using hk))
    · exact h5
theorem start_g {H : Heap} {pw b rb P B : Nat} {po : Int} {n : Nat} {buf : List Value} {tl : List Bk}
    {F : Heap} {S0 : Nat → Prop} (L : St F S0 H (pws pw b rb po P B n none 0 0 buf tl)) : Grow H (inTl pw b rb tl) H (pws pw b rb po P B n none 0 0 buf tl) 9 1 none 0 0 (strs []) := by
  refine .nil (L.rebase _ ?_)
  intro i r o hi
  match i with
  | 0 => simp [pws] at hi; exact .inl hi.1.symm
  | 1 => simp [pws] at hi; exact .inr (.inl hi.1.symm)
  | 2 => simp [pws] at hi; exact .inr (.inr (.inl hi.1.symm))
  | i + 3 => exact .inr (.inr (.inr ⟨i, o, by simpa [pws] using hi⟩))
theorem did_flush {H : Heap} {pw b rb P B : Nat} {po : Int} {bs : By} {buf : List Value} {o : PgOp} (ho : o.flush = true) (gd : Good po P B bs buf) {F : Heap} {S0 : Nat → Prop} (L : St F S0 H (pws pw b rb po P B bs.length none 0 0 buf [])) :
    CallsH Try.prog 47 ⟨[.pointer (some ⟨pw, 0, none⟩)]⟩ H (fun e H1 => e = .returned .nilIface ∧ ∃ (po' : Int) (wp' : Option Addr) (wc' : Nat) (buf' : List Value) (ws : List By) (bs' : By), Did pw b rb P B bs o H H1 0 po' wp' wc' buf' ws bs') := by
  have g := start_g L
  refine (flush_ok (ws := []) gd (by simp) g).mono ?_
  rintro e H1 ⟨rfl, po', wp', wc', gd', g'⟩
  refine ⟨rfl, po', wp', wc', buf, [] ++ fl bs, [], did_of gd' (.inl (by simp)) ?_ (by simp) g'⟩
  refine ⟨by unfold fl; split <;> simp, ?_⟩
  rw [if_pos ho]
  exact ⟨rfl, by simp, rfl⟩
theorem did_write {H : Heap} {pw b rb P B rd c : Nat} {po : Int} {bs : By} {buf cs : List Value} {T : TypeId} {fr : Nat × Nat} {o : PgOp} (ho : o.flush = false) (gd : Good po P B bs buf) (rm : Room po P B bs) (hd1 : o.text.length ≤ 1048576) (hc : o.text.length ≤ c)
    {F : Heap} {S0 : Nat → Prop} (L : St F S0 H (pws pw b rb po P B bs.length none 0 0 buf [(rd, .cells ⟨bytesOf o.text ++ cs⟩ T fr)])) :
    CallsH Try.prog 48 ⟨[.pointer (some ⟨pw, 0, none⟩), .slice (some ⟨rd, 0, none⟩) o.text.length c]⟩ H
      (fun e H1 => e = .returned (.tuple ⟨[.int .i64 o.text.length, .nilIface]⟩) ∧ ∃ (po' : Int) (wp' : Option Addr) (wc' : Nat) (buf' : List Value) (ws : List By) (bs' : By), Did pw b rb P B bs o H H1 o.text.length po' wp' wc' buf' ws bs') := by
  have g := start_g L
  have hd : DatIn [(rd, .cells ⟨bytesOf o.text ++ cs⟩ T fr)] (some ⟨rd, 0, none⟩) o.text := by
    refine .inr ⟨0, rd, 0, _, T, fr, rfl, rfl, fun j v hj => ?_⟩
    rw [Nat.zero_add, List.getElem?_append_left]
    · exact hj
    · rcases Nat.lt_or_ge j (bytesOf o.text).length with h | h
      · exact h
      · rw [List.getElem?_eq_none h] at hj; cases hj
  refine (write_ok (ws := []) c gd rm hd hc hd1 (by simp) g).mono ?_
  rintro e H1 ⟨rfl, po', wp', wc', buf', ws', bs', gd', rm', g', k1, k2, k3⟩
  refine ⟨rfl, po', wp', wc', buf', ws', bs', did_of gd' rm' ?_ ?_ g'⟩
  · refine ⟨by simpa using k3, ?_⟩
    rw [if_neg (by rw [ho]; simp)]
    exact ⟨rfl, by simpa using k1, k2⟩
  · intro i r ob hi
    exact (L.own (i + 3) r ob (by simpa [pws] using hi)).2
end Go.Proofs.Ytpankppliidaoaa
