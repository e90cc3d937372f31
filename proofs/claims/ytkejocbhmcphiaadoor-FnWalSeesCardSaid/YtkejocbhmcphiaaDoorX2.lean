/- What functions of this seat do, each proved by a walk; no condition. -/
import Derived.Test.YtkejocbhmcphiaaDoorX1
set_option linter.unusedVariables false
set_option linter.unusedSimpArgs false
set_option linter.unnecessarySimpa false
set_option maxRecDepth 100000
namespace Go.Proofs.YtkejocbhmcphiaaDoor
open Go Go.Den Go.Proofs
/-! FnWalTorn: which records are there as a whole. -/
theorem extract_str {xs : List UInt8} {k : Nat} : ByteArray.extract (strB xs) 0 k = strB (xs.take k) := by
  apply ByteArray.ext
  rw [ByteArray.data_extract]
  simp
/-- The records that fit into so many bytes. -/
def fitN : List (List UInt8) → Nat → Nat
  | [], _ => 0
  | P :: Ps, k => if P.length ≤ k then fitN Ps (k - P.length) + 1 else 0
theorem fitN_le : ∀ (Ps : List (List UInt8)) (k : Nat), fitN Ps k ≤ Ps.length
  | [], _ => Nat.le_refl _
  | P :: Ps, k => by
    unfold fitN
    split
    · simp [fitN_le Ps]
    · simp
/-- What is cut off behind them is a part of the next one. -/
theorem fitN_spec : ∀ (Ps : List (List UInt8)) (k : Nat), k ≤ Ps.flatten.length → ∃ j, k = (Ps.take (fitN Ps k)).flatten.length + j ∧ Ps.flatten.take k = (Ps.take (fitN Ps k)).flatten ++ (match Ps[fitN Ps k]? with | some P => P.take j | none => []) ∧ (∀ P, Ps[fitN Ps k]? = some P → j < P.length) ∧ (Ps[fitN Ps k]? = none → j = 0)
  | [], k, h => ⟨0, by simp at h; simp [h, fitN], by simp [fitN], by simp [fitN], fun _ => rfl⟩
  | P :: Ps, k, h => by
    unfold fitN
    split
    · rename_i hle
      rw [List.flatten_cons, List.length_append] at h
      obtain ⟨j, h1, h2, h3, h4⟩ := fitN_spec Ps (k - P.length) (by omega)
      refine ⟨j, ?_, ?_, ?_, ?_⟩
      · rw [List.take_succ_cons, List.flatten_cons, List.length_append]; omega
      · rw [List.flatten_cons, List.take_append, List.take_of_length_le hle, h2, List.take_succ_cons, List.flatten_cons, List.getElem?_cons_succ, List.append_assoc]
      · rw [List.getElem?_cons_succ]; exact h3
      · rw [List.getElem?_cons_succ]; exact h4
    · rename_i hle
      refine ⟨k, by simp, ?_, ?_, ?_⟩
      · rw [List.flatten_cons, List.take_append_of_le_length (by omega)]
        rfl
      · intro Q hQ
        simp at hQ
        subst hQ
        omega
      · intro hn; simp at hn
theorem fitN_stop : ∀ (Ps : List (List UInt8)) (k i : Nat), i ≤ fitN Ps k → (∀ P, Ps[i]? = some P → ((Ps.take i).flatten.length + P.length ≤ k ↔ i < fitN Ps k)) := by
  intro Ps
  induction Ps with
  | nil => intro k i h P hP; simp at hP
  | cons Q Ps ih =>
    intro k i h P hP
    unfold fitN at h ⊢
    cases i with
    | zero =>
      simp at hP
      subst hP
      split
      · rename_i hle; simp; omega
      · rename_i hle; simp; omega
    | succ i =>
      split at h
      · rename_i hle
        rw [if_pos hle]
        have := ih (k - Q.length) i (by omega) P (by simpa using hP)
        rw [List.take_succ_cons, List.flatten_cons, List.length_append]
        omega
      · omega
section
variable {H0 : Heap} {p : Option Addr} {n c : Nat} {rs : List WR} {s : W32} {e0 e1 : Addr}
theorem torn_loop {q o : Option Addr} {m qc oc k : Nat} {l : List HP} {H : Heap} {Ps : List (List UInt8)} {R0 : Ending → Heap → Prop} {b : ByteArray} (hm : Ps.length = m) (hm2 : m ≤ 100) (hl : Ps.flatten.length ≤ 1000000000) (hk : k ≤ Ps.flatten.length) (S : Sat H (sl stC 9 1 o m oc (Ps.map strB) :: l))
    (fin : F5.L2 (iv s) q m qc b (k : Int) ((fitN Ps k : Nat) : Int) ((((Ps.take (fitN Ps k)).flatten.length : Nat)) : Int) H R0) : ∀ (d i : Nat), i + d = fitN Ps k → F5.L1 (iv s) q m qc o m oc b (k : Int) (i : Int) ((((Ps.take i).flatten.length : Nat)) : Int) H R0 := by
  have hfl := fitN_le Ps k
  intro d
  induction d with
  | zero =>
    intro i hi
    have hi' : i = fitN Ps k := by omega
    refine F5.L1_step ?_
    unfold F5.L1n
    rcases Nat.lt_or_ge i m with hlt | hge
    · obtain ⟨P, hP⟩ : ∃ P, Ps[i]? = some P := get_of (by omega)
      have hst := (fitN_stop Ps k i (by omega) P hP)
      have hx : (Ps.map strB)[i]? = some (strB P) := by rw [List.getElem?_map, hP]; rfl
      have hI := HasI.nat hx
      have hPl : P.length ≤ Ps.flatten.length := by
        have : Ps.flatten = (Ps.take i).flatten ++ (Ps.drop i).flatten := by rw [← List.flatten_append, List.take_append_drop]
        have hd : Ps.drop i = P :: Ps.drop (i + 1) := by
          have hlt2 : i < Ps.length := by omega
          rw [List.drop_eq_getElem_cons hlt2]
          rw [List.getElem?_eq_getElem hlt2] at hP
          cases hP; rfl
        rw [this, hd, List.flatten_cons, List.length_append, List.length_append]; omega
      have htl : (Ps.take i).flatten.length ≤ Ps.flatten.length := by
        have : Ps.flatten = (Ps.take i).flatten ++ (Ps.drop i).flatten := by rw [← List.flatten_append, List.take_append_drop]
        rw [this, List.length_append]; omega
      refine iteB_t (decide_eq_true (by omega)) ?_
      refine Sat.idx (f := stC) (E := 9) (z := 1) (xs := Ps.map strB) S ⟨by omega, by omega, fun r0 o0 hr0 => ?_⟩
      subst hr0
      refine Step.go ?_
      have e4 : IntKind.wrap .i64 ((((Ps.take i).flatten.length : Nat) : Int) + ((ByteArray.size (strB P) : Nat) : Int)) = (((Ps.take i).flatten.length + P.length : Nat) : Int) := by
        show IntKind.wrap .i64 ((((Ps.take i).flatten.length : Nat) : Int) + ((P.length : Nat) : Int)) = _
        rw [wr64 (by omega) (by omega)]; omega
      rw [e4]
      refine iteB_f (decide_eq_false (by omega)) ?_
      rw [hi']
      exact fin
    · refine iteB_f (decide_eq_false (by omega)) ?_
      rw [hi']
      exact fin
  | succ d ih =>
    intro i hi
    obtain ⟨P, hP⟩ : ∃ P, Ps[i]? = some P := get_of (by omega)
    have hst := (fitN_stop Ps k i (by omega) P hP)
    have hx : (Ps.map strB)[i]? = some (strB P) := by rw [List.getElem?_map, hP]; rfl
    have hI := HasI.nat hx
    have et : Ps.take (i + 1) = Ps.take i ++ [P] := by rw [List.take_add_one, hP]; rfl
    have hle : (Ps.take i).flatten.length + P.length ≤ k := hst.2 (by omega)
    have e4 : IntKind.wrap .i64 ((((Ps.take i).flatten.length : Nat) : Int) + ((ByteArray.size (strB P) : Nat) : Int)) = (((Ps.take (i + 1)).flatten.length : Nat) : Int) := by
      show IntKind.wrap .i64 ((((Ps.take i).flatten.length : Nat) : Int) + ((P.length : Nat) : Int)) = _
      rw [wr64 (by omega) (by omega), et, List.flatten_append, List.length_append]; simp
    have e3 : IntKind.wrap .i64 ((i : Int) + (1 : Int)) = ((i + 1 : Nat) : Int) := by rw [wr64 (by omega) (by omega)]; rfl
    have hle2 : (Ps.take (i + 1)).flatten.length ≤ k := by rw [et, List.flatten_append, List.length_append]; simpa using hle
    refine F5.L1_step ?_
    unfold F5.L1n
    refine iteB_t (decide_eq_true (by omega)) ?_
    refine Sat.idx (f := stC) (E := 9) (z := 1) (xs := Ps.map strB) S ⟨by omega, by omega, fun r0 o0 hr0 => ?_⟩
    subst hr0
    refine Step.go ?_
    rw [e4]
    refine iteB_t (decide_eq_true (by omega)) ?_
    refine F5.L4_step ?_
    unfold F5.L4n
    refine Sat.idx (f := stC) (E := 9) (z := 1) (xs := Ps.map strB) S ⟨by omega, by omega, fun r1 o1 hr1 => ?_⟩
    cases hr1
    refine Step.go ?_
    rw [e4, e3]
    exact ih (i + 1) (by omega)
theorem logP_append : ∀ (xs ys : List WR) (s : W32), logP s (xs ++ ys) = logP s xs ++ logP (lastS s xs) ys
  | [], _, _ => rfl
  | x :: xs, ys, s => by
    show _ :: logP (stepS s x) (xs ++ ys) = _
    rw [logP_append xs ys (stepS s x)]
    rfl
theorem logP_take (rs : List WR) (s : W32) (m : Nat) : (logP s rs).take m = logP s (rs.take m) := by
  have h : logP s rs = logP s (rs.take m) ++ logP (lastS s (rs.take m)) (rs.drop m) := by rw [← logP_append, List.take_append_drop]
  have hl := logP_len (rs.take m) s
  rw [h, List.take_append]
  rcases Nat.le_total m rs.length with h1 | h1
  · rw [List.take_of_length_le (by rw [hl, List.length_take]; omega), show m - (logP s (rs.take m)).length = 0 by rw [hl, List.length_take]; omega]
    simp
  · rw [List.drop_eq_nil_of_le h1]
    simp [logP]
    exact List.take_of_length_le (by rw [hl, List.length_take]; omega)
theorem logP_at {rs : List WR} {s : W32} {m : Nat} {P : List UInt8} (h : (logP s rs)[m]? = some P) : ∃ r, rs[m]? = some r ∧ P = recB (lastS s (rs.take m)) r := by
  have hl := logP_len rs s
  have hm : m < rs.length := by
    rcases Nat.lt_or_ge m rs.length with h1 | h1
    · exact h1
    · rw [List.getElem?_eq_none (by omega)] at h; cases h
  refine ⟨rs[m], List.getElem?_eq_getElem hm, ?_⟩
  have e : rs = rs.take m ++ (rs[m] :: rs.drop (m + 1)) := by rw [← List.drop_eq_getElem_cons hm, List.take_append_drop]
  have hl2 := logP_len (rs.take m) s
  rw [List.length_take, Nat.min_eq_left (by omega)] at hl2
  rw [e, logP_append, List.getElem?_append_right (by omega), hl2, Nat.sub_self] at h
  cases h
  rfl
theorem mem_tk {α : Type} {xs : List α} {m : Nat} {P : α → Prop} (h : ∀ x ∈ xs, P x) : ∀ x ∈ xs.take m, P x := fun x hx => h x (List.mem_of_mem_take hx)
theorem headed_tk {rs : List WR} {m : Nat} (h : Headed rs) : Headed (rs.take m) := fun r hr => by
  rw [List.getElem?_take] at hr
  split at hr
  · exact h r hr
  · cases hr
theorem torn_tail {l : List HP} {H : Heap} {q : Option Addr} {N qc k : Nat} {rs : List WR} [El : Ers l e0 e1] (hh : Headed rs) (hg : ∀ r ∈ rs, GoodR r) (hr : ∀ r ∈ rs, Rg r) (hn : rs.length ≤ 70) (hk : k ≤ (logB s rs).length)
    (S : Sat H (sl WR.cells 38 6 q N qc rs :: l)) :
    F5.L2 (iv s) q N qc (strB (logB s rs)) (k : Int) ((fitN (logP s rs) k : Nat) : Int) ((((logP s rs).take (fitN (logP s rs) k)).flatten.length : Nat) : Int) H (fun e H1 => e = .returned (.bool true) ∧ Sat H1 l) := by
  have hN := (S.slLen (List.mem_cons_self ..)).1
  have hqc := (S.slLen (List.mem_cons_self ..)).2
  have hlb := logB_len (s := s) hg
  have hlp := logP_len rs s
  have hfl := fitN_le (logP s rs) k
  obtain ⟨j, hj1, hj2, hj3, hj4⟩ := fitN_spec (logP s rs) k hk
  generalize hm : fitN (logP s rs) k = m at *
  have ef : ((logP s rs).take m).flatten = logB s (rs.take m) := by rw [logP_take]; rfl
  rw [ef] at hj1 hj2
  rw [ef]
  have hmn : (rs.take m).length = m := by rw [List.length_take]; omega
  refine F5.L2_step ?_
  unfold F5.L2n
  refine ⟨by omega, by show (k : Int) ≤ (((logB s rs).length : Nat) : Int); omega, ?_⟩
  dsimp only
  rw [extract_str, Int.toNat_natCast]
  have hF : (logB s rs).take k = (logP s rs).flatten.take k := rfl
  rw [hj2] at hF
  have hFl := congrArg List.length hF
  rw [List.length_take, Nat.min_eq_left (by omega)] at hFl
  have hk3 : ((logB s rs).take k).length = k := by rw [List.length_take]; omega
  generalize hFF : (logB s rs).take k = F at *
  (repeat (first | (refine Step.go ?_; intros) | refine iteB_t (by decide) ?_ | refine iteB_f (by decide) ?_ | (refine Duo.mk (by first | omega | exact rfl | decide) ?_; intros) | (refine Duo.mk (Clo.mk (by kernel_rfl)) ?_; intros)))
  rename_i fr H5 S5
  have e2 : IntKind.wrap .i64 (((N : Nat) : Int) + (9 : Int)) = ((N + 9 : Nat) : Int) := by rw [wr64 (by omega) (by omega)]; omega
  rw [e2]
  have hgt := mem_tk (m := m) hg
  have hlt := logB_len (s := s) hgt
  have hw := walread_of (most := ((N + 9 : Nat) : Int)) (e0 := e0) (e1 := e1) (P := fun gs en of su => GotAll s (rs.take m) gs ∧ en = (if j = 0 then 1 else 2) ∧ of = (logB s (rs.take m)).length) (fs := strB F) (fr := fr) (l := sl WR.cells 38 6 q N qc rs :: l) (by show F.length ≤ _; omega) S5 (by
    intro H1 l' db fb g2 r8 bp bcc sb br R Er hbb hout S
    have hFd : (strB F).data.toList = F := rfl
    rw [hFd] at R S
    refine rd_loop (T := (match (logP s rs)[m]? with | some P => P.take j | none => [])) (s := s) (rs := rs.take m) (by omega) (by show F.length ≤ bcc; exact hbb) R hF (headed_tk hh) hgt (mem_tk hr) (by omega) (by omega) ?_ (rs.take m).length 0 H1 sb br 1 none 0 [] 0#32 (by omega) rfl rfl S
    intro H sb br brc q qc gs s1 hG hs S
    have hgl := hG.len
    by_cases hj0 : j = 0
    · refine fin_eof (by omega) (by omega) ⟨hG, by rw [if_pos hj0], rfl⟩ S
    · cases hP : (logP s rs)[m]? with
      | none => exact absurd (hj4 hP) hj0
      | some P =>
        have hjl := hj3 P hP
        obtain ⟨r, hr1, rfl⟩ := logP_at hP
        rw [hP] at hF
        have g := hg r (List.mem_of_getElem? hr1)
        have hdl := dat_len g
        have hbl := body_len r.ty (stepS (lastS s (rs.take m)) r) (dat r)
        refine fin_torn (B := body r.ty (stepS (lastS s (rs.take m)) r) (dat r)) (k := j) (by omega) (by show F.length ≤ bcc; exact hbb) R body_pos (by omega) ?_ (by omega) hjl (by omega) ⟨hG, by rw [if_neg hj0], rfl⟩ S
        rw [hF, List.drop_left]
        rfl)
  refine call_of hw ?_
  rintro e H6 ⟨gq, gc, gs, en, of, su, rfl, ⟨hG, rfl, rfl⟩, S6⟩
  clear S5
  (repeat (first | (refine Step.go ?_; intros) | refine iteB_t (by decide) ?_ | refine iteB_f (by decide) ?_ | (refine Duo.mk (by first | omega | exact rfl | decide) ?_; intros) | (refine Duo.mk (Clo.mk (by kernel_rfl)) ?_; intros)))
  rename_i r1 _ _ _ _ _ _ _ _ H7 S7
  clear S6
  have S8 : ∀ su, Sat H7 (sl WR.cells 38 6 gq gs.length gc gs :: sl WR.cells 38 6 q N qc rs :: pt r1 (.cells ⟨[.slice gq gs.length gc, .int .i64 (if j = 0 then 1 else 2), .int .i64 ((logB s (rs.take m)).length : Int), .int .u32 (iv su)]⟩ 31) :: l) → F5.L3 (iv s) q N qc (m : Int) ((logB s (rs.take m)).length : Int) r1 (if j = 0 then 1 else 2) H7 (fun e H1 => e = .returned (.bool true) ∧ Sat H1 l) := by
    intro su S8
    refine F5.L3_step ?_
    unfold F5.L3n
    refine ⟨by omega, by omega, ?_⟩
    rw [Int.toNat_natCast]
    (repeat (first | (refine Step.go ?_; intros) | refine iteB_t (by decide) ?_ | refine iteB_f (by decide) ?_ | (refine Duo.mk (by first | omega | exact rfl | decide) ?_; intros) | (refine Duo.mk (Clo.mk (by kernel_rfl)) ?_; intros)))
    have S9 : Sat H7 (sl WR.cells 38 6 gq gs.length gc gs :: sl WR.cells 38 6 (slP q 0 qc 6) m qc (rs.take m) :: pt r1 (.cells ⟨[.slice gq gs.length gc, .int .i64 (if j = 0 then 1 else 2), .int .i64 ((logB s (rs.take m)).length : Int), .int .u32 (iv su)]⟩ 31) :: l) := S8.to (Ent.cons (Ent.slPart (lo := 0) (hi := m) (mx := qc) (by omega) (by omega) (by omega) (by omega)))
    refine call_of (same_ok hG (by omega) hgt S9) ?_
    rintro e H8 ⟨rfl, S10⟩
    clear S9 S8
    (repeat (first | (refine Step.go ?_; intros) | refine iteB_t (by decide) ?_ | refine iteB_f (by decide) ?_ | (refine Duo.mk (by first | omega | exact rfl | decide) ?_; intros) | (refine Duo.mk (Clo.mk (by kernel_rfl)) ?_; intros)))
    refine iteB_t (beq_self_eq_true _) ?_
    (repeat (first | (refine Step.go ?_; intros) | refine iteB_t (by decide) ?_ | refine iteB_f (by decide) ?_ | (refine Duo.mk (by first | omega | exact rfl | decide) ?_; intros) | (refine Duo.mk (Clo.mk (by kernel_rfl)) ?_; intros)))
    rw [beq_self_eq_true]
    exact ⟨rfl, by have S11 := ‹Sat _ (sl _ _ _ (slP q 0 qc 6) _ _ _ :: _)›; exact S11.to (.drop (.drop .refl))⟩
  have S9 : ∃ su, Sat H7 (sl WR.cells 38 6 gq gs.length gc gs :: sl WR.cells 38 6 q N qc rs :: pt r1 (.cells ⟨[.slice gq gs.length gc, .int .i64 (if j = 0 then 1 else 2), .int .i64 ((logB s (rs.take m)).length : Int), .int .u32 (iv su)]⟩ 31) :: l) := ⟨_, S7.to (by
    iterate 3 (apply Ent.pick; (focus (repeat (first | exact Sel.here | apply Sel.there))))
    exact Fits.out)⟩
  obtain ⟨su, S9⟩ := S9
  have S10 := S8 su S9
  by_cases hj0 : j = 0
  · refine iteB_t (by rw [show ((logB s (rs.take m)).length : Int) = (k : Int) by omega]; exact beq_self_eq_true _) ?_
    rw [if_pos hj0] at S10
    exact S10
  · refine iteB_f (by rw [beq_eq_false_iff_ne]; omega) ?_
    rw [if_neg hj0] at S10
    exact S10
theorem tornAll_ok {cut : Int} (hE : ErP (PH.of H0) e0 e1) (hR : RowsAt WR.cells 6 H0 p rs) (hn : rs.length = n) (hrg : ∀ r ∈ rs, Rg r) :
    CallsH Tryd.prog 5 ⟨[.int .u32 (iv s), .slice p n c, .int .i64 cut]⟩ H0 (Gives (.bool true) H0) := by
  refine F5.calls ?_
  unfold F5.go
  refine call_of (fits_ok hR hn) ?_
  rintro e H1 ⟨b1, rfl, _, E1⟩
  (repeat (first | (refine Step.go ?_; intros) | refine iteB_t (by decide) ?_ | refine iteB_f (by decide) ?_ | (refine Duo.mk (by first | omega | exact rfl | decide) ?_; intros) | (refine Duo.mk (Clo.mk (by kernel_rfl)) ?_; intros)))
  refine iteB_i (fun _ => ⟨rfl, E1⟩) (fun _ => ?_)
  refine call_of (good_ok (hR.ext E1) hn) ?_
  rintro e H2 ⟨b2, rfl, hgood, E2⟩
  (repeat (first | (refine Step.go ?_; intros) | refine iteB_t (by decide) ?_ | refine iteB_f (by decide) ?_ | (refine Duo.mk (by first | omega | exact rfl | decide) ?_; intros) | (refine Duo.mk (Clo.mk (by kernel_rfl)) ?_; intros)))
  refine iteB_i (fun _ => ⟨rfl, E1.trans E2⟩) (fun hb => ?_)
  obtain ⟨hn60, hoff, hg⟩ := hgood (by simpa using hb)
  refine iteB_i (fun _ => ⟨rfl, E1.trans E2⟩) (fun hc0 => ?_)
  have hc0 : 0 ≤ cut := by have := of_decide_eq_false hc0; omega
  have S2 : Sat H2 [old H0] := (Sat.start H0).ext (E1.trans E2)
  refine F5.L0_step ?_
  unfold F5.L0n
  refine call_of (headed_ok (hR.ext (E1.trans E2)) hn (by omega) S2) ?_
  rintro e H3 ⟨q, qc, rfl, S3⟩
  clear S2
  (repeat (first | (refine Step.go ?_; intros) | refine iteB_t (by decide) ?_ | refine iteB_f (by decide) ?_ | (refine Duo.mk (by first | omega | exact rfl | decide) ?_; intros) | (refine Duo.mk (Clo.mk (by kernel_rfl)) ?_; intros)))
  have hga := good_all hg
  generalize hrs : head0 :: rs = rs' at *
  have hn' : rs'.length = n + 1 := by rw [← hrs]; simp [hn]
  have hlb := logB_len (s := s) hga
  have hlp := logP_len rs' s
  refine call_of (pieces_ok (s := s) (by omega) (by decide) hga S3) ?_
  rintro e H4 ⟨o, oc, rfl, S4⟩
  clear S3
  (repeat (first | (refine Step.go ?_; intros) | refine iteB_t (by decide) ?_ | refine iteB_f (by decide) ?_ | (refine Duo.mk (by first | omega | exact rfl | decide) ?_; intros) | (refine Duo.mk (Clo.mk (by kernel_rfl)) ?_; intros)))
  have hRR : RowsAt stC 1 H4 o ((logP s rs').map strB) := by
    have := rows_sl S4 (List.mem_cons_self ..) 0 (n + 1) (by omega)
    rw [slP_zero, List.drop_zero, List.take_of_length_le (by simp; omega)] at this
    exact this
  refine gives_i S4 (join_ok hRR (by omega) (by omega) (by show (logB s rs').length ≤ _; omega)) fun H5 E5 S5 => ?_
  clear S4
  (repeat (first | (refine Step.go ?_; intros) | refine iteB_t (by decide) ?_ | refine iteB_f (by decide) ?_ | (refine Duo.mk (by first | omega | exact rfl | decide) ?_; intros) | (refine Duo.mk (Clo.mk (by kernel_rfl)) ?_; intros)))
  have ew : IntKind.wrap .i64 (((ByteArray.size (strB (logP s rs').flatten) : Nat) : Int) + (1 : Int)) = (((logB s rs').length + 1 : Nat) : Int) := by
    show IntKind.wrap .i64 ((((logB s rs').length : Nat) : Int) + (1 : Int)) = _
    rw [wr64 (by omega) (by omega)]; rfl
  rw [ew]
  refine ⟨by omega, ?_⟩
  obtain ⟨k, hk⟩ : ∃ k : Nat, Int.tmod cut (((logB s rs').length + 1 : Nat) : Int) = (k : Int) := ⟨(Int.tmod cut (((logB s rs').length + 1 : Nat) : Int)).toNat, (Int.toNat_of_nonneg (Int.tmod_nonneg _ hc0)).symm⟩
  have hk2 := Int.tmod_lt_of_pos cut (b := (((logB s rs').length + 1 : Nat) : Int)) (by omega)
  rw [hk] at hk2 ⊢
  haveI El : Ers [old H0] e0 e1 := Ers.old hE
  refine GoL.mono (R := fun e H1 => e = .returned (.bool true) ∧ Sat H1 [old H0]) (torn_loop (k := k) (Ps := logP s rs') (l := sl WR.cells 38 6 q (n + 1) qc rs' :: [old H0]) (by omega) (by omega) (by show (logB s rs').length ≤ _; omega) (by show _ ≤ (logB s rs').length; omega) S5 ?_ (fitN (logP s rs') k) 0 (by omega)) ?_
  · refine torn_tail (hrs ▸ headed_all) hga (hrs ▸ rg_all hrg) (by omega) (by omega) (S5.to (.drop .refl))
  · rintro e H6 ⟨rfl, S6⟩
    exact ⟨rfl, S6.old (by simp)⟩
end
end Go.Proofs.YtkejocbhmcphiaaDoor
