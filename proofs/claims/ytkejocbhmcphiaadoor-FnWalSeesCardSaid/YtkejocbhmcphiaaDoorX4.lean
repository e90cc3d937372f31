/- What functions of this seat do, each proved by a walk; no condition. -/
import Derived.Test.YtkejocbhmcphiaaDoorX3
set_option linter.unusedVariables false
set_option linter.unusedSimpArgs false
set_option linter.unnecessarySimpa false
set_option maxRecDepth 100000
namespace Go.Proofs.YtkejocbhmcphiaaDoor
open Go Go.Den Go.Proofs
theorem bndD_i {i y : Nat} {k : Nat → Prop} (h : i ≤ y) (hk : k i) : bndD (i : Int) y k := ⟨by omega, by omega, by rw [Int.toNat_natCast]; exact hk⟩
theorem ldInt_i {H : Heap} {a : Addr} {kd : IntKind} {m : Int} {k : Int → Prop} (h : hcell H a = some (.int kd m)) (hk : k m) : ldInt H a kd k := ⟨m, h, hk⟩
theorem nilD_i {a : Addr} {k : Addr → Prop} (hk : k a) : nilD (some a) k := hk
theorem newX {H : Heap} {o : Obj} {l : List HP} {K : Nat → Heap → Prop} (S : Sat H l) (k : ∀ r H1, ExtH H H1 → Sat H1 (pt r o :: l) → K r H1) : newD H o K := k _ _ (ExtH.push _ _) (S.push o)
/-! FnWalSees: a changed byte is seen. -/
section
variable {H0 : Heap} {p : Option Addr} {n c : Nat} {rs : List WR} {s : W32} {e0 e1 : Addr}
abbrev seesP (s : W32) (rs : List WR) (i : Nat) : List WR → Int → Nat → W32 → Prop := fun gs en of su => GotAll s (rs.take i) gs ∧ (en = 2 ∨ en = 3) ∧ of = (logB s (rs.take i)).length
theorem sees_read {l : List HP} {H : Heap} {N i fr j : Nat} {r : WR} {ys rest : List UInt8} {x v : UInt8} [El : Ers l e0 e1] (hh : Headed rs) (hg : ∀ r ∈ rs, GoodR r) (hr : ∀ r ∈ rs, Rg r) (hn : rs.length = N) (hN : N ≤ 70) (hi0 : 0 < i) (hi : rs[i]? = some r)
    (hd : dat r = some ys) (hx : ys[j]? = some x) (hv : v ≠ x) (hrest : rest.length ≤ 900000000) (hP4 : r.ty ≠ 4)
    (S : Sat H (pt fr (.cells ⟨[.string (strB (logB s (rs.take i) ++ (frameB (body r.ty (stepS (lastS s (rs.take i)) r) (some (ys.set j v))) ++ rest)))]⟩ 9) :: l)) :
    CallsH Tryd.prog 10 [.slice (some ⟨fr, 0, none⟩) 1 1, .int .i64 (IntKind.wrap .i64 (((N : Nat) : Int) + (9 : Int))), .bool true, .bool false].toArray H (outR (seesP s rs i) l) := by
  have e2 : IntKind.wrap .i64 (((N : Nat) : Int) + (9 : Int)) = ((N + 9 : Nat) : Int) := by rw [wr64 (by omega) (by omega)]; omega
  rw [e2]
  have g := hg r (List.mem_of_getElem? hi)
  have hdl := dat_len g
  rw [hd] at hdl
  have hyl : ys.length ≤ 5000 := hdl
  have hil := (split_at hi).1
  have hin : (rs.take i).length = i := by rw [List.length_take]; omega
  have hgt := mem_tk (m := i) hg
  have hlt := logB_len (s := s) hgt
  have hbl := body_len r.ty (stepS (lastS s (rs.take i)) r) (some (ys.set j v))
  have hsl : dlen (some (ys.set j v)) = ys.length := by show (ys.set j v).length = _; rw [List.length_set]
  have hfl := frameB_len (body r.ty (stepS (lastS s (rs.take i)) r) (some (ys.set j v)))
  have hpad := padOf_lt (body r.ty (stepS (lastS s (rs.take i)) r) (some (ys.set j v))).length
  generalize hFF : logB s (rs.take i) ++ (frameB (body r.ty (stepS (lastS s (rs.take i)) r) (some (ys.set j v))) ++ rest) = F at *
  have hFl := congrArg List.length hFF
  rw [List.length_append, List.length_append] at hFl
  refine walread_of (most := ((N + 9 : Nat) : Int)) (e0 := e0) (e1 := e1) (P := seesP s rs i) (fs := strB F) (fr := fr) (l := l) (by show F.length ≤ _; omega) S (by
    intro H1 l' db fb g2 r8 bp bcc sb br R Er hbb hout S
    have hFd : (strB F).data.toList = F := rfl
    rw [hFd] at R S
    refine rd_loop (T := frameB (body r.ty (stepS (lastS s (rs.take i)) r) (some (ys.set j v))) ++ rest) (s := s) (rs := rs.take i) (by omega) (by show F.length ≤ bcc; exact hbb) R hFF.symm (headed_tk hh) hgt (mem_tk hr) (by omega) (by omega) ?_ (rs.take i).length 0 H1 sb br 1 none 0 [] 0#32 (by omega) rfl rfl S
    intro H sb br brc q qc gs s1 hG hs S
    have hgl := hG.len
    rw [if_neg (by omega)] at hs
    refine fin_bad (c := stepS (lastS s (rs.take i)) r) (d := some (ys.set j v)) (rest := rest) (ty := r.ty) (by omega) (by show F.length ≤ bcc; exact hbb) R (hr r (List.mem_of_getElem? hi)) (by omega) (by rw [← hFF, List.drop_left]) hP4 ?_ (by omega) (fun en he => ⟨hG, he, rfl⟩) S
    subst hs
    show crcUpd (lastS s (rs.take i)) (ys.set j v) ≠ stepS (lastS s (rs.take i)) r
    unfold stepS
    rw [hd]
    exact crcUpd_set hx hv)
theorem sees_tail {l : List HP} {H : Heap} {q gq : Option Addr} {N qc gc i of r3 : Nat} {gs : List WR} {en : Int} {su : W32} (hg : ∀ r ∈ rs, GoodR r) (hN : N ≤ 70) (hi : i ≤ N) (hP : seesP s rs i gs en of su)
    (S : Sat H (sl WR.cells 38 6 gq gs.length gc gs :: sl WR.cells 38 6 q N qc rs :: pt r3 (.cells ⟨[.slice gq gs.length gc, .int .i64 en, .int .i64 ((of : Nat) : Int), .int .u32 (iv su)]⟩ 31) :: l)) :
    F4.L1 (iv s) q N qc (i : Int) (strB (logB s (rs.take i))) r3 H (fun e H1 => e = .returned (.bool true) ∧ Sat H1 l) := by
  have hn := (S.slLen (List.mem_cons_of_mem _ (List.mem_cons_self ..))).1
  have hqc := (S.slLen (List.mem_cons_of_mem _ (List.mem_cons_self ..))).2
  obtain ⟨hG, hen, rfl⟩ := hP
  refine F4.L1_step ?_
  unfold F4.L1n
  refine ⟨by omega, by omega, ?_⟩
  rw [Int.toNat_natCast]
  (repeat (first | (refine Step.go ?_; intros) | refine iteB_t (by decide) ?_ | refine iteB_f (by decide) ?_ | (refine Duo.mk (by first | omega | exact rfl | decide) ?_; intros) | (refine Duo.mk (Clo.mk (by kernel_rfl)) ?_; intros)))
  have S9 := S.to (Ent.cons (Ent.slPart (lo := 0) (hi := i) (mx := qc) (by omega) (by omega) (by omega) (by omega)))
  refine call_of (same_ok hG (by omega) (mem_tk hg) S9) ?_
  rintro e H8 ⟨rfl, S10⟩
  clear S9 S
  have S11 := S10.to (.drop .refl)
  have S12 : Sat H8 l := S11.to (.drop .refl)
  have e5 : (((logB s (rs.take i)).length : Int) == ((ByteArray.size (strB (logB s (rs.take i))) : Nat) : Int)) = true := beq_self_eq_true _
  rcases hen with rfl | rfl
  · (repeat (first | (refine Step.go ?_; intros) | refine iteB_t (by decide) ?_ | refine iteB_f (by decide) ?_ | (refine Duo.mk (by first | omega | exact rfl | decide) ?_; intros) | (refine Duo.mk (Clo.mk (by kernel_rfl)) ?_; intros)))
    rw [e5]
    exact ⟨rfl, S12⟩
  · (repeat (first | (refine Step.go ?_; intros) | refine iteB_t (by decide) ?_ | refine iteB_f (by decide) ?_ | (refine Duo.mk (by first | omega | exact rfl | decide) ?_; intros) | (refine Duo.mk (Clo.mk (by kernel_rfl)) ?_; intros)))
    rw [e5]
    exact ⟨rfl, S12⟩
theorem sumsP_at : ∀ {rs : List WR} {s : W32} {i : Nat} {r : WR}, rs[i]? = some r → (sumsP s rs)[i]? = some (stepS (lastS s (rs.take i)) r)
  | [], s, i, r, h => by simp at h
  | x :: rs, s, 0, r, h => by simp at h; subst h; rfl
  | x :: rs, s, i + 1, r, h => by
    have := sumsP_at (s := stepS s x) (i := i) (by simpa using h)
    simpa [sumsP, lastS] using this
theorem sees_ok {place at_ : Int} {by_ : Int} (hb0 : 0 ≤ by_) (hb1 : by_ < 256) (hE : ErP (PH.of H0) e0 e1) (hR : RowsAt WR.cells 6 H0 p rs) (hn : rs.length = n) (hrg : ∀ r ∈ rs, Rg r) :
    CallsH Tryd.prog 4 ⟨[.int .u32 (iv s), .slice p n c, .int .i64 place, .int .i64 at_, .int .u8 by_]⟩ H0 (Gives (.bool true) H0) := by
  refine F4.calls ?_
  unfold F4.go
  refine call_of (fits_ok hR hn) ?_
  rintro e H1 ⟨b1, rfl, _, E1⟩
  (repeat (first | (refine Step.go ?_; intros) | refine iteB_t (by decide) ?_ | refine iteB_f (by decide) ?_ | (refine Duo.mk (by first | omega | exact rfl | decide) ?_; intros) | (refine Duo.mk (Clo.mk (by kernel_rfl)) ?_; intros)))
  refine iteB_i (fun _ => ⟨rfl, E1⟩) (fun _ => ?_)
  refine call_of (good_ok (hR.ext E1) hn) ?_
  rintro e H2 ⟨b2, rfl, hgood, E2⟩
  (repeat (first | (refine Step.go ?_; intros) | refine iteB_t (by decide) ?_ | refine iteB_f (by decide) ?_ | (refine Duo.mk (by first | omega | exact rfl | decide) ?_; intros) | (refine Duo.mk (Clo.mk (by kernel_rfl)) ?_; intros)))
  refine iteB_i (fun _ => ⟨rfl, E1.trans E2⟩) (fun hb => ?_)
  obtain ⟨hn60, hoff, hg⟩ := hgood (by simpa using hb)
  refine iteB_i (fun _ => ⟨rfl, E1.trans E2⟩) (fun hc0 => ?_)
  have hc0 : 0 ≤ place := by have := of_decide_eq_false hc0; omega
  refine iteB_i (fun _ => ⟨rfl, E1.trans E2⟩) (fun hc1 => ?_)
  have hc1 : 0 ≤ at_ := by have := of_decide_eq_false hc1; omega
  refine iteB_i (fun _ => ⟨rfl, E1.trans E2⟩) (fun hc2 => ?_)
  have hc2 : by_ ≠ 0 := by simpa using hc2
  refine iteB_i (fun _ => ⟨rfl, E1.trans E2⟩) (fun hc3 => ?_)
  have hc3 : n ≠ 0 := by simpa using hc3
  have S2 : Sat H2 [old H0] := (Sat.start H0).ext (E1.trans E2)
  refine F4.L0_step ?_
  unfold F4.L0n
  obtain ⟨t, ht⟩ : ∃ t : Nat, Int.tmod place ((n : Nat) : Int) = (t : Int) := ⟨(Int.tmod place ((n : Nat) : Int)).toNat, (Int.toNat_of_nonneg (Int.tmod_nonneg _ hc0)).symm⟩
  have ht2 := Int.tmod_lt_of_pos place (b := ((n : Nat) : Int)) (by omega)
  rw [ht] at ht2 ⊢
  have ei : IntKind.wrap .i64 ((1 : Int) + (t : Int)) = ((t + 1 : Nat) : Int) := by rw [wr64 (by omega) (by omega)]; omega
  rw [ei]
  refine ⟨by omega, ?_⟩
  refine call_of (headed_ok (hR.ext (E1.trans E2)) hn (by omega) S2) ?_
  rintro e H3 ⟨q, qc, rfl, S3⟩
  clear S2
  (repeat (first | (refine Step.go ?_; intros) | refine iteB_t (by decide) ?_ | refine iteB_f (by decide) ?_ | (refine Duo.mk (by first | omega | exact rfl | decide) ?_; intros) | (refine Duo.mk (Clo.mk (by kernel_rfl)) ?_; intros)))
  have hga := good_all hg
  have hrga := rg_all hrg
  have hhd : Headed (head0 :: rs) := headed_all
  generalize hrs : head0 :: rs = rs' at *
  have hn' : rs'.length = n + 1 := by rw [← hrs]; simp [hn]
  have hlb := logB_len (s := s) hga
  have hlp := logP_len rs' s
  generalize hi : t + 1 = i at *
  obtain ⟨r, hr⟩ : ∃ r, rs'[i]? = some r := get_of (by omega)
  have g := hga r (List.mem_of_getElem? hr)
  have hI := HasI.nat hr
  refine Sat.idx (f := WR.cells) (E := 38) (z := 6) (xs := rs') S3 ⟨by omega, by omega, fun r0 o0 hr0 => ?_⟩
  subst hr0
  (repeat (first | (refine Step.go ?_; intros) | refine iteB_t (by decide) ?_ | refine iteB_f (by decide) ?_ | (refine Duo.mk (by first | omega | exact rfl | decide) ?_; intros) | (refine Duo.mk (Clo.mk (by kernel_rfl)) ?_; intros)))
  rename_i rb _ _ _ _ _ _ _ _ _ _ _ _ H8 S8
  clear S3
  refine call_of (pieces_ok (s := s) (n := n + 1) (rs := rs') (l := pt rb (.cells ⟨r.cells⟩ 38) :: [old H0]) (by omega) (by decide) hga (S8.to (by
    iterate 2 (apply Ent.pick; (focus (repeat (first | exact Sel.here | apply Sel.there))))
    exact Fits.out))) ?_
  rintro e H4 ⟨o, oc, rfl, S4⟩
  clear S8
  (repeat (first | (refine Step.go ?_; intros) | refine iteB_t (by decide) ?_ | refine iteB_f (by decide) ?_ | (refine Duo.mk (by first | omega | exact rfl | decide) ?_; intros) | (refine Duo.mk (Clo.mk (by kernel_rfl)) ?_; intros)))
  refine iteB_i (fun _ => ⟨rfl, S4.old (by simp)⟩) (fun hne => ?_)
  have hocc := (S4.slLen (List.mem_cons_self ..)).2
  refine bndD_i (by omega) ?_
  have hne2 : r.data ≠ ByteArray.mk #[] := by rw [eqS_eq] at hne; exact of_decide_eq_false hne
  have hhd2 : r.hasD = true := by
    cases h : r.hasD with
    | true => rfl
    | false => exact absurd (g.2.2.1 h) hne2
  have hdat : dat r = some r.data.data.toList := by unfold dat; rw [if_pos hhd2]
  have hty : r.ty ≠ 4 := fun h => by have := g.2.2.2 h; rw [hhd2] at this; cases this
  have hsz : r.data.size ≠ 0 := fun h => hne2 (by
    apply ByteArray.ext
    exact Array.eq_empty_of_size_eq_zero h)
  have hds : r.data.data.toList.length = r.data.size := rfl
  have hsz5 := g.2.1
  obtain ⟨hil, hPs⟩ := split_at (show (logP s rs')[i]? = some (recB (lastS s (rs'.take i)) r) by
    obtain ⟨P, hP⟩ : ∃ P, (logP s rs')[i]? = some P := get_of (by omega)
    obtain ⟨r', h1, h2⟩ := logP_at hP
    rw [hr] at h1
    cases h1
    rw [hP, h2])
  have hlB : logB s rs' = logB s (rs'.take i) ++ (recB (lastS s (rs'.take i)) r ++ ((logP s rs').drop (i + 1)).flatten) := by
    conv => lhs; unfold logB; rw [hPs]
    rw [List.flatten_append, List.flatten_cons, logP_take]
    rfl
  have hlL := congrArg List.length hlB
  rw [List.length_append, List.length_append] at hlL
  have hRA : RowsAt stC 1 H4 (slP o 0 oc 1) (((logP s rs').take i).map strB) := by
    have := rows_sl S4 (List.mem_cons_self ..) 0 i (by omega)
    rw [List.drop_zero, ← List.map_take] at this
    exact this
  refine gives_i S4 (join_ok hRA (by rw [List.length_take]; omega) (by omega) (by rw [logP_take]; show (logB s (rs'.take i)).length ≤ _; omega)) fun H5 E5 S5 => ?_
  clear S4
  rw [logP_take]
  (repeat (first | (refine Step.go ?_; intros) | refine iteB_t (by decide) ?_ | refine iteB_f (by decide) ?_ | (refine Duo.mk (by first | omega | exact rfl | decide) ?_; intros) | (refine Duo.mk (Clo.mk (by kernel_rfl)) ?_; intros)))
  have hPi : ((logP s rs').map strB)[i]? = some (strB (recB (lastS s (rs'.take i)) r)) := by
    obtain ⟨P, hP⟩ : ∃ P, (logP s rs')[i]? = some P := get_of (by omega)
    obtain ⟨r', h1, h2⟩ := logP_at hP
    rw [hr] at h1
    cases h1
    rw [List.getElem?_map, hP, h2]
    rfl
  have hI2 := HasI.nat hPi
  have hrl := recB_len (s := lastS s (rs'.take i)) g
  have hrz : (strB (recB (lastS s (rs'.take i)) r)).size = (recB (lastS s (rs'.take i)) r).length := rfl
  refine Sat.idx (f := stC) (E := 9) (z := 1) (xs := (logP s rs').map strB) S5 ⟨by omega, by omega, fun r1 o1 hr1 => ?_⟩
  subst hr1
  (repeat (first | (refine Step.go ?_; intros) | refine iteB_t (by decide) ?_ | refine iteB_f (by decide) ?_ | (refine Duo.mk (by first | omega | exact rfl | decide) ?_; intros) | (refine Duo.mk (Clo.mk (by kernel_rfl)) ?_; intros)))
  rename_i r1b cap H6 hcap S6
  clear S5
  refine call_of (walbytes_ok (s := s) (n := n + 1) (rs := rs') (l := sl stC 9 1 (some ⟨r1, o1, none⟩) (n + 1) oc ((logP s rs').map strB) :: pt rb (.cells ⟨r.cells⟩ 38) :: pt r1b (.cells ⟨bytesOf (recB (lastS s (rs'.take i)) r) ++ List.replicate (cap - (recB (lastS s (rs'.take i)) r).length) (.int .u8 0)⟩ 5 (cap, cap + 1)) :: [old H0]) (by omega) hga (S6.to (by
    iterate 4 (apply Ent.pick; (focus (repeat (first | exact Sel.here | apply Sel.there))))
    exact Fits.out))) ?_
  rintro e H7 ⟨q1, c1, q2, c2, outs, rfl, hou, S7⟩
  clear S6
  (repeat (first | (refine Step.go ?_; intros) | refine iteB_t (by decide) ?_ | refine iteB_f (by decide) ?_ | (refine Duo.mk (by first | omega | exact rfl | decide) ?_; intros) | (refine Duo.mk (Clo.mk (by kernel_rfl)) ?_; intros)))
  have hSi : (sumsP s rs')[i]? = some (stepS (lastS s (rs'.take i)) r) := sumsP_at hr
  have hI3 := HasI.nat hSi
  refine Sat.idx (f := u3C) (E := 22) (z := 1) (xs := sumsP s rs') S7 ⟨by omega, by omega, fun r2 o2 hr2 => ?_⟩
  subst hr2
  (repeat (first | (refine Step.go ?_; intros) | refine iteB_t (by decide) ?_ | refine iteB_f (by decide) ?_ | (refine Duo.mk (by first | omega | exact rfl | decide) ?_; intros) | (refine Duo.mk (Clo.mk (by kernel_rfl)) ?_; intros)))
  refine gives_i S7 (bodyS_ok (s := stepS (lastS s (rs'.take i)) r) g) fun H9 E9 S9 => ?_
  clear S7
  (repeat (first | (refine Step.go ?_; intros) | refine iteB_t (by decide) ?_ | refine iteB_f (by decide) ?_ | (refine Duo.mk (by first | omega | exact rfl | decide) ?_; intros) | (refine Duo.mk (Clo.mk (by kernel_rfl)) ?_; intros)))
  obtain ⟨j, hj⟩ : ∃ j : Nat, Int.tmod at_ ((r.data.size : Nat) : Int) = (j : Int) := ⟨(Int.tmod at_ ((r.data.size : Nat) : Int)).toNat, (Int.toNat_of_nonneg (Int.tmod_nonneg _ hc1)).symm⟩
  have hj2 := Int.tmod_lt_of_pos at_ (b := ((r.data.size : Nat) : Int)) (by omega)
  rw [hj] at hj2 ⊢
  rw [hdat]
  generalize hys : r.data.data.toList = ys at *
  generalize hc : stepS (lastS s (rs'.take i)) r = cs at *
  have hrec : recB (lastS s (rs'.take i)) r = frameB (body r.ty cs (some ys)) := by unfold recB; rw [hc, hdat]
  have hbl := congrArg List.length (body_pre r.ty cs ys)
  rw [List.length_append] at hbl
  have hfl := frameB_len (body r.ty cs (some ys))
  have hbl2 := body_len r.ty cs (some ys)
  have hdl2 : dlen (some ys) = ys.length := rfl
  have ex : IntKind.wrap .i64 (IntKind.wrap .i64 (IntKind.wrap .i64 ((8 : Int) + ((ByteArray.size (strB (body r.ty cs (some ys))) : Nat) : Int)) - ((r.data.size : Nat) : Int)) + (j : Int)) = ((8 + (preB r.ty cs ys.length).length + j : Nat) : Int) := by
    have e : ((ByteArray.size (strB (body r.ty cs (some ys))) : Nat) : Int) = ((body r.ty cs (some ys)).length : Int) := rfl
    have w1 : IntKind.wrap .i64 ((8 : Int) + ((body r.ty cs (some ys)).length : Int)) = (8 : Int) + ((body r.ty cs (some ys)).length : Int) := wr64 (by omega) (by omega)
    have w2 : IntKind.wrap .i64 ((8 : Int) + ((body r.ty cs (some ys)).length : Int) - ((r.data.size : Nat) : Int)) = (8 : Int) + ((body r.ty cs (some ys)).length : Int) - ((r.data.size : Nat) : Int) := wr64 (by omega) (by omega)
    rw [e, w1, w2, wr64 (by omega) (by omega)]
    omega
  rw [ex]
  obtain ⟨x, hx⟩ : ∃ x, ys[j]? = some x := get_of (by omega)
  have hfx := frame_get (ty := r.ty) (c := cs) (show j < ys.length by omega)
  rw [hx] at hfx
  generalize hk : 8 + (preB r.ty cs ys.length).length + j = k at *
  rw [hrec] at S9 hI2 hPi
  rw [hrec]
  have hkl := (split_at hfx).1
  have S10 : Sat H9 (pt r1b (.cells ⟨bytesOf (frameB (body r.ty cs (some ys))) ++ List.replicate (cap - (frameB (body r.ty cs (some ys))).length) (.int .u8 0)⟩ 5 (cap, cap + 1)) :: sl stC 9 1 (some ⟨r1, o1, none⟩) (n + 1) oc ((logP s rs').map strB) :: sl WR.cells 38 6 (some ⟨r0, o0, none⟩) (n + 1) qc rs' :: [old H0]) := S9.to (by
    iterate 3 (apply Ent.pick; (focus (repeat (first | exact Sel.here | apply Sel.there))))
    exact Fits.out)
  clear S9
  have hsz9 : ByteArray.size (strB (frameB (body r.ty cs (some ys)))) = (frameB (body r.ty cs (some ys))).length := rfl
  rw [hsz9]
  have hcap2 : (frameB (body r.ty cs (some ys))).length ≤ cap := by rw [hrec] at hcap; exact hcap
  obtain ⟨v, hv1, hv2⟩ := xor8 x hc2 hb0 hb1
  have hcx : (bytesOf (frameB (body r.ty cs (some ys))) ++ List.replicate (cap - (frameB (body r.ty cs (some ys))).length) (.int .u8 0))[k]? = some (.int .u8 (x.toNat : Int)) := by unfold bytesOf; rw [List.getElem?_append_left (by simpa using hkl), List.getElem?_map, hfx]; rfl
  rw [add_mk, Int.toNat_natCast, Nat.mul_one, Nat.zero_add]
  refine Duo.mk (by omega) (ldInt_i (hcell_of (S10.at_ (List.mem_cons_self ..)) hcx) ?_)
  rw [hv1]
  refine ⟨by omega, by omega, ?_⟩
  refine nilD_i ?_
  rw [add_mk, Nat.zero_add]
  refine Sat.setFr S10 (u := .int .u8 (x.toNat : Int)) hcx rfl (by omega) fun H14 S14 => ?_
  clear S10
  rw [bytesOf_set _ _ _ _ hkl, ← hk, frame_set (by omega)] at S14
  have hys2 : (ys.set j v).length = ys.length := List.length_set ..
  have hbs : (frameB (body r.ty cs (some (ys.set j v)))).length = (frameB (body r.ty cs (some ys))).length := by rw [← frame_set (by omega), List.length_set]
  generalize hG : frameB (body r.ty cs (some (ys.set j v))) = G at *
  have e6 : IntKind.wrap .i64 ((i : Int) + (1 : Int)) = ((i + 1 : Nat) : Int) := by rw [wr64 (by omega) (by omega)]; rfl
  rw [e6]
  have hgl : (recB (lastS s (rs'.take i)) r).length = G.length := by rw [hrec, hbs]
  have hrdl : ∀ {K : ByteArray → Prop}, K (strB G) → bsD H14 (some ⟨r1b, 0, none⟩) (frameB (body r.ty cs (some ys))).length K := fun hK => (Rd1.of_pt (List.mem_cons_self ..)).bs S14 hbs hK
  generalize hZ : ((logP s rs').drop (i + 1)) = Z at *
  have hZl : Z.length = n - i := by rw [← hZ, List.length_drop]; omega
  have hRZ : ∀ {H'}, ExtH H14 H' → RowsAt stC 1 H' (slP (some ⟨r1, o1, none⟩) (i + 1) oc 1) (Z.map strB) := fun E => by
    have := rows_sl S14 (List.mem_cons_of_mem _ (List.mem_cons_self ..)) (i + 1) (n - i) (by omega)
    rw [← List.map_drop, hZ, List.take_of_length_le (by simp; omega)] at this
    exact this.ext E
  haveI El : Ers (sl WR.cells 38 6 (some ⟨r0, o0, none⟩) (n + 1) qc rs' :: [old H0]) e0 e1 := Ers.there (h := Ers.old hE)
  have S15 : Sat H14 (sl WR.cells 38 6 (some ⟨r0, o0, none⟩) (n + 1) qc rs' :: [old H0]) := S14.to (.drop (.drop .refl))
  have hAl : (logB s (rs'.take i)).length + G.length + Z.flatten.length ≤ 1000000 := by omega
  have hjoin : ∀ {H'}, ExtH H14 H' → CallsH Tryd.prog 14 ⟨[.slice (slP (some ⟨r1, o1, none⟩) (i + 1) oc 1) (n + 1 - (i + 1)) (oc - (i + 1))]⟩ H' (strO Z.flatten H') := fun E => join_ok (hRZ E) (by omega) (by omega) (by omega)
  have hdone : ∀ {e H'}, (fun e H1 => e = .returned (.bool true) ∧ Sat H1 [old H0]) e H' → Gives (.bool true) H0 e H' := fun h => ⟨h.1, h.2.old (by simp)⟩
  have hAl2 : (logP s (rs'.take i)).flatten.length + G.length + Z.flatten.length ≤ 1000000 := hAl
  have hread : ∀ {H' : Heap} {fr : Nat} {l : List HP} (_ : Ers l e0 e1), Sat H' (pt fr (.cells ⟨[.string (strB ((logP s (rs'.take i)).flatten ++ (G ++ Z.flatten)))]⟩ 9) :: l) → CallsH Tryd.prog 10 [.slice (some ⟨fr, 0, none⟩) 1 1, .int .i64 (IntKind.wrap .i64 (((n + 1 : Nat) : Int) + (9 : Int))), .bool true, .bool false].toArray H' (outR (seesP s rs' i) l) := fun El S => by
    subst hG
    subst hc
    exact sees_read hhd hga hrga hn' (by omega) (by omega) hr hdat hx hv2 (by omega) hty S
  have hfin : ∀ {H' : Heap} {gq : Option Addr} {gc of r3 : Nat} {gs : List WR} {en : Int} {su : W32}, seesP s rs' i gs en of su → Sat H' (sl WR.cells 38 6 gq gs.length gc gs :: sl WR.cells 38 6 (some ⟨r0, o0, none⟩) (n + 1) qc rs' :: pt r3 (.cells ⟨[.slice gq gs.length gc, .int .i64 en, .int .i64 ((of : Nat) : Int), .int .u32 (iv su)]⟩ 31) :: [old H0]) → F4.L1 (iv s) (some ⟨r0, o0, none⟩) (n + 1) qc (i : Int) (strB (logP s (rs'.take i)).flatten) r3 H' (Gives (.bool true) H0) := fun hP S => GoL.mono (sees_tail hga (by omega) (by omega) hP S) fun e H1 h => hdone h
  refine ⟨?_, ?_, ?_, ?_⟩
  · refine bndD_i (by omega) (hrdl (cat_i (by omega) ?_))
    refine call_of (hjoin (ExtH.refl _)) ?_
    rintro e H15 ⟨rfl, E15⟩
    (repeat (first | (refine Step.go ?_; intros) | refine iteB_t (by decide) ?_ | refine iteB_f (by decide) ?_ | (refine Duo.mk (by first | omega | exact rfl | decide) ?_; intros) | (refine Duo.mk (Clo.mk (by kernel_rfl)) ?_; intros)))
    refine cat_i (by rw [List.length_append]; omega) ?_
    rw [List.append_assoc]
    have S16 := S15.ext E15
    (repeat (first | (refine Step.go ?_; intros) | refine iteB_t (by decide) ?_ | refine iteB_f (by decide) ?_ | (refine Duo.mk (by first | omega | exact rfl | decide) ?_; intros) | (refine Duo.mk (Clo.mk (by kernel_rfl)) ?_; intros)))
    rename_i fr HA SA r3 HB SB
    clear SA S16
    refine call_of (hread (l := pt r3 (.cells ⟨[.slice none 0 0, .int .i64 0, .int .i64 0, .int .u32 0]⟩ 31) :: sl WR.cells 38 6 (some ⟨r0, o0, none⟩) (n + 1) qc rs' :: [old H0]) (Ers.there (h := El)) (SB.to (by
      apply Ent.pick; (focus (repeat (first | exact Sel.here | apply Sel.there)))
      iterate 2 (apply Ent.pick; (focus (repeat (first | exact Sel.here | apply Sel.there))))
      exact Fits.out))) ?_
    rintro e H18 ⟨gq, gc, gs, en, of, su, rfl, hP, S18⟩
    (repeat (first | (refine Step.go ?_; intros) | refine iteB_t (by decide) ?_ | refine iteB_f (by decide) ?_ | (refine Duo.mk (by first | omega | exact rfl | decide) ?_; intros) | (refine Duo.mk (Clo.mk (by kernel_rfl)) ?_; intros)))
    rename_i HZ SZ
    refine hfin (gq := gq) (gc := gc) hP (SZ.to ?_)
    iterate 3 (apply Ent.pick; (focus (repeat (first | exact Sel.here | apply Sel.there))))
    exact Fits.out
  · refine bndD_i (by omega) (hrdl (cat_i (by omega) ?_))
    refine call_of (hjoin (ExtH.refl _)) ?_
    rintro e H15 ⟨rfl, E15⟩
    (repeat (first | (refine Step.go ?_; intros) | refine iteB_t (by decide) ?_ | refine iteB_f (by decide) ?_ | (refine Duo.mk (by first | omega | exact rfl | decide) ?_; intros) | (refine Duo.mk (Clo.mk (by kernel_rfl)) ?_; intros)))
    refine cat_i (by rw [List.length_append]; omega) ?_
    rw [List.append_assoc]
    have S16 := S15.ext E15
    (repeat (first | (refine Step.go ?_; intros) | refine iteB_t (by decide) ?_ | refine iteB_f (by decide) ?_ | (refine Duo.mk (by first | omega | exact rfl | decide) ?_; intros) | (refine Duo.mk (Clo.mk (by kernel_rfl)) ?_; intros)))
    rename_i fr HB SB
    clear S16
    refine call_of (hread (l := sl WR.cells 38 6 (some ⟨r0, o0, none⟩) (n + 1) qc rs' :: [old H0]) El (SB.to (by
      apply Ent.pick; (focus (repeat (first | exact Sel.here | apply Sel.there)))
      exact Fits.out))) ?_
    rintro e H18 ⟨gq, gc, gs, en, of, su, rfl, hP, S18⟩
    (repeat (first | (refine Step.go ?_; intros) | refine iteB_t (by decide) ?_ | refine iteB_f (by decide) ?_ | (refine Duo.mk (by first | omega | exact rfl | decide) ?_; intros) | (refine Duo.mk (Clo.mk (by kernel_rfl)) ?_; intros)))
    rename_i HZ SZ
    refine hfin (gq := gq) (gc := gc) hP (SZ.to ?_)
    iterate 3 (apply Ent.pick; (focus (repeat (first | exact Sel.here | apply Sel.there))))
    exact Fits.out
  · refine bndD_i (by omega) (hrdl (cat_i (by omega) ?_))
    refine call_of (hjoin (ExtH.refl _)) ?_
    rintro e H15 ⟨rfl, E15⟩
    (repeat (first | (refine Step.go ?_; intros) | refine iteB_t (by decide) ?_ | refine iteB_f (by decide) ?_ | (refine Duo.mk (by first | omega | exact rfl | decide) ?_; intros) | (refine Duo.mk (Clo.mk (by kernel_rfl)) ?_; intros)))
    refine cat_i (by rw [List.length_append]; omega) ?_
    rw [List.append_assoc]
    have S16 := S15.ext E15
    (repeat (first | (refine Step.go ?_; intros) | refine iteB_t (by decide) ?_ | refine iteB_f (by decide) ?_ | (refine Duo.mk (by first | omega | exact rfl | decide) ?_; intros) | (refine Duo.mk (Clo.mk (by kernel_rfl)) ?_; intros)))
    rename_i r3 HA SA fr HB SB
    clear SA S16
    refine call_of (hread (l := pt r3 (.cells ⟨[.slice none 0 0, .int .i64 0, .int .i64 0, .int .u32 0]⟩ 31) :: sl WR.cells 38 6 (some ⟨r0, o0, none⟩) (n + 1) qc rs' :: [old H0]) (Ers.there (h := El)) (SB.to (by
      apply Ent.pick; (focus (repeat (first | exact Sel.here | apply Sel.there)))
      iterate 2 (apply Ent.pick; (focus (repeat (first | exact Sel.here | apply Sel.there))))
      exact Fits.out))) ?_
    rintro e H18 ⟨gq, gc, gs, en, of, su, rfl, hP, S18⟩
    (repeat (first | (refine Step.go ?_; intros) | refine iteB_t (by decide) ?_ | refine iteB_f (by decide) ?_ | (refine Duo.mk (by first | omega | exact rfl | decide) ?_; intros) | (refine Duo.mk (Clo.mk (by kernel_rfl)) ?_; intros)))
    rename_i HZ SZ
    refine hfin (gq := gq) (gc := gc) hP (SZ.to ?_)
    iterate 3 (apply Ent.pick; (focus (repeat (first | exact Sel.here | apply Sel.there))))
    exact Fits.out
  · refine bndD_i (by omega) (hrdl (cat_i (by omega) ?_))
    refine newX S15 fun r3 HB EB SB => ?_
    refine call_of (hjoin EB) ?_
    rintro e H15 ⟨rfl, E15⟩
    (repeat (first | (refine Step.go ?_; intros) | refine iteB_t (by decide) ?_ | refine iteB_f (by decide) ?_ | (refine Duo.mk (by first | omega | exact rfl | decide) ?_; intros) | (refine Duo.mk (Clo.mk (by kernel_rfl)) ?_; intros)))
    refine cat_i (by rw [List.length_append]; omega) ?_
    rw [List.append_assoc]
    have S16 := SB.ext E15
    (repeat (first | (refine Step.go ?_; intros) | refine iteB_t (by decide) ?_ | refine iteB_f (by decide) ?_ | (refine Duo.mk (by first | omega | exact rfl | decide) ?_; intros) | (refine Duo.mk (Clo.mk (by kernel_rfl)) ?_; intros)))
    rename_i fr HA SA
    clear S16
    refine call_of (hread (l := pt r3 (.cells ⟨[.slice none 0 0, .int .i64 0, .int .i64 0, .int .u32 0]⟩ 31) :: sl WR.cells 38 6 (some ⟨r0, o0, none⟩) (n + 1) qc rs' :: [old H0]) (Ers.there (h := El)) (SA.to (by
      apply Ent.pick; (focus (repeat (first | exact Sel.here | apply Sel.there)))
      iterate 2 (apply Ent.pick; (focus (repeat (first | exact Sel.here | apply Sel.there))))
      exact Fits.out))) ?_
    rintro e H18 ⟨gq, gc, gs, en, of, su, rfl, hP, S18⟩
    (repeat (first | (refine Step.go ?_; intros) | refine iteB_t (by decide) ?_ | refine iteB_f (by decide) ?_ | (refine Duo.mk (by first | omega | exact rfl | decide) ?_; intros) | (refine Duo.mk (Clo.mk (by kernel_rfl)) ?_; intros)))
    rename_i HZ SZ
    refine hfin (gq := gq) (gc := gc) hP (SZ.to ?_)
    iterate 3 (apply Ent.pick; (focus (repeat (first | exact Sel.here | apply Sel.there))))
    exact Fits.out
end
end Go.Proofs.YtkejocbhmcphiaaDoor
