/- What functions of this seat do, each proved by a walk; no condition. -/
import Derived.Test.YtkenjnllegbmjaaGreatLM1
set_option linter.unusedVariables false
set_option linter.unusedSimpArgs false
set_option linter.unnecessarySimpa false
set_option maxRecDepth 100000
namespace Go.Proofs.YtkenjnllegbmjaaGreat
open Go Go.Den Go.Proofs
/-! A range over a map of at most one entry. -/
section
variable {P : Program} {H : Heap} {κ ν : Type} {fk : κ → Value} {fv : ν → Value} {r ir : Nat} {l : List HP} {Q : List PanicEntry → Heap → Prop} {K : Value → Heap → Prop} {t : TypeId} {z : Value} {es : Array MapEntry} {clk c1 c2 : Nat} {seen : Array Nat} {k : κ} {v : ν}
/-- A map with one entry: `es` has just it. -/
structure OneE (fk : κ → Value) (fv : ν → Value) (k : κ) (v : ν) (es : Array MapEntry) (clk : Nat) : Prop where
  F : MpF fk fv es clk [(k, v)]
  one : ∃ e, es.toList = [e] ∧ e.key = fk k ∧ e.val = fv v
theorem rangeOne {kt et : TypeId} (hu : P.underlying t = some (.map kt et)) (S : Sat H (mp fk fv r [(k, v)] :: l)) (h : ∀ ir es clk H1, OneE fk fv k v es clk → Sat H1 (pt ir (.mapIter (some r) clk #[] clk) :: pt r (.map es clk) :: l) → K (.pointer (some ⟨ir, 0, none⟩)) H1) : valD P (Instr.range t (.map (some r))) H Q K := by
  obtain ⟨es, clk, F, S3⟩ := S.mpOpen
  refine rangeNew hu S3 fun ir H2 S4 => ?_
  refine h ir es clk H2 ⟨F, ?_⟩ S4
  have he := F.eq
  match h : es.toList, he with
  | [e], he =>
    simp at he
    exact ⟨e, rfl, he.1, he.2⟩
  | [], he => simp at he
  | _ :: _ :: _, he => simp at he
theorem nextOne {ty : TypeId} (O : OneE fk fv k v es clk) (S : Sat H (pt ir (.mapIter (some r) clk #[] clk) :: pt r (.map es clk) :: l)) (h : ∀ b H1, (∃ e ∈ es.toList, e.born = b) → Sat H1 (pt ir (.mapIter (some r) clk #[b] clk) :: pt r (.map es clk) :: l) → K (.tuple #[.bool true, fk k, fv v]) H1) : valD P (Instr.next (.pointer (some ⟨ir, 0, none⟩)) false ty) H Q K := by
  obtain ⟨e, he, hk, hv⟩ := O.one
  have hun : unseen es #[] = [e] := by unfold unseen; rw [he]; simp
  refine rangeNext O.F S (fun h => by rw [hun] at h; cases h) ?_
  intro a e' b h1 h2 H3 S5
  rw [hun] at h1
  obtain ⟨rfl, rfl, rfl⟩ : a = [] ∧ e' = e ∧ b = [] := by
    cases a with
    | nil => simp at h1; exact ⟨rfl, h1.1.symm, h1.2⟩
    | cons x a => simp at h1
  rw [hk, hv]
  exact h e'.born H3 ⟨e', by rw [he]; exact List.mem_cons_self .., rfl⟩ S5
theorem entryOne {b : Nat} (O : OneE fk fv k v es clk) (hb : ∃ e ∈ es.toList, e.born = b) (S : Sat H (pt ir (.mapIter (some r) clk #[b] clk) :: pt r (.map es clk) :: l)) (h : K (.tuple #[fk k, fv v]) H) :
    valD P (Instr.entry (.pointer (some ⟨ir, 0, none⟩))) H Q K := by
  obtain ⟨e, he, hk, hv⟩ := O.one
  obtain ⟨e', he', rfl⟩ := hb
  rw [he] at he'
  have : e' = e := by simpa using he'
  subst this
  refine rangeEntry (seen := #[]) O.F S (by rw [he]; exact List.mem_cons_self ..) ?_
  rw [hk, hv]
  exact h
theorem OneE.close (O : OneE fk fv k v es clk) : Ent (pt r (.map es clk) :: l) (mp fk fv r [(k, v)] :: l) := Ent.mpClose O.F
theorem nextLast {ty : TypeId} {b : Nat} (O : OneE fk fv k v es clk) (hb : ∃ e ∈ es.toList, e.born = b) (S : Sat H (pt ir (.mapIter (some r) clk #[b] clk) :: pt r (.map es clk) :: l)) (h : K (.tuple #[.bool false]) H) : valD P (Instr.next (.pointer (some ⟨ir, 0, none⟩)) false ty) H Q K := by
  obtain ⟨e, he, hk, hv⟩ := O.one
  obtain ⟨e', he', rfl⟩ := hb
  rw [he] at he'
  have : e' = e := by simpa using he'
  subst this
  have hun : unseen es #[e'.born] = [] := by unfold unseen; rw [he]; simp
  exact rangeNext O.F S (fun _ => h) (fun a x b h1 => by rw [hun] at h1; cases a <;> simp at h1)
/-- Nothing is there any more. -/
theorem nextNone {ty : TypeId} (S : Sat H (pt ir (.mapIter (some r) c1 seen c2) :: mp fk fv r [] :: l)) (h : K (.tuple #[.bool false]) H) : valD P (Instr.next (.pointer (some ⟨ir, 0, none⟩)) false ty) H Q K := by
  obtain ⟨es, clk, F, S3⟩ := (S.to ent_swp).mpOpen
  have hes : es = #[] := by
    have := F.eq
    simpa using this
  subst hes
  have hi : H[ir]? = some (.mapIter (some r) c1 seen c2) := S.at_ (List.mem_cons_self ..)
  have hb : H[r]? = some (.map #[] clk) := S3.at_ (List.mem_cons_self ..)
  refine ⟨?_⟩
  unfold Instr.next
  show SemH P (getObj ir >>= _) _ _ _
  rw [SemH_bind, SemH_getObj]
  refine ⟨_, hi, rfl, ?_⟩
  dsimp only
  rw [SemH_bind, SemH_getObj]
  refine ⟨_, hb, rfl, ?_⟩
  dsimp only
  rw [if_neg (by simp)]
  rw [SemH_bind]
  intro u
  generalize hA : ((#[] : Array MapEntry).filter fun e => !seen.contains e.born) = A
  have hA2 : A = #[] := by rw [← hA]; simp
  subst hA2
  simp only [Array.filter_empty, Array.append_empty, Array.map_empty, List.isEmpty_toArray, List.isEmpty_nil, if_true]
  exact h
theorem rangeNone {kt et : TypeId} (hu : P.underlying t = some (.map kt et)) (S : Sat H (mp fk fv r [] :: l)) (h : ∀ ir c H1, Sat H1 (pt ir (.mapIter (some r) c #[] c) :: mp fk fv r [] :: l) → K (.pointer (some ⟨ir, 0, none⟩)) H1) : valD P (Instr.range t (.map (some r))) H Q K := by
  obtain ⟨es, clk, F, S3⟩ := S.mpOpen
  exact rangeNew hu S3 fun ir H2 S4 => h ir clk H2 (S4.to (Ent.cons (Ent.mpClose F)))
end
end Go.Proofs.YtkenjnllegbmjaaGreat

set_option linter.unusedVariables false
set_option linter.unusedSimpArgs false
set_option linter.unnecessarySimpa false
set_option maxRecDepth 100000
namespace Go.Proofs.YtkenjnllegbmjaaGreat
open Go Go.Den Go.Proofs
/-! Locks do nothing. -/
section
variable {H : Heap} {c : Array Value} {r : Nat} {m : Option Addr}
theorem lk106 : CallsH Tryz.prog 106 ⟨[.pointer m]⟩ H (Gives (.tuple ⟨[]⟩) H) := F106.calls ⟨rfl, ExtH.refl H⟩
theorem lk125 : CallsH Tryz.prog 125 ⟨[.pointer m]⟩ H (Gives (.tuple ⟨[]⟩) H) := F125.calls ⟨rfl, ExtH.refl H⟩
theorem lk115 : CallsH Tryz.prog 115 ⟨[.pointer m]⟩ H (Gives (.tuple ⟨[]⟩) H) := F115.calls ⟨rfl, ExtH.refl H⟩
theorem lk120 : CallsH Tryz.prog 120 ⟨[.pointer m]⟩ H (Gives (.tuple ⟨[]⟩) H) := F120.calls ⟨rfl, ExtH.refl H⟩
theorem lk31 : CallsH Tryz.prog 31 ⟨[.pointer m]⟩ H (Gives (.tuple ⟨[]⟩) H) := F31.calls ⟨rfl, ExtH.refl H⟩
theorem lk32 : CallsH Tryz.prog 32 ⟨[.pointer m]⟩ H (Gives (.tuple ⟨[]⟩) H) := F32.calls ⟨rfl, ExtH.refl H⟩
theorem g_i {f : FuncId} {args : List Value} {v : Value} {Q : List PanicEntry → Heap → Prop} {K : Value → Heap → Prop} (hc : CallsH Tryz.prog f ⟨args⟩ H (Gives v H)) (k : ∀ H1, ExtH H H1 → K v H1) : callD Tryz.prog f args H Q K :=
  gives_i (l := []) ⟨trivial⟩ hc fun H1 E _ => k H1 E
theorem lk95 (hb : H[r]? = some (.cells c 204)) : CallsH Tryz.prog 95 ⟨[.pointer (some ⟨r, 0, none⟩)]⟩ H (Gives (.tuple ⟨[]⟩) H) := by
  refine F95.calls ?_
  unfold F95.go
  refine nilD_i (zf_i (by kernel_rfl) hb fun a => ?_)
  refine g_i lk106 fun H1 E => ?_
  exact ⟨_, rfl, rfl, rfl, E⟩
theorem lk253 (hb : H[r]? = some (.cells c 204)) : CallsH Tryz.prog 253 ⟨[.pointer (some ⟨r, 0, none⟩)]⟩ H (Gives (.tuple ⟨[]⟩) H) := by
  refine F253.calls ?_
  unfold F253.go
  refine g_i (lk95 hb) fun H1 E => ?_
  exact ⟨_, rfl, rfl, rfl, E⟩
theorem lk107 (hb : H[r]? = some (.cells c 156)) : CallsH Tryz.prog 107 ⟨[.pointer (some ⟨r, 0, none⟩)]⟩ H (Gives (.tuple ⟨[]⟩) H) := by
  refine F107.calls ?_
  unfold F107.go
  refine nilD_i (zf_i (by kernel_rfl) hb fun a => ?_)
  refine g_i lk115 fun H1 E => ?_
  exact ⟨_, rfl, rfl, rfl, E⟩
theorem lk109 (hb : H[r]? = some (.cells c 156)) : CallsH Tryz.prog 109 ⟨[.pointer (some ⟨r, 0, none⟩)]⟩ H (Gives (.tuple ⟨[]⟩) H) := by
  refine F109.calls ?_
  unfold F109.go
  refine nilD_i (zf_i (by kernel_rfl) hb fun a => ?_)
  refine g_i lk120 fun H1 E => ?_
  exact ⟨_, rfl, rfl, rfl, E⟩
end
end Go.Proofs.YtkenjnllegbmjaaGreat

set_option linter.unusedVariables false
set_option linter.unusedSimpArgs false
set_option linter.unnecessarySimpa false
set_option maxRecDepth 100000
namespace Go.Proofs.YtkenjnllegbmjaaGreat
open Go Go.Den Go.Proofs
/-! A transaction begins; nothing that was there changes. -/
/-- A transaction that was made of the base's data. -/
structure TxN (D : List DtI) where
  tx : Nat
  B : List BkI
  p : Option Addr
  c : Nat
  eq : B.map BkI.dt = D
abbrev TxN.m {D : List DtI} (db : Nat) (wr : Bool) (x : TxN D) : List HP := [pt x.tx (txO db wr false x.p D.length x.c), sl ptrC 299 1 x.p D.length x.c (x.B.map BkI.b), bkts x.tx x.B]
section
variable {H H0 : Heap} {l : List HP} {g : PH} {tx : Nat}
theorem begin2_ok {db : Nat} {wr : Bool} {D : List DtI} {p : Option Addr} {c : Nat} (hdb : H0[db]? = some (dbO p D.length c)) (hR : RowsAt DtI.cells 2 H0 p D) (hl : D.length ≤ 1000) :
    CallsH Tryz.prog 140 ⟨[.pointer (some ⟨db, 0, none⟩), .bool wr]⟩ H0 (fun e H1 => ∃ x : TxN D, e = .returned (.tuple ⟨[.pointer (some ⟨x.tx, 0, none⟩), .nilIface]⟩) ∧ Sat H1 (x.m db wr ++ [old H0])) := by
  have S := Sat.start H0
  have ao := atOld hdb
  refine F140.calls ?_
  unfold F140.go
  (repeat (first | (refine Step.go ?_; intros) | refine iteB_t (by decide) ?_ | refine iteB_f (by decide) ?_ | (refine Duo.mk (by first | omega | exact rfl | decide) ?_; intros) | (refine Duo.mk (Clo.mk (by kernel_rfl)) ?_; intros)))
  rename_i tx H1 S1
  clear S
  have loop : ∀ (k i : Nat) (B : List BkI) (q : Option Addr) (qc : Nat) (H : Heap), i + k = D.length → B.map BkI.dt = D.take i → Sat H (sl ptrC 299 1 q i qc (B.map BkI.b) :: pt tx (txO db wr false q i qc) :: bkts tx B :: [old H0]) →
      F140.L0 (some ⟨db, 0, none⟩) tx (i : Int) H (fun e H1 => ∃ x : TxN D, e = .returned (.tuple ⟨[.pointer (some ⟨x.tx, 0, none⟩), .nilIface]⟩) ∧ Sat H1 (x.m db wr ++ [old H0])) := by
    intro k
    induction k with
    | zero =>
      intro i B q qc H hi hB S
      obtain rfl : i = D.length := by omega
      rw [List.take_length] at hB
      refine F140.L0_step ?_
      unfold F140.L0n
      (repeat (first | (refine Step.go ?_; intros) | refine iteB_t (by decide) ?_ | refine iteB_f (by decide) ?_ | (refine Duo.mk (by first | omega | exact rfl | decide) ?_; intros) | (refine Duo.mk (Clo.mk (by kernel_rfl)) ?_; intros)))
      refine iteB_f (decide_eq_false (by omega)) ?_
      refine ⟨⟨tx, B, q, qc, hB⟩, rfl, S.to ?_⟩
      iterate 2 (apply Ent.pick; (focus (repeat (first | exact Sel.here | apply Sel.there))))
      exact Ent.refl
    | succ k ih =>
      intro i B q qc H hi hB S
      obtain ⟨x, hx⟩ : ∃ x, D[i]? = some x := get_of (by omega)
      have hI := HasI.nat hx
      have R0 : RowsC H0 p DtI.cells 2 D := ⟨hR⟩
      have hBl : B.length = i := by have := congrArg List.length hB; rw [List.length_map, List.length_take] at this; omega
      refine F140.L0_step ?_
      unfold F140.L0n
      (repeat (first | (refine Step.go ?_; intros) | refine iteB_t (by decide) ?_ | refine iteB_f (by decide) ?_ | (refine Duo.mk (by first | omega | exact rfl | decide) ?_; intros) | (refine Duo.mk (Clo.mk (by kernel_rfl)) ?_; intros)))
      refine iteB_t (decide_eq_true (by omega)) ?_
      (repeat (first | (refine Step.go ?_; intros) | refine iteB_t (by decide) ?_ | refine iteB_f (by decide) ?_ | (refine Duo.mk (by first | omega | exact rfl | decide) ?_; intros) | (refine Duo.mk (Clo.mk (by kernel_rfl)) ?_; intros)))
      refine R0.idx rfl ⟨by omega, by omega, ?_⟩
      intro a ha
      subst ha
      (repeat (first | (refine Step.go ?_; intros) | refine iteB_t (by decide) ?_ | refine iteB_f (by decide) ?_ | (refine Duo.mk (by first | omega | exact rfl | decide) ?_; intros) | (refine Duo.mk (Clo.mk (by kernel_rfl)) ?_; intros)))
      rename_i b H2 S2 r1 H3 S3
      clear S S2
      have S4 : Sat H3 (sl ptrC 299 1 q i qc (B.map BkI.b) :: pt r1 (.cells ⟨ptrC b⟩ 299) :: pt b ((x.bk b).obj tx) :: pt tx (txO db wr false q i qc) :: bkts tx B :: [old H0]) := by
        refine S3.to ?_
        iterate 5 (apply Ent.pick; (focus (repeat (first | exact Sel.here | apply Sel.there))))
        exact Ent.refl
      clear S3
      refine S4.slApp (ys := [b]) (d := 1) ?_ rfl (by simp) (by simp [isCell]) rfl (by decide) (by omega) fun q4 c4 H8 S9 => ?_
      · simp only [List.flatMap_cons, List.flatMap_nil, List.append_nil]
        exact cellsAt_one (S4.at_ (List.mem_cons_of_mem _ (List.mem_cons_self ..)))
      clear S4
      (repeat (first | (refine Step.go ?_; intros) | refine iteB_t (by decide) ?_ | refine iteB_f (by decide) ?_ | (refine Duo.mk (by first | omega | exact rfl | decide) ?_; intros) | (refine Duo.mk (Clo.mk (by kernel_rfl)) ?_; intros)))
      have SD := ‹Sat _ (_ :: _)›
      rename_i HD _
      rw [wr64 (by omega) (by omega), show ((i : Nat) : Int) + 1 = ((i + 1 : Nat) : Int) by omega]
      refine ih (i + 1) (B ++ [x.bk b]) q4 c4 HD (by omega) (by rw [List.map_append, hB, List.take_add_one, hx]; rfl) ?_
      rw [List.map_append]
      have SE : Sat HD (pt b ((x.bk b).obj tx) :: bkts tx (B ++ []) :: sl ptrC 299 1 q4 (i + 1) c4 (B.map BkI.b ++ [b]) :: pt tx (txO db wr false q4 (i + 1) c4) :: [old H0]) := by
        rw [List.append_nil]
        refine SD.to ?_
        iterate 5 (apply Ent.pick; (focus (repeat (first | exact Sel.here | apply Sel.there))))
        exact Ent.drop .refl
      refine (SE.to (bkts_in (x := x.bk b) (A := B) (B := []))).to ?_
      iterate 4 (apply Ent.pick; (focus (repeat (first | exact Sel.here | apply Sel.there))))
      exact Ent.refl
  refine loop D.length 0 [] none 0 H1 (by omega) rfl (S1.to (Ent.slNil ?_))
  apply Ent.pick
  · focus (repeat (first | exact Sel.here | apply Sel.there))
  exact bkts_nil
abbrev beO (cm : Int) (db lim : Nat) (bt : Option Addr) (rt : Nat) : Obj := .cells ⟨[.int .i64 cm, .pointer (some ⟨db, 0, none⟩), .int .i64 (lim : Int), .pointer bt, .pointer (some ⟨rt, 0, none⟩), .pointer none, .int .u64 0, .nilIface, .nilFunc, .pointer none]⟩ 165
theorem ubegin_ok {be db lim rt : Nat} {cm : Int} {bt : Option Addr} {wr : Bool} {D : List DtI} {p : Option Addr} {c : Nat} (hbe : H0[be]? = some (beO cm db lim bt rt)) (hdb : H0[db]? = some (dbO p D.length c)) (hR : RowsAt DtI.cells 2 H0 p D) (hl : D.length ≤ 1000) :
    CallsH Tryz.prog 131 ⟨[.pointer (some ⟨be, 0, none⟩), .bool wr]⟩ H0 (fun e H1 => ∃ x : TxN D, e = .returned (.pointer (some ⟨x.tx, 0, none⟩)) ∧ Sat H1 (x.m db wr ++ [old H0])) := by
  have S := Sat.start H0
  have ao := atOld hbe
  refine F131.calls ?_
  unfold F131.go
  (repeat (first | (refine Step.go ?_; intros) | refine iteB_t (by decide) ?_ | refine iteB_f (by decide) ?_ | (refine Duo.mk (by first | omega | exact rfl | decide) ?_; intros) | (refine Duo.mk (Clo.mk (by kernel_rfl)) ?_; intros)))
  refine call_of (begin2_ok (wr := wr) hdb hR hl) ?_
  rintro e H1 ⟨x, rfl, S1⟩
  (repeat (first | (refine Step.go ?_; intros) | refine iteB_t (by decide) ?_ | refine iteB_f (by decide) ?_ | (refine Duo.mk (by first | omega | exact rfl | decide) ?_; intros) | (refine Duo.mk (Clo.mk (by kernel_rfl)) ?_; intros)))
  exact ⟨x, rfl, S1⟩
theorem txBegin_ok {be db lim rt : Nat} {cm : Int} {bt : Option Addr} {wr : Bool} {D : List DtI} {p : Option Addr} {c : Nat} (hbe : H0[be]? = some (beO cm db lim bt rt)) (hdb : H0[db]? = some (dbO p D.length c)) (hR : RowsAt DtI.cells 2 H0 p D) (hl : D.length ≤ 1000) :
    CallsH Tryz.prog 119 ⟨[.pointer (some ⟨be, 0, none⟩), .bool wr]⟩ H0 (fun e H1 => ∃ x : TxN D, e = .returned (.pointer (some ⟨x.tx, 0, none⟩)) ∧ Sat H1 (x.m db wr ++ [old H0])) := by
  refine F119.calls ?_
  unfold F119.go
  refine nilD_i (zf_i (by kernel_rfl) hbe fun a => ?_)
  refine g_i lk31 fun H1 E1 => ?_
  refine ⟨_, rfl, rfl, ?_⟩
  refine call_of (ubegin_ok (wr := wr) (E1.block_some hbe) (E1.block_some hdb) (hR.ext E1) hl) ?_
  rintro e H2 ⟨x, rfl, S2⟩
  refine ⟨_, rfl, ?_⟩
  have E2 := Sat.ext_of (m := x.m db wr) S2
  refine nilD_i (zf_i (by kernel_rfl) (E2.block_some (E1.block_some hbe)) fun a1 => ?_)
  refine g_i lk32 fun H3 E3 => ?_
  refine ⟨_, rfl, rfl, ?_⟩
  refine ⟨x, rfl, ?_⟩
  have S3 := S2.ext E3
  have S4 : Sat H3 (x.m db wr ++ [old H1]) := S3
  exact (S4.onto (m := x.m db wr) ((Sat.start H0).ext E1))
end
end Go.Proofs.YtkenjnllegbmjaaGreat

set_option linter.unusedVariables false
set_option linter.unusedSimpArgs false
set_option linter.unnecessarySimpa false
set_option maxRecDepth 100000
namespace Go.Proofs.YtkenjnllegbmjaaGreat
open Go Go.Den Go.Proofs
/-! Buffers are set back. -/
abbrev mpB (r : Nat) (M : List (Int × Nat)) : HP := mp (Value.int .i64) pv r M
section
variable {H H0 : Heap} {l : List HP} {n : Int}
theorem um101 : Tryz.prog.underlying 142 = some (.map 256 269) := by kernel_rfl
theorem um134 : Tryz.prog.underlying 200 = some (.map 256 4) := by kernel_rfl
theorem ldMap_i {a : Addr} {m : Option Nat} {K : Option Nat → Prop} (h : hcell H a = some (.map m)) (k : K m) : ldMap H a K := ⟨m, h, k⟩
theorem cellOf {b off T : Nat} {cs : List Value} {v : Value} (S : Sat H l) (hm : pt b (.cells ⟨cs⟩ T) ∈ l) (hv : cs[off]? = some v) : hcell H ⟨b, off, none⟩ = some v := by
  have h := S.at_ hm
  unfold hcell
  rw [h]
  simpa using hv
theorem reset0 {b off T m : Nat} {cs : List Value} (hc : cs[off]? = some (.map (some m))) (S : Sat H (pt b (.cells ⟨cs⟩ T) :: mpB m [] :: l)) :
    CallsH Tryz.prog 129 ⟨[.pointer (some ⟨b, off, none⟩)]⟩ H (fun e H1 => e = .returned (.tuple ⟨[]⟩) ∧ Sat H1 (pt b (.cells ⟨cs⟩ T) :: mpB m [] :: l)) := by
  refine F129.calls ?_
  unfold F129.go
  refine nilD_i ?_
  refine ldMap_i (cellOf S (List.mem_cons_self ..) hc) ?_
  refine rangeNone um101 (S.to ent_swp) fun ir c H1 S1 => ?_
  clear S
  refine ⟨_, rfl, ?_⟩
  refine F129.L0_step ?_
  unfold F129.L0n
  refine nextNone S1 ?_
  (repeat (first | (refine Step.go ?_; intros) | refine iteB_t (by decide) ?_ | refine iteB_f (by decide) ?_ | (refine Duo.mk (by first | omega | exact rfl | decide) ?_; intros) | (refine Duo.mk (Clo.mk (by kernel_rfl)) ?_; intros)))
  refine ⟨rfl, S1.to ?_⟩
  iterate 2 (apply Ent.pick; (focus (repeat (first | exact Sel.here | apply Sel.there))))
  exact Ent.drop .refl
theorem reset1 {b off T m bb u c : Nat} {q : Option Addr} {cs : List Value} (hu : u ≠ 0) (hc : cs[off]? = some (.map (some m))) (S : Sat H (pt b (.cells ⟨cs⟩ T) :: mpB m [(n, bb)] :: pt bb (bbO q c u) :: l)) :
    CallsH Tryz.prog 129 ⟨[.pointer (some ⟨b, off, none⟩)]⟩ H (fun e H1 => e = .returned (.tuple ⟨[]⟩) ∧ Sat H1 (pt b (.cells ⟨cs⟩ T) :: mpB m [(n, bb)] :: pt bb (bbO q c 0) :: l)) := by
  refine F129.calls ?_
  unfold F129.go
  refine nilD_i ?_
  refine ldMap_i (cellOf S (List.mem_cons_self ..) hc) ?_
  refine rangeOne um101 (S.to ent_swp) fun ir es clk H1 O S1 => ?_
  clear S
  refine ⟨_, rfl, ?_⟩
  refine F129.L0_step ?_
  unfold F129.L0n
  refine nextOne O S1 fun bn H2 hb S2 => ?_
  clear S1
  (repeat (first | (refine Step.go ?_; intros) | refine iteB_t (by decide) ?_ | refine iteB_f (by decide) ?_ | (refine Duo.mk (by first | omega | exact rfl | decide) ?_; intros) | (refine Duo.mk (Clo.mk (by kernel_rfl)) ?_; intros)))
  refine entryOne O hb S2 ?_
  (repeat (first | (refine Step.go ?_; intros) | refine iteB_t (by decide) ?_ | refine iteB_f (by decide) ?_ | (refine Duo.mk (by first | omega | exact rfl | decide) ?_; intros) | (refine Duo.mk (Clo.mk (by kernel_rfl)) ?_; intros)))
  refine iteB_f (by simp; omega) ?_
  refine F129.L1_step ?_
  unfold F129.L1n
  (repeat (first | (refine Step.go ?_; intros) | refine iteB_t (by decide) ?_ | refine iteB_f (by decide) ?_ | (refine Duo.mk (by first | omega | exact rfl | decide) ?_; intros) | (refine Duo.mk (Clo.mk (by kernel_rfl)) ?_; intros)))
  rename_i H3 S3
  clear S2
  refine F129.L0_step ?_
  unfold F129.L0n
  refine nextLast O hb S3 ?_
  (repeat (first | (refine Step.go ?_; intros) | refine iteB_t (by decide) ?_ | refine iteB_f (by decide) ?_ | (refine Duo.mk (by first | omega | exact rfl | decide) ?_; intros) | (refine Duo.mk (Clo.mk (by kernel_rfl)) ?_; intros)))
  refine ⟨rfl, ((S3.to (Ent.drop .refl)).to O.close).to ?_⟩
  iterate 2 (apply Ent.pick; (focus (repeat (first | exact Sel.here | apply Sel.there))))
  exact .refl
end
end Go.Proofs.YtkenjnllegbmjaaGreat

set_option linter.unusedVariables false
set_option linter.unusedSimpArgs false
set_option linter.unnecessarySimpa false
set_option maxRecDepth 100000
namespace Go.Proofs.YtkenjnllegbmjaaGreat
open Go Go.Den Go.Proofs
/-! The write buffer is set back. -/
abbrev mpS (r : Nat) (M : List (Int × Bool)) : HP := mp (Value.int .i64) Value.bool r M
/-- A buffer that may be there. -/
structure Buf where
  bb : Nat
  q : Option Addr
  c : Nat
  u : Nat
  Y : List KR
def bufP : Option Buf → HP
  | none => star []
  | some b => star [pt b.bb (bbO b.q b.c b.u), bufS b.q b.c b.Y]
def bufM (n : Int) : Option Buf → List (Int × Nat)
  | none => []
  | some b => [(n, b.bb)]
section
variable {H H0 : Heap} {l : List HP} {n : Int}
theorem bufP_none : Ent l (bufP none :: l) := Ent.star .refl
theorem bufP_drop : Ent (bufP none :: l) l := Ent.drop .refl
theorem bufP_in {b : Buf} : Ent (pt b.bb (bbO b.q b.c b.u) :: bufS b.q b.c b.Y :: l) (bufP (some b) :: l) := Ent.star .refl
theorem bufP_out {b : Buf} : Ent (bufP (some b) :: l) (pt b.bb (bbO b.q b.c b.u) :: bufS b.q b.c b.Y :: l) := Ent.starL .refl
theorem wreset0 {bt tx be pend m1 m2 : Nat} {z : Int} (S : Sat H (pt bt (btO tx be pend (some m1) (some m2) z) :: mpB m1 [] :: mpS m2 [] :: l)) :
    CallsH Tryz.prog 124 ⟨[.pointer (some ⟨bt, 3, none⟩)]⟩ H (fun e H1 => e = .returned (.tuple ⟨[]⟩) ∧ Sat H1 (pt bt (btO tx be pend (some m1) (some m2) z) :: mpB m1 [] :: mpS m2 [] :: l)) := by
  refine F124.calls ?_
  unfold F124.go
  refine nilD_i ?_
  refine call_of (reset0 (off := 3) rfl S) ?_
  rintro e H1 ⟨rfl, S1⟩
  clear S
  (repeat (first | (refine Step.go ?_; intros) | refine iteB_t (by decide) ?_ | refine iteB_f (by decide) ?_ | (refine Duo.mk (by first | omega | exact rfl | decide) ?_; intros) | (refine Duo.mk (Clo.mk (by kernel_rfl)) ?_; intros)))
  refine rangeNone (fk := Value.int .i64) (fv := Value.bool) um134 (S1.to (m := mpS m2 [] :: pt bt (btO tx be pend (some m1) (some m2) z) :: mpB m1 [] :: l) (by
    iterate 3 (apply Ent.pick; (focus (repeat (first | exact Sel.here | apply Sel.there))))
    exact .refl)) fun ir c H2 S2 => ?_
  clear S1
  refine ⟨_, rfl, ?_⟩
  refine F124.L0_step ?_
  unfold F124.L0n
  refine nextNone S2 ?_
  (repeat (first | (refine Step.go ?_; intros) | refine iteB_t (by decide) ?_ | refine iteB_f (by decide) ?_ | (refine Duo.mk (by first | omega | exact rfl | decide) ?_; intros) | (refine Duo.mk (Clo.mk (by kernel_rfl)) ?_; intros)))
  refine ⟨rfl, S2.to ?_⟩
  iterate 3 (apply Ent.pick; (focus (repeat (first | exact Sel.here | apply Sel.there))))
  exact Ent.drop .refl
theorem wreset2 {bt tx be pend m1 m2 : Nat} {z : Int} (S : Sat H (pt bt (btO tx be pend (some m1) (some m2) z) :: mpB m1 [] :: mpS m2 [(n, false)] :: l)) :
    CallsH Tryz.prog 124 ⟨[.pointer (some ⟨bt, 3, none⟩)]⟩ H (fun e H1 => e = .returned (.tuple ⟨[]⟩) ∧ Sat H1 (pt bt (btO tx be pend (some m1) (some m2) z) :: mpB m1 [] :: mpS m2 [] :: l)) := by
  refine F124.calls ?_
  unfold F124.go
  refine nilD_i ?_
  refine call_of (reset0 (off := 3) rfl S) ?_
  rintro e H1 ⟨rfl, S1⟩
  clear S
  (repeat (first | (refine Step.go ?_; intros) | refine iteB_t (by decide) ?_ | refine iteB_f (by decide) ?_ | (refine Duo.mk (by first | omega | exact rfl | decide) ?_; intros) | (refine Duo.mk (Clo.mk (by kernel_rfl)) ?_; intros)))
  refine rangeOne (fk := Value.int .i64) (fv := Value.bool) um134 (S1.to (m := mpS m2 [(n, false)] :: pt bt (btO tx be pend (some m1) (some m2) z) :: mpB m1 [] :: l) (by
    iterate 3 (apply Ent.pick; (focus (repeat (first | exact Sel.here | apply Sel.there))))
    exact .refl)) fun ir es clk H2 O S2 => ?_
  clear S1
  refine ⟨_, rfl, ?_⟩
  refine F124.L0_step ?_
  unfold F124.L0n
  refine nextOne O S2 fun bn H3 hb S3 => ?_
  clear S2
  (repeat (first | (refine Step.go ?_; intros) | refine iteB_t (by decide) ?_ | refine iteB_f (by decide) ?_ | (refine Duo.mk (by first | omega | exact rfl | decide) ?_; intros) | (refine Duo.mk (Clo.mk (by kernel_rfl)) ?_; intros)))
  refine entryOne O hb S3 ?_
  have S4 : Sat H3 (mpS m2 [(n, false)] :: pt ir (.mapIter (some m2) clk #[bn] clk) :: pt bt (btO tx be pend (some m1) (some m2) z) :: mpB m1 [] :: l) := (S3.to ent_swp).to O.close
  clear S3
  (repeat (first | (refine Step.go ?_; intros) | refine iteB_t (by decide) ?_ | refine iteB_f (by decide) ?_ | (refine Duo.mk (by first | omega | exact rfl | decide) ?_; intros) | (refine Duo.mk (Clo.mk (by kernel_rfl)) ?_; intros)))
  refine Sat.lookup S4 (fk := Value.int .i64) (fv := pv) (r := m1) (m := []) (by simp) MI101 n (fun v hv => by cases hv) (fun _ => ?_)
  show tTup (.tuple ⟨[.pointer none, .bool false]⟩) _
  (repeat (first | (refine Step.go ?_; intros) | refine iteB_t (by decide) ?_ | refine iteB_f (by decide) ?_ | (refine Duo.mk (by first | omega | exact rfl | decide) ?_; intros) | (refine Duo.mk (Clo.mk (by kernel_rfl)) ?_; intros)))
  refine Sat.mpDel S4 MI134 n rfl fun H5 S5 => ?_
  clear S4
  have e1 : mdel [(n, false)] n = [] := by simp [mdel]
  rw [e1] at S5
  (repeat (first | (refine Step.go ?_; intros) | refine iteB_t (by decide) ?_ | refine iteB_f (by decide) ?_ | (refine Duo.mk (by first | omega | exact rfl | decide) ?_; intros) | (refine Duo.mk (Clo.mk (by kernel_rfl)) ?_; intros)))
  refine F124.L0_step ?_
  unfold F124.L0n
  refine nextNone (S5.to ent_swp) ?_
  (repeat (first | (refine Step.go ?_; intros) | refine iteB_t (by decide) ?_ | refine iteB_f (by decide) ?_ | (refine Duo.mk (by first | omega | exact rfl | decide) ?_; intros) | (refine Duo.mk (Clo.mk (by kernel_rfl)) ?_; intros)))
  refine ⟨rfl, S5.to ?_⟩
  iterate 3 (apply Ent.pick; (focus (repeat (first | exact Sel.here | apply Sel.there))))
  exact Ent.drop .refl
theorem wreset1 {bt tx be pend m1 m2 bb u c : Nat} {z : Int} {q : Option Addr} (hu : u ≠ 0) (S : Sat H (pt bt (btO tx be pend (some m1) (some m2) z) :: mpB m1 [(n, bb)] :: mpS m2 [] :: pt bb (bbO q c u) :: l)) :
    CallsH Tryz.prog 124 ⟨[.pointer (some ⟨bt, 3, none⟩)]⟩ H (fun e H1 => e = .returned (.tuple ⟨[]⟩) ∧ Sat H1 (pt bt (btO tx be pend (some m1) (some m2) z) :: mpB m1 [(n, bb)] :: mpS m2 [] :: pt bb (bbO q c 0) :: l)) := by
  refine F124.calls ?_
  unfold F124.go
  refine nilD_i ?_
  refine call_of (reset1 (off := 3) (n := n) hu rfl (S.to (by
    iterate 3 (apply Ent.pick; (focus (repeat (first | exact Sel.here | apply Sel.there))))
    exact .refl))) ?_
  rintro e H1 ⟨rfl, S1⟩
  clear S
  (repeat (first | (refine Step.go ?_; intros) | refine iteB_t (by decide) ?_ | refine iteB_f (by decide) ?_ | (refine Duo.mk (by first | omega | exact rfl | decide) ?_; intros) | (refine Duo.mk (Clo.mk (by kernel_rfl)) ?_; intros)))
  refine rangeNone (fk := Value.int .i64) (fv := Value.bool) um134 (S1.to (m := mpS m2 [] :: pt bt (btO tx be pend (some m1) (some m2) z) :: mpB m1 [(n, bb)] :: pt bb (bbO q c 0) :: l) (by
    iterate 4 (apply Ent.pick; (focus (repeat (first | exact Sel.here | apply Sel.there))))
    exact .refl)) fun ir c H2 S2 => ?_
  clear S1
  refine ⟨_, rfl, ?_⟩
  refine F124.L0_step ?_
  unfold F124.L0n
  refine nextNone S2 ?_
  (repeat (first | (refine Step.go ?_; intros) | refine iteB_t (by decide) ?_ | refine iteB_f (by decide) ?_ | (refine Duo.mk (by first | omega | exact rfl | decide) ?_; intros) | (refine Duo.mk (Clo.mk (by kernel_rfl)) ?_; intros)))
  refine ⟨rfl, S2.to ?_⟩
  iterate 4 (apply Ent.pick; (focus (repeat (first | exact Sel.here | apply Sel.there))))
  exact Ent.drop .refl
end
end Go.Proofs.YtkenjnllegbmjaaGreat


set_option linter.unusedVariables false
set_option linter.unusedSimpArgs false
set_option linter.unnecessarySimpa false
set_option maxRecDepth 100000
namespace Go.Proofs.YtkenjnllegbmjaaGreat
open Go Go.Den Go.Proofs
/-! What was written is handed over to the readers. -/
abbrev rtO (rm : Nat) (ver : Int) (mu tx : Option Addr) (rb : Nat) (wg : Option Addr) : Obj := .cells ⟨[.map (some rm), .int .u64 ver, .pointer mu, .pointer tx, .map (some rb), .pointer wg]⟩ 156
section
variable {H H0 : Heap} {l : List HP} {n : Int}
theorem dedupe1 {bb u c : Nat} {q : Option Addr} (hu : u ≤ 1) (S : Sat H (pt bb (bbO q c u) :: l)) : CallsH Tryz.prog 121 ⟨[.pointer (some ⟨bb, 0, none⟩)]⟩ H (Gives (.tuple ⟨[]⟩) H) := by
  refine F121.calls ?_
  unfold F121.go
  (repeat (first | (refine Step.go ?_; intros) | refine iteB_t (by decide) ?_ | refine iteB_f (by decide) ?_ | (refine Duo.mk (by first | omega | exact rfl | decide) ?_; intros) | (refine Duo.mk (Clo.mk (by kernel_rfl)) ?_; intros)))
  refine iteB_t (decide_eq_true (by omega)) ?_
  exact ⟨rfl, ExtH.refl H⟩
theorem wb0 {bt tx be pend m1 m2 rt rm rb : Nat} {z ver : Int} {mu rx wg : Option Addr} (S : Sat H (pt bt (btO tx be pend (some m1) (some m2) z) :: mpB m1 [] :: mpS m2 [] :: pt rt (rtO rm ver mu rx rb wg) :: l)) :
    CallsH Tryz.prog 110 ⟨[.pointer (some ⟨bt, 3, none⟩), .pointer (some ⟨rt, 0, none⟩)]⟩ H (fun e H1 => e = .returned (.tuple ⟨[]⟩) ∧ Sat H1 (pt bt (btO tx be pend (some m1) (some m2) z) :: mpB m1 [] :: mpS m2 [] :: pt rt (rtO rm (IntKind.wrap .u64 (ver + 1)) mu rx rb wg) :: l)) := by
  refine F110.calls ?_
  unfold F110.go
  refine nilD_i ?_
  (repeat (first | (refine Step.go ?_; intros) | refine iteB_t (by decide) ?_ | refine iteB_f (by decide) ?_ | (refine Duo.mk (by first | omega | exact rfl | decide) ?_; intros) | (refine Duo.mk (Clo.mk (by kernel_rfl)) ?_; intros)))
  refine rangeNone (fk := Value.int .i64) (fv := pv) um101 (S.to (m := mpB m1 [] :: pt bt (btO tx be pend (some m1) (some m2) z) :: mpS m2 [] :: pt rt (rtO rm ver mu rx rb wg) :: l) (by
    iterate 4 (apply Ent.pick; (focus (repeat (first | exact Sel.here | apply Sel.there))))
    exact .refl)) fun ir c H2 S2 => ?_
  clear S
  refine ⟨_, rfl, ?_⟩
  refine F110.L0_step ?_
  unfold F110.L0n
  refine nextNone S2 ?_
  (repeat (first | (refine Step.go ?_; intros) | refine iteB_t (by decide) ?_ | refine iteB_f (by decide) ?_ | (refine Duo.mk (by first | omega | exact rfl | decide) ?_; intros) | (refine Duo.mk (Clo.mk (by kernel_rfl)) ?_; intros)))
  refine call_of (wreset0 (S2.to (by
    iterate 3 (apply Ent.pick; (focus (repeat (first | exact Sel.here | apply Sel.there))))
    exact .refl))) ?_
  rintro e H3 ⟨rfl, S3⟩
  clear S2
  (repeat (first | (refine Step.go ?_; intros) | refine iteB_t (by decide) ?_ | refine iteB_f (by decide) ?_ | (refine Duo.mk (by first | omega | exact rfl | decide) ?_; intros) | (refine Duo.mk (Clo.mk (by kernel_rfl)) ?_; intros)))
  rename_i H4 S4
  clear S3
  refine ⟨rfl, S4.to ?_⟩
  iterate 4 (apply Ent.pick; (focus (repeat (first | exact Sel.here | apply Sel.there))))
  exact Ent.drop .refl
theorem wb1 {bt tx be pend m1 m2 rt rm rb bb u c : Nat} {q : Option Addr} {z ver : Int} {mu rx wg : Option Addr} {M2 : List (Int × Bool)} (hM : M2 = [] ∨ (M2 = [(n, false)] ∧ u ≤ 1)) (S : Sat H (pt bt (btO tx be pend (some m1) (some m2) z) :: mpB m1 [(n, bb)] :: mpS m2 M2 :: pt rt (rtO rm ver mu rx rb wg) :: mpB rm [] :: pt bb (bbO q c u) :: l)) :
    CallsH Tryz.prog 110 ⟨[.pointer (some ⟨bt, 3, none⟩), .pointer (some ⟨rt, 0, none⟩)]⟩ H (fun e H1 => e = .returned (.tuple ⟨[]⟩) ∧ Sat H1 (pt bt (btO tx be pend (some m1) (some m2) z) :: mpB m1 [] :: mpS m2 [] :: pt rt (rtO rm (IntKind.wrap .u64 (ver + 1)) mu rx rb wg) :: mpB rm [(n, bb)] :: pt bb (bbO q c u) :: l)) := by
  refine F110.calls ?_
  unfold F110.go
  refine nilD_i ?_
  (repeat (first | (refine Step.go ?_; intros) | refine iteB_t (by decide) ?_ | refine iteB_f (by decide) ?_ | (refine Duo.mk (by first | omega | exact rfl | decide) ?_; intros) | (refine Duo.mk (Clo.mk (by kernel_rfl)) ?_; intros)))
  refine rangeOne (fk := Value.int .i64) (fv := pv) um101 (S.to (m := mpB m1 [(n, bb)] :: pt bt (btO tx be pend (some m1) (some m2) z) :: mpS m2 M2 :: pt rt (rtO rm ver mu rx rb wg) :: mpB rm [] :: pt bb (bbO q c u) :: l) (by
    iterate 6 (apply Ent.pick; (focus (repeat (first | exact Sel.here | apply Sel.there))))
    exact .refl)) fun ir es clk H2 O S2 => ?_
  clear S
  refine ⟨_, rfl, ?_⟩
  refine F110.L0_step ?_
  unfold F110.L0n
  refine nextOne O S2 fun bn H3 hb S3 => ?_
  clear S2
  (repeat (first | (refine Step.go ?_; intros) | refine iteB_t (by decide) ?_ | refine iteB_f (by decide) ?_ | (refine Duo.mk (by first | omega | exact rfl | decide) ?_; intros) | (refine Duo.mk (Clo.mk (by kernel_rfl)) ?_; intros)))
  refine entryOne O hb S3 ?_
  have S4 : Sat H3 (mpB m1 [(n, bb)] :: pt ir (.mapIter (some m1) clk #[bn] clk) :: pt bt (btO tx be pend (some m1) (some m2) z) :: mpS m2 M2 :: pt rt (rtO rm ver mu rx rb wg) :: mpB rm [] :: pt bb (bbO q c u) :: l) := (S3.to ent_swp).to O.close
  clear S3
  (repeat (first | (refine Step.go ?_; intros) | refine iteB_t (by decide) ?_ | refine iteB_f (by decide) ?_ | (refine Duo.mk (by first | omega | exact rfl | decide) ?_; intros) | (refine Duo.mk (Clo.mk (by kernel_rfl)) ?_; intros)))
  refine Sat.lookup S4 (fk := Value.int .i64) (fv := pv) (r := rm) (m := []) (by simp) MI101 n (fun v hv => by cases hv) (fun _ => ?_)
  show tTup (.tuple ⟨[.pointer none, .bool false]⟩) _
  (repeat (first | (refine Step.go ?_; intros) | refine iteB_t (by decide) ?_ | refine iteB_f (by decide) ?_ | (refine Duo.mk (by first | omega | exact rfl | decide) ?_; intros) | (refine Duo.mk (Clo.mk (by kernel_rfl)) ?_; intros)))
  refine Sat.mpDel S4 MI101 n rfl fun H5 S5 => ?_
  clear S4
  have e1 : mdel [(n, bb)] n = [] := by simp [mdel]
  rw [e1] at S5
  (repeat (first | (refine Step.go ?_; intros) | refine iteB_t (by decide) ?_ | refine iteB_f (by decide) ?_ | (refine Duo.mk (by first | omega | exact rfl | decide) ?_; intros) | (refine Duo.mk (Clo.mk (by kernel_rfl)) ?_; intros)))
  have rest : ∀ H6, Sat H6 (mpB m1 [] :: pt ir (.mapIter (some m1) clk #[bn] clk) :: pt bt (btO tx be pend (some m1) (some m2) z) :: mpS m2 M2 :: pt rt (rtO rm ver mu rx rb wg) :: mpB rm [] :: pt bb (bbO q c u) :: l) → F110.L4 (some ⟨bt, 3, none⟩) (some ⟨rt, 0, none⟩) n (some ⟨bb, 0, none⟩) (some ⟨ir, 0, none⟩) H6 (fun e H1 => e = .returned (.tuple ⟨[]⟩) ∧ Sat H1 (pt bt (btO tx be pend (some m1) (some m2) z) :: mpB m1 [] :: mpS m2 [] :: pt rt (rtO rm (IntKind.wrap .u64 (ver + 1)) mu rx rb wg) :: mpB rm [(n, bb)] :: pt bb (bbO q c u) :: l)) := by
    intro H6 S6
    refine F110.L4_step ?_
    unfold F110.L4n
    refine nilD_i ?_
    refine Step.go ?_
    refine Sat.mpSet (fk := Value.int .i64) (fv := pv) (m := []) (r := rm) (S6.to (m := mpB rm [] :: mpB m1 [] :: pt ir (.mapIter (some m1) clk #[bn] clk) :: pt bt (btO tx be pend (some m1) (some m2) z) :: mpS m2 M2 :: pt rt (rtO rm ver mu rx rb wg) :: pt bb (bbO q c u) :: l) (by
      iterate 7 (apply Ent.pick; (focus (repeat (first | exact Sel.here | apply Sel.there))))
      exact .refl)) MI101 n bb fun H7 S7 => ?_
    clear S6
    have e2 : mset ([] : List (Int × Nat)) n bb = [(n, bb)] := rfl
    rw [e2] at S7
    refine F110.L0_step ?_
    unfold F110.L0n
    refine nextNone (fk := Value.int .i64) (fv := pv) (r := m1) (S7.to (m := pt ir (.mapIter (some m1) clk #[bn] clk) :: mpB m1 [] :: pt bt (btO tx be pend (some m1) (some m2) z) :: mpS m2 M2 :: pt rt (rtO rm ver mu rx rb wg) :: mpB rm [(n, bb)] :: pt bb (bbO q c u) :: l) (by
      iterate 7 (apply Ent.pick; (focus (repeat (first | exact Sel.here | apply Sel.there))))
      exact .refl)) ?_
    (repeat (first | (refine Step.go ?_; intros) | refine iteB_t (by decide) ?_ | refine iteB_f (by decide) ?_ | (refine Duo.mk (by first | omega | exact rfl | decide) ?_; intros) | (refine Duo.mk (Clo.mk (by kernel_rfl)) ?_; intros)))
    have wr : CallsH Tryz.prog 124 ⟨[.pointer (some ⟨bt, 3, none⟩)]⟩ H7 (fun e H1 => e = .returned (.tuple ⟨[]⟩) ∧ Sat H1 (pt bt (btO tx be pend (some m1) (some m2) z) :: mpB m1 [] :: mpS m2 [] :: pt rt (rtO rm ver mu rx rb wg) :: mpB rm [(n, bb)] :: pt bb (bbO q c u) :: l)) := by
      rcases hM with rfl | ⟨rfl, _⟩
      · refine wreset0 (S7.to ?_)
        iterate 6 (apply Ent.pick; (focus (repeat (first | exact Sel.here | apply Sel.there))))
        exact Ent.drop .refl
      · refine wreset2 (n := n) (S7.to ?_)
        iterate 6 (apply Ent.pick; (focus (repeat (first | exact Sel.here | apply Sel.there))))
        exact Ent.drop .refl
    refine call_of wr ?_
    rintro e H8 ⟨rfl, S8⟩
    clear S7
    (repeat (first | (refine Step.go ?_; intros) | refine iteB_t (by decide) ?_ | refine iteB_f (by decide) ?_ | (refine Duo.mk (by first | omega | exact rfl | decide) ?_; intros) | (refine Duo.mk (Clo.mk (by kernel_rfl)) ?_; intros)))
    rename_i H9 S9
    exact ⟨rfl, S9⟩
  rcases hM with hM | ⟨hM, hu⟩
  · subst hM
    refine Sat.lookup S5 (fk := Value.int .i64) (fv := Value.bool) (r := m2) (m := []) (by simp) MI134 n (fun v hv => by cases hv) (fun _ => ?_)
    show tTup (.tuple ⟨[.bool false, .bool false]⟩) _
    (repeat (first | (refine Step.go ?_; intros) | refine iteB_t (by decide) ?_ | refine iteB_f (by decide) ?_ | (refine Duo.mk (by first | omega | exact rfl | decide) ?_; intros) | (refine Duo.mk (Clo.mk (by kernel_rfl)) ?_; intros)))
    exact rest _ S5
  · subst hM
    refine Sat.lookup S5 (fk := Value.int .i64) (fv := Value.bool) (r := m2) (m := [(n, false)]) (by simp) MI134 n (fun v hv => ?_) (fun h => by simp [mget] at h)
    have hv : v = false := by simpa [mget] using hv.symm
    subst hv
    show tTup (.tuple ⟨[.bool false, .bool true]⟩) _
    (repeat (first | (refine Step.go ?_; intros) | refine iteB_t (by decide) ?_ | refine iteB_f (by decide) ?_ | (refine Duo.mk (by first | omega | exact rfl | decide) ?_; intros) | (refine Duo.mk (Clo.mk (by kernel_rfl)) ?_; intros)))
    refine F110.L3_step ?_
    unfold F110.L3n
    refine gives_i S5 (dedupe1 (q := q) (c := c) hu (S5.to (m := [pt bb (bbO q c u)]) (by
      iterate 1 (apply Ent.pick; (focus (repeat (first | exact Sel.here | apply Sel.there))))
      exact Ent.nil))) fun H6 E6 S6 => ?_
    (repeat (first | (refine Step.go ?_; intros) | refine iteB_t (by decide) ?_ | refine iteB_f (by decide) ?_ | (refine Duo.mk (by first | omega | exact rfl | decide) ?_; intros) | (refine Duo.mk (Clo.mk (by kernel_rfl)) ?_; intros)))
    exact rest _ S6
end
end Go.Proofs.YtkenjnllegbmjaaGreat
