/- What functions of this seat do, each proved by a walk; no condition. -/
import Derived.Test.YtpankppliidaoaaT18
set_option linter.unusedVariables false
set_option linter.unusedSimpArgs false
namespace Go.Proofs.Ytpankppliidaoaa
open Go Go.Den Go.Proofs
abbrev Four := Int × Int × Int × Int
def Four.cells (y : Four) : List Value := [.int .i64 0, .string (ByteArray.mk #[]), .string (ByteArray.mk #[]), .string (ByteArray.mk #[]), .int .i64 0, .int .i64 0, .int .i64 0, .int .i64 0, .int .i64 0, .int .i64 y.1, .int .i64 y.2.1, .int .i64 y.2.2.1, .int .i64 y.2.2.2, .bool false, .bool false, .bool false, .bool false, .bool false, .slice none 0 0, .slice none 0 0, .slice none 0 0]
def sv (y : Four) (l : List KVr) : List KVr := sieveL y.1 y.2.1 y.2.2.1 y.2.2.2 l
def quarters (mm xm mc xc : Int) : List Four := [(mm, 0, 0, 0), (0, xm, 0, 0), (0, 0, mc, 0), (0, 0, 0, xc)]
theorem sv_mem {y : Four} {l : List KVr} {x : KVr} (h : x ∈ sv y l) : x ∈ l := by
  unfold sv sieveL keptL at h
  exact (List.mem_filter.1 (List.mem_filter.1 (List.mem_filter.1 (List.mem_filter.1 h).1).1).1).1
theorem sv_len (y : Four) (l : List KVr) : (sv y l).length ≤ l.length := by
  unfold sv sieveL keptL
  exact Nat.le_trans (List.length_filter_le _ _) (Nat.le_trans (List.length_filter_le _ _) (Nat.le_trans (List.length_filter_le _ _) (List.length_filter_le _ _)))
theorem sv_eq (y : Four) (l : List KVr) : sv y l = l.filter fun x => !(pMax y.2.1 x) && !(pMin y.1 x) && !(cMax y.2.2.2 x) && !(cMin y.2.2.1 x) := by
  unfold sv sieveL keptL
  simp only [List.filter_filter]
  congr 1
  funext x
  cases pMax y.2.1 x <;> cases pMin y.1 x <;> cases cMax y.2.2.2 x <;> cases cMin y.2.2.1 x <;> rfl
theorem pMax0 (x : KVr) : pMax 0 x = false := by simp [pMax]
theorem pMin0 (x : KVr) : pMin 0 x = false := by simp [pMin]
theorem cMax0 (x : KVr) : cMax 0 x = false := by simp [cMax]
theorem cMin0 (x : KVr) : cMin 0 x = false := by simp [cMin]
theorem sv_none (l : List KVr) : sv (0, 0, 0, 0) l = l := by
  rw [sv_eq]; simp [pMax0, pMin0, cMax0, cMin0]
theorem sv_idem (y : Four) (l : List KVr) : sv y (sv y l) = sv y l := by
  simp only [sv_eq, List.filter_filter, Bool.and_self]
/-- One round for each place, from t on: all four have been at work. -/
def rounds (mm xm mc xc : Int) (t : Nat) (l : List KVr) : Nat → List KVr
  | 0 => l
  | i + 1 => sv ((quarters mm xm mc xc).getD ((i + t) % 4) (0, 0, 0, 0)) (rounds mm xm mc xc t l i)
theorem rounds_all (mm xm mc xc : Int) (t : Nat) (ht : t < 4) (l : List KVr) : rounds mm xm mc xc t l 4 = sv (mm, xm, mc, xc) l := by
  have key : ∀ a b c d : Four, (∀ x, (!(pMax a.2.1 x) && !(pMin a.1 x) && !(cMax a.2.2.2 x) && !(cMin a.2.2.1 x)) = (!(pMax a.2.1 x) && !(pMin a.1 x) && !(cMax a.2.2.2 x) && !(cMin a.2.2.1 x))) → True := fun _ _ _ _ _ => trivial
  rcases t with _ | _ | _ | _ | t
  all_goals first | omega | skip
  all_goals
    simp only [rounds, quarters, Nat.reduceAdd, Nat.reduceMod, List.getD_cons_zero, List.getD_cons_succ, sv_eq, List.filter_filter, pMax0, pMin0, cMax0, cMin0, Nat.zero_add]
    congr 1
    funext x
    cases pMax xm x <;> cases pMin mm x <;> cases cMax xc x <;> cases cMin mc x <;> rfl
theorem rounds_mem {mm xm mc xc : Int} {t : Nat} {l : List KVr} {x : KVr} : ∀ {i : Nat}, x ∈ rounds mm xm mc xc t l i → x ∈ l := by
  intro i
  induction i with
  | zero => exact id
  | succ i ih => intro h; exact ih (sv_mem h)
theorem rounds_len (mm xm mc xc : Int) (t : Nat) (l : List KVr) : ∀ (i : Nat), (rounds mm xm mc xc t l i).length ≤ l.length := by
  intro i
  induction i with
  | zero => exact Nat.le_refl _
  | succ i ih => exact Nat.le_trans (sv_len _ _) ih
theorem filt (p : Option Addr) (n c : Nat) (l : List KVr) (hn : n = l.length) (h1000 : n ≤ 1000) (hl : ∀ x ∈ l, okKV x) (y : Four) (H : Heap) (hR : RowsAt KVr.cells 6 H p l) :
    CallsH Try.prog 11 ⟨[.slice p n c, .agg ⟨Four.cells y⟩]⟩ H (fun e H1 => ∃ q qc, e = .returned (.slice q (sv y l).length qc) ∧ ExtH H H1 ∧ RowsAt KVr.cells 6 H1 q (sv y l)) :=
  filtered_ok p n c l hn h1000 hl 0 (ByteArray.mk #[]) (ByteArray.mk #[]) (ByteArray.mk #[]) 0 0 0 0 0 y.1 y.2.1 y.2.2.1 y.2.2.2 false false false false false none 0 0 none 0 0 none 0 0 (by decide) (by decide) H hR
def xa : KVr := ⟨ByteArray.mk #[97], ByteArray.mk #[], 0, 2, 0, 0⟩
theorem tmod4 {z : Int} (h : 0 ≤ z) : Int.tmod z 4 = z % 4 := Int.tmod_eq_emod_of_nonneg h
theorem law3_loop (p : Option Addr) (n c : Nat) (l : List KVr) (hn : n = l.length) (h100 : n ≤ 100) (hl : ∀ x ∈ l, okKV x) (turn : Int) (ht : 0 ≤ turn) (mm xm mc xc : Int) (H0 : Heap) (hR : RowsAt KVr.cells 6 H0 p l) (rq rp : Nat) (rc : List Value)
    (q9 : rc[9]? = some (.int .i64 mm)) (q10 : rc[10]? = some (.int .i64 xm)) (q11 : rc[11]? = some (.int .i64 mc)) (q12 : rc[12]? = some (.int .i64 xc)) :
    ∀ (d i : Nat) (s : Option Addr) (sc : Nat) (H : Heap), i + d = 4 → St H0 Nn H [(rp, .cells ⟨(quarters mm xm mc xc).flatMap Four.cells⟩ 26), (rq, .cells ⟨rc⟩ 26)] →
      RowsAt KVr.cells 6 H s (rounds mm xm mc xc (turn % 4).toNat l i) →
      F3.L2 p n c turn rq (some ⟨rp, 0, none⟩) 4 4 s (rounds mm xm mc xc (turn % 4).toNat l i).length sc ((4 : Nat) : Int) (i : Int) H (Gives (.bool true) H0) := by
  intro d
  have t4 : 0 ≤ turn % 4 ∧ turn % 4 < 4 := ⟨Int.emod_nonneg _ (by decide), Int.emod_lt_of_pos _ (by decide)⟩
  induction d with
  | zero =>
    intro i s sc H hi L hs
    obtain rfl : i = 4 := by omega
    have h4 := rounds_all mm xm mc xc (turn % 4).toNat (by omega) l
    rw [h4] at hs ⊢
    refine F3.L2_step ?_
    unfold F3.L2n
    refine iteB_i (fun h => by simp at h) (fun _ => ?_)
    refine St.int L 1 rfl q9 ?_
    refine St.int L 1 rfl q10 ?_
    refine St.int L 1 rfl q11 ?_
    refine St.int L 1 rfl q12 ?_
    refine callD_i (filt p n c l hn (by omega) hl (mm, xm, mc, xc) H (hR.ext L.ext)) ?_
    rintro e H1 ⟨q, qc, rfl, E1, r1⟩
    refine tSl_i ?_
    have L := L.extend E1
    have len := sv_len (mm, xm, mc, xc) l
    refine callD_i (txnKVs_ok q s _ qc sc (sv (mm, xm, mc, xc) l) rfl (by omega) H1 r1 (hs.ext E1)) ?_
    rintro e H2 ⟨rfl, rfl⟩
    refine tBool_i ?_
    refine iteB_i (fun _ => ?_) (fun h => by cases h)
    refine St.int L 1 rfl q9 ?_
    refine St.int L 1 rfl q10 ?_
    refine St.int L 1 rfl q11 ?_
    refine St.int L 1 rfl q12 ?_
    refine callD_i (filt q _ qc (sv (mm, xm, mc, xc) l) rfl (by omega) (fun x hx => hl x (sv_mem hx)) (mm, xm, mc, xc) H2 r1) ?_
    rintro e H3 ⟨q', qc', rfl, E3, r3⟩
    refine tSl_i ?_
    have L := L.extend E3
    rw [sv_idem] at r3 ⊢
    refine callD_i (txnKVs_ok q' q _ qc' qc (sv (mm, xm, mc, xc) l) rfl (by omega) H3 r3 (r1.ext E3)) ?_
    rintro e H4 ⟨rfl, rfl⟩
    refine tBool_i ?_
    refine iteB_i (fun _ => ?_) (fun h => by cases h)
    refine St.new L ?_
    intro r H5 L
    have hr := (L.own 0 _ _ rfl).2
    refine callD_i (filt (some ⟨r, 0, none⟩) 1 1 [xa] rfl (by decide) (by intro x hx; simp at hx; subst hx; exact ⟨by decide, by decide⟩) (0, 0, 0, 0) H5 (RowsAt.of_block hr ?_)) ?_
    · intro i x hi j v hj
      cases i with
      | zero => simp at hi; subst hi; rw [Nat.zero_mul, Nat.zero_add]; exact hj
      | succ i => simp at hi
    rintro e H6 ⟨q6, qc6, rfl, E6, r6⟩
    refine tSl_i ?_
    rw [sv_none]
    exact ⟨rfl, (L.extend E6).ext⟩
  | succ d ih =>
    intro i s sc H hi L hs
    refine F3.L2_step ?_
    unfold F3.L2n
    refine iteB_i (fun _ => ?_) (fun h => by simp at h; omega)
    refine ⟨by decide, ?_⟩
    refine ⟨by decide, ?_⟩
    have e0 : IntKind.wrap .i64 ((i : Int) + Int.tmod turn 4) = (i : Int) + turn % 4 := by rw [tmod4 ht, wrap_i64 (by omega) (by omega)]
    have e1 : Int.tmod (IntKind.wrap .i64 ((i : Int) + Int.tmod turn 4)) 4 = (((i + (turn % 4).toNat) % 4 : Nat) : Int) := by
      rw [e0, tmod4 (by omega)]; omega
    rw [e1]
    generalize hk : (i + (turn % 4).toNat) % 4 = k
    have hk4 : k < 4 := by omega
    have hrow : RowsAt Four.cells 21 H (some ⟨rp, 0, none⟩) (quarters mm xm mc xc) := by
      refine RowsAt.of_block (L.own 0 _ _ rfl).2 ?_
      intro i x hi j v hj
      have := flat_get (f := Four.cells) (z := 21) (fun x => rfl) (quarters mm xm mc xc) [] i x hi j v hj
      simpa using this
    refine hrow.idx rfl (by omega) (by omega) ?_
    intro a y hy hc
    simp only [Int.toNat_natCast] at hy hc ⊢
    refine ⟨_, at_zero hc rfl, _, hc 1 _ rfl, _, hc 2 _ rfl, _, hc 3 _ rfl, _, hc 4 _ rfl, _, hc 5 _ rfl, _, hc 6 _ rfl, _, hc 7 _ rfl, _, hc 8 _ rfl, _, hc 9 _ rfl, _, hc 10 _ rfl, _, hc 11 _ rfl, _, hc 12 _ rfl, _, hc 13 _ rfl, _, hc 14 _ rfl, _, hc 15 _ rfl, _, hc 16 _ rfl, _, hc 17 _ rfl, _, _, _, hc 18 _ rfl, _, _, _, hc 19 _ rfl, _, _, _, hc 20 _ rfl, ?_⟩
    have len := rounds_len mm xm mc xc (turn % 4).toNat l i
    refine callD_i (filt s _ sc (rounds mm xm mc xc (turn % 4).toNat l i) rfl (by omega) (fun x hx => hl x (rounds_mem hx)) y H hs) ?_
    rintro e H1 ⟨q, qc, rfl, E1, r1⟩
    refine tSl_i ?_
    have e2 : IntKind.wrap .i64 ((i : Int) + (1 : Int)) = ((i + 1 : Nat) : Int) := by rw [wrap_i64 (by omega) (by omega)]; rfl
    rw [e2]
    have hrd : rounds mm xm mc xc (turn % 4).toNat l (i + 1) = sv y (rounds mm xm mc xc (turn % 4).toNat l i) := by
      show sv ((quarters mm xm mc xc).getD ((i + (turn % 4).toNat) % 4) (0, 0, 0, 0)) _ = _
      rw [hk, List.getD_eq_getElem?_getD, hy]; rfl
    have := ih (i + 1) q qc H1 (by omega) (L.extend E1) (by rw [hrd]; exact r1)
    rw [hrd] at this
    exact this
theorem law3 (p : Option Addr) (n c : Nat) (l : List KVr) (hn : n = l.length) (hl : ∀ x ∈ l, okKV x) (turn : Int) (r0 : Int) (r1 r2 r3 : ByteArray) (r4 r5 r6 r7 r8 mm xm mc xc : Int) (b13 b14 b15 b16 b17 : Bool) (p18 : Option Addr) (n18 c18 : Nat) (p19 : Option Addr) (n19 c19 : Nat) (p20 : Option Addr) (n20 c20 : Nat) (lc : List CmpR) (hc : n18 = lc.length) (H : Heap) (hRc : RowsAt CmpR.cells 7 H p18 lc) (hR : RowsAt KVr.cells 6 H p l) :
    CallsH Try.prog 3 ⟨[.slice p n c, .agg ⟨[.int .i64 r0, .string r1, .string r2, .string r3, .int .i64 r4, .int .i64 r5, .int .i64 r6, .int .i64 r7, .int .i64 r8, .int .i64 mm, .int .i64 xm, .int .i64 mc, .int .i64 xc, .bool b13, .bool b14, .bool b15, .bool b16, .bool b17, .slice p18 n18 c18, .slice p19 n19 c19, .slice p20 n20 c20]⟩, .int .i64 turn]⟩ H (Gives (.bool true) H) := by
  refine F3.calls ?_
  unfold F3.go
  have L := St.start H
  refine St.new L ?_
  intro r H1 L
  refine St.tells L (fits9 p n c l hn _ (hR.ext L.ext)) ?_
  intro b H2 E2 L
  refine tBool_i ?_
  refine iteB_i (fun _ => ⟨rfl, L.ext⟩) (fun _ => ?_)
  repeat (first
    | (refine St.new L ?_; intro _r _H L)
    | refine St.int L 0 rfl rfl ?_
    | refine St.bool L 0 rfl rfl ?_
    | refine St.str L 0 rfl rfl ?_
    | refine St.ptr L 0 rfl rfl ?_
    | refine St.sl L 0 rfl rfl ?_
    | refine St.map L 0 rfl rfl ?_
    | refine St.ifmk L 0 rfl rfl ?_
    | refine St.ifnil L 0 rfl rfl ?_
    | refine St.ifv L 0 rfl rfl ?_
    | refine St.fnmk L 0 rfl rfl ?_
    | refine St.fnv L 0 rfl rfl ?_
    | (refine St.st L 0 rfl rfl (by first | rfl | exact isCell_IV _ | exact isCell_FV _) ?_; intro _H L)
    | refine tInt_i ?_
    | refine tBool_i ?_
    | refine tStr_i ?_
    | refine tPtr_i ?_
    | refine tSl_i ?_
    | refine tMap_i ?_
    | refine tIf_nil ?_
    | refine tIf_mk ?_
    | refine tIf_i ?_
    | refine tFn_mk ?_
    | refine tFn_i ?_
    | refine tAgg_i ?_
    | refine tTup_i ?_
    | refine tCons_i ?_
    | refine tNil_i ?_
    | refine andD_i (by assumption) ?_
    | refine nilD_i ?_)
  refine St.tells L (fits10 r0 r1 r2 r3 r4 r5 r6 r7 r8 mm xm mc xc b13 b14 b15 b16 b17 p18 n18 c18 p19 n19 c19 p20 n20 c20 lc hc _ (hRc.ext L.ext)) ?_
  intro b H3 E3 L
  refine tBool_i ?_
  refine iteB_i (fun _ => ⟨rfl, L.ext⟩) (fun _ => ?_)
  refine F3.L0_step ?_
  unfold F3.L0n
  refine iteB_i (fun _ => ⟨rfl, L.ext⟩) (fun h100 => ?_)
  refine iteB_i (fun _ => ⟨rfl, L.ext⟩) (fun ht => ?_)
  simp at h100 ht
  refine F3.L1_step ?_
  unfold F3.L1n
  repeat (first
    | (refine St.new L ?_; intro _r _H L)
    | refine St.int L 0 rfl rfl ?_
    | refine St.bool L 0 rfl rfl ?_
    | refine St.str L 0 rfl rfl ?_
    | refine St.ptr L 0 rfl rfl ?_
    | refine St.sl L 0 rfl rfl ?_
    | refine St.map L 0 rfl rfl ?_
    | refine St.ifmk L 0 rfl rfl ?_
    | refine St.ifnil L 0 rfl rfl ?_
    | refine St.ifv L 0 rfl rfl ?_
    | refine St.fnmk L 0 rfl rfl ?_
    | refine St.fnv L 0 rfl rfl ?_
    | (refine St.st L 0 rfl rfl (by first | rfl | exact isCell_IV _ | exact isCell_FV _) ?_; intro _H L)
    | refine tInt_i ?_
    | refine tBool_i ?_
    | refine tStr_i ?_
    | refine tPtr_i ?_
    | refine tSl_i ?_
    | refine tMap_i ?_
    | refine tIf_nil ?_
    | refine tIf_mk ?_
    | refine tIf_i ?_
    | refine tFn_mk ?_
    | refine tFn_i ?_
    | refine tAgg_i ?_
    | refine tTup_i ?_
    | refine tCons_i ?_
    | refine tNil_i ?_
    | refine andD_i (by assumption) ?_
    | refine nilD_i ?_)
  exact law3_loop p n c l hn (by omega) hl turn ht mm xm mc xc H hR _ _ _ rfl rfl rfl rfl 4 0 p c _ (by omega) L (hR.ext L.ext) |> fun h => by rw [hn]; simpa [rounds, hn] using h
end Go.Proofs.Ytpankppliidaoaa
