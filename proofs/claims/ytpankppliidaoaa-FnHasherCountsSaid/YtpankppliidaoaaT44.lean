/- What functions of this seat do, each proved by a walk; no condition. -/
import Derived.Test.YtpankppliidaoaaT43
set_option linter.unusedVariables false
set_option linter.unusedSimpArgs false
namespace Go.Proofs.Ytpankppliidaoaa
open Go Go.Den Go.Proofs
def hashStep (c : Int) (x : RowR) : Int := crcUpd (crcUpd c (keyI x)) (marR x)
def hash0 : Int := crcUpd 0 [107, 101, 121]
/-- The hash of the rows that count. -/
def hashOf (compact rev : Int) (ks : List RevR) (l : List RowR) : Int := (l.filter (countsB compact rev ks)).foldl hashStep hash0
theorem cell_keep {H H1 : Heap} {sb : Nat} {c c' : Int} {T : TypeId} {a : Addr} {v : Value} (hs : H[sb]? = some (.cells ⟨[.int .u32 c]⟩ T)) (u : Upd sb (.cells ⟨[.int .u32 c']⟩ T) H H1) (hv : ∀ n, v ≠ .int .u32 n) (hc : hcell H a = some v) : hcell H1 a = some v := by
  by_cases hb : a.block = sb
  · exfalso
    unfold hcell at hc
    rw [hb, hs] at hc
    simp only at hc
    split at hc
    · cases hc
    · cases h0 : a.off with
      | zero => rw [h0] at hc; simp at hc; exact hv _ hc.symm
      | succ k => rw [h0] at hc; simp at hc
  · rw [← hc]
    refine hcell_same (u.same _ ?_ hb)
    unfold hcell at hc
    split at hc
    · rename_i h2; exact block_lt h2
    · cases hc
theorem rows_keep {α : Type} {f : α → List Value} {z : Nat} {p : Option Addr} {l : List α} {H H1 : Heap} {sb : Nat} {c c' : Int} {T : TypeId} (hs : H[sb]? = some (.cells ⟨[.int .u32 c]⟩ T)) (u : Upd sb (.cells ⟨[.int .u32 c']⟩ T) H H1) (hf : ∀ (x : α) (j : Nat) (v : Value), (f x)[j]? = some v → ∀ n, v ≠ Value.int .u32 n) (R : RowsAt f z H p l) : RowsAt f z H1 p l := by
  rcases R with h | ⟨a, rfl, h⟩
  · exact .inl h
  · exact .inr ⟨a, rfl, fun i x hi j v hj => cell_keep hs u (hf x j v hj) (h i x hi j v hj)⟩
theorem key_no (y : KV2) (j : Nat) (v : Value) (h : y.key[j]? = some v) : ∀ n, v ≠ .int .u32 n := by
  intro n e
  subst e
  cases j with
  | zero => simp [KV2.key] at h
  | succ j => simp [KV2.key] at h
theorem val_no (y : KV2) (j : Nat) (v : Value) (h : y.val[j]? = some v) : ∀ n, v ≠ .int .u32 n := by
  intro n e
  subst e
  cases j with
  | zero => simp [KV2.val] at h
  | succ j => simp [KV2.val] at h
theorem at_keep {H H1 : Heap} {sb : Nat} {c c' : Int} {y : KV2} (hs : H[sb]? = some (.cells ⟨[.int .u32 c]⟩ 161)) (u : Upd sb (.cells ⟨[.int .u32 c']⟩ 161) H H1) (h : y.At H Nn) : y.At H1 Nn := by
  have key : ∀ {r : Nat} {cs : List Value}, H[r]? = some (.cells ⟨cs⟩ 5) → H1[r]? = some (.cells ⟨cs⟩ 5) := by
    intro r cs hr
    have hne : r ≠ sb := fun e => by rw [e, hs] at hr; simp at hr
    rw [u.same r (block_lt hr) hne, hr]
  refine ⟨h.1, key h.2.1, ?_⟩
  rcases h.2.2 with h0 | ⟨r, sp, e, hn, hb⟩
  · exact .inl h0
  · exact .inr ⟨r, sp, e, hn, key hb⟩
theorem hash_loop {H0 : Heap} {sb hb mb : Nat} {c0 compact rev : Int} {ks : List RevR} (S0 : HashSt H0 sb hb mb c0 compact rev ks) (hc0 : -1 ≤ compact) (hc1 : compact < 4611686018427387904) (hr0 : 0 ≤ rev) (hr1 : rev < 4611686018427387904) {kp vp : Option Addr} {kc vc : Nat} {kl : List KV2} (hk : RowsAt KV2.key 1 H0 kp kl) (hv : RowsAt KV2.val 1 H0 vp kl)
    (hat : ∀ y ∈ kl, y.At H0 Nn) (hf : ∀ y ∈ kl, rowFits y.row) (hm : kl.length ≤ 1000000) {B : Heap} (hB : ExtH B H0) (hsb : B.size ≤ sb) :
    ∀ (d i : Nat) (c : Int) (H : Heap), i + d = kl.length → c = ((kl.take i).map KV2.row |>.filter (countsB compact rev ks)).foldl hashStep c0 → Upd sb (.cells ⟨[.int .u32 c]⟩ 161) H0 H →
      F51.L1 hb kp kl.length kc vp kl.length vc (kl.length : Int) (i : Int) H (fun e H1 => e = .returned (.int .u32 ((kl.map KV2.row |>.filter (countsB compact rev ks)).foldl hashStep c0)) ∧ ExtH B H1) := by
  have n1 : hb ≠ sb := fun e => by have := S0.h; rw [e, S0.s] at this; simp at this
  intro d
  induction d with
  | zero =>
    intro i c H hi hc u
    have hik : i = kl.length := by omega
    subst hik
    rw [List.take_length] at hc
    refine F51.L1_step ?_
    unfold F51.L1n
    refine iteB_f (by simp) ?_
    have hh : H[hb]? = some (.cells ⟨[.pointer (some ⟨sb, 0, none⟩), .int .i64 compact, .int .i64 rev, .map (some mb)]⟩ 132) := by rw [u.same hb (block_lt S0.h) n1, S0.h]
    refine gives_i (Sat.start H) (v := .agg ⟨[.int .u32 c, .int .i64 compact, .int .i64 rev]⟩) (F71.calls ?_) ?_
    · unfold F71.go
      have S := Sat.start H
      have A1 : At hb (.cells ⟨[.pointer (some ⟨sb, 0, none⟩), .int .i64 compact, .int .i64 rev, .map (some mb)]⟩ 132) [old H] := ⟨fun k hk => by obtain ⟨g, h1, h2, _⟩ := hk; exact h2 _ _ (h1 _ _ hh)⟩
      have A2 : At sb (.cells ⟨[.int .u32 c]⟩ 161) [old H] := ⟨fun k hk => by obtain ⟨g, h1, h2, _⟩ := hk; exact h2 _ _ (h1 _ _ u.at_)⟩
      (repeat (first | (refine Step.go ?_; intros) | refine iteB_t (by decide) ?_ | refine iteB_f (by decide) ?_ | (refine Duo.mk (by first | omega | exact rfl | decide) ?_; intros) | (refine Duo.mk (Clo.mk (by kernel_rfl)) ?_; intros)))
      rename_i r H1 S1
      refine gives_i S1 (v := .int .u32 c) (F83.calls ?_) ?_
      · unfold F83.go
        (repeat (first | (refine Step.go ?_; intros) | refine iteB_t (by decide) ?_ | refine iteB_f (by decide) ?_ | (refine Duo.mk (by first | omega | exact rfl | decide) ?_; intros) | (refine Duo.mk (Clo.mk (by kernel_rfl)) ?_; intros)))
        exact ⟨rfl, .refl _⟩
      intro H2 E2 S2
      (repeat (first | (refine Step.go ?_; intros) | refine iteB_t (by decide) ?_ | refine iteB_f (by decide) ?_ | (refine Duo.mk (by first | omega | exact rfl | decide) ?_; intros) | (refine Duo.mk (Clo.mk (by kernel_rfl)) ?_; intros)))
      exact ⟨rfl, Sat.grown⟩
    intro H1 E1 S1
    (repeat (first | (refine Step.go ?_; intros) | refine iteB_t (by decide) ?_ | refine iteB_f (by decide) ?_ | (refine Duo.mk (by first | omega | exact rfl | decide) ?_; intros) | (refine Duo.mk (Clo.mk (by kernel_rfl)) ?_; intros)))
    exact ⟨by rw [hc], (hB.upd u hsb).trans E1⟩
  | succ d ih =>
    intro i c H hi hc u
    obtain ⟨y, hy⟩ := get_of (l := kl) (i := i) (by omega)
    have hym := List.mem_of_getElem? hy
    refine F51.L1_step ?_
    unfold F51.L1n
    refine iteB_t (by simp; omega) ?_
    refine (rows_keep S0.s u key_no hk).idx (by omega) (by omega) (by omega) ?_
    intro a x hx hcx
    simp only [Int.toNat_natCast] at hx hcx
    rw [hy] at hx; cases hx
    refine (rows_keep S0.s u val_no hv).idx (by omega) (by omega) (by omega) ?_
    intro a1 x hx hcx1
    simp only [Int.toNat_natCast] at hx hcx1
    rw [hy] at hx; cases hx
    refine ⟨_, _, _, at_zero hcx rfl, ?_⟩
    refine ⟨_, _, _, at_zero hcx1 rfl, ?_⟩
    have S1 : HashSt H sb hb mb c compact rev ks := by
      obtain ⟨es, clk, h1, h2, h3⟩ := S0.m
      have n3 : mb ≠ sb := fun e => by rw [e, S0.s] at h1; simp at h1
      exact ⟨u.at_, by rw [u.same hb (block_lt S0.h) n1, S0.h], es, clk, by rw [u.same mb (block_lt h1) n3, h1], h2, h3⟩
    refine call_of (write_ok S1 (at_keep S0.s u (hat y hym)) (hf y hym) hc0 hc1 hr0 hr1) ?_
    rintro e H1 ⟨rfl, u1⟩
    (repeat (first | (refine Step.go ?_; intros) | refine iteB_t (by decide) ?_ | refine iteB_f (by decide) ?_ | (refine Duo.mk (by first | omega | exact rfl | decide) ?_; intros) | (refine Duo.mk (Clo.mk (by kernel_rfl)) ?_; intros)))
    rw [wrap64_small (by omega) (by omega)]
    refine ih (i + 1) _ H1 (by omega) ?_ (u.trans u1)
    rw [List.take_add_one, hy]
    simp only [Option.toList_some, List.map_append, List.map_cons, List.map_nil, List.filter_append, List.foldl_append, ← hc]
    cases hb : countsB compact rev ks y.row <;> simp [hb, hashStep, List.filter]
theorem zzHash_ok {compact rev : Int} (hc0 : -1 ≤ compact) (hc1 : compact < 4611686018427387904) (hr0 : 0 ≤ rev) (hr1 : rev < 4611686018427387904) {p q : Option Addr} {c qc : Nat} {ks : List RevR} {zl : List (RowR × Nat)} {H : Heap} (hks : ks.length ≤ 100000) (hzl : zl.length ≤ 100000) (hR : RowsAt revCells 2 H p ks) (hZ : RowsAt zzCells 4 H q zl)
    (hkv : ∀ y ∈ zl, KVat H Nn y.2 y.1.kv) (hsz : ∀ y ∈ zl, y.1.kv.k.size ≤ 100000 ∧ y.1.kv.v.size ≤ 100000) (hf : ∀ y ∈ zl, rowFits y.1) :
    CallsH Try.prog 51 ⟨[.int .i64 compact, .int .i64 rev, .slice p ks.length c, .slice q zl.length qc]⟩ H (Gives (.int .u32 (hashOf compact rev ks (zl.map (·.1)))) H) := by
  have R0 : RowsC H p revCells 2 ks := ⟨hR⟩
  refine F51.calls ?_
  unfold F51.go
  have S := Sat.start H
  refine Step.go ?_
  intro mb H1 S1
  refine keep_loop (by omega) ?_ ks.length 0 H1 (by omega) (S1.mpNew revV fu)
  intro H2 S2
  refine F51.L0_step ?_
  unfold F51.L0n
  refine iteB_f (by simp) ?_
  refine call_of (newHasher_ok compact rev mb H2 _ S2) ?_
  rintro e H3 ⟨sb, rfl, S3⟩
  (repeat (first | (refine Step.go ?_; intros) | refine iteB_t (by decide) ?_ | refine iteB_f (by decide) ?_ | (refine Duo.mk (by first | omega | exact rfl | decide) ?_; intros) | (refine Duo.mk (Clo.mk (by kernel_rfl)) ?_; intros)))
  rename_i hb H4 S4 H5 S5 H6 S6 H7 S7 H8 S8
  have E8 : ExtH H H8 := Sat.grown
  refine call_of (zzRows_ok q zl.length qc zl rfl hzl H8 (hZ.ext E8) (fun y hy => (hkv y hy).ext E8) hsz) ?_
  rintro e H9 ⟨kp, vp, kc, vc, kl, rfl, E9, hk, hv, hrow, hat⟩
  have S9 := S8.ext E9
  have hkn : kl.length = zl.length := by have := congrArg List.length hrow; simpa using this
  (repeat (first | (refine Step.go ?_; intros) | refine iteB_t (by decide) ?_ | refine iteB_f (by decide) ?_ | (refine Duo.mk (by first | omega | exact rfl | decide) ?_; intros) | (refine Duo.mk (Clo.mk (by kernel_rfl)) ?_; intros)))
  have hmap := revMap_of (S9.bring (.there (.there .here)))
  have st : HashSt H9 sb hb mb hash0 compact rev ((keepSet ks).map (·.1)) := ⟨S9.obj, S9.obj, hmap⟩
  have hsb : H.size ≤ sb := by
    exact S3.fresh (r := sb) (o := .cells ⟨[.int .u32 (crcUpd 0 [107, 101, 121])]⟩ 161) (H0 := H)
  have := hash_loop st hc0 hc1 hr0 hr1 (kc := kc) (vc := vc) hk hv hat (fun y hy => by
    have h1 : y.row ∈ kl.map KV2.row := List.mem_map_of_mem hy
    rw [hrow] at h1
    obtain ⟨x, hx, he⟩ := List.mem_map.1 h1
    rw [← he]; exact hf x hx) (by omega) (E8.trans E9) hsb kl.length 0 hash0 H9 (by omega) rfl (Upd.refl S9.obj)
  rw [hkn] at this
  have e2 : countsB compact rev ((keepSet ks).map (·.1)) = countsB compact rev ks := by funext x; exact counts_set compact rev ks x
  rw [hrow, e2] at this
  exact this
end Go.Proofs.Ytpankppliidaoaa
