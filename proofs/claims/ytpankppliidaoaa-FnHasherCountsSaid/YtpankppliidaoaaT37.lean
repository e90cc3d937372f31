/- What functions of this seat do, each proved by a walk; no condition. -/
import Derived.Test.YtpankppliidaoaaT36
import Derived.Test.YtpankppliidaoaaT9
set_option linter.unusedVariables false
set_option linter.unusedSimpArgs false
namespace Go.Proofs.Ytpankppliidaoaa
open Go Go.Den Go.Proofs
/-- A text's bytes as numbers. -/
def kInts (s : ByteArray) : List Int := s.data.toList.map fun b => (b.toNat : Int)
theorem kInts_len (s : ByteArray) : (kInts s).length = s.size := by unfold kInts; rw [List.length_map]; exact Array.length_toList
theorem u8v_kInts (s : ByteArray) : u8v (kInts s) = bytesOf s.data.toList := by simp [u8v, kInts, bytesOf]
theorem str_cells {H : Heap} {r : Nat} {s : ByteArray} (h : Str H r s) : cellsAt H (some ⟨r, 0, none⟩) (u8v (kInts s)) := by
  rw [u8v_kInts]
  intro j v hj
  exact ⟨_, rfl, by rw [add_mk, Nat.zero_add]; exact h.2 j v hj⟩
theorem KVat.pb {H : Heap} {S : Nat → Prop} {b : Nat} {x : KVr} (h : KVat H S b x) : PbAt H b (kInts x.k) (kInts x.v) x.cr x.mod x.ver x.lease := by
  obtain ⟨r1, c1, r2, c2, _, _, _, hb, s1, s2⟩ := h
  exact ⟨_, c1, _, c2, 144, by rw [kInts_len, kInts_len]; exact hb, str_cells s1, str_cells s2⟩
def marR (x : RowR) : List Int := mar (kInts x.kv.k) (kInts x.kv.v) x.kv.cr x.kv.mod x.kv.ver x.kv.lease
/-- The key's bytes of a row: its length, and its block's cells. -/
def keyN (x : RowR) : Nat := if x.gone then 18 else 17
def keyB (x : RowR) : List Value := encB x.rev.1 x.rev.2 ++ [if x.gone then .int .u8 116 else .int .u8 0]
/-- A row as two slices of bytes. -/
structure KV2 where
  row : RowR
  kr : Nat
  vp : Option Addr
  vc : Nat
def KV2.key (y : KV2) : List Value := [.slice (some ⟨y.kr, 0, none⟩) (keyN y.row) 18]
def KV2.val (y : KV2) : List Value := [.slice y.vp (marR y.row).length y.vc]
/-- What the slices lead to, away from what is barred. -/
def KV2.At (H : Heap) (ban : Nat → Prop) (y : KV2) : Prop := ¬ ban y.kr ∧ H[y.kr]? = some (.cells ⟨keyB y.row⟩ 5) ∧
  ((marR y.row).length = 0 ∨ ∃ r sp, y.vp = some ⟨r, 0, none⟩ ∧ ¬ ban r ∧ H[r]? = some (.cells ⟨u8v (marR y.row) ++ sp⟩ 5))
theorem KV2.At.chg {H H1 : Heap} {ban ban' : Nat → Prop} {y : KV2} (h : y.At H ban) (c : ∀ i, i < H.size → ¬ ban i → H1[i]? = H[i]? ∧ ¬ ban' i) : y.At H1 ban' := by
  obtain ⟨h1, h2, h3⟩ := h
  have := c _ (block_lt h2) h1
  refine ⟨this.2, this.1.trans h2, ?_⟩
  rcases h3 with h3 | ⟨r, sp, e, h3, h4⟩
  · exact .inl h3
  · have := c _ (block_lt h4) h3
    exact .inr ⟨r, sp, e, this.2, this.1.trans h4⟩
end Go.Proofs.Ytpankppliidaoaa
