/- What functions of this seat do, each proved by a walk; no condition. -/
import Derived.Test.YtpankppliidaoaaT7
set_option linter.unusedVariables false
namespace Go.Proofs.Ytpankppliidaoaa
open Go Go.Den Go.Proofs

theorem isTombstone_ok (r n c : Nat) (xs : List Int) (hx : xs.length = n) (hn : n ≤ c) (H : Heap) (hH : ∀ k, k < n → hcell H ⟨r, k, none⟩ = some (.int .u8 (xs.getD k 0))) :
    CallsH Try.prog 64 ⟨[.slice (some ⟨r, 0, none⟩) n c]⟩ H (fun e H1 => e = .returned (.bool (n == 18 && xs.getD 17 0 == 116)) ∧ H1 = H) := by
  refine F64.calls ?_
  unfold F64.go
  by_cases h18 : n = 18
  · subst h18
    refine iteB_i (fun _ => ?_) (fun h => by simp at h)
    refine idxD_i (by omega) (by omega) ?_
    rw [add_mk]
    exact ⟨_, hH 17 (by omega), by simp, rfl⟩
  · refine iteB_i (fun h => ?_) (fun _ => ?_)
    · simp at h; omega
    · exact ⟨by simp [h18], rfl⟩
theorem encB_at8 (m s : Int) : (encB m s)[8]? = some (.int .u8 95) := by
  unfold encB
  rw [List.append_assoc, List.getElem?_append_right (by rw [be_length]; omega), be_length]
  rfl
theorem encB_lo (m s : Int) (k : Nat) (hk : k < 8) : (encB m s)[k]? = some (.int .u8 ((bytesL (IntKind.wrap .u64 m)).getD k 0)) := by
  unfold encB
  rw [List.append_assoc, List.getElem?_append_left (by rw [be_length]; omega)]
  simp [be, bytesL, hk, List.getD_eq_getElem?_getD]
theorem encB_hi (m s : Int) (k : Nat) (hk : k < 8) : (encB m s)[9 + k]? = some (.int .u8 ((bytesL (IntKind.wrap .u64 s)).getD k 0)) := by
  unfold encB
  rw [List.getElem?_append_right (by simp [be_length]), show 9 + k - (be (IntKind.wrap .u64 m) ++ [Value.int .u8 95]).length = k from by simp [be_length]]
  simp [be, bytesL, hk, List.getD_eq_getElem?_getD]
/-- Bytes that begin as a revision's are read as that revision. -/
theorem bytesToBk_ok (m s : Int) (hm0 : 0 ≤ m) (hm1 : m < 9223372036854775808) (hs0 : 0 ≤ s) (hs1 : s < 9223372036854775808) (r n c : Nat) (hn : n = 17 ∨ n = 18) (hc : n ≤ c) (tl : List Value) (last : Int) (H : Heap)
    (hH : ∀ k v, k < n → (encB m s ++ tl)[k]? = some v → hcell H ⟨r, k, none⟩ = some v) (htl : n = 18 → tl[0]? = some (.int .u8 last)) :
    CallsH Try.prog 61 ⟨[.slice (some ⟨r, 0, none⟩) n c]⟩ H (Gives (.agg ⟨[.int .i64 m, .int .i64 s, .bool (n == 18 && last == 116)]⟩) H) := by
  have hlen := encB_length m s
  have hcell : ∀ k v, k < 17 → (encB m s)[k]? = some v → hcell H ⟨r, k, none⟩ = some v := fun k v hk hv => hH k v (by omega) (by rw [List.getElem?_append_left (by omega)]; exact hv)
  have um : IntKind.wrap .u64 m = m := wrapu64_id hm0 (by omega)
  have us : IntKind.wrap .u64 s = s := wrapu64_id hs0 (by omega)
  refine F61.calls ?_
  unfold F61.go
  refine Loc.new (Loc.start H) ?_
  intro r0 H1 L
  have keep : ∀ k v, k < 17 → (encB m s)[k]? = some v → Den.hcell H1 ⟨r, k, none⟩ = some v := fun k v hk hv => L.ext.cell (hcell k v hk hv)
  have hL1 : F61.L1 (some ⟨r, 0, none⟩) n c r0 H1 (Gives (.agg ⟨[.int .i64 m, .int .i64 s, .bool (n == 18 && last == 116)]⟩) H) := by
    refine F61.L1_step ?_
    unfold F61.L1n
    refine idxD_i (by omega) (by omega) ?_
    simp only [add_mk]
    refine ⟨_, keep 8 _ (by omega) (encB_at8 m s), ?_⟩
    refine iteB_i (fun h => by simp at h) (fun _ => ?_)
    refine F61.L2_step ?_
    unfold F61.L2n
    refine bndD_i (by omega) (by omega) (bndD_i (by omega) (by omega) ?_)
    have e1 : slP (some ⟨r, 0, none⟩) (0 : Int).toNat c 1 = some ⟨r, 0, none⟩ := by
      rw [slP_mk (by show c ≠ 0; omega)]; rfl
    rw [e1]
    refine callD_i (uint64_ok r 0 _ _ (bytesL (IntKind.wrap .u64 m)) (by simp [bytesL]) (by decide) H1 (fun k hk => by rw [Nat.zero_add]; exact keep k _ (by omega) (encB_lo m s k hk))) ?_
    rintro e H2 ⟨rfl, rfl⟩
    refine tInt_i ?_
    refine bndD_i (by omega) (by omega) ?_
    have e2 : slP (some ⟨r, 0, none⟩) (9 : Int).toNat c 1 = some ⟨r, 9, none⟩ := by
      rw [slP_mk (by show c ≠ 9; omega)]; rfl
    rw [e2]
    refine callD_i (uint64_ok r 9 _ _ (bytesL (IntKind.wrap .u64 s)) (by simp [bytesL]) (by show 8 ≤ n - 9; omega) H2 (fun k hk => keep (9 + k) _ (by omega) (encB_hi m s k hk))) ?_
    rintro e H3 ⟨rfl, rfl⟩
    refine tInt_i ?_
    rw [um, us, dec_bytes hm0 (by omega), dec_bytes hs0 (by omega), wrap64_small (by omega) (by omega), wrap64_small (by omega) (by omega)]
    refine iteB_i (fun h => by simp at h; omega) (fun _ => iteB_i (fun h => by simp at h; omega) (fun _ => ?_))
    refine F61.L4_step ?_
    unfold F61.L4n
    have hxs : ∃ xs : List Int, xs.length = n ∧ (∀ k, k < n → (encB m s ++ tl)[k]? = some (.int .u8 (xs.getD k 0))) ∧ (n = 18 → xs.getD 17 0 = last) := by
      refine ⟨(bytesL m ++ [95] ++ bytesL s ++ [last]).take n, ?_, ?_, ?_⟩
      · simp [bytesL]; omega
      · intro k hk
        rw [List.getD_eq_getElem?_getD, List.getElem?_take_of_lt hk]
        by_cases h8 : k < 8
        · rw [List.getElem?_append_left (by omega), encB_lo m s k h8, um]
          rw [List.append_assoc, List.append_assoc, List.getElem?_append_left (by simp [bytesL]; omega), List.getD_eq_getElem?_getD]
        · by_cases h9 : k = 8
          · subst h9
            rw [List.getElem?_append_left (by omega), encB_at8]
            rw [List.append_assoc, List.append_assoc, List.getElem?_append_right (by simp [bytesL])]
            simp [bytesL]
          · by_cases h17 : k < 17
            · obtain ⟨j, rfl⟩ : ∃ j, k = 9 + j := ⟨k - 9, by omega⟩
              rw [List.getElem?_append_left (by omega), encB_hi m s j (by omega), us]
              rw [List.append_assoc, List.getElem?_append_right (by simp [bytesL]), show 9 + j - (bytesL m ++ [(95 : Int)]).length = j from by simp [bytesL], List.getElem?_append_left (by simp [bytesL]; omega), List.getD_eq_getElem?_getD]
            · obtain rfl : k = 17 := by omega
              rw [List.getElem?_append_right (by omega), hlen]
              rw [htl (by omega)]
              rw [List.getElem?_append_right (by simp [bytesL])]
              simp [bytesL]
      · intro h18
        rw [List.getD_eq_getElem?_getD, List.getElem?_take_of_lt (by omega), List.getElem?_append_right (by simp [bytesL])]
        simp [bytesL]
    obtain ⟨xs, hx1, hx2, hx3⟩ := hxs
    refine callD_i (isTombstone_ok r n c xs hx1 hc H3 (fun k hk => L.ext.cell (hH k _ hk (hx2 k hk)))) ?_
    rintro e H4 ⟨rfl, rfl⟩
    refine tBool_i ?_
    repeat (first
    | (refine Loc.new L ?_; intro _r _H L)
    | refine Loc.int L 0 rfl rfl ?_
    | refine Loc.bool L 0 rfl rfl ?_
    | refine Loc.str L 0 rfl rfl ?_
    | refine Loc.ptr L 0 rfl rfl ?_
    | refine Loc.sl L 0 rfl rfl ?_
    | refine Loc.map L 0 rfl rfl ?_
    | refine Loc.ifmk L 0 rfl rfl ?_
    | refine Loc.ifnil L 0 rfl rfl ?_
    | refine Loc.ifv L 0 rfl rfl ?_
    | refine Loc.fnmk L 0 rfl rfl ?_
    | refine Loc.fnv L 0 rfl rfl ?_
    | (refine Loc.st L 0 rfl rfl (by first | rfl | exact isCell_IV _ | exact isCell_FV _) ?_; intro _H L)
    | refine Loc.int L 1 rfl rfl ?_
    | refine Loc.bool L 1 rfl rfl ?_
    | refine Loc.str L 1 rfl rfl ?_
    | refine Loc.ptr L 1 rfl rfl ?_
    | refine Loc.sl L 1 rfl rfl ?_
    | refine Loc.map L 1 rfl rfl ?_
    | refine Loc.ifmk L 1 rfl rfl ?_
    | refine Loc.ifnil L 1 rfl rfl ?_
    | refine Loc.ifv L 1 rfl rfl ?_
    | refine Loc.fnmk L 1 rfl rfl ?_
    | refine Loc.fnv L 1 rfl rfl ?_
    | (refine Loc.st L 1 rfl rfl (by first | rfl | exact isCell_IV _ | exact isCell_FV _) ?_; intro _H L)
    | refine Loc.int L 2 rfl rfl ?_
    | refine Loc.bool L 2 rfl rfl ?_
    | refine Loc.str L 2 rfl rfl ?_
    | refine Loc.ptr L 2 rfl rfl ?_
    | refine Loc.sl L 2 rfl rfl ?_
    | refine Loc.map L 2 rfl rfl ?_
    | refine Loc.ifmk L 2 rfl rfl ?_
    | refine Loc.ifnil L 2 rfl rfl ?_
    | refine Loc.ifv L 2 rfl rfl ?_
    | refine Loc.fnmk L 2 rfl rfl ?_
    | refine Loc.fnv L 2 rfl rfl ?_
    | (refine Loc.st L 2 rfl rfl (by first | rfl | exact isCell_IV _ | exact isCell_FV _) ?_; intro _H L)
    | refine Loc.int L 3 rfl rfl ?_
    | refine Loc.bool L 3 rfl rfl ?_
    | refine Loc.str L 3 rfl rfl ?_
    | refine Loc.ptr L 3 rfl rfl ?_
    | refine Loc.sl L 3 rfl rfl ?_
    | refine Loc.map L 3 rfl rfl ?_
    | refine Loc.ifmk L 3 rfl rfl ?_
    | refine Loc.ifnil L 3 rfl rfl ?_
    | refine Loc.ifv L 3 rfl rfl ?_
    | refine Loc.fnmk L 3 rfl rfl ?_
    | refine Loc.fnv L 3 rfl rfl ?_
    | (refine Loc.st L 3 rfl rfl (by first | rfl | exact isCell_IV _ | exact isCell_FV _) ?_; intro _H L)
    | refine tInt_i ?_
    | refine tBool_i ?_
    | refine tStr_i ?_
    | refine tPtr_i ?_
    | refine tSl_i ?_
    | refine tMap_i ?_
    | refine tIf_nil ?_
    | refine tIf_mk ?_
    | refine tIf_i ?_
    | refine tFn_mk ?_
    | refine tFn_i ?_
    | refine tAgg_i ?_
    | refine tTup_i ?_
    | refine tCons_i ?_
    | refine tNil_i ?_
    | refine andD_i (by assumption) ?_
    | refine nilD_i ?_)
    refine ⟨?_, L.ext⟩
    by_cases h18 : n = 18
    · rw [hx3 h18]
    · have : (n == 18) = false := by simpa using h18
      simp [this]
  rcases hn with rfl | rfl
  · refine iteB_i (fun h => by simp at h) (fun _ => hL1)
  · refine iteB_i (fun _ => iteB_i (fun h => by simp at h) (fun _ => hL1)) (fun _ => hL1)
end Go.Proofs.Ytpankppliidaoaa
