/- A plain reading of Go functions, proved to be what they do; no condition. -/
import Derived.Test.YtobolifgehagfaaGreatDenL
set_option linter.unusedVariables false
set_option linter.unusedSimpArgs false
/-! Ranges over maps: the map and its iterator, with what is still to come. -/
namespace Go.Den
open Go
/-- What a map has that the iterator has not had. -/
def unseen (es : Array MapEntry) (seen : Array Nat) : List MapEntry := es.toList.filter fun e => !seen.contains e.born
/-- The entries say the list. -/
structure MpF {κ ν : Type} (fk : κ → Value) (fv : ν → Value) (es : Array MapEntry) (clk : Nat) (m : List (κ × ν)) : Prop where
  eq : es.toList.map (fun e => (e.key, e.val)) = m.map (fun x => (fk x.1, fv x.2))
  nd : (es.toList.map (·.born)).Nodup
  lt : ∀ e ∈ es.toList, e.born < clk
section
variable {P : Program} {H : Heap} {κ ν : Type} {fk : κ → Value} {fv : ν → Value} {r ir : Nat} {m : List (κ × ν)} {l : List HP} {Q : List PanicEntry → Heap → Prop} {K : Value → Heap → Prop} {t : TypeId} {z : Value} {es : Array MapEntry} {clk : Nat} {seen : Array Nat}
theorem Sat.mpOpen (S : Sat H (mp fk fv r m :: l)) : ∃ es clk, MpF fk fv es clk m ∧ Sat H (pt r (.map es clk) :: l) := by
  obtain ⟨h', ⟨es, clk, hb, he, hn, hlt⟩, hs, x⟩ := S.out
  exact ⟨es, clk, ⟨he, hn, hlt⟩, ⟨⟨h', hb, hs, x⟩⟩⟩
theorem Ent.mpClose (F : MpF fk fv es clk m) : Ent (pt r (.map es clk) :: l) (mp fk fv r m :: l) := Ent.first fun k hk => ⟨es, clk, hk, F.eq, F.nd, F.lt⟩
theorem rangeNew {kt et : TypeId} (hu : P.underlying t = some (.map kt et)) (S : Sat H (pt r (.map es clk) :: l)) (h : ∀ ir H1, Sat H1 (pt ir (.mapIter (some r) clk #[] clk) :: pt r (.map es clk) :: l) → K (.pointer (some ⟨ir, 0, none⟩)) H1) : valD P (Instr.range t (.map (some r))) H Q K := by
  have hb' : H[r]? = some (.map es clk) := S.at_ (List.mem_cons_self ..)
  refine ⟨?_⟩
  unfold Instr.range
  rw [SemH_bind]
  refine semH_of_pure (pureV_underlying hu) ?_
  dsimp only
  rw [SemH_bind, SemH_getObj]
  refine ⟨_, hb', rfl, ?_⟩
  dsimp only
  show K (.pointer (some ⟨H.size, 0, none⟩)) (H.push (.mapIter (some r) clk #[] clk))
  exact h _ _ (S.push _)
theorem unseen_push (nd : (es.toList.map (·.born)).Nodup) {a b : List MapEntry} {e : MapEntry} (h : unseen es seen = a ++ e :: b) : unseen es (seen.push e.born) = a ++ b := by
  have e1 : unseen es (seen.push e.born) = (unseen es seen).filter fun x => !(x.born == e.born) := by
    unfold unseen
    rw [List.filter_filter]
    refine List.filter_congr fun x _ => ?_
    simp [Array.contains_push]
    exact Bool.and_comm _ _
  have hs : (unseen es seen).Sublist es.toList := List.filter_sublist
  have nd2 : ((unseen es seen).map (·.born)).Nodup := nd.sublist (hs.map _)
  rw [h] at nd2
  simp only [List.map_append, List.map_cons, List.nodup_append, List.nodup_cons, List.mem_map, List.mem_cons] at nd2
  obtain ⟨n1, ⟨n2, n3⟩, n4⟩ := nd2
  rw [e1, h, List.filter_append, List.filter_cons]
  have ha : a.filter (fun x => !(x.born == e.born)) = a := List.filter_eq_self.2 fun x hx => by
    have := n4 x.born ⟨x, hx, rfl⟩ e.born (.inl rfl)
    simp [this]
  have hb : b.filter (fun x => !(x.born == e.born)) = b := List.filter_eq_self.2 fun x hx => by
    have : x.born ≠ e.born := fun h => n2 ⟨x, hx, h⟩
    simp [this]
  rw [ha, hb]
  simp
theorem rangeNext {ty : TypeId} (F : MpF fk fv es clk m) (S : Sat H (pt ir (.mapIter (some r) clk seen clk) :: pt r (.map es clk) :: l)) (h1 : unseen es seen = [] → K (.tuple #[.bool false]) H)
    (h2 : ∀ a e b, unseen es seen = a ++ e :: b → unseen es (seen.push e.born) = a ++ b → ∀ H1, Sat H1 (pt ir (.mapIter (some r) clk (seen.push e.born) clk) :: pt r (.map es clk) :: l) → K (.tuple #[.bool true, e.key, e.val]) H1) :
    valD P (Instr.next (.pointer (some ⟨ir, 0, none⟩)) false ty) H Q K := by
  have hi : H[ir]? = some (.mapIter (some r) clk seen clk) := S.at_ (List.mem_cons_self ..)
  have hb : H[r]? = some (.map es clk) := S.at_ (List.mem_cons_of_mem _ (List.mem_cons_self ..))
  have upd : ∀ o, Upd ir o H (H.setIfInBounds ir o) := fun o => ⟨by simp, fun b _ hne => by rw [Array.getElem?_setIfInBounds_ne (Ne.symm hne)], by rw [Array.getElem?_setIfInBounds]; simp [block_lt hi]⟩
  have hold : ∀ A : Array MapEntry, (∀ e ∈ A.toList, e ∈ es.toList) → A.filter (fun e => decide (e.born < clk)) = A := by
    intro A hA
    refine Array.filter_eq_self.2 fun e he => ?_
    exact decide_eq_true (F.lt e (hA e (by simpa using he)))
  have hnew : ∀ A : Array MapEntry, (∀ e ∈ A.toList, e ∈ es.toList) → A.filter (fun e => decide (e.born ≥ clk)) = #[] := by
    intro A hA
    refine Array.filter_eq_empty_iff.2 fun e he => ?_
    have := F.lt e (hA e (by simpa using he))
    simp; omega
  have hf : (es.filter fun e => !seen.contains e.born).toList = unseen es seen := by unfold unseen; simp
  have hsub : ∀ e ∈ (es.filter fun e => !seen.contains e.born).toList, e ∈ es.toList := by
    intro e he; rw [hf] at he; exact (List.mem_filter.1 he).1
  refine ⟨?_⟩
  unfold Instr.next
  show SemH P (getObj ir >>= _) _ _ _
  rw [SemH_bind, SemH_getObj]
  refine ⟨_, hi, rfl, ?_⟩
  dsimp only
  rw [SemH_bind, SemH_getObj]
  refine ⟨_, hb, rfl, ?_⟩
  dsimp only
  rw [if_neg (by
    intro h
    simp only [Bool.and_eq_true, Bool.not_eq_true', Array.isEmpty_eq_false_iff] at h
    obtain ⟨⟨_, h3⟩, h4⟩ := h
    obtain ⟨e, he⟩ := Array.exists_mem_of_ne_empty es h3
    have h5 := Array.all_eq_true'.1 h4 e he
    have := F.lt e (by simpa using he)
    simp at h5; omega)]
  rw [hold _ hsub, hnew _ hsub, SemH_bind]
  intro u
  generalize hA : (es.filter fun e => !seen.contains e.born) = A at hf hsub
  simp only [Array.append_empty]
  generalize hC : (if A.isEmpty = true then #[none] else #[]) ++ Array.map some A = C
  generalize hu : (if (Question.mapNext C.size).forced = true then 0 else (Question.mapNext C.size).cut u) = i
  by_cases hE : A = #[]
  · subst hE
    have hC2 : C = #[none] := by rw [← hC]; simp
    subst hC2
    have hi0 : i = 0 := by rw [← hu]; rfl
    subst hi0
    exact h1 (by rw [← hf])
  · have hemp : A.isEmpty = false := by simpa using hE
    have hpos : 0 < A.size := Array.size_pos_iff.2 hE
    have hC2 : C = A.map some := by rw [← hC]; simp [hemp]
    subst hC2
    have hi2 : i < A.size := by
      rw [← hu]
      simp only [Array.size_map]
      show (if (decide (A.size ≤ 1)) = true then 0 else u % A.size) < A.size
      split
      · exact hpos
      · exact Nat.mod_lt _ hpos
    have he : (A.map some)[i]? = some (some A[i]) := by simp [hi2]
    show SemH P (match (A.map some)[i]? with
        | some (some e) => do
          setObj ir (Obj.mapIter (some r) clk (seen.push e.born) clk)
          pure (Value.tuple #[Value.bool true, e.key, e.val])
        | some none => pure (Value.tuple #[Value.bool false])
        | none => stuck "Next: no such candidate") H _ _
    rw [he]
    refine ⟨_, hi, rfl, ?_⟩
    have hl : unseen es seen = A.toList.take i ++ A[i] :: A.toList.drop (i + 1) := by
      rw [← hf]
      have h9 : A.toList.drop i = A[i] :: A.toList.drop (i + 1) := by
        rw [List.drop_eq_getElem_cons (by simpa using hi2)]; rfl
      rw [← h9, List.take_append_drop]
    exact h2 _ _ _ hl (unseen_push F.nd hl) _ (S.upd (upd _))
theorem rangeEntry {e : MapEntry} (F : MpF fk fv es clk m) (S : Sat H (pt ir (.mapIter (some r) clk (seen.push e.born) clk) :: pt r (.map es clk) :: l)) (he : e ∈ es.toList) (h : K (.tuple #[e.key, e.val]) H) :
    valD P (Instr.entry (.pointer (some ⟨ir, 0, none⟩))) H Q K := by
  have hi : H[ir]? = some (.mapIter (some r) clk (seen.push e.born) clk) := S.at_ (List.mem_cons_self ..)
  have hb : H[r]? = some (.map es clk) := S.at_ (List.mem_cons_of_mem _ (List.mem_cons_self ..))
  refine ⟨?_⟩
  unfold Instr.entry
  show SemH P (getObj ir >>= _) _ _ _
  rw [SemH_bind, SemH_getObj]
  refine ⟨_, hi, rfl, ?_⟩
  dsimp only
  rw [Array.back?_push]
  dsimp only
  rw [SemH_bind, SemH_getObj]
  refine ⟨_, hb, rfl, ?_⟩
  dsimp only
  rw [if_neg (by simp)]
  have hf : es.find? (fun x => x.born == e.born) = some e := by
    rw [← Array.find?_toList]
    have nd := F.nd
    generalize es.toList = L at he nd
    induction L with
    | nil => simp at he
    | cons a L ih =>
      simp only [List.map_cons, List.nodup_cons, List.mem_map, not_exists, not_and] at nd
      rw [List.find?_cons]
      rcases List.mem_cons.1 he with rfl | he
      · simp
      · have : a.born ≠ e.born := fun h => nd.1 e he h.symm
        have e1 : (a.born == e.born) = false := by simp [this]
        rw [e1]
        exact ih he nd.2
  rw [hf]
  exact h
end
end Go.Den
