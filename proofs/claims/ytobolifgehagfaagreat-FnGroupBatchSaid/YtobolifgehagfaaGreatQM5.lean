/- What functions of this seat do, each proved by a walk; no condition. -/
import Derived.Test.YtobolifgehagfaaGreatRC
import Derived.Test.YtobolifgehagfaaGreatDenZC
import Derived.Test.YtobolifgehagfaaGreatQM6
import Derived.Test.YtobolifgehagfaaGreatQM4
set_option linter.unusedVariables false
set_option linter.unusedSimpArgs false
set_option linter.unnecessarySimpa false
namespace Go.Proofs.YtobolifgehagfaaGreat
open Go Go.Den Go.Proofs
structure BT where
  evs : List PE
  revs : Int
  more : Int
def lastM (l : List PE) : Int := match l.getLast? with | some p => p.2.m | none => 0
def BT.add (b : BT) (x : PE) : BT :=
  if b.revs > 1000 then b
  else if b.evs.length = 0 then ⟨b.evs ++ [x], 1, b.more⟩
  else if x.2.m > lastM b.evs then (if b.revs + 1 > 1000 then ⟨b.evs, b.revs + 1, x.2.m⟩ else ⟨b.evs ++ [x], b.revs + 1, b.more⟩)
  else ⟨b.evs ++ [x], b.revs, b.more⟩
abbrev btO (b : BT) (q : Option Addr) (c : Nat) : Obj := .cells ⟨[.slice q b.evs.length c, .int .i64 b.revs, .int .i64 b.more]⟩ 80
section
variable {H H0 : Heap} {l : List HP}
theorem apEv {K : Option Addr → Nat → Nat → Heap → Prop} {q : Option Addr} {c r : Nat} {ps : List PE} {x : PE} {m : List HP} (hb : ps.length ≤ 2147483647) (S : Sat H (sl peC 77 1 q ps.length c ps :: pt r (.cells ⟨[pA x.1]⟩ 77) :: m))
    (k : ∀ q' c' H1, Sat H1 (sl peC 77 1 q' (ps ++ [x]).length c' (ps ++ [x]) :: m) → K q' (ps ++ [x]).length c' H1) : apD H 1 8 [.pointer none] 77 q ps.length c (some ⟨r, 0, none⟩) 1 K := by
  refine S.slApp (ys := [x]) (d := 1) ?_ rfl (by simp) (by simp [isCell]) rfl (by decide) (by omega) fun q' c' H1 S1 => ?_
  · simp only [List.flatMap_cons, List.flatMap_nil, List.append_nil]
    exact cellsAt_one (S.at_ (List.mem_cons_of_mem _ (List.mem_cons_self ..)))
  · have e : ps.length + 1 = (ps ++ [x]).length := by simp
    rw [e] at S1 ⊢
    exact k q' c' H1 (S1.to (Ent.cons (Ent.drop Ent.refl)))
theorem add_ok {g : PH} {b : BT} {x : PE} {eb c : Nat} {q : Option Addr} (hx : EvG g x.1 x.2) (hb : b.evs.length ≤ 2147483647) (hr : 0 ≤ b.revs ∧ b.revs ≤ 2147483647) (hall : ∀ p ∈ b.evs, EvG g p.1 p.2)
    (S : Sat H (pt eb (btO b q c) :: sl peC 77 1 q b.evs.length c b.evs :: has g :: l)) :
    CallsH Tryz.prog 33 ⟨[pA eb, pA x.1]⟩ H (fun e H1 => e = .returned (.tuple ⟨[]⟩) ∧ ∃ q' c', Sat H1 (pt eb (btO (b.add x) q' c') :: sl peC 77 1 q' (b.add x).evs.length c' (b.add x).evs :: has g :: l)) := by
  have last : ∀ (b' : BT) (H : Heap), b'.evs = b.evs → Sat H (pt eb (btO b' q c) :: sl peC 77 1 q b.evs.length c b.evs :: has g :: l) → F33.L0 (some (aA eb)) (some (aA x.1)) H (fun e H1 => e = .returned (.tuple ⟨[]⟩) ∧ ∃ q' c', Sat H1 (pt eb (btO ⟨b.evs ++ [x], b'.revs, b'.more⟩ q' c') :: sl peC 77 1 q' (b.evs ++ [x]).length c' (b.evs ++ [x]) :: has g :: l)) := by
    intro b' H he S
    refine F33.L0_step ?_
    unfold F33.L0n
    obtain ⟨ev, rv, mo⟩ := b'
    obtain rfl : ev = b.evs := he
    (repeat (first | (refine Step.go ?_; intros) | refine iteB_t (by decide) ?_ | refine iteB_f (by decide) ?_ | (refine Duo.mk (by first | omega | exact rfl | decide) ?_; intros)))
    rename_i r1 H1 S1
    refine apEv (x := x) (m := pt eb (btO ⟨b.evs, rv, mo⟩ q c) :: has g :: l) hb (S1.to ?_) fun q' c' H2 S2 => ?_
    · iterate 3 (apply Ent.pick; (focus (repeat (first | exact Sel.here | apply Sel.there))))
      exact Ent.refl
    clear S1 S
    (repeat (first | (refine Step.go ?_; intros) | refine iteB_t (by decide) ?_ | refine iteB_f (by decide) ?_ | (refine Duo.mk (by first | omega | exact rfl | decide) ?_; intros)))
    have S9 := ‹Sat _ _›
    refine ⟨rfl, q', c', S9.to ?_⟩
    iterate 2 (apply Ent.pick; (focus (repeat (first | exact Sel.here | apply Sel.there))))
    exact Ent.refl
  refine F33.calls ?_
  unfold F33.go
  (repeat (first | (refine Step.go ?_; intros) | refine iteB_t (by decide) ?_ | refine iteB_f (by decide) ?_ | (refine Duo.mk (by first | omega | exact rfl | decide) ?_; intros)))
  refine iteB_i (fun h => ?_) (fun h => ?_)
  · have h := of_decide_eq_true h
    refine ⟨rfl, q, c, ?_⟩
    have : b.add x = b := if_pos h
    rw [this]; exact S
  have h := of_decide_eq_false h
  (repeat (first | (refine Step.go ?_; intros) | refine iteB_t (by decide) ?_ | refine iteB_f (by decide) ?_ | (refine Duo.mk (by first | omega | exact rfl | decide) ?_; intros)))
  refine iteB_i (fun h0 => ?_) (fun h0 => ?_)
  · have h0 : b.evs.length = 0 := by simpa using h0
    have e : b.add x = ⟨b.evs ++ [x], 1, b.more⟩ := by unfold BT.add; rw [if_neg h, if_pos h0]
    rw [e]
    (repeat (first | (refine Step.go ?_; intros) | refine iteB_t (by decide) ?_ | refine iteB_f (by decide) ?_ | (refine Duo.mk (by first | omega | exact rfl | decide) ?_; intros)))
    have S9 := ‹Sat _ (pt _ (.cells ⟨[pA x.1]⟩ _) :: _)›
    refine apEv (x := x) (m := pt eb (.cells ⟨[.slice q b.evs.length c, .int .i64 1, .int .i64 b.more]⟩ 80) :: has g :: l) hb (S9.to ?_) fun q' c' H2 S2 => ?_
    · iterate 3 (apply Ent.pick; (focus (repeat (first | exact Sel.here | apply Sel.there))))
      exact Ent.refl
    clear S9 S
    (repeat (first | (refine Step.go ?_; intros) | refine iteB_t (by decide) ?_ | refine iteB_f (by decide) ?_ | (refine Duo.mk (by first | omega | exact rfl | decide) ?_; intros)))
    have S9 := ‹Sat _ _›
    refine ⟨rfl, q', c', S9.to ?_⟩
    iterate 2 (apply Ent.pick; (focus (repeat (first | exact Sel.here | apply Sel.there))))
    exact Ent.refl
  have h0 : ¬ b.evs.length = 0 := by
    intro h1; rw [h1] at h0; cases h0
  obtain ⟨y, hy⟩ : ∃ y, b.evs[b.evs.length - 1]? = some y := get_of (by omega)
  have hl : lastM b.evs = y.2.m := by
    unfold lastM
    rw [List.getLast?_eq_getElem?, hy]
  have hI := HasI.nat hy
  have eI : IntKind.wrap .i64 (((b.evs.length : Nat) : Int) - (1 : Int)) = ((b.evs.length - 1 : Nat) : Int) := by
    rw [wr64 (by omega) (by omega)]; omega
  have hs : PH.sub g (PH.of H) := HasG.sub (l := pt eb (btO b q c) :: sl peC 77 1 q b.evs.length c b.evs :: has g :: l) inferInstance S
  obtain ⟨kv, kb, kc, vb, vc, kr, vr, kf, vf, p1, p2, p3, p4⟩ := (hall y (List.mem_of_getElem? hy)).out
  obtain ⟨kv', kb', kc', vb', vc', kr', vr', kf', vf', p1', p2', p3', p4'⟩ := hx.out
  have B1 : Blc H y.1 _ := ⟨hs _ _ p1⟩
  have B2 : Blc H kv _ := ⟨hs _ _ p2⟩
  have B3 : Blc H x.1 _ := ⟨hs _ _ p1'⟩
  have B4 : Blc H kv' _ := ⟨hs _ _ p2'⟩
  (iterate 4 (refine Step.go ?_; intros))
  rw [eI]
  refine Sat.idx (f := peC) (E := 77) (z := 1) S ⟨by omega, by omega, fun r0 o0 hr0 => ?_⟩
  subst hr0
  (repeat (first | (refine Step.go ?_; intros) | refine iteB_t (by decide) ?_ | refine iteB_f (by decide) ?_ | (refine Duo.mk (by first | omega | exact rfl | decide) ?_; intros)))
  refine iteB_i (fun h1 => ?_) (fun h1 => ?_)
  · have h1 : x.2.m > y.2.m := of_decide_eq_true h1
    (repeat (first | (refine Step.go ?_; intros) | refine iteB_t (by decide) ?_ | refine iteB_f (by decide) ?_ | (refine Duo.mk (by first | omega | exact rfl | decide) ?_; intros)))
    rename_i H2 S2
    rw [wr64 (by omega) (by omega)] at S2 ⊢
    refine iteB_i (fun h2 => ?_) (fun h2 => ?_)
    · have h2 := of_decide_eq_true h2
      have e : b.add x = ⟨b.evs, b.revs + 1, x.2.m⟩ := by unfold BT.add; rw [if_neg h, if_neg h0, hl, if_pos h1, if_pos h2]
      rw [e]
      clear S
      (repeat (first | (refine Step.go ?_; intros) | refine iteB_t (by decide) ?_ | refine iteB_f (by decide) ?_ | (refine Duo.mk (by first | omega | exact rfl | decide) ?_; intros)))
      have S9 := ‹Sat _ _›
      exact ⟨rfl, _, c, S9⟩
    · have h2 := of_decide_eq_false h2
      have e : b.add x = ⟨b.evs ++ [x], b.revs + 1, b.more⟩ := by unfold BT.add; rw [if_neg h, if_neg h0, hl, if_pos h1, if_neg h2]
      rw [e]
      exact last ⟨b.evs, b.revs + 1, b.more⟩ H2 rfl S2
  · have h1 : ¬ x.2.m > y.2.m := of_decide_eq_false h1
    have e : b.add x = ⟨b.evs ++ [x], b.revs, b.more⟩ := by unfold BT.add; rw [if_neg h, if_neg h0, hl, if_neg h1]
    rw [e]
    exact last b H rfl S
end
end Go.Proofs.YtobolifgehagfaaGreat

set_option linter.unusedVariables false
set_option linter.unusedSimpArgs false
set_option linter.unnecessarySimpa false
namespace Go.Proofs.YtobolifgehagfaaGreat
open Go Go.Den Go.Proofs
def runB (ps : List PE) : BT := ps.foldl BT.add ⟨[], 0, 0⟩
theorem add_mem {b : BT} {x p : PE} (h : p ∈ (b.add x).evs) : p = x ∨ p ∈ b.evs := by
  unfold BT.add at h
  split at h
  · exact .inr h
  · split at h
    · simp at h; exact h.symm
    · split at h
      · split at h
        · exact .inr h
        · simp at h; exact h.symm
      · simp at h; exact h.symm
theorem add_len {b : BT} {x : PE} : (b.add x).evs.length ≤ b.evs.length + 1 := by
  unfold BT.add
  repeat' split
  all_goals simp
theorem add_revs {b : BT} {x : PE} (h : 0 ≤ b.revs ∧ b.revs ≤ 1001) : 0 ≤ (b.add x).revs ∧ (b.add x).revs ≤ 1001 := by
  unfold BT.add
  repeat' split
  all_goals (try dsimp only); omega
section
variable {H H0 : Heap} {l : List HP}
theorem kvOf_ok {g : PH} {x : EV} {kv kb kc vb vc : Nat} {kr vr : List Value} {kf vf : Nat × Nat} (p2 : H[kv]? = some (.cells ⟨[.slice (some (aA kb)) x.key.size kc, .int .i64 x.c, .int .i64 x.m, .int .i64 x.v, .slice (some (aA vb)) x.val.size vc, .int .i64 x.l]⟩ 85))
    (p3 : H[kb]? = some (.cells ⟨bytesOf x.key.data.toList ++ kr⟩ 5 kf)) (p4 : H[vb]? = some (.cells ⟨bytesOf x.val.data.toList ++ vr⟩ 5 vf)) :
    CallsH Tryz.prog 50 ⟨[pA kv]⟩ H (Gives (.agg ⟨[.string x.key, .string x.val, .int .i64 x.c, .int .i64 x.m, .int .i64 x.v, .int .i64 x.l]⟩) H) := by
  have S := Sat.start H
  refine F50.calls ?_
  unfold F50.go
  refine Step.go ?_
  intro r H1 S1
  have E1 : ExtH H H1 := Sat.grown
  have B1 : Blc H1 kv _ := ⟨E1.block_some p2⟩
  clear S
  (repeat (first | (refine Step.go ?_; intros) | refine iteB_t (by decide) ?_ | refine iteB_f (by decide) ?_ | (refine Duo.mk (by first | omega | exact rfl | decide) ?_; intros)))
  refine ⟨x.key.data.toList, rfl, cellsAt_block (E1.block_some p3), ?_⟩
  (repeat (first | (refine Step.go ?_; intros) | refine iteB_t (by decide) ?_ | refine iteB_f (by decide) ?_ | (refine Duo.mk (by first | omega | exact rfl | decide) ?_; intros)))
  refine ⟨x.val.data.toList, rfl, cellsAt_block (E1.block_some p4), ?_⟩
  (repeat (first | (refine Step.go ?_; intros) | refine iteB_t (by decide) ?_ | refine iteB_f (by decide) ?_ | (refine Duo.mk (by first | omega | exact rfl | decide) ?_; intros)))
  exact ⟨rfl, Sat.grown⟩
theorem event_ok {g : PH} {r : Nat} {x : EV} (h : EvG g r x) (hs : PH.sub g (PH.of H)) : CallsH Tryz.prog 32 ⟨[pA r]⟩ H (Gives (.agg ⟨x.cells⟩) H) := by
  obtain ⟨kv, kb, kc, vb, vc, kr, vr, kf, vf, p1, p2, p3, p4⟩ := h.out
  have S := Sat.start H
  refine F32.calls ?_
  unfold F32.go
  refine Step.go ?_
  intro r0 H1 S1
  have E1 : ExtH H H1 := Sat.grown
  clear S
  have B1 : Blc H1 r _ := ⟨E1.block_some (hs _ _ p1)⟩
  (repeat (first | (refine Step.go ?_; intros) | refine iteB_t (by decide) ?_ | refine iteB_f (by decide) ?_ | (refine Duo.mk (by first | omega | exact rfl | decide) ?_; intros)))
  refine gives_i S1 (kvOf_ok (g := g) (E1.block_some (hs _ _ p2)) (E1.block_some (hs _ _ p3)) (E1.block_some (hs _ _ p4))) fun H2 E2 S2 => ?_
  clear S1
  (repeat (first | (refine Step.go ?_; intros) | refine iteB_t (by decide) ?_ | refine iteB_f (by decide) ?_ | (refine Duo.mk (by first | omega | exact rfl | decide) ?_; intros)))
  have e : ((if x.gone = true then (1 : Int) else 0) == 1) = x.gone := by cases x.gone <;> rfl
  refine ⟨?_, Sat.grown⟩
  rw [e]
abbrev tdV (id : Int) (q : Option Addr) (n c : Nat) (rv mo : Int) : Value := .agg ⟨[.int .i64 id, .slice q n c, .int .i64 rv, .int .i64 mo]⟩
abbrev tdC (id : Int) (q : Option Addr) (n c : Nat) (rv mo : Int) : List Value := [.int .i64 id, .slice q n c, .int .i64 rv, .int .i64 mo]
end
end Go.Proofs.YtobolifgehagfaaGreat

set_option linter.unusedVariables false
set_option linter.unusedSimpArgs false
set_option linter.unnecessarySimpa false
namespace Go.Proofs.YtobolifgehagfaaGreat
open Go Go.Den Go.Proofs
theorem eu9 : Tryz.prog.underlying 9 = some .string := by kernel_rfl
theorem ea9 : aggT Tryz.prog 9 = false := by kernel_rfl
theorem eu2 : Tryz.prog.underlying 2 = some (.int .i64) := by kernel_rfl
theorem ea2 : aggT Tryz.prog 2 = false := by kernel_rfl
theorem eu4 : Tryz.prog.underlying 4 = some .bool := by kernel_rfl
theorem ea4 : aggT Tryz.prog 4 = false := by kernel_rfl
def fs34 : Array Field := #[{ name := "Key", type := 9, offset := 0, embedded := false, tag := "", pkgPath := "", byteOffset := 0 }, { name := "Value", type := 9, offset := 1, embedded := false, tag := "", pkgPath := "", byteOffset := 16 }, { name := "Create", type := 2, offset := 2, embedded := false, tag := "", pkgPath := "", byteOffset := 32 }, { name := "Mod", type := 2, offset := 3, embedded := false, tag := "", pkgPath := "", byteOffset := 40 }, { name := "Version", type := 2, offset := 4, embedded := false, tag := "", pkgPath := "", byteOffset := 48 }, { name := "Lease", type := 2, offset := 5, embedded := false, tag := "", pkgPath := "", byteOffset := 56 }]
def fs36 : Array Field := #[{ name := "Gone", type := 4, offset := 0, embedded := false, tag := "", pkgPath := "", byteOffset := 0 }, { name := "KV", type := 34, offset := 1, embedded := false, tag := "", pkgPath := "", byteOffset := 8 }]
theorem eu34 : Tryz.prog.underlying 34 = some (.struct fs34) := by kernel_rfl
theorem eqIn34 {a0 b0 : ByteArray} {a1 b1 : ByteArray} {a2 b2 : Int} {a3 b3 : Int} {a4 b4 : Int} {a5 b5 : Int} (w : World) : (Op.equalIn 9999 34 (.agg ⟨[.string a0, .string a1, .int .i64 a2, .int .i64 a3, .int .i64 a4, .int .i64 a5]⟩) (.agg ⟨[.string b0, .string b1, .int .i64 b2, .int .i64 b3, .int .i64 b4, .int .i64 b5]⟩)).run Tryz.prog w = .ok ([a0 == b0, a1 == b1, a2 == b2, a3 == b3, a4 == b4, a5 == b5].all id) w := by
  refine equalIn_struct (fs := fs34) (d := 9998) eu34 (by kernel_rfl) ?_ w
  refine .cons (by decide) (part_leaf eu9 ea9 rfl) (part_leaf eu9 ea9 rfl) (equalIn_string eu9) ?_
  refine .cons (by decide) (part_leaf eu9 ea9 rfl) (part_leaf eu9 ea9 rfl) (equalIn_string eu9) ?_
  refine .cons (by decide) (part_leaf eu2 ea2 rfl) (part_leaf eu2 ea2 rfl) (equalIn_int eu2) ?_
  refine .cons (by decide) (part_leaf eu2 ea2 rfl) (part_leaf eu2 ea2 rfl) (equalIn_int eu2) ?_
  refine .cons (by decide) (part_leaf eu2 ea2 rfl) (part_leaf eu2 ea2 rfl) (equalIn_int eu2) ?_
  refine .cons (by decide) (part_leaf eu2 ea2 rfl) (part_leaf eu2 ea2 rfl) (equalIn_int eu2) .nil
theorem i34 : Tryz.prog.info? 34 = some Tryz.t34 := by kernel_rfl
theorem s34 : Tryz.t34.size = 6 := by kernel_rfl
theorem part34 (x : EV) (w : World) : (part 34 (⟨x.cells⟩ : Array Value) 1).run Tryz.prog w = .ok (.agg ⟨[.string x.key, .string x.val, .int .i64 x.c, .int .i64 x.m, .int .i64 x.v, .int .i64 x.l]⟩) w := by
  rw [part_agg eu34 i34 (by kernel_rfl), s34]
  rfl
theorem eqEv {op : BinOp} {x y : EV} {k : Bool → Prop} (h : k ([x.gone == y.gone, [x.key == y.key, x.val == y.val, x.c == y.c, x.m == y.m, x.v == y.v, x.l == y.l].all id].all id)) : rawB Tryz.prog op 36 (.agg ⟨x.cells⟩) (.agg ⟨y.cells⟩) k := by
  refine rawB_struct (P := Tryz.prog) (fs := fs36) (bs := [x.gone == y.gone, [x.key == y.key, x.val == y.val, x.c == y.c, x.m == y.m, x.v == y.v, x.l == y.l].all id]) (by kernel_rfl) (by kernel_rfl) (by kernel_rfl) ?_ h
  refine .cons (by decide) (part_leaf eu4 ea4 rfl) (part_leaf eu4 ea4 rfl) (equalIn_bool eu4) ?_
  refine .cons (by decide) (part34 x) (part34 y) (fun w => eqIn34 w) .nil
end Go.Proofs.YtobolifgehagfaaGreat

set_option linter.unusedVariables false
set_option linter.unusedSimpArgs false
set_option linter.unnecessarySimpa false
namespace Go.Proofs.YtobolifgehagfaaGreat
open Go Go.Den Go.Proofs
theorem eq_refl_ev (x : EV) : [x.gone == x.gone, [x.key == x.key, x.val == x.val, x.c == x.c, x.m == x.m, x.v == x.v, x.l == x.l].all id].all id = true := by
  have e : ∀ a : ByteArray, (a == a) = true := fun a => by rw [ba_beq]; simp
  simp [e]
theorem RowsAt.pre {α : Type} {f : α → List Value} {z : Nat} {H : Heap} {p : Option Addr} {xs : List α} (h : RowsAt f z H p xs) (k : Nat) : RowsAt f z H p (xs.take k) := by
  rcases h with h | ⟨a, h1, h2⟩
  · subst h; rw [List.take_nil]; exact .inl rfl
  · refine .inr ⟨a, h1, fun i x hi => h2 i x ?_⟩
    rw [List.getElem?_take] at hi
    split at hi
    · exact hi
    · cases hi
section
variable {H H0 : Heap} {l : List HP}
theorem same_ok {xs : List EV} {p q : Option Addr} {n c d : Nat} (hR : RowsAt EV.cells 7 H0 p xs) (hQ : RowsAt EV.cells 7 H0 q xs) (hn : xs.length = n) (hb : n ≤ 1000000) : CallsH Tryz.prog 11 ⟨[.slice p n c, .slice q n d]⟩ H0 (Gives (.bool true) H0) := by
  refine F11.calls ?_
  unfold F11.go
  refine iteB_f (by simp) ?_
  have R0 : RowsC H0 p EV.cells 7 xs := ⟨hR⟩
  have loop : ∀ (k i : Nat), i + k = n → F11.L0 p n c q n d (n : Nat) (i : Nat) H0 (Gives (.bool true) H0) := by
    intro k
    induction k with
    | zero =>
      intro i hk
      refine F11.L0_step ?_
      unfold F11.L0n
      refine iteB_f (by simp; omega) ?_
      exact ⟨rfl, ExtH.refl _⟩
    | succ k ih =>
      intro i hk
      obtain ⟨x, hx⟩ : ∃ x, xs[i]? = some x := get_of (by omega)
      have hI := HasI.nat hx
      refine F11.L0_step ?_
      unfold F11.L0n
      refine iteB_t (by simp; omega) ?_
      refine R0.idx hn ⟨by omega, by omega, ?_⟩
      intro a ha
      subst ha
      have R1 : RowsC H0 q EV.cells 7 xs := ⟨hQ⟩
      refine R1.idx hn ⟨by omega, by omega, ?_⟩
      intro a2 ha2
      subst ha2
      have S := Sat.start H0
      (repeat (first | (refine Step.go ?_; intros) | refine iteB_t (by decide) ?_ | refine iteB_f (by decide) ?_ | (refine Duo.mk (by first | omega | exact rfl | decide) ?_; intros)))
      refine eqEv (x := x) (y := x) ?_
      rw [eq_refl_ev]
      (repeat (first | (refine Step.go ?_; intros) | refine iteB_t (by decide) ?_ | refine iteB_f (by decide) ?_ | (refine Duo.mk (by first | omega | exact rfl | decide) ?_; intros)))
      rw [wr64 (by omega) (by omega), show ((i : Nat) : Int) + 1 = ((i + 1 : Nat) : Int) by omega]
      exact ih (i + 1) (by omega)
  exact loop n 0 (by omega)
end
end Go.Proofs.YtobolifgehagfaaGreat

set_option linter.unusedVariables false
set_option linter.unusedSimpArgs false
set_option linter.unnecessarySimpa false
namespace Go.Proofs.YtobolifgehagfaaGreat
open Go Go.Den Go.Proofs
section
variable {H H0 : Heap} {l : List HP}
theorem live_end (E : ExtH H0 H) : callD Tryz.prog 9 [] H (panK (Gives (.bool true) H0)) fun v H2 => tBool v fun b => Gives (.bool true) H0 (.returned (.bool b)) H2 := by
  refine gives_i (Sat.start H) live_ok fun H2 E2 S2 => ?_
  refine tBool_i ?_
  exact ⟨rfl, E.trans E2⟩
end
end Go.Proofs.YtobolifgehagfaaGreat

set_option linter.unusedVariables false
set_option linter.unusedSimpArgs false
set_option linter.unnecessarySimpa false
namespace Go.Proofs.YtobolifgehagfaaGreat
open Go Go.Den Go.Proofs
section
variable {H H0 : Heap} {l : List HP}
theorem same_num {xs : List Int} {a b : Option Addr} {n ac bc : Nat} (ha : RowsAt intC 1 H a xs) (hb : RowsAt intC 1 H b xs) (hn : xs.length = n) (hl : n ≤ 1000000) : CallsH Tryz.prog 30 ⟨[.slice a n ac, .slice b n bc]⟩ H (Gives (.bool true) H) := by
  have S := Sat.start H
  refine F30.calls ?_
  unfold F30.go
  refine iteB_f (by simp) ?_
  have Ra : RowsC H a intC 1 xs := ⟨ha⟩
  have Rb : RowsC H b intC 1 xs := ⟨hb⟩
  have loop : ∀ (k i : Nat), i + k = n → F30.L0 a n ac b n bc (n : Nat) (i : Nat) H (Gives (.bool true) H) := by
    intro k
    induction k with
    | zero =>
      intro i hi
      refine F30.L0_step ?_
      unfold F30.L0n
      refine iteB_f (decide_eq_false (by omega)) ?_
      exact ⟨rfl, ExtH.refl _⟩
    | succ k ih =>
      intro i hi
      obtain ⟨x, hx⟩ : ∃ x, xs[i]? = some x := get_of (by omega)
      have hI := HasI.nat hx
      refine F30.L0_step ?_
      unfold F30.L0n
      refine iteB_t (decide_eq_true (by omega)) ?_
      refine Ra.idx hn ⟨by omega, by omega, ?_⟩
      intro a1 h1
      subst h1
      refine Rb.idx hn ⟨by omega, by omega, ?_⟩
      intro b1 h2
      subst h2
      (repeat (first | (refine Step.go ?_; intros) | refine iteB_t (by decide) ?_ | refine iteB_f (by decide) ?_ | (refine Duo.mk (by first | omega | exact rfl | decide) ?_; intros)))
      refine iteB_f (by simp) ?_
      rw [wr64 (by omega) (by omega), show ((i : Nat) : Int) + 1 = ((i + 1 : Nat) : Int) by omega]
      exact ih (i + 1) (by omega)
  exact loop n 0 (by omega)
end
end Go.Proofs.YtobolifgehagfaaGreat

set_option linter.unusedVariables false
set_option linter.unusedSimpArgs false
set_option linter.unnecessarySimpa false
namespace Go.Proofs.YtobolifgehagfaaGreat
open Go Go.Den Go.Proofs
section
variable {H H0 : Heap} {l : List HP} {xs : List Wa} {k : ByteArray} {p : Option Addr} {n c : Nat}
abbrev wnO (b : Bool) (i : Int) (q : Option Addr) (qn qc : Nat) (t : Option Addr) (tn tc : Nat) : Obj := .cells ⟨[.bool b, .int .i64 i, .slice q qn qc, .slice t tn tc]⟩ 55
theorem cr_nil : CrI [] [] := ⟨List.Perm.nil, List.Pairwise.nil⟩
end
end Go.Proofs.YtobolifgehagfaaGreat
