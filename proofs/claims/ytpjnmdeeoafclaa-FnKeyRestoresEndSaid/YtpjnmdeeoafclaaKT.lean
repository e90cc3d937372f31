/- What functions of this seat do, each proved by a walk; no condition. -/
import Derived.Test.YtpjnmdeeoafclaaDenX
import Derived.Test.YtpjnmdeeoafclaaProg
import Derived.Tactics
import Derived.Tactics2
import Derived.Defers
import Derived.Recover
import Derived.Laws.Pointers
set_option linter.unusedVariables false
namespace Go.Proofs.Ytpjnmdeeoafclaa
open Go Go.Den Go.Proofs
theorem catch_panicking (p : Addr) (x : Bool) (u : TypeId) (pv : Value) (older : List PanicEntry) (w : World) (hc : w.cell? p = some (.bool x)) (hz : w.frozen? p = false) :
    CallsD Try.prog 35 #[.pointer (some p)] (.panicking ({ v := .iface u pv, recovered := false } :: older)) w fun e u' w' =>
      e = .returned (.tuple #[]) ∧ u' = .panicking ({ v := .iface u pv, recovered := true } :: older) ∧ w' = w.setCell p (.bool false) := by
  refine callsD_of_wpS Try.func35 rfl fun c₀ cs hu => ?_
  apply wpS_seq
  apply wpS_region
  simp [wpOpsS, go_sem, recoverD, hu, Try.ntmps35, Exit.thenS]
  refine wpS_cond (t := true) (by simp [Act.eval, Array.replicate]) ?_
  simp only [if_true]
  apply wpS_region
  simp [wpOpsS, go_sem, hc, hz, bodyPostS, results, Try.results35]
theorem catch_idle (p : Addr) (w : World) :
    CallsD Try.prog 35 #[.pointer (some p)] .returning w fun e u' w' => e = .returned (.tuple #[]) ∧ u' = .returning ∧ w' = w := by
  refine callsD_of_wpS Try.func35 rfl fun c₀ cs hu => ?_
  apply wpS_seq
  apply wpS_region
  simp [wpOpsS, go_sem, recoverD, hu, Try.ntmps35, Exit.thenS]
  refine wpS_cond (t := false) (by simp [Act.eval, Array.replicate]) ?_
  simp only [Bool.false_eq_true, if_false]
  refine wpS_of_wp (wp_skip ?_)
  cases c₀
  simp_all [bodyPostS, results, Try.results35]
theorem setCell_heap (w : World) (a : Addr) (v : Value) : (w.setCell a v).heap = hset w.heap a v := rfl
theorem fine_ok (g : FuncId) (first cap : List Value) (H : Heap) (R : Ending → Heap → Prop)
    (h : ∀ r H1, r = H.size → H1 = H.push (.cells ⟨[.bool false]⟩ 4) → CallsH Try.prog g ⟨first ++ cap⟩ H1 (fun e H2 => match e with
      | .returned _ => H2[r]? = some (.cells ⟨[.bool false]⟩ 4) ∧ ∀ H3, Upd r (.cells ⟨[.bool true]⟩ 4) H2 H3 → R (.returned (.bool true)) H3
      | .panicked ch => ∃ u pv, ch = [{ v := .iface u pv, recovered := false }] ∧ H2[r]? = some (.cells ⟨[.bool false]⟩ 4) ∧ ∀ H3, Upd r (.cells ⟨[.bool false]⟩ 4) H2 H3 → R (.returned (.bool false)) H3
      | .outgrown => False)) (hg : fnOk Try.prog g = true) : CallsH Try.prog 20 ⟨[.func (.func g) ⟨first⟩ ⟨cap⟩]⟩ H R := by
  intro w hw
  have hmf : ∀ (fn : Fn) (first cap : Array Value) (w : World), (Instr.makeFunc fn first cap).run Try.prog w = .ok (.func fn first cap) w := fun _ _ _ _ => rfl
  have hcf : ∀ (w : World), (callFunc g (⟨first ++ cap⟩ : Array Value)).run Try.prog w = .ok (.enter g ⟨first ++ cap⟩) w := by
    intro w
    unfold fnOk at hg
    split at hg
    · rename_i fn hfn
      simp only [Bool.and_eq_true, Bool.not_eq_true'] at hg
      obtain ⟨hb, hn⟩ := hg
      split at hb
      · rename_i c hc
        show (match Try.prog.funcs[g]? with | none => _ | some fn => _ : Sem Next).run Try.prog w = _
        rw [hfn]
        simp [hn, hc]
      · cases hb
    · cases hg
  have hinv : ∀ (w : World), (invoke (.fn (.func g) ⟨cap⟩) ⟨first⟩).run Try.prog w = .ok (.enter g ⟨first ++ cap⟩) w := by
    intro w
    show (callFunc g (⟨first⟩ ++ ⟨cap⟩)).run Try.prog w = _
    have e : ((⟨first⟩ : Array Value) ++ ⟨cap⟩) = ⟨first ++ cap⟩ := by apply Array.ext'; simp
    rw [e]; exact hcf w
  go_enter_defers Try.func20, Try.ntmps20
  go_wp2
  have hal : (w.alloc (.cells #[.bool false] 4)).heap = H.push (.cells ⟨[.bool false]⟩ 4) := by rw [← hw]; rfl
  refine (h H.size _ rfl rfl (w.alloc (.cells #[.bool false] 4)) hal).mono ?_
  have hsame : Same w (w.alloc (.cells #[.bool false] 4)) := ⟨rfl, rfl, rfl⟩
  clear h
  rintro e w1 ⟨hs, he⟩
  have hs1 := hsame.trans hs
  clear hsame hs hal
  have key : ∀ (b : Bool) (w2 : World), w2.heap[H.size]? = some (.cells ⟨[.bool b]⟩ 4) → w2.cell? ⟨H.size, 0, none⟩ = some (.bool b) ∧ w2.frozen? ⟨H.size, 0, none⟩ = false := by
    intro b w2 h2
    constructor
    · show hcell w2.heap _ = _
      exact hcell_of h2 rfl
    · show hfrozen w2.heap _ = _
      unfold hfrozen
      rw [h2]
      rfl
  cases e with
  | outgrown => exact he.elim
  | panicked ch =>
    obtain ⟨u, pv, rfl, hb, hR⟩ := he
    obtain ⟨hc, hz⟩ := key _ _ hb
    dsimp only
    show Leaves _ _ _ _ _ _ _
    refine leaves_cons (f := 35) (args := #[.pointer (some ⟨H.size, 0, none⟩)]) (by simp) (by simp [go_sem]) ?_
    refine (catch_panicking ⟨H.size, 0, none⟩ false _ _ [] _ hc hz).mono ?_
    rintro e u' w2 ⟨rfl, rfl, rfl⟩
    have u := Upd.hset (j := 0) (v := .bool false) hb
    have hr := hR _ u
    have hb2 : (w1.setCell ⟨H.size, 0, none⟩ (.bool false)).heap[H.size]? = some (.cells ⟨[.bool false]⟩ 4) := u.at_
    obtain ⟨hc2, hz2⟩ := key _ _ hb2
    have hs2 : Same w (w1.setCell ⟨H.size, 0, none⟩ (.bool false)) := hs1.trans ⟨rfl, rfl, rfl⟩
    have hr2 : R (.returned (.bool false)) (w1.setCell ⟨H.size, 0, none⟩ (.bool false)).heap := hr
    clear hb hb2 hr u hR hc hz hmf hcf hinv key
    generalize w1.setCell ⟨H.size, 0, none⟩ (.bool false) = w3 at *
    simp [Leaves, settle, results, Try.results20, go_sem, hc2]
    exact ⟨hs2, hr2⟩
  | returned v =>
    obtain ⟨hb, hR⟩ := he
    obtain ⟨hc, hz⟩ := key _ _ hb
    have u := Upd.hset (j := 0) (v := .bool true) hb
    have hr := hR _ u
    have hb2 : (w1.setCell ⟨H.size, 0, none⟩ (.bool true)).heap[H.size]? = some (.cells ⟨[.bool true]⟩ 4) := u.at_
    obtain ⟨hc2, hz2⟩ := key _ _ hb2
    have hs2 : Same w (w1.setCell ⟨H.size, 0, none⟩ (.bool true)) := hs1.trans ⟨rfl, rfl, rfl⟩
    have hr2 : R (.returned (.bool true)) (w1.setCell ⟨H.size, 0, none⟩ (.bool true)).heap := hr
    clear hb2 hr u hR hb key
    go_wp2
    refine leaves_cons (f := 35) (args := #[.pointer (some ⟨H.size, 0, none⟩)]) (by simp) (by simp [go_sem]) ?_
    refine (catch_idle ⟨H.size, 0, none⟩ _).mono ?_
    rintro e u' w2 ⟨rfl, rfl, rfl⟩
    generalize w1.setCell ⟨H.size, 0, none⟩ (.bool true) = w3 at *
    simp [Leaves, settle, results, Try.results20, go_sem, hc2]
    exact ⟨hs2, hr2⟩
end Go.Proofs.Ytpjnmdeeoafclaa
