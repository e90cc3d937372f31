/- What functions of this seat do, each proved by a walk; no condition. -/
import Derived.Test.YtpankppliidaoaaT15
set_option linter.unusedVariables false
namespace Go.Proofs.Ytpankppliidaoaa
open Go Go.Den Go.Proofs
theorem PRow.ext {H H1 : Heap} {q : Option Addr} {n qc : Nat} {bs : List Nat} (h : PRow H q n qc bs) (e : ExtH H H1) : PRow H1 q n qc bs := by
  rcases h with h | ⟨r, sp, h1, h2, h3, h4⟩
  · exact .inl h
  · exact .inr ⟨r, sp, h1, h2, h3, e.block_some h4⟩
/-- What the four stages keep true. -/
structure FS (S : Nat → Prop) (H0 H : Heap) (rb : Nat) (u v : Value) (q : Option Addr) (qc : Nat) (bl : List PB) : Prop where
  chg : Chg S H0 H
  rb : H[rb]? = some (.cells ⟨[.slice q bl.length qc, u, v]⟩ 109)
  row : PRow H q bl.length qc (bl.map (·.1))
theorem kept_mem {pr : KVr → Bool} {bl : List PB} {y : PB} (h : y ∈ kept pr bl) : y ∈ bl := (List.mem_filter.1 h).1
theorem kept_len (pr : KVr → Bool) (bl : List PB) : (kept pr bl).length ≤ bl.length := List.length_filter_le _ _
theorem kept_none (bl : List PB) : kept (fun _ => false) bl = bl := by unfold kept; simp
theorem stage {H0 H : Heap} {rb rv : Nat} {u v : Value} {q : Option Addr} {qc : Nat} {bl : List PB} (g : Nat) (pr : KVr → Bool) (c : Int)
    (fs : FS (fun i => isp q i ∨ i = rb) H0 H rb u v q qc bl) (h1000 : bl.length ≤ 1000) (hrb : ¬ isp q rb) (hf : fnOk Try.prog g = true)
    (hk : ∀ y ∈ bl, KVat H0 (fun i => isp q i ∨ i = rb) y.1 y.2)
    (hg : ∀ H', Chg (fun i => isp q i ∨ i = rb) H0 H' → ∀ y ∈ bl, CallsH Try.prog g ⟨[.pointer (some ⟨y.1, 0, none⟩), .pointer (some ⟨rv, 0, none⟩)]⟩ H' (yn H' (pr y.2)))
    {K : Heap → Prop} {Q : List PanicEntry → Heap → Prop} (k : ∀ H1, FS (fun i => isp q i ∨ i = rb) H0 H1 rb u v q qc (kept (fun x => c != 0 && pr x) bl) → K H1) :
    iteB (c != (0 : Int)) (callD Try.prog 72 [.pointer (some ⟨rb, 0, none⟩), .func (.func g) ⟨[]⟩ ⟨[.pointer (some ⟨rv, 0, none⟩)]⟩] H Q fun v H1 => tTup v fun l => tNil l <| K H1) (K H) := by
  refine iteB_i (fun hc => ?_) (fun hc => ?_)
  · refine callD_i (prune_ok rb g rv pr u v H bl q qc h1000 hrb fs.row hf (fun H' h y hy => hg H' (fs.chg.trans h) y hy) fs.rb) ?_
    rintro e H1 ⟨rfl, h1, h2, h3⟩
    refine tTup_i (tNil_i (k H1 ?_))
    simp only [hc, Bool.true_and]
    exact ⟨fs.chg.trans h1, h2, h3⟩
  · refine k H ?_
    simp only [hc, Bool.false_and, kept_none]
    exact fs
def pMax (xm : Int) (x : KVr) : Bool := xm != 0 && decide (x.mod > xm)
def pMin (mm : Int) (x : KVr) : Bool := mm != 0 && decide (x.mod < mm)
def cMax (xc : Int) (x : KVr) : Bool := xc != 0 && decide (x.cr > xc)
def cMin (mc : Int) (x : KVr) : Bool := mc != 0 && decide (x.cr < mc)
def sieve (mm xm mc xc : Int) (bl : List PB) : List PB := kept (cMin mc) (kept (cMax xc) (kept (pMin mm) (kept (pMax xm) bl)))
theorem filterRange_ok (rb rq : Nat) (u v : Value) (H : Heap) (bl : List PB) (q : Option Addr) (qc : Nat) (mm xm mc xc : Int) (h1000 : bl.length ≤ 1000) (hrb : ¬ isp q rb) (hq : ∀ i, isp q i → i < H.size) (hrow : PRow H q bl.length qc (bl.map (·.1)))
    (hk : ∀ y ∈ bl, KVat H (fun i => isp q i ∨ i = rb) y.1 y.2) (hr : ReqAt H rq mm xm mc xc) (hrq : ¬ isp q rq ∧ rq ≠ rb)
    (hb0 : H[rb]? = some (.cells ⟨[.slice q bl.length qc, u, v]⟩ 109)) :
    CallsH Try.prog 56 ⟨[.pointer (some ⟨rb, 0, none⟩), .pointer (some ⟨rq, 0, none⟩)]⟩ H
      (fun e H1 => e = .returned (.tuple ⟨[]⟩) ∧ FS (fun i => isp q i ∨ i = rb) H H1 rb u v q qc (sieve mm xm mc xc bl)) := by
  refine F56.calls ?_
  unfold F56.go
  refine St.new (St.start H) ?_
  intro rv H0 L
  have E := L.ext
  have hv0 := L.own 0 _ _ rfl
  have hrv : H.size ≤ rv := hv0.1.resolve_left id
  have hSv : ¬ (isp q rv ∨ rv = rb) := by
    rintro (h | h)
    · have := hq _ h; omega
    · have := block_lt hb0; omega
  have hSq : ¬ (isp q rq ∨ rq = rb) := by
    rintro (h | h)
    · exact hrq.1 h
    · exact hrq.2 h
  have cap : ∀ H', Chg (fun i => isp q i ∨ i = rb) H0 H' → CapAt H' rv rq mm xm mc xc := fun H' h =>
    ⟨h.block hSv hv0.2, (hr.chgs (S := Nn) id (Chg.of_ext E)).chgs hSq h⟩
  have kv : ∀ H', Chg (fun i => isp q i ∨ i = rb) H0 H' → ∀ y ∈ bl, KVat H' (fun i => isp q i ∨ i = rb) y.1 y.2 := fun H' h y hy => ((hk y hy).ext E).chgs h
  have look : ∀ {H' : Heap} {K : Option Addr → Prop}, Chg (fun i => isp q i ∨ i = rb) H0 H' → K (some ⟨rq, 0, none⟩) → ldPtr H' ⟨rv, 0, none⟩ K := fun h k => ⟨_, hcell_of (cap _ h).1 rfl, k⟩
  obtain ⟨cs, q9, q10, q11, q12, _⟩ := hr
  have fld : ∀ {H' : Heap} {K : Int → Prop} (j : Nat) (c : Int), Chg (fun i => isp q i ∨ i = rb) H0 H' → (∀ cs : List Value, cs[9]? = some (.int .i64 mm) → cs[10]? = some (.int .i64 xm) → cs[11]? = some (.int .i64 mc) → cs[12]? = some (.int .i64 xc) → cs[j]? = some (.int .i64 c)) → K c → ldInt H' (Addr.add ⟨rq, 0, none⟩ j) .i64 K := by
    intro H' K j c h hj k
    obtain ⟨cs, h1, h2, h3, h4, h5⟩ := (cap _ h).2
    rw [add_mk, Nat.zero_add]
    exact ⟨_, hcell_of h5 (hj cs h1 h2 h3 h4), k⟩
  have fs0 : FS (fun i => isp q i ∨ i = rb) H0 H0 rb u v q qc bl := ⟨Chg.refl, E.block_some hb0, hrow.ext E⟩
  refine look Chg.refl (nilD_i (fld 10 xm Chg.refl (fun cs a b c d => b) ?_))
  refine stage 73 (fun x => decide (x.mod > xm)) xm fs0 h1000 hrb (by kernel_rfl) (kv H0 Chg.refl) (fun H' h y hy => clo73 (cap H' h) (kv H' h y hy)) ?_
  intro H1 fs1
  have l1 := Nat.le_trans (kept_len (pMax xm) bl) h1000
  refine F56.L0_step ?_
  unfold F56.L0n
  refine look fs1.chg (nilD_i (fld 9 mm fs1.chg (fun cs a b c d => a) ?_))
  refine stage 74 (fun x => decide (x.mod < mm)) mm fs1 l1 hrb (by kernel_rfl) (fun y hy => kv H0 Chg.refl y (kept_mem hy)) (fun H' h y hy => clo74 (cap H' h) (kv H' h y (kept_mem hy))) ?_
  intro H2 fs2
  have l2 := Nat.le_trans (kept_len (pMin mm) (kept (pMax xm) bl)) l1
  refine F56.L1_step ?_
  unfold F56.L1n
  refine look fs2.chg (nilD_i (fld 12 xc fs2.chg (fun cs a b c d => d) ?_))
  refine stage 75 (fun x => decide (x.cr > xc)) xc fs2 l2 hrb (by kernel_rfl) (fun y hy => kv H0 Chg.refl y (kept_mem (kept_mem hy))) (fun H' h y hy => clo75 (cap H' h) (kv H' h y (kept_mem (kept_mem hy)))) ?_
  intro H3 fs3
  have l3 := Nat.le_trans (kept_len (cMax xc) (kept (pMin mm) (kept (pMax xm) bl))) l2
  refine F56.L2_step ?_
  unfold F56.L2n
  refine look fs3.chg (nilD_i (fld 11 mc fs3.chg (fun cs a b c d => c) ?_))
  refine stage 76 (fun x => decide (x.cr < mc)) mc fs3 l3 hrb (by kernel_rfl) (fun y hy => kv H0 Chg.refl y (kept_mem (kept_mem (kept_mem hy)))) (fun H' h y hy => clo76 (cap H' h) (kv H' h y (kept_mem (kept_mem (kept_mem hy))))) ?_
  intro H4 fs4
  exact ⟨rfl, ⟨(Chg.of_ext E).trans fs4.chg, fs4.rb, fs4.row⟩⟩
theorem zzFilter_ok (rq : Nat) (H : Heap) (bl : List PB) (q : Option Addr) (qc : Nat) (mm xm mc xc : Int) (h1000 : bl.length ≤ 1000) (hq : ∀ i, isp q i → i < H.size) (hrow : PRow H q bl.length qc (bl.map (·.1)))
    (hk : ∀ y ∈ bl, KVat H (isp q) y.1 y.2) (hr : ReqAt H rq mm xm mc xc) (hrq : ¬ isp q rq) :
    CallsH Try.prog 31 ⟨[.slice q bl.length qc, .pointer (some ⟨rq, 0, none⟩)]⟩ H
      (fun e H1 => e = .returned (.slice q (sieve mm xm mc xc bl).length qc) ∧ Chg (isp q) H H1 ∧ PRow H1 q (sieve mm xm mc xc bl).length qc ((sieve mm xm mc xc bl).map (·.1)) ∧ ∀ y ∈ bl, KVat H1 (isp q) y.1 y.2) := by
  refine F31.calls ?_
  unfold F31.go
  refine St.new (St.start H) ?_
  intro rb H0 L
  have E := L.ext
  have hb0 := L.own 0 _ _ rfl
  have hrb : H.size ≤ rb := hb0.1.resolve_left id
  have nrb : ¬ isp q rb := fun h => by have := hq _ h; omega
  have lrq : rq < H.size := by obtain ⟨cs, _, _, _, _, h⟩ := hr; exact block_lt h
  refine callD_i (filterRange_ok rb rq _ _ H0 bl q qc mm xm mc xc h1000 nrb (fun i h => Nat.lt_of_lt_of_le (hq i h) E.size) (hrow.ext E) (fun y hy => ((hk y hy).more (S' := fun i => isp q i ∨ i = rb) (fun i hi h => h.elim id (fun h => by omega))).ext E) (hr.chgs (S := Nn) id (Chg.of_ext E)) ⟨hrq, by omega⟩ hb0.2) ?_
  rintro e H1 ⟨rfl, fs⟩
  refine tTup_i (tNil_i ?_)
  refine ⟨_, _, _, hcell_of fs.rb rfl, ?_⟩
  have c1 : Chg (isp q) H H1 := by
    refine ⟨Nat.le_trans E.size fs.chg.size, fun i hi hn => ?_⟩
    rw [fs.chg.same i (Nat.lt_of_lt_of_le hi E.size) (by rintro (h | h); exact hn h; omega), E.block i hi]
  exact ⟨rfl, c1, fs.row, fun y hy => (hk y hy).chgs c1⟩
end Go.Proofs.Ytpankppliidaoaa
