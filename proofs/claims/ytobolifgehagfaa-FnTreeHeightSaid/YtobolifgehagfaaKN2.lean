/- What functions of this seat do, each proved by a walk; no condition. -/
import Derived.Test.YtobolifgehagfaaKQ
import Derived.KernelRfl
import Derived.Test.YtobolifgehagfaaJM3
set_option linter.unusedVariables false
set_option linter.unusedSimpArgs false
set_option linter.unnecessarySimpa false
namespace Go.Proofs.Ytobolifgehagfaa
open Go Go.Den Go.Proofs
/-! The logarithm of small numbers. -/
theorem pureV_readV {P : Program} {α : Type} {H : Heap} (s : Sem α) : ∀ {a : α}, pureV P s = some a → readV P s H = some a := by
  induction s <;> intro x h <;> simp only [pureV] at h <;> try cases h
  case pure => rfl
  case program ih => exact ih _ h
  case mark ih => exact ih h
abbrev F64 : Ieee.Format := FloatKind.format .f64
def absF (x : Nat) : Nat := (andNotZ .u64 (x : Int) (9223372036854775808 : Int)).toNat
/-- A float that is not tiny, and a number. -/
def frOk (x : Nat) : Bool := !(F64.order x 0 == some .eq) && !(F64.order (absF x) 9218868437227405311 == some .gt) && !(F64.order x x != some .eq) && !(F64.order (absF x) 4503599627370496 == some .lt)
def fracF (x : Nat) : Nat := (orZ .u64 (andNotZ .u64 (x : Int) (9218868437227405312 : Int)) (4602678819172646912 : Int)).toNat
def expF (x : Nat) : Int := IntKind.wrap .i64 ((0 : Int) + (IntKind.wrap .i64 ((IntKind.wrap .i64 ((IntKind.wrap .i64 (andZ .u64 (shrZ .u64 (x : Int) (52 : Int)) (2047 : Int))) - (1023 : Int))) + (1 : Int))))
def logF (P : Program) (x : Nat) : Option Nat :=
  match pureV P (Extern.MathLog.archLog #[.float .f64 x]) with
  | some (.float .f64 r) => some r
  | _ => none
def log2G (P : Program) (f : Nat) (e : Int) : Option Nat :=
  match F64.order f 4602678819172646912 == some .eq with
  | true => some (FloatKind.nearest .f64 (IntKind.wrap .i64 (e - (1 : Int))))
  | false => (logF P f).bind fun l => (F64.mul l 4609176140021203710).bind fun m => F64.add m (FloatKind.nearest .f64 e)
def log2F (P : Program) (x : Nat) : Option Nat :=
  match frOk x with
  | false => none
  | true => log2G P (fracF x) (expF x)
def maxG (r : Option Nat) : Option Int :=
  r.bind fun l => (F64.mul 4611686018427387904 l).bind fun m => (F64.add m 4602678819172646912).bind fun a => (FloatKind.decode .f64 a).toInt .zero
def maxF (P : Program) (n : Nat) : Option Int := maxG (log2F P (FloatKind.nearest .f64 ((n + 1 : Nat) : Int)))
def okAns (n : Nat) (r : Option Int) : Bool :=
  match r with
  | some m => decide (IntKind.min .i64 ≤ m ∧ m ≤ IntKind.max .i64) && (List.range 41).all fun h => !(Nat.ble (2 ^ h) ((n + 1) * (n + 1))) || decide ((h : Int) ≤ m)
  | none => false
def okMax (P : Program) (n : Nat) : Bool := okAns n (maxF P n)
theorem okAns_some {n : Nat} {r : Option Int} (h : okAns n r = true) : ∃ m, r = some m ∧ (IntKind.min .i64 ≤ m ∧ m ≤ IntKind.max .i64) ∧ ∀ h : Nat, h ≤ 40 → 2 ^ h ≤ (n + 1) * (n + 1) → (h : Int) ≤ m := by
  cases r with
  | none => cases h
  | some m =>
    unfold okAns at h
    dsimp only at h
    rw [Bool.and_eq_true, List.all_eq_true] at h
    refine ⟨m, rfl, of_decide_eq_true h.1, fun k hk hle => ?_⟩
    have h2 := h.2 k (List.mem_range.2 (by omega))
    rw [Nat.ble_eq_true_of_le hle, Bool.not_true, Bool.false_or] at h2
    exact of_decide_eq_true h2
theorem maxG_some {r : Option Nat} {m : Int} (h : maxG r = some m) : ∃ l m1 a, r = some l ∧ F64.mul 4611686018427387904 l = some m1 ∧ F64.add m1 4602678819172646912 = some a ∧ (FloatKind.decode .f64 a).toInt .zero = some m := by
  unfold maxG at h
  obtain ⟨l, h1, h⟩ := Option.bind_eq_some_iff.1 h
  obtain ⟨m1, h2, h⟩ := Option.bind_eq_some_iff.1 h
  obtain ⟨a, h3, h⟩ := Option.bind_eq_some_iff.1 h
  exact ⟨l, m1, a, h1, h2, h3, h⟩
noncomputable def part (k : Nat) : Bool := (List.range 10).all fun i => okMax Try.prog (10 * k + i)
theorem max_0 : part 0 = true := by kernel_rfl
theorem max_1 : part 1 = true := by kernel_rfl
theorem max_2 : part 2 = true := by kernel_rfl
theorem max_3 : part 3 = true := by kernel_rfl
theorem max_4 : part 4 = true := by kernel_rfl
theorem max_5 : part 5 = true := by kernel_rfl
theorem max_6 : part 6 = true := by kernel_rfl
theorem max_7 : part 7 = true := by kernel_rfl
theorem max_8 : part 8 = true := by kernel_rfl
theorem max_9 : part 9 = true := by kernel_rfl
theorem max_10 : part 10 = true := by kernel_rfl
theorem max_11 : part 11 = true := by kernel_rfl
theorem max_12 : part 12 = true := by kernel_rfl
theorem max_13 : part 13 = true := by kernel_rfl
theorem max_14 : part 14 = true := by kernel_rfl
theorem max_15 : part 15 = true := by kernel_rfl
theorem max_16 : part 16 = true := by kernel_rfl
theorem max_17 : part 17 = true := by kernel_rfl
theorem max_18 : part 18 = true := by kernel_rfl
theorem max_19 : part 19 = true := by kernel_rfl
theorem max_20 : part 20 = true := by kernel_rfl
theorem max_all : ∀ k, k < 21 → part k = true
  | 0, _ => max_0
  | 1, _ => max_1
  | 2, _ => max_2
  | 3, _ => max_3
  | 4, _ => max_4
  | 5, _ => max_5
  | 6, _ => max_6
  | 7, _ => max_7
  | 8, _ => max_8
  | 9, _ => max_9
  | 10, _ => max_10
  | 11, _ => max_11
  | 12, _ => max_12
  | 13, _ => max_13
  | 14, _ => max_14
  | 15, _ => max_15
  | 16, _ => max_16
  | 17, _ => max_17
  | 18, _ => max_18
  | 19, _ => max_19
  | 20, _ => max_20
  | k + 21, h => by omega
theorem max_at {n : Nat} (hn : n ≤ 200) : ∃ m, maxF Try.prog n = some m ∧ (IntKind.min .i64 ≤ m ∧ m ≤ IntKind.max .i64) ∧ ∀ h : Nat, h ≤ 40 → 2 ^ h ≤ (n + 1) * (n + 1) → (h : Int) ≤ m := by
  have h := List.all_eq_true.1 (max_all (n / 10) (by omega)) (n % 10) (List.mem_range.2 (by omega))
  have e : 10 * (n / 10) + n % 10 = n := by omega
  rw [e] at h
  exact okAns_some h
end Go.Proofs.Ytobolifgehagfaa

set_option linter.unusedVariables false
set_option linter.unusedSimpArgs false
set_option linter.unnecessarySimpa false
namespace Go.Proofs.Ytobolifgehagfaa
open Go Go.Den Go.Proofs
theorem flD_some {r : Option Nat} {n : Nat} {k : Nat → Prop} (h : r = some n) (hk : k n) : flD r k := by subst h; exact hk
theorem tFlt_i {n : Nat} {kd : FloatKind} {k : Nat → Prop} (h : k n) : tFlt (.float kd n) kd k := ⟨n, rfl, h⟩
section
variable {H : Heap}
theorem bitsX {x : Nat} {Q : List PanicEntry → Heap → Prop} {K : Value → Heap → Prop} (hk : K (.int .u64 (x : Int)) H) : callX Try.prog 178 [.float .f64 x] H Q K :=
  callFunc_ext (fn := Try.f178) (e := Extern.MathFloatBits.float64bits) (by kernel_rfl) (by kernel_rfl) (by kernel_rfl) (by kernel_rfl) (by kernel_rfl) rfl hk
theorem fromX {x : Int} {Q : List PanicEntry → Heap → Prop} {K : Value → Heap → Prop} (hk : K (.float .f64 x.toNat) H) : callX Try.prog 179 [.int .u64 x] H Q K :=
  callFunc_ext (fn := Try.f179) (e := Extern.MathFloatBits.float64frombits) (by kernel_rfl) (by kernel_rfl) (by kernel_rfl) (by kernel_rfl) (by kernel_rfl) rfl hk
theorem logX {x r : Nat} {Q : List PanicEntry → Heap → Prop} {K : Value → Heap → Prop} (h : logF Try.prog x = some r) (hk : K (.float .f64 r) H) : callX Try.prog 173 [.float .f64 x] H Q K := by
  refine callFunc_ext (fn := Try.f173) (e := Extern.MathLog.archLog) (by kernel_rfl) (by kernel_rfl) (by kernel_rfl) (by kernel_rfl) (by kernel_rfl) (v := .float .f64 r) ?_ hk
  refine pureV_readV _ ?_
  unfold logF at h
  split at h
  · rename_i r' hr
    cases h
    exact hr
  · cases h
theorem abs_ok (x : Nat) : CallsH Try.prog 182 ⟨[.float .f64 x]⟩ H (Gives (.float .f64 (absF x)) H) := by
  refine F182.calls ?_
  unfold F182.go
  refine bitsX ?_
  refine tInt_i ?_
  refine fromX ?_
  refine tFlt_i ?_
  exact ⟨rfl, ExtH.refl _⟩
theorem isNaN_ok (x : Nat) : CallsH Try.prog 176 ⟨[.float .f64 x]⟩ H (Gives (.bool (F64.order x x != some .eq)) H) := by
  refine F176.calls ?_
  unfold F176.go
  exact ⟨rfl, ExtH.refl _⟩
theorem isInf_ok (x : Nat) : CallsH Try.prog 175 ⟨[.float .f64 x, .int .i64 0]⟩ H (Gives (.bool (F64.order (absF x) 9218868437227405311 == some .gt)) H) := by
  have S := Sat.start H
  refine F175.calls ?_
  unfold F175.go
  refine iteB_t rfl ?_
  refine gives_i S (abs_ok x) fun H1 E1 S1 => ?_
  refine tFlt_i ?_
  exact ⟨rfl, E1⟩
theorem frexp_ok {x : Nat} (h : frOk x = true) : CallsH Try.prog 172 ⟨[.float .f64 x]⟩ H (Gives (.tuple ⟨[.float .f64 (fracF x), .int .i64 (expF x)]⟩) H) := by
  have S := Sat.start H
  unfold frOk at h
  simp only [Bool.and_eq_true, Bool.not_eq_true'] at h
  obtain ⟨⟨⟨h1, h2⟩, h3⟩, h4⟩ := h
  refine F172.calls ?_
  unfold F172.go
  refine iteB_f h1 ?_
  refine gives_i S (isInf_ok x) fun H1 E1 S1 => ?_
  refine tBool_i ?_
  refine iteB_f h2 ?_
  refine gives_i S1 (isNaN_ok x) fun H2 E2 S2 => ?_
  refine tBool_i ?_
  refine iteB_f h3 ?_
  refine F172.L0_step ?_
  unfold F172.L0n
  have norm : CallsH Try.prog 177 ⟨[.float .f64 x]⟩ H2 (Gives (.tuple ⟨[.float .f64 x, .int .i64 0]⟩) H2) := by
    refine F177.calls ?_
    unfold F177.go
    refine gives_i S2 (abs_ok x) fun H3 E3 S3 => ?_
    refine tFlt_i ?_
    refine iteB_f h4 ?_
    exact ⟨rfl, E3⟩
  refine gives_i S2 norm fun H3 E3 S3 => ?_
  refine tTup_i ?_
  refine tCons_i ?_
  refine tFlt_i ?_
  refine tCons_i ?_
  refine tInt_i ?_
  refine tNil_i ?_
  refine bitsX ?_
  refine tInt_i ?_
  refine ⟨by decide, ?_⟩
  refine fromX ?_
  refine tFlt_i ?_
  exact ⟨rfl, E1.trans (E2.trans E3)⟩
theorem frexp2_ok {x f : Nat} {e : Int} (h : CallsH Try.prog 172 ⟨[.float .f64 x]⟩ H (Gives (.tuple ⟨[.float .f64 f, .int .i64 e]⟩) H)) : CallsH Try.prog 169 ⟨[.float .f64 x]⟩ H (Gives (.tuple ⟨[.float .f64 f, .int .i64 e]⟩) H) := by
  have S := Sat.start H
  refine F169.calls ?_
  unfold F169.go
  refine gives_i S h fun H1 E1 S1 => ?_
  refine tTup_i ?_
  refine tCons_i ?_
  refine tFlt_i ?_
  refine tCons_i ?_
  refine tInt_i ?_
  refine tNil_i ?_
  exact ⟨rfl, E1⟩
theorem log_ok {f l : Nat} (h : logF Try.prog f = some l) : CallsH Try.prog 170 ⟨[.float .f64 f]⟩ H (Gives (.float .f64 l) H) := by
  refine F170.calls ?_
  unfold F170.go
  refine logX h ?_
  refine tFlt_i ?_
  exact ⟨rfl, ExtH.refl _⟩
theorem log2_tail {x f r : Nat} {e : Int} (h : log2G Try.prog f e = some r) (fr : ∀ H, CallsH Try.prog 169 ⟨[.float .f64 x]⟩ H (Gives (.tuple ⟨[.float .f64 f, .int .i64 e]⟩) H)) : CallsH Try.prog 167 ⟨[.float .f64 x]⟩ H (Gives (.float .f64 r) H) := by
  have S := Sat.start H
  refine F167.calls ?_
  unfold F167.go
  refine gives_i S (fr H) fun H1 E1 S1 => ?_
  refine tTup_i ?_
  refine tCons_i ?_
  refine tFlt_i ?_
  refine tCons_i ?_
  refine tInt_i ?_
  refine tNil_i ?_
  unfold log2G at h
  split at h
  · rename_i hh
    refine iteB_t hh ?_
    exact ⟨by rw [Option.some.inj h], E1⟩
  · rename_i hh
    refine iteB_f hh ?_
    obtain ⟨l, hl, h⟩ := Option.bind_eq_some_iff.1 h
    obtain ⟨m, hm, h⟩ := Option.bind_eq_some_iff.1 h
    refine gives_i S1 (log_ok hl) fun H2 E2 S2 => ?_
    refine tFlt_i ?_
    refine flD_some hm ?_
    refine flD_some h ?_
    exact ⟨rfl, E1.trans E2⟩
theorem log2_ok {x r : Nat} (h : log2F Try.prog x = some r) : CallsH Try.prog 158 ⟨[.float .f64 x]⟩ H (Gives (.float .f64 r) H) := by
  have S := Sat.start H
  refine F158.calls ?_
  unfold F158.go
  have h1 : frOk x = true ∧ log2G Try.prog (fracF x) (expF x) = some r := by
    unfold log2F at h
    split at h
    · cases h
    · rename_i hx
      exact ⟨hx, h⟩
  refine gives_i S (log2_tail h1.2 fun H => frexp2_ok (frexp_ok h1.1)) fun H1 E1 S1 => ?_
  refine tFlt_i ?_
  exact ⟨rfl, E1⟩
theorem maxTail {g : PH} {o : Int} {sr tp n : Nat} {T : Tr} {l m1 a : Nat} {m : Int} {x : Nat} (hx : FloatKind.nearest .f64 ((n + 1 : Nat) : Int) = x) (hn : n ≤ 200) (h1 : log2F Try.prog x = some l) (h2 : F64.mul 4611686018427387904 l = some m1) (h3 : F64.add m1 4602678819172646912 = some a) (hm : (FloatKind.decode .f64 a).toInt .zero = some m) (hk : IntKind.min .i64 ≤ m ∧ m ≤ IntKind.max .i64) (hT : StandT H g o sr tp (n : Int) T) : CallsH Try.prog 145 ⟨[pA tp]⟩ H (Gives (.int .i64 m) H) := by
  have S := Sat.start H
  refine F145.calls ?_
  unfold F145.go
  refine gives_i S (Len_ok hT) fun H1 E1 S1 => ?_
  refine tInt_i ?_
  rw [wr (by omega) (by omega), show ((n : Nat) : Int) + 1 = ((n + 1 : Nat) : Int) by omega, hx]
  refine gives_i S1 (log2_ok h1) fun H2 E2 S2 => ?_
  refine tFlt_i ?_
  refine flD_some h2 ?_
  refine flD_some h3 ?_
  unfold fiD
  rw [hm]
  exact ⟨hk, rfl, E1.trans E2⟩
theorem MaxHeight_ok {g : PH} {o : Int} {sr tp n : Nat} {T : Tr} (hn : n ≤ 200) (hT : StandT H g o sr tp (n : Int) T) : ∃ m : Int, CallsH Try.prog 145 ⟨[pA tp]⟩ H (Gives (.int .i64 m) H) ∧ ∀ h : Nat, h ≤ 40 → 2 ^ h ≤ (n + 1) * (n + 1) → (h : Int) ≤ m := by
  obtain ⟨m, h0, hk, hh⟩ := max_at hn
  obtain ⟨l, m1, a, h1, h2, h3, hm⟩ := maxG_some h0
  exact ⟨m, maxTail rfl hn h1 h2 h3 hm hk hT, hh⟩
end
end Go.Proofs.Ytobolifgehagfaa
