/- What functions of this seat do, each proved by a walk; no condition. -/
import Derived.Test.YtpankppliidaoaaT13
set_option linter.unusedVariables false
namespace Go.Proofs.Ytpankppliidaoaa
open Go Go.Den Go.Proofs
theorem bytesOf_ok (s : ByteArray) (hs : s.size < 2 ^ 63) (H : Heap) : CallsH Try.prog 58 ⟨[.string s]⟩ H (fun e H1 => (∃ p n c, e = .returned (.slice p n c)) ∧ ExtH H H1) := by
  refine F58.calls ?_
  unfold F58.go
  refine iteB_i (fun _ => ⟨⟨_, _, _, rfl⟩, ExtH.refl _⟩) (fun _ => ?_)
  refine St.sb (St.start H) hs ?_
  intro r c H1 hc L
  exact ⟨⟨_, _, _, rfl⟩, L.ext⟩
theorem order_ok (n : Int) (H : Heap) : CallsH Try.prog 59 ⟨[.int .i64 n]⟩ H (fun e H1 => (∃ k, e = .returned (.int .i32 k)) ∧ H1 = H) := by
  refine F59.calls ?_
  unfold F59.go
  refine iteB_i (fun _ => ⟨⟨_, rfl⟩, rfl⟩) (fun _ => ?_)
  refine iteB_i (fun _ => ⟨⟨_, rfl⟩, rfl⟩) (fun _ => ⟨⟨_, rfl⟩, rfl⟩)
/-- A request of the store, as far as filters go. -/
def ReqAt (H : Heap) (b : Nat) (mm xm mc xc : Int) : Prop := ∃ cs : List Value, cs[9]? = some (.int .i64 mm) ∧ cs[10]? = some (.int .i64 xm) ∧ cs[11]? = some (.int .i64 mc) ∧ cs[12]? = some (.int .i64 xc) ∧ H[b]? = some (.cells ⟨cs⟩ 117)
theorem rangeIn_ok (r0 : Int) (r1 r2 r3 : ByteArray) (r4 r5 r6 r7 r8 mm xm mc xc : Int) (b13 b14 b15 b16 b17 : Bool) (p18 : Option Addr) (n18 c18 : Nat) (p19 : Option Addr) (n19 c19 : Nat) (p20 : Option Addr) (n20 c20 : Nat) (h1 : r1.size < 2 ^ 63) (h2 : r2.size < 2 ^ 63) (H : Heap) :
    CallsH Try.prog 33 ⟨[.agg ⟨[.int .i64 r0, .string r1, .string r2, .string r3, .int .i64 r4, .int .i64 r5, .int .i64 r6, .int .i64 r7, .int .i64 r8, .int .i64 mm, .int .i64 xm, .int .i64 mc, .int .i64 xc, .bool b13, .bool b14, .bool b15, .bool b16, .bool b17, .slice p18 n18 c18, .slice p19 n19 c19, .slice p20 n20 c20]⟩]⟩ H
      (fun e H1 => ∃ b, e = .returned (.pointer (some ⟨b, 0, none⟩)) ∧ ExtH H H1 ∧ H.size ≤ b ∧ ReqAt H1 b mm xm mc xc) := by
  refine F33.calls ?_
  unfold F33.go
  refine St.new (St.start H) ?_
  intro r H1 L
  have fin : ∀ {H' : Heap} {b : Nat} {l : List Bk} {v0 v1 v2 v3 v4 v5 v6 v7 v8 : Value}, St H Nn H' ((b, .cells ⟨[v0, v1, v2, v3, v4, v5, v6, v7, v8, .int .i64 mm, .int .i64 xm, .int .i64 mc, .int .i64 xc]⟩ 117) :: l) → ∃ b', (Ending.returned (.pointer (some ⟨b, 0, none⟩)) = .returned (.pointer (some ⟨b', 0, none⟩))) ∧ ExtH H H' ∧ H.size ≤ b' ∧ ReqAt H' b' mm xm mc xc := by
    intro H' b l v0 v1 v2 v3 v4 v5 v6 v7 v8 L
    have h := L.own 0 _ _ rfl
    exact ⟨b, rfl, L.ext, h.1.resolve_left id, _, rfl, rfl, rfl, rfl, h.2⟩
  have ord : ∀ {H' : Heap} {l : List Bk} {n : Int} {K : Value → Heap → Prop}, St H Nn H' l → (∀ k, K (.int .i32 k) H') → callD Try.prog 59 [.int .i64 n] H' nope K := by
    intro H' l n K L k
    refine callD_i (order_ok n H') ?_
    rintro e H2 ⟨⟨k', rfl⟩, rfl⟩
    exact k k'
  have byt : ∀ {H' : Heap} {l : List Bk} {K : Value → Heap → Prop}, St H Nn H' l → (∀ p n c H2, ExtH H' H2 → St H Nn H2 l → K (.slice p n c) H2) → callD Try.prog 58 [.string r2] H' nope K := by
    intro H' l K L k
    refine callD_i (bytesOf_ok r2 h2 H') ?_
    rintro e H2 ⟨⟨p, n, c, rfl⟩, E⟩
    exact k _ _ _ _ E (L.extend E)
  refine ⟨?_, ?_, ?_, ?_⟩
  all_goals
    repeat (first
    | (refine St.sb L h1 ?_; intro _r _c _H _hc L)
    | (refine ord L ?_; intro _k; refine tInt_i ?_; refine andD_i (ExtH.refl _) ?_)
    | (refine byt L ?_; intro _p _n _c _H _E L; refine tSl_i ?_; refine andD_i _E ?_)
    | (refine St.new L ?_; intro _r _H L)
    | refine St.int L 0 rfl rfl ?_
    | refine St.bool L 0 rfl rfl ?_
    | refine St.str L 0 rfl rfl ?_
    | refine St.ptr L 0 rfl rfl ?_
    | refine St.sl L 0 rfl rfl ?_
    | refine St.map L 0 rfl rfl ?_
    | refine St.ifmk L 0 rfl rfl ?_
    | refine St.ifnil L 0 rfl rfl ?_
    | refine St.ifv L 0 rfl rfl ?_
    | refine St.fnmk L 0 rfl rfl ?_
    | refine St.fnv L 0 rfl rfl ?_
    | (refine St.st L 0 rfl rfl (by first | rfl | exact isCell_IV _ | exact isCell_FV _) ?_; intro _H L)
    | refine St.int L 1 rfl rfl ?_
    | refine St.bool L 1 rfl rfl ?_
    | refine St.str L 1 rfl rfl ?_
    | refine St.ptr L 1 rfl rfl ?_
    | refine St.sl L 1 rfl rfl ?_
    | refine St.map L 1 rfl rfl ?_
    | refine St.ifmk L 1 rfl rfl ?_
    | refine St.ifnil L 1 rfl rfl ?_
    | refine St.ifv L 1 rfl rfl ?_
    | refine St.fnmk L 1 rfl rfl ?_
    | refine St.fnv L 1 rfl rfl ?_
    | (refine St.st L 1 rfl rfl (by first | rfl | exact isCell_IV _ | exact isCell_FV _) ?_; intro _H L)
    | refine St.int L 2 rfl rfl ?_
    | refine St.bool L 2 rfl rfl ?_
    | refine St.str L 2 rfl rfl ?_
    | refine St.ptr L 2 rfl rfl ?_
    | refine St.sl L 2 rfl rfl ?_
    | refine St.map L 2 rfl rfl ?_
    | refine St.ifmk L 2 rfl rfl ?_
    | refine St.ifnil L 2 rfl rfl ?_
    | refine St.ifv L 2 rfl rfl ?_
    | refine St.fnmk L 2 rfl rfl ?_
    | refine St.fnv L 2 rfl rfl ?_
    | (refine St.st L 2 rfl rfl (by first | rfl | exact isCell_IV _ | exact isCell_FV _) ?_; intro _H L)
    | refine tInt_i ?_
    | refine tBool_i ?_
    | refine tStr_i ?_
    | refine tPtr_i ?_
    | refine tSl_i ?_
    | refine tMap_i ?_
    | refine tIf_nil ?_
    | refine tIf_mk ?_
    | refine tIf_i ?_
    | refine tFn_mk ?_
    | refine tFn_i ?_
    | refine tAgg_i ?_
    | refine tTup_i ?_
    | refine tCons_i ?_
    | refine tNil_i ?_
    | refine andD_i (by assumption) ?_
    | refine nilD_i ?_)
    exact fin L
end Go.Proofs.Ytpankppliidaoaa
