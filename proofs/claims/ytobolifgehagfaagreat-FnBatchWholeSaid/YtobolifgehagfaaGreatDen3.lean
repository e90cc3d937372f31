/- A plain reading of Go functions, proved to be what they do; no condition. -/
import Derived.Test.YtobolifgehagfaaGreatDen2
set_option linter.unusedVariables false
set_option linter.unusedSimpArgs false
set_option linter.unnecessarySimpa false
namespace Go.Den
open Go
/-! Methods of what is embedded. -/
/-- The type's method of that name stands in what a pointer to a struct embeds: the field's offset and type, the function. -/
def embF (P : Program) (t : TypeId) (name : String) : Option (Nat × TypeId × Option (FuncId × Bool)) :=
  match P.info? t with
  | some i => match i.methods.find? (fun m => m.name == name) with
    | some m => match m.path.toList with
      | [s] => match s.deref with
        | true => match P.underlying s.struct with
          | some (.struct fs) => match fs[s.index]? with
            | some fd => match P.info? fd.type with
              | some fi => match fi.size with
                | 0 => none
                | _ + 1 => some (fd.offset, fd.type, m.func)
              | none => none
            | none => none
          | _ => none
        | false => none
      | _ => none
    | none => none
  | none => none
section
variable {P : Program} {H : Heap}
theorem callI_m {t : TypeId} {x recv : Value} {name : String} {f : FuncId} {args : List Value} {Q : List PanicEntry → Heap → Prop} {K : Value → Heap → Prop} (hm : readV P (method (P.types.size + 99 + 1) t x name) H = some (f, recv)) (hf : fnOk P f = true)
    (k : callD P f (recv :: args) H Q K) : callI P (.iface t x) name args H Q K :=
  ⟨t, x, f, recv, rfl, fun K' Q' h => semH_of_read hm h, hf, k⟩
theorem readV_typeInfo {t : TypeId} {i : TypeInfo} (h : P.info? t = some i) (H : Heap) : readV P (typeInfo t) H = some i := pureV.read _ H (pureV_typeInfo h)
theorem method_own {t : TypeId} {x : Value} {name : String} {f : FuncId} {n : Nat} (hm : mthOk P t name f true = true) (hp : ptrT P t = true) : readV P (method (n + 1) t x name) H = some (f, x) := by
  obtain ⟨i, m, hi, hf, hpath, hg⟩ := mthOk_get hm
  unfold ptrT at hp
  split at hp
  · rename_i e hu
    rw [method, readV_bind, readV_typeInfo hi]
    simp only [Option.bind_some, hf, hpath]
    rw [readV_bind]
    show (some (t, Place.val x)).bind _ = _
    rw [Option.bind_some, hg]
    dsimp only
    rw [readV_bind]
    unfold receiverAt
    rw [readV_bind, readV_underlying hu]
    rfl
  · cases hp
theorem emb_follow {t : TypeId} {name : String} {off : Nat} {ft : TypeId} {fn : Option (FuncId × Bool)} {a : Addr} (he : embF P t name = some (off, ft, fn)) : ∃ i m fi, P.info? t = some i ∧ i.methods.find? (fun m => m.name == name) = some m ∧ m.func = fn ∧ P.info? ft = some fi ∧ fi.size ≠ 0 ∧
    readV P (follow m.path.toList t (.val (.pointer (some a)))) H = some (ft, .var (a.add off)) := by
  unfold embF at he
  split at he
  · rename_i i hi
    split at he
    · rename_i m hf
      split at he
      · rename_i s hp
        split at he
        · rename_i hd
          split at he
          · rename_i fs hu
            split at he
            · rename_i fd hfd
              split at he
              · rename_i fi hfi
                split at he
                · cases he
                · rename_i z hz
                  cases he
                  refine ⟨i, m, fi, hi, hf, rfl, hfi, by rw [hz]; simp, ?_⟩
                  rw [hp, follow, readV_bind, readV_underlying hu]
                  simp only [Option.bind_some, hfd]
                  rw [if_pos hd, readV_bind]
                  show (some (Value.pointer (some a))).bind _ = _
                  rw [Option.bind_some, readV_bind]
                  show (some a).bind _ = _
                  rw [Option.bind_some, readV_bind]
                  unfold fieldPlace
                  rw [readV_bind, readV_sizeOf hfi, Option.bind_some, if_neg (by rw [hz]; simp)]
                  rfl
              · cases he
            · cases he
          · cases he
        · cases he
      · cases he
    · cases he
  · cases he
theorem readV_isAgg {t : TypeId} {d : TypeDesc} (hu : P.underlying t = some d) (hd : (∀ fs, d ≠ .struct fs) ∧ (∀ k e, d ≠ .array k e)) : readV P (isAgg t) H = some false := by
  unfold isAgg
  rw [readV_bind, readV_underlying hu]
  cases d <;> first | rfl | (exact absurd rfl (hd.1 _)) | (exact absurd rfl (hd.2 _ _))
theorem readV_loadVar {t : TypeId} {d : TypeDesc} {a : Addr} {v : Value} (hu : P.underlying t = some d) (hd : (∀ fs, d ≠ .struct fs) ∧ (∀ k e, d ≠ .array k e)) (h : hcell H a = some v) : readV P (loadVar t a) H = some v := by
  unfold loadVar
  rw [readV_bind, readV_isAgg hu hd]
  exact readV_load h
theorem method_emb {t : TypeId} {name : String} {off : Nat} {ft : TypeId} {f : FuncId} {a : Addr} {p : Option Addr} {n : Nat} (he : embF P t name = some (off, ft, some (f, true))) (hp : ptrT P ft = true) (hc : hcell H (a.add off) = some (.pointer p)) : readV P (method (n + 1) t (.pointer (some a)) name) H = some (f, .pointer p) := by
  obtain ⟨i, m, fi, hi, hf, hg, hfi, hz, hfo⟩ := emb_follow (H := H) (a := a) he
  unfold ptrT at hp
  split at hp
  · rename_i e hu
    rw [method, readV_bind, readV_typeInfo hi]
    simp only [Option.bind_some, hf]
    rw [readV_bind, hfo, Option.bind_some, hg]
    dsimp only
    rw [readV_bind]
    have : readV P (receiverAt ft (.var (a.add off)) true (if m.path.isEmpty then some ((name.splitOn ".").getLastD name) else none)) H = some (.pointer p) := by
      unfold receiverAt
      rw [readV_bind, readV_underlying hu]
      exact readV_loadVar hu ⟨by simp, by simp⟩ hc
    rw [this]
    rfl
  · cases hp
theorem method_embI {t : TypeId} {name : String} {off : Nat} {ft : TypeId} {f : FuncId} {a : Addr} {t' : TypeId} {v' recv : Value} {ms : Array (String × TypeId)} {n : Nat} (he : embF P t name = some (off, ft, none)) (hu : P.underlying ft = some (.interface ms)) (hc : hcell H (a.add off) = some (.iface t' v'))
    (hr : readV P (method n t' v' name) H = some (f, recv)) : readV P (method (n + 1) t (.pointer (some a)) name) H = some (f, recv) := by
  obtain ⟨i, m, fi, hi, hf, hg, hfi, hz, hfo⟩ := emb_follow (H := H) (a := a) he
  rw [method, readV_bind, readV_typeInfo hi]
  simp only [Option.bind_some, hf]
  rw [readV_bind, hfo, Option.bind_some, hg]
  dsimp only
  rw [readV_bind]
  have : readV P (Place.get ft (.var (a.add off))) H = some (.iface t' v') := readV_loadVar hu ⟨by simp, by simp⟩ hc
  rw [this]
  exact hr
end
theorem atOld {b : Nat} {o : Obj} {H0 : Heap} (h : H0[b]? = some o) : ∀ (l : List HP) [OldAt l H0], At b o l := fun l O => ⟨fun k x => by
  obtain ⟨g, h1, h2⟩ := x.mem O.out
  exact h2 _ _ (h1 b o h)⟩
section
variable {α : Type} {f : α → List Value} {z : Nat} {xs : List α} {H H0 : Heap} {l : List HP} {A a : Addr} {i : Int} {j : Nat} {x : α}
instance (priority := 900) {k : Option Addr} {K : Option Addr → Prop} [S : Sat H l] [L : Elt A a i z j] [O : OldAt l H0] [R : RowsC H0 (some a) f z xs] [X : HasI xs i x] [N : Nth (f x) j (.pointer k)] : Step (ldPtr H A K) (K k) := ⟨fun h => ⟨_, row_cell S L O R X N, h⟩⟩
end
end Go.Den
