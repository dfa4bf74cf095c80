/- Methods looked up: words over any program. -/
import Derived.Test.YtcidlnjpabgioaaGreatDoorWords
set_option linter.unusedSimpArgs false
set_option linter.unusedVariables false
namespace Go.Proofs.YtcidlnjpabgioaaGreatDoor
open Go.RowKit
open Pu (Bs)
section
variable {P : Program}

/-- The row of a method: which function (and whether it takes a pointer), and the path to its receiver. -/
def rowOf (P : Program) (t : TypeId) (name : String) : Option (Option (FuncId × Bool) × List FieldStep) :=
  (P.info? t).bind fun i => (i.methods.find? (·.name == name)).map fun m => (m.func, m.path.toList)
theorem rowOf_some {t : TypeId} {name : String} {r : Option (FuncId × Bool)} {p : List FieldStep} (h : rowOf P t name = some (r, p)) :
    ∃ i m, P.info? t = some i ∧ i.methods.find? (·.name == name) = some m ∧ m.func = r ∧ m.path.toList = p := by
  unfold rowOf at h
  cases hi : P.info? t with
  | none => rw [hi] at h; simp at h
  | some i =>
    rw [hi] at h
    simp only [Option.bind_some, Option.map_eq_some_iff, Prod.mk.injEq] at h
    obtain ⟨m, hm, h1, h2⟩ := h
    exact ⟨i, m, rfl, hm, h1, h2⟩

theorem method_embed {n : Nat} {t : TypeId} {cs : Array Value} {name : String} {s : FieldStep} {fs : Array Field} {f : Field} {t' : TypeId} {v' : Value} {w : World}
    (hr : rowOf P t name = some (none, [s])) (hd : s.deref = false) (hu : P.underlying s.struct = some (.struct fs)) (hfs : fs[s.index]? = some f) (hpart : (part f.type cs f.offset).run P w = .ok (.iface t' v') w) :
    (method (n + 1) t (.agg cs) name).run P w = (method n t' v' name).run P w := by
  obtain ⟨i, m, hi, hm, hf, hp⟩ := rowOf_some hr
  simp [method, typeInfo, hi, hm, hp, follow, hd, run_underlying hu, hfs, hf, hpart, Place.get]
theorem method_load {n : Nat} {t e : TypeId} {a : Addr} {name : String} {f : FuncId} {v : Value} {w : World}
    (hr : rowOf P t name = some (some (f, false), [])) (hu : P.underlying t = some (.pointer e)) (hl : (loadVar e a).run P w = .ok v w) :
    (method (n + 1) t (.pointer (some a)) name).run P w = .ok (f, v) w := by
  obtain ⟨i, m, hi, hm, hf, hp⟩ := rowOf_some hr
  have hp' : m.path = #[] := by simpa using hp
  have hck : ∀ x y : String, (Builtin.ssaWrapNilChk_ #[t] t #[.pointer (some a), strVal x, strVal y]).run P w = .ok (.pointer (some a)) w := fun _ _ => rfl
  simp [method, typeInfo, hi, hm, hp', follow, run_underlying hu, hf, Place.get, receiverAt, hck, asAddr, hl]
theorem method_field_load {n : Nat} {t e : TypeId} {cs : Array Value} {a : Addr} {name : String} {s : FieldStep} {fs : Array Field} {fd : Field} {f : FuncId} {v : Value} {w : World}
    (hr : rowOf P t name = some (some (f, false), [s])) (hd : s.deref = false) (hu : P.underlying s.struct = some (.struct fs)) (hfs : fs[s.index]? = some fd) (hpart : (part fd.type cs fd.offset).run P w = .ok (.pointer (some a)) w)
    (hup : P.underlying fd.type = some (.pointer e)) (hl : (loadVar e a).run P w = .ok v w) : (method (n + 1) t (.agg cs) name).run P w = .ok (f, v) w := by
  obtain ⟨i, m, hi, hm, hf, hp⟩ := rowOf_some hr
  have hne : ¬ m.path = #[] := fun e => by rw [e] at hp; simp at hp
  simp [method, typeInfo, hi, hm, hp, hne, follow, hd, run_underlying hu, hfs, hf, hpart, Place.get, receiverAt, run_underlying hup, asAddr, hl]
theorem method_field_value {n : Nat} {t : TypeId} {cs : Array Value} {name : String} {s : FieldStep} {fs : Array Field} {fd : Field} {f : FuncId} {v : Value} {w : World} {e : TypeId}
    (hr : rowOf P t name = some (some (f, false), [s])) (hd : s.deref = false) (hu : P.underlying s.struct = some (.struct fs)) (hfs : fs[s.index]? = some fd) (hpart : (part fd.type cs fd.offset).run P w = .ok v w)
    (hup : P.underlying fd.type = some (.slice e)) : (method (n + 1) t (.agg cs) name).run P w = .ok (f, v) w := by
  obtain ⟨i, m, hi, hm, hf, hp⟩ := rowOf_some hr
  simp [method, typeInfo, hi, hm, hp, follow, hd, run_underlying hu, hfs, hf, hpart, Place.get, receiverAt, run_underlying hup]
end
end Go.Proofs.YtcidlnjpabgioaaGreatDoor
