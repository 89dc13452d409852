/-
  How a method of an interface value that holds a pointer is found. No conditions but those that each theorem names.
-/
import Derived.WalkKit
namespace Go.Proofs.Ytadacjndepkfeaa
open Go.RowKit

theorem run_typeInfo {P : Program} {w : World} {t : TypeId} {i : TypeInfo} (hi : P.info? t = some i) : (typeInfo t).run P w = .ok i w := by
  simp [typeInfo, hi]
theorem run_wrapNil {P : Program} {w : World} (xt : TypeId) (a : Addr) (x y : String) : (Builtin.ssaWrapNilChk_ #[xt] xt #[.pointer (some a), strVal x, strVal y]).run P w = .ok (.pointer (some a)) w := rfl
theorem info_method {P : Program} {t : TypeId} {name : String} {r : Array FieldStep × Option (FuncId × Bool)}
    (h : (P.info? t).bind (fun i => (i.methods.find? (·.name == name)).map (fun m => (m.path, m.func))) = some r) :
    ∃ i, P.info? t = some i ∧ (i.methods.find? (·.name == name)).map (fun m => (m.path, m.func)) = some r := by
  cases hh : P.info? t with
  | none => rw [hh] at h; cases h
  | some i => rw [hh] at h; exact ⟨i, rfl, h⟩

/-- A method with a value receiver, called on a pointer: the receiver is what the pointer leads to. -/
theorem run_method_ptr_val {P : Program} {w : World} {t e : TypeId} {name : String} {f : FuncId} {a : Addr} {v : Value} (k : Nat)
    (h : (P.info? t).bind (fun i => (i.methods.find? (·.name == name)).map (fun m => (m.path, m.func))) = some (#[], some (f, false))) (hu : P.underlying t = some (.pointer e))
    (hl : (loadVar e a).run P w = .ok v w) : (method (k + 1) t (.pointer (some a)) name).run P w = .ok (f, v) w := by
  obtain ⟨i, hi, hm⟩ := info_method h
  cases hmm : i.methods.find? (·.name == name) with
  | none => rw [hmm] at hm; cases hm
  | some m =>
    rw [hmm] at hm
    simp only [Option.map_some, Option.some.injEq, Prod.mk.injEq] at hm
    unfold method
    simp only [Sem.run_bind, run_typeInfo hi, Result.andThen_ok, hmm, hm.1, hm.2, follow, Sem.run_pure, receiverAt, run_underlying hu, Place.get, Array.isEmpty_empty, if_true, run_wrapNil, asAddr, hl]

/-- A method with a pointer receiver. -/
theorem run_method_ptr {P : Program} {w : World} {t e : TypeId} {name : String} {f : FuncId} {a : Addr} (k : Nat)
    (h : (P.info? t).bind (fun i => (i.methods.find? (·.name == name)).map (fun m => (m.path, m.func))) = some (#[], some (f, true))) (hu : P.underlying t = some (.pointer e)) :
    (method (k + 1) t (.pointer (some a)) name).run P w = .ok (f, .pointer (some a)) w := by
  obtain ⟨i, hi, hm⟩ := info_method h
  cases hmm : i.methods.find? (·.name == name) with
  | none => rw [hmm] at hm; cases hm
  | some m =>
    rw [hmm] at hm
    simp only [Option.map_some, Option.some.injEq, Prod.mk.injEq] at hm
    unfold method
    simp only [Sem.run_bind, run_typeInfo hi, Result.andThen_ok, hmm, hm.1, hm.2, follow, Sem.run_pure, receiverAt, run_underlying hu, Place.get]

/-- A slice variable is read. -/
theorem run_loadVar_slice {P : Program} {w : World} {e el : TypeId} {a : Addr} {A : Option Addr} {n c : Nat} (hu : P.underlying e = some (.slice el)) (hc : w.cell? a = some (.slice A n c)) :
    (loadVar e a).run P w = .ok (.slice A n c) w := by
  simp [loadVar, isAgg, run_underlying hu, go_sem, hc]

/-- A method of an embedded field, promoted through a pointer: the receiver is the field's value. -/
theorem run_method_emb {P : Program} {w : World} {t : TypeId} {name : String} {f : FuncId} {a a' : Addr} {v : Value} {s : FieldStep} {fields : Array Field} {fd : Field} {el : TypeId} (k : Nat)
    (h : (P.info? t).bind (fun i => (i.methods.find? (·.name == name)).map (fun m => (m.path, m.func))) = some (#[s], some (f, false))) (hd : s.deref = true) (hus : P.underlying s.struct = some (.struct fields)) (hf : fields[s.index]? = some fd)
    (hp : (fieldPlace a fd).run P w = .ok a' w) (hut : P.underlying fd.type = some (.slice el)) (hl : (loadVar fd.type a').run P w = .ok v w) : (method (k + 1) t (.pointer (some a)) name).run P w = .ok (f, v) w := by
  obtain ⟨i, hi, hm⟩ := info_method h
  cases hmm : i.methods.find? (·.name == name) with
  | none => rw [hmm] at hm; cases hm
  | some m =>
    rw [hmm] at hm
    simp only [Option.map_some, Option.some.injEq, Prod.mk.injEq] at hm
    unfold method
    simp only [Sem.run_bind, run_typeInfo hi, Result.andThen_ok, hmm, hm.1, hm.2, follow, run_underlying hus, hf, hd, if_true, Place.get, Sem.run_pure, asAddr, hp, receiverAt, run_underlying hut, hl]

end Go.Proofs.Ytadacjndepkfeaa
