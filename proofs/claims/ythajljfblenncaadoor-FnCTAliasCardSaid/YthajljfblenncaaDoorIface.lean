/- A method with a value receiver, called through an interface value that holds a pointer. -/
import Derived.WalkKit
import Derived.ProofKit
import Derived.Test.YthajljfblenncaaDoorChecked
import Derived.ChangeKeysEq
namespace Go.Proofs.YthajljfblenncaaDoor
open Go.RowKit

/-- The method's row: a method of the name, of its own (no embedded field on the way), with a value receiver. -/
def HasVal (t : TypeId) (name : String) (f : FuncId) : Prop := ∃ i m, Tryd.prog.info? t = some i ∧ i.methods.find? (·.name == name) = some m ∧ m.path = #[] ∧ m.func = some (f, false)

theorem hasVal_of {t : TypeId} {name : String} {f : FuncId} (h : (Tryd.prog.info? t).bind (fun i => (i.methods.find? (·.name == name)).map fun m => (m.path.size, m.func)) = some (0, some (f, false))) : HasVal t name f := by
  cases hi : Tryd.prog.info? t with
  | none => simp [hi] at h
  | some i =>
    cases hm : i.methods.find? (·.name == name) with
    | none => simp [hi, hm] at h
    | some m =>
      simp [hi, hm] at h
      exact ⟨i, m, hi, hm, h.1, h.2⟩

theorem run_wrapNil (X : Array TypeId) (T : TypeId) (a : Addr) (s name : String) (w : World) : (Builtin.ssaWrapNilChk_ X T #[.pointer (some a), strVal s, strVal name]).run Tryd.prog w = .ok (.pointer (some a)) w := rfl

theorem run_recv {t el : TypeId} (hu : Tryd.prog.underlying t = some (.pointer el)) (a : Addr) (name : String) (w : World) (v : Value) (hv : (loadVar el a).run Tryd.prog w = .ok v w) :
    (receiverAt t (.val (.pointer (some a))) false (some name)).run Tryd.prog w = .ok v w := by
  unfold receiverAt
  simp only [Sem.run_bind, run_underlying hu, Result.andThen_ok, Place.get, Sem.run_pure, run_wrapNil, asAddr, hv]

theorem method_ptr {t el : TypeId} {name : String} {f : FuncId} (N : Nat) (h : HasVal t name f) (hu : Tryd.prog.underlying t = some (.pointer el)) (a : Addr) (w : World) (v : Value) (hv : (loadVar el a).run Tryd.prog w = .ok v w) :
    (method (N + 1) t (.pointer (some a)) name).run Tryd.prog w = .ok (f, v) w := by
  obtain ⟨i, m, hi, hm, hp, hf⟩ := h
  have hr := fun x => run_recv hu a x w v hv
  unfold method
  simp only [Sem.run_bind, run_typeInfo w hi, Result.andThen_ok, hm, hp, hf, follow, Sem.run_pure]
  simp [hr]
end Go.Proofs.YthajljfblenncaaDoor
