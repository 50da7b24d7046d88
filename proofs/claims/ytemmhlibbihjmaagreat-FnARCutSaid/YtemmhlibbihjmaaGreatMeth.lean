/- Methods called through interface values: of pointers, of values behind pointers, promoted from embedded fields. -/
import Derived.WalkKit
import Derived.ProofKit
import Derived.Test.YtemmhlibbihjmaaGreatChecked
import Derived.ChangeKeysEq
namespace Go.Proofs.YtemmhlibbihjmaaGreat
open Go.RowKit
set_option linter.unusedSimpArgs false

/-- A method's row: its path and its function. -/
def MRow (t : TypeId) (name : String) (path : List FieldStep) (fn : Option (FuncId × Bool)) : Prop := ∃ i m, Tryz.prog.info? t = some i ∧ i.methods.find? (·.name == name) = some m ∧ m.path.toList = path ∧ m.func = fn

theorem mRow_of {t : TypeId} {name : String} {path : List FieldStep} {fn : Option (FuncId × Bool)} (h : (Tryz.prog.info? t).bind (fun i => (i.methods.find? (·.name == name)).map fun m => (m.path.toList, m.func)) = some (path, fn)) : MRow t name path fn := by
  cases hi : Tryz.prog.info? t with
  | none => simp [hi] at h
  | some i =>
    cases hm : i.methods.find? (·.name == name) with
    | none => simp [hi, hm] at h
    | some m =>
      simp [hi, hm] at h
      exact ⟨i, m, hi, hm, h.1, h.2⟩

theorem run_wrapNil (X : Array TypeId) (T : TypeId) (a : Addr) (s name : String) (w : World) : (Builtin.ssaWrapNilChk_ X T #[.pointer (some a), strVal s, strVal name]).run Tryz.prog w = .ok (.pointer (some a)) w := rfl

/-- A pointer's own method. -/
theorem meth_ptr {t el : TypeId} {name : String} {f : FuncId} (N : Nat) (h : MRow t name [] (some (f, true))) (hu : Tryz.prog.underlying t = some (.pointer el)) (v : Value) (w : World) :
    (method (N + 1) t v name).run Tryz.prog w = .ok (f, v) w := by
  obtain ⟨i, m, hi, hm, hp, hf⟩ := h
  unfold method
  simp only [Sem.run_bind, run_typeInfo w hi, Result.andThen_ok, hm, hp, hf, follow, Sem.run_pure]
  unfold receiverAt
  simp only [Sem.run_bind, run_underlying hu, Result.andThen_ok, Place.get, Sem.run_pure]
/-- A value's method at a pointer. -/
theorem meth_val {t el : TypeId} {name : String} {f : FuncId} (N : Nat) (h : MRow t name [] (some (f, false))) (hu : Tryz.prog.underlying t = some (.pointer el)) (a : Addr) (w : World) (v : Value) (hv : (loadVar el a).run Tryz.prog w = .ok v w) :
    (method (N + 1) t (.pointer (some a)) name).run Tryz.prog w = .ok (f, v) w := by
  obtain ⟨i, m, hi, hm, hp, hf⟩ := h
  unfold method
  have he : m.path.isEmpty = true := by cases hx : m.path with | mk l => rw [hx] at hp; simp at hp; simp [hp]
  simp only [Sem.run_bind, run_typeInfo w hi, Result.andThen_ok, hm, hp, hf, follow, Sem.run_pure, he, if_true]
  unfold receiverAt
  simp only [Sem.run_bind, run_underlying hu, Result.andThen_ok, Place.get, Sem.run_pure, run_wrapNil, asAddr, hv]
/-- A value's own method. -/
theorem meth_own {t : TypeId} {name : String} {f : FuncId} {k : TypeDesc} (N : Nat) (h : MRow t name [] (some (f, false))) (hu : Tryz.prog.underlying t = some k) (hk : ∀ e, k ≠ .pointer e) (v : Value) (w : World) :
    (method (N + 1) t v name).run Tryz.prog w = .ok (f, v) w := by
  obtain ⟨i, m, hi, hm, hp, hf⟩ := h
  unfold method
  simp only [Sem.run_bind, run_typeInfo w hi, Result.andThen_ok, hm, hp, hf, follow, Sem.run_pure]
  unfold receiverAt
  simp only [Sem.run_bind, run_underlying hu, Result.andThen_ok, Place.get, Sem.run_pure]
/-- A method of an embedded interface, which is the first field. -/
theorem meth_emb {t s : TypeId} {name : String} {fs : Array Field} {fl : Field} (N : Nat) (h : MRow t name [⟨s, 0, false⟩] none) (hs : Tryz.prog.underlying s = some (.struct fs)) (hf0 : fs[0]? = some fl) (ho : fl.offset = 0) (ha : ∀ w, (isAgg fl.type).run Tryz.prog w = .ok false w)
    (cs : Array Value) (t' : TypeId) (v' : Value) (hc : cs[0]? = some (.iface t' v')) (w : World) :
    (method (N + 1) t (.agg cs) name).run Tryz.prog w = (method N t' v' name).run Tryz.prog w := by
  obtain ⟨i, m, hi, hm, hp, hf⟩ := h
  conv => lhs; unfold method
  simp only [Sem.run_bind, run_typeInfo w hi, Result.andThen_ok, hm, hp, hf, follow, run_underlying hs, hf0, ho, Sem.run_pure]
  unfold part
  simp [Sem.run_bind, ha, hc, Place.get]

/-- A pointer's method of an embedded struct, which is the first field, behind the pointer. -/
theorem meth_in_ptr {t s : TypeId} {name : String} {f : FuncId} {fs : Array Field} {fl : Field} {k : TypeDesc} (N : Nat) (h : MRow t name [⟨s, 0, true⟩] (some (f, true))) (hs : Tryz.prog.underlying s = some (.struct fs)) (hf0 : fs[0]? = some fl)
    (hk : Tryz.prog.underlying fl.type = some k) (hkp : ∀ e, k ≠ .pointer e) (q : Nat) (hp : ∀ w, (fieldPlace ⟨q, 0, none⟩ fl).run Tryz.prog w = .ok ⟨q, 0, none⟩ w) (w : World) :
    (method (N + 1) t (.pointer (some ⟨q, 0, none⟩)) name).run Tryz.prog w = .ok (f, .pointer (some ⟨q, 0, none⟩)) w := by
  obtain ⟨i, m, hi, hm, hpp, hf⟩ := h
  unfold method
  simp only [Sem.run_bind, run_typeInfo w hi, Result.andThen_ok, hm, hpp, hf, follow, run_underlying hs, hf0, Sem.run_pure, Place.get, asAddr, hp, if_true]
  unfold receiverAt
  simp only [Sem.run_bind, run_underlying hk, Result.andThen_ok, Place.get, Sem.run_pure]
/-- A value's method of an embedded struct, which is the first field, behind the pointer. -/
theorem meth_in_val {t s : TypeId} {name : String} {f : FuncId} {fs : Array Field} {fl : Field} {k : TypeDesc} (N : Nat) (h : MRow t name [⟨s, 0, true⟩] (some (f, false))) (hs : Tryz.prog.underlying s = some (.struct fs)) (hf0 : fs[0]? = some fl)
    (hk : Tryz.prog.underlying fl.type = some k) (hkp : ∀ e, k ≠ .pointer e) (q : Nat) (hp : ∀ w, (fieldPlace ⟨q, 0, none⟩ fl).run Tryz.prog w = .ok ⟨q, 0, none⟩ w) (w : World) (v : Value) (hv : (loadVar fl.type ⟨q, 0, none⟩).run Tryz.prog w = .ok v w) :
    (method (N + 1) t (.pointer (some ⟨q, 0, none⟩)) name).run Tryz.prog w = .ok (f, v) w := by
  obtain ⟨i, m, hi, hm, hpp, hf⟩ := h
  unfold method
  simp only [Sem.run_bind, run_typeInfo w hi, Result.andThen_ok, hm, hpp, hf, follow, run_underlying hs, hf0, Sem.run_pure, Place.get, asAddr, hp, if_true]
  unfold receiverAt
  simp only [Sem.run_bind, run_underlying hk, Result.andThen_ok, Place.get, Sem.run_pure]
  cases k <;> first | exact absurd rfl (hkp _) | simp [Place.get, hv]
end Go.Proofs.YtemmhlibbihjmaaGreat
