/- Columns of strings behind the interface impl.texts: what each method does. -/
import Derived.Test.YtemmhlibbihjmaaGreatStrE
import Derived.Test.YtemmhlibbihjmaaGreatMeth
import Derived.Test.YtemmhlibbihjmaaGreatWrapf
import Derived.Deep.RegionHeld3
import Derived.StillTailTactics
namespace Go.Proofs.YtemmhlibbihjmaaGreat
open Go.RowKit
set_option linter.unusedVariables false
set_option linter.unusedSimpArgs false

/-- Not much. -/
def Small (l : List (List UInt8)) : Prop := l.flatten.length ≤ 100000000 ∧ l.length ≤ 100000

/-- Cells that read as byte strings. -/
def Reads (w : World) (xs : List Value) (l : List (List UInt8)) : Prop := xs.length = l.length ∧ ∀ (i : Nat) (x : Value) (s : List UInt8), xs[i]? = some x → l[i]? = some s → BytesX w x s
/-- A slice of byte strings. -/
def ListAt (w : World) (v : Value) (l : List (List UInt8)) : Prop :=
  ∃ (p : Option Addr) (c : Nat) (xs : List Value), v = .slice p l.length c ∧ l.length ≤ c ∧ Reads w xs l ∧ (l ≠ [] → ∃ g o : Nat, p = some ⟨g, o, none⟩ ∧ ∀ (j : Nat) (x : Value), xs[j]? = some x → w.cell? ⟨g, o + j, none⟩ = some x)

/-- What is left to be read: the rows and a tail; or too little of them. -/
def RestE (enc : List (List UInt8) → List UInt8) (ok : Bool) (l : List (List UInt8)) (tail rest : List UInt8) : Prop :=
  (ok = true ∧ rest = enc l ++ tail) ∨ (ok = false ∧ Short rest (enc l))

abbrev Rep := World → (Nat → Prop) → List (List UInt8) → Prop
def PutC (C : Rep) (w : World) (F : Nat → Prop) (l : List (List UInt8)) (e : Ending) (w' : World) : Prop :=
  e = .returned (.tuple #[]) ∧ ∃ F', C w' F' l ∧ Upd w w' F F'
def DecC (C : Rep) (w : World) (Fr D F : Nat → Prop) (r : Nat) (ok : Bool) (l : List (List UInt8)) (tail : List UInt8) (e : Ending) (w' : World) : Prop :=
  (ok = true → e = .returned .nilIface ∧ ∃ Fr' cur F', RdAt w' Fr' D r tail cur ∧ C w' F' l ∧ Upd w w' (fun k => Fr k ∨ F k) (fun k => Fr' k ∨ F' k) ∧ ∀ k, F' k → ¬ Fr' k ∧ ¬ D k) ∧
  (ok = false → (∃ a, e = .returned (.iface 131 (.pointer (some a)))) ∧ Chg (fun k => Fr k ∨ F k) w w')

/-- A method found at a value, in a world. -/
def Meths (w : World) (t : TypeId) (v : Value) (name : String) (f : FuncId) (y : Value) : Prop := Own f ∧ (method 293 t v name).run Tryz.prog w = .ok (f, y) w

/-- A column behind the interface: of dynamic type t, the value v; C: what it holds; enc: its bytes; good: the rows that it takes. -/
structure Texts (t : TypeId) (v : Value) (enc : List (List UInt8) → List UInt8) (good : List UInt8 → Prop) (C : Rep) : Prop where
  inn : ∀ {w F l}, C w F l → In F w
  chg : ∀ {w w' F G l}, C w F l → Chg G w w' → Disj F G → C w' F l
  add : ∃ f, (∀ w, Meths w t v "given.example/pub-clapboard/impl.add" f v) ∧ ∀ w F l x s, C w F l → BytesX w x s → good s → Small (l ++ [s]) → Calls Tryz.prog f #[v, x] w (PutC C w F (l ++ [s]))
  at_ : ∃ f, (∀ w, Meths w t v "given.example/pub-clapboard/impl.at" f v) ∧ ∀ w F l (i : Nat) s, C w F l → l[i]? = some s → Small l → Calls Tryz.prog f #[v, .int .i64 i] w (Made w s)
  rows : ∀ w F l, C w F l → Small l → ∃ f y, Meths w t v "Rows" f y ∧ Calls Tryz.prog f #[y] w fun e w' => e = .returned (.int .i64 l.length) ∧ Below w.heap.size w w'
  encode : ∀ w F l Fb p bs, C w F l → Small l → BufAt w Fb 113 p bs → In Fb w → Disj F Fb → bs.length ≤ 1000000000 → ∃ f y, Meths w t v "EncodeColumn" f y ∧ Calls Tryz.prog f #[y, .pointer (some ⟨p, 0, none⟩)] w (Put w Fb 113 p (bs ++ enc l))
  decode : ∀ w Fr D F r l tail rest cur ok, RdAt w Fr D r rest cur → C w F [] → (∀ k, F k → ¬ Fr k ∧ ¬ D k) → RestE enc ok l tail rest → (∀ s ∈ l, good s) → Small l → rest.length ≤ 1000000000 →
    ∃ f y, Meths w t v "DecodeColumn" f y ∧ Calls Tryz.prog f #[y, .pointer (some ⟨r, 0, none⟩), .int .i64 l.length] w (DecC C w Fr D F r ok l tail)

theorem Small.take {l : List (List UInt8)} (h : Small l) (i : Nat) : Small (l.take i) := by
  refine ⟨?_, by have := h.2; simp only [List.length_take]; omega⟩
  have h1 := h.1
  rw [← List.take_append_drop i l, List.flatten_append, List.length_append] at h1
  omega
theorem take_snoc {α : Type} {l : List α} {i : Nat} {s : α} (h : l[i]? = some s) : l.take (i + 1) = l.take i ++ [s] := by
  obtain ⟨hi, rfl⟩ := List.getElem?_eq_some_iff.1 h
  exact List.take_succ_eq_append_getElem hi
theorem Reads.below {w w' : World} {xs : List Value} {l : List (List UInt8)} (h : Reads w xs l) (hb : Below w.heap.size w w') : Reads w' xs l := ⟨h.1, fun i x s h1 h2 => (h.2 i x s h1 h2).below hb⟩
theorem ListAt.below {w w' : World} {v : Value} {l : List (List UInt8)} (h : ListAt w v l) (hb : Below w.heap.size w w') : ListAt w' v l := by
  obtain ⟨p, c, xs, rfl, hc, hr, hx⟩ := h
  refine ⟨p, c, xs, rfl, hc, hr.below hb, fun hn => ?_⟩
  obtain ⟨g, o, rfl, hx2⟩ := hx hn
  exact ⟨g, o, rfl, fun j x hj => by have := hx2 j x hj; rw [hb.cell (World.block_lt_of_cell? _ _ this)]; exact this⟩
/-- A row: where it lies. -/
theorem ListAt.row {w : World} {p : Option Addr} {n c : Nat} {l : List (List UInt8)} (h : ListAt w (.slice p n c) l) {i : Nat} {s : List UInt8} (hi : l[i]? = some s) :
    ∃ (g o : Nat) (x : Value), p = some ⟨g, o, none⟩ ∧ n = l.length ∧ i < n ∧ n ≤ c ∧ w.cell? ⟨g, o + i, none⟩ = some x ∧ BytesX w x s := by
  obtain ⟨p', c', xs, he, hc, hr, hx⟩ := h
  obtain ⟨rfl, rfl, rfl⟩ : p = p' ∧ n = l.length ∧ c = c' := by simpa using he
  obtain ⟨hil, -⟩ := List.getElem?_eq_some_iff.1 hi
  obtain ⟨g, o, rfl, hx2⟩ := hx (by rintro rfl; simp at hi)
  obtain ⟨x, hxs⟩ : ∃ x, xs[i]? = some x := ⟨_, List.getElem?_eq_getElem (by rw [hr.1]; exact hil)⟩
  exact ⟨g, o, x, rfl, rfl, hil, hc, hx2 i x hxs, hr.2 i x s hxs hi⟩
theorem ListAt.slice {w : World} {v : Value} {l : List (List UInt8)} (h : ListAt w v l) : ∃ p c, v = .slice p l.length c ∧ l.length ≤ c := by
  obtain ⟨p, c, xs, rfl, hc, -⟩ := h
  exact ⟨p, c, rfl, hc⟩
end Go.Proofs.YtemmhlibbihjmaaGreat
