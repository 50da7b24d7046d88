/- The specification's lists of numbers and of strings: pkInts, pkTexts; pkBool. -/
import Derived.Test.YtemmhlibbihjmaaGreatSp
namespace Go.Proofs.YtemmhlibbihjmaaGreat
open Go.RowKit

/-- Cells that lie one behind the other at the head of a block. -/
def RowIs (w : World) (b : Nat) (vs : List Value) : Prop := ∀ (j : Nat) (u : Value), vs[j]? = some u → w.cell? ⟨b, j, none⟩ = some u

theorem RowIs.below {w w' : World} {b : Nat} {vs : List Value} (h : RowIs w b vs) (hb : Below w.heap.size w w') : RowIs w' b vs := fun j u hj => by
  have h1 := h j u hj
  have hlt : b < w.heap.size := by
    unfold World.cell? at h1
    cases hx : w.heap[b]? with
    | none => simp [hx] at h1
    | some o => exact (Array.getElem?_eq_some_iff.1 hx).1
  rw [hb.cell (p := ⟨b, j, none⟩) hlt]
  exact h1

theorem RowIs.lt {w : World} {b : Nat} {v : Value} {vs : List Value} (h : RowIs w b (v :: vs)) : b < w.heap.size := by
  have h1 := h 0 v rfl
  unfold World.cell? at h1
  cases hx : w.heap[b]? with
  | none => simp [hx] at h1
  | some o => exact (Array.getElem?_eq_some_iff.1 hx).1

theorem RowIs.chg {w w' : World} {F : Nat → Prop} {b : Nat} {v : Value} {vs : List Value} (h : RowIs w b (v :: vs)) (hc : Chg F w w') (hn : ¬ F b) : RowIs w' b (v :: vs) := fun j u hj => by
  rw [hc.cell (p := ⟨b, j, none⟩) h.lt hn]
  exact h j u hj

theorem rowIs_new (w : World) (vs : List Value) (T : TypeId) : RowIs (w.alloc (.cells vs.toArray T)) w.heap.size vs := fun j u hj => by
  rw [World.cell?_alloc_mark]
  simpa using hj

def ints (xs : List Nat) : List Value := xs.map fun x => Value.int .i64 ((x : Nat) : Int)
def uvs (xs : List Nat) : List UInt8 := xs.flatMap uv

/-- Behind k rounds: what has been put together. -/
def AccInv (w : World) (pre : List UInt8) (v : Value) (wr : World) : Prop :=
  ∃ F, OwnB wr F v pre ∧ (∀ k, F k → w.heap.size ≤ k ∧ k < wr.heap.size) ∧ Below w.heap.size w wr

theorem AccInv.start (w : World) : AccInv w [] (.slice none 0 0) w := ⟨fun _ => False, OwnB.nil _ _, fun _ h => h.elim, Below.refl _ _⟩

theorem uvs_take_succ {xs : List Nat} {k x : Nat} (h : xs[k]? = some x) : uvs (xs.take (k + 1)) = uvs (xs.take k) ++ uv x := by
  obtain ⟨hk, rfl⟩ := List.getElem?_eq_some_iff.1 h
  unfold uvs
  rw [List.take_succ_eq_append_getElem hk, List.flatMap_append]
  simp

theorem uvs_le (xs : List Nat) (h : ∀ x ∈ xs, x ≤ 9223372036854775807) : (uvs xs).length ≤ 10 * xs.length := by
  induction xs with
  | nil => simp [uvs]
  | cons x xs ih =>
    have h1 := uv_length_le 10 x (by have := h x (by simp); omega) (by omega)
    have h2 := ih fun y hy => h y (by simp [hy])
    simp [uvs] at h2 ⊢
    omega

end Go.Proofs.YtemmhlibbihjmaaGreat
