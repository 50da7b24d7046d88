/- The state of laws.prAsks's loop. -/
import Derived.Test.YtlohpmncagfecaaDoorBackL0
namespace Go.Proofs.YtlohpmncagfecaaDoor
open Go.RowKit
set_option linter.unnecessarySimpa false
set_option linter.unusedVariables false
set_option linter.unusedSimpArgs false

def askCells (x : Pr) : List Value := [.int .i64 (askOf x).op, .int .u64 ((askOf x).u : Nat), .int .u64 0, .slice none 0 0]

theorem flatAsk : ∀ (xs : List Pr) (i j : Nat) (x : Pr), xs[i]? = some x → j < 4 → (xs.map askCells).flatten[i * 4 + j]? = (askCells x)[j]?
  | [], _, _, _, h, _ => by simp at h
  | x0 :: xs, 0, j, x, hx, hj => by
    simp at hx
    subst hx
    simp only [List.map_cons, List.flatten_cons, Nat.zero_mul, Nat.zero_add]
    rw [List.getElem?_append_left (by simpa [askCells] using hj)]
  | x0 :: xs, i + 1, j, x, hx, hj => by
    simp only [List.getElem?_cons_succ] at hx
    have ih := flatAsk xs i j x hx hj
    simp only [List.map_cons, List.flatten_cons]
    rw [List.getElem?_append_right (by simp [askCells]; omega), ← ih]
    congr 1
    simp [askCells]
    omega

/-- The values that ask, at last. -/
theorem asks_prims {w : World} {F : Nat → Prop} {v : Value} {xs : List Pr} (h : OwnR w F 28 4 v xs.length (xs.map askCells).flatten) (hs : ∀ x ∈ xs, x.s.length < 18446744073709551616) : PrimsAt w w.heap.size v (xs.map askOf) := by
  rcases h.cells with ⟨rfl, h0⟩ | ⟨gb, cap, rfl, hc, hF, hlt, hcell⟩
  · have : xs = [] := by
      cases xs with
      | nil => rfl
      | cons x xs => simp [askCells] at h0
    subst this
    exact .inl ⟨rfl, rfl⟩
  · refine .inr ⟨gb, 0, cap, by simp, by simpa using hc, hlt, fun i y hy => ?_⟩
    rw [List.getElem?_map, Option.map_eq_some_iff] at hy
    obtain ⟨x, hx, rfl⟩ := hy
    have hf := fun j hj => flatAsk xs i j x hx hj
    have hsx := hs x (List.mem_of_getElem? hx)
    rw [Nat.zero_add]
    refine ⟨.slice none 0 0, (hcell _ _ (hf 0 (by omega))).1, (hcell _ _ (hf 1 (by omega))).1, (hcell _ _ (hf 2 (by omega))).1, (hcell _ _ (hf 3 (by omega))).1, .inl (.inl ⟨rfl, rfl⟩), fun g hn hg => by simp [Value.ownBlock] at hg, ?_, by simp [askOf], by simp [askOf]⟩
    simp only [askOf]
    split <;> omega

/-- The answers that are wanted, at last. -/
theorem want_gts {w : World} {F : Nat → Prop} {v : Value} {gs : List Gt} {svs : List Value} (hl : svs.length = gs.length) (h : OwnR w F 40 4 v gs.length (List.zipWith gtCells gs svs).flatten)
    (hs : ∀ (i : Nat) (g : Gt) (sv : Value), gs[i]? = some g → svs[i]? = some sv → BytesX w sv g.s ∧ ∀ k, g.s ≠ [] → sv.ownBlock = some k → k < w.heap.size) : GtsAt w v gs := by
  rcases h.cells with ⟨rfl, h0⟩ | ⟨gb, cap, rfl, hc, hF, hlt, hcell⟩
  · have : gs = [] := by
      cases gs with
      | nil => rfl
      | cons g gs =>
        cases svs with
        | nil => simp at hl
        | cons s svs => simp [gtCells] at h0
    exact .inl ⟨⟨_, _, rfl⟩, this⟩
  · refine .inr ⟨gb, 0, cap, rfl, hc, hlt, fun i g hg => ?_⟩
    have hi : i < gs.length := (List.getElem?_eq_some_iff.1 hg).1
    obtain ⟨sv, hsv⟩ : ∃ sv, svs[i]? = some sv := ⟨_, List.getElem?_eq_getElem (by omega)⟩
    have hf := fun j hj => flat4 gs svs i j g sv hg hsv hj
    rw [Nat.zero_add]
    exact ⟨sv, (hcell _ _ (hf 0 (by omega))).1, (hcell _ _ (hf 1 (by omega))).1, (hcell _ _ (hf 2 (by omega))).1, (hcell _ _ (hf 3 (by omega))).1, (hs i g sv hg hsv).1, (hs i g sv hg hsv).2⟩
end Go.Proofs.YtlohpmncagfecaaDoor
