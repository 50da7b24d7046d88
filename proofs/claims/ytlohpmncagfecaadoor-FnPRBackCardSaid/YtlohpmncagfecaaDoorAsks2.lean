/- laws.prAsks: its loop. -/
import Derived.Test.YtlohpmncagfecaaDoorAsks1
namespace Go.Proofs.YtlohpmncagfecaaDoor
open Go.RowKit
set_option linter.unnecessarySimpa false
set_option linter.unusedVariables false
set_option linter.unusedSimpArgs false

theorem elemPrim : Elem 22 28 4 48 := elem_of (z := .agg #[.int .i64 0, .int .u64 0, .int .u64 0, .slice none 0 0]) Tryd.underlying22 (by kernel_rfl) rfl (by decide)

/-- Ahead of a round of the loop. -/
def AskInv (w wr : World) (xs : List Pr) (k : Nat) (va vw : Value) : Prop :=
  ∃ (Fa Fw : Nat → Prop) (svs : List Value), svs.length = k ∧ OwnR wr Fa 28 4 va k ((xs.take k).map askCells).flatten ∧ OwnR wr Fw 40 4 vw k (List.zipWith gtCells ((xs.take k).map gotOf) svs).flatten ∧
    (∀ (i : Nat) (x : Pr) (sv : Value), xs[i]? = some x → svs[i]? = some sv → BytesX w sv (gotOf x).s ∧ ∀ g, (gotOf x).s ≠ [] → sv.ownBlock = some g → g < w.heap.size) ∧
    (∀ j, Fa j → w.heap.size ≤ j ∧ j < wr.heap.size ∧ ¬ Fw j) ∧ (∀ j, Fw j → w.heap.size ≤ j ∧ j < wr.heap.size) ∧ Below w.heap.size w wr

theorem AskInv.start (w : World) (xs : List Pr) : AskInv w w xs 0 (.slice none 0 0) (.slice none 0 0) :=
  ⟨fun _ => False, fun _ => False, [], rfl, OwnR.nil _ _ _ _, OwnR.nil _ _ _ _, fun i x sv _ h => by simp at h, fun j h => h.elim, fun j h => h.elim, Below.refl _ _⟩

/-- Behind both appends. -/
theorem AskInv.push {w wr w1 w2 w3 w4 : World} {xs : List Pr} {k : Nat} {va' vw' : Value} {x : Pr} {sv : Value} {Fa Fw Fa' Fw' : Nat → Prop} {svs : List Value} (hx : xs[k]? = some x) (hl : svs.length = k)
    (hold : ∀ (i : Nat) (x : Pr) (sv : Value), xs[i]? = some x → svs[i]? = some sv → BytesX w sv (gotOf x).s ∧ ∀ g, (gotOf x).s ≠ [] → sv.ownBlock = some g → g < w.heap.size)
    (hsv : BytesX w sv (gotOf x).s ∧ ∀ g, (gotOf x).s ≠ [] → sv.ownBlock = some g → g < w.heap.size)
    (hFa : ∀ j, Fa j → w.heap.size ≤ j ∧ j < wr.heap.size ∧ ¬ Fw j) (hFw : ∀ j, Fw j → w.heap.size ≤ j ∧ j < wr.heap.size) (hb : Below w.heap.size w wr)
    (h1 : Below wr.heap.size wr w1) (ha : OwnR w2 Fa' 28 4 va' (k + 1) (((xs.take k).map askCells).flatten ++ askCells x)) (hua : Upd w1 w2 Fa Fa')
    (h3 : Below w2.heap.size w2 w3) (hw : OwnR w4 Fw' 40 4 vw' (k + 1) ((List.zipWith gtCells ((xs.take k).map gotOf) svs).flatten ++ gtCells (gotOf x) sv)) (huw : Upd w3 w4 Fw Fw') :
    AskInv w w4 xs (k + 1) va' vw' := by
  have htake : xs.take (k + 1) = xs.take k ++ [x] := by rw [List.take_add_one, hx]; rfl
  have hkl : k < xs.length := (List.getElem?_eq_some_iff.1 hx).1
  have s0 := hb.size
  have s1 := h1.size
  have s2 := hua.chg.size
  have s3 := h3.size
  have s4 := huw.chg.size
  have hFa' : ∀ j, Fa' j → w.heap.size ≤ j ∧ j < w2.heap.size ∧ ¬ Fw j := fun j hj => by
    rcases hua.new j hj with h | h
    · have := hFa j h; exact ⟨this.1, by omega, this.2.2⟩
    · exact ⟨by omega, h.2, fun e => by have := hFw j e; omega⟩
  refine ⟨Fa', Fw', svs ++ [sv], by simp [hl], ?_, ?_, fun i y u hy hu => ?_, fun j hj => ?_, fun j hj => ?_, ?_⟩
  · rw [htake]
    have ha4 := ha.upd ((Chg.of_below (F := Fw) h3).trans huw.chg fun _ _ h => h) fun j hj e => (hFa' j hj).2.2 e
    simpa using ha4
  · rw [htake, List.map_append, List.zipWith_append (by simp [hl]; omega)]
    simpa using hw
  · by_cases hi : i < k
    · rw [List.getElem?_append_left (by omega)] at hu
      exact hold i y u hy hu
    · have hi' : i = k := by
        have := (List.getElem?_eq_some_iff.1 hu).1
        simp at this; omega
      subst hi'
      rw [← hl] at hu
      simp at hu
      subst hu
      rw [hx] at hy
      obtain rfl := Option.some.inj hy
      exact hsv
  · have h := hFa' j hj
    refine ⟨h.1, by omega, fun e => ?_⟩
    rcases huw.new j e with h5 | h5
    · exact h.2.2 h5
    · omega
  · rcases huw.new j hj with h5 | h5
    · have := hFw j h5; omega
    · omega
  · refine hb.trans ?_
    have c1 : Below w.heap.size wr w1 := h1.mono s0
    have c2 : Below w.heap.size w1 w2 := hua.chg.below (by omega) fun j hj => (hFa j hj).1
    have c3 : Below w.heap.size w2 w3 := h3.mono (by omega)
    have c4 : Below w.heap.size w3 w4 := huw.chg.below (by omega) fun j hj => (hFw j hj).1
    exact ((c1.trans c2).trans c3).trans c4
end Go.Proofs.YtlohpmncagfecaaDoor
