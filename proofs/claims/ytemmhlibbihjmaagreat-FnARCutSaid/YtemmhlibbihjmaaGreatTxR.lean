/- impl.rowsOf over a column behind the interface. -/
import Derived.Test.YtemmhlibbihjmaaGreatTxE
namespace Go.Proofs.YtemmhlibbihjmaaGreat
open Go.RowKit
set_option linter.unusedVariables false
set_option linter.unusedSimpArgs false

theorem infoL : (Tryz.prog.info? 29).map (fun i => (i.zero, i.size, i.bytes)) = some (some (.slice none 0 0), 1, 24) := by kernel_rfl
theorem elemL : Elem 55 29 1 24 := elem_of Tryz.underlying55 infoL (by rfl) (by decide)

/-- A list of byte strings of the call's own, since w. -/
def RowsI (w : World) (l : List (List UInt8)) (v : Value) (wr : World) : Prop :=
  ∃ (Fo : Nat → Prop) (xs : List Value), OwnR wr Fo 29 1 v l.length xs ∧ (∀ (j : Nat) (x : Value) (s : List UInt8), xs[j]? = some x → l[j]? = some s → BytesX wr x s ∧ ∀ g, s ≠ [] → x.ownBlock = some g → (¬ Fo g ∧ g < wr.heap.size) ∧ w.heap.size ≤ g) ∧
    (∀ k, Fo k → w.heap.size ≤ k ∧ k < wr.heap.size) ∧ Below w.heap.size w wr
def MadeL (w : World) (l : List (List UInt8)) (e : Ending) (w' : World) : Prop := ∃ v, e = .returned v ∧ RowsI w l v w'

theorem RowsI.start (w : World) : RowsI w [] (.slice none 0 0) w := ⟨fun _ => False, [], OwnR.nil _ _ _ _, fun j x s h => by simp at h, fun _ h => h.elim, Below.refl _ _⟩
theorem RowsI.keep {w wr w' : World} {l : List (List UInt8)} {v : Value} (h : RowsI w l v wr) (hb : Below wr.heap.size wr w') : RowsI w l v w' := by
  obtain ⟨Fo, xs, h1, h2, h3, h4⟩ := h
  have := hb.size
  exact ⟨Fo, xs, h1.keep hb, fun j x s hx hs => ⟨(h2 j x s hx hs).1.below hb, fun g hn hg => ⟨⟨((h2 j x s hx hs).2 g hn hg).1.1, by have := ((h2 j x s hx hs).2 g hn hg).1.2; omega⟩, ((h2 j x s hx hs).2 g hn hg).2⟩⟩, fun k hk => ⟨(h3 k hk).1, by have := (h3 k hk).2; omega⟩, h4.trans (hb.mono h4.size)⟩
theorem RowsI.slice {w wr : World} {l : List (List UInt8)} {v : Value} (h : RowsI w l v wr) : ∃ p c, v = .slice p l.length c := by
  obtain ⟨Fo, xs, h1, -⟩ := h
  exact h1.slice
/-- One more is appended. -/
theorem RowsI.next {w w0 wr : World} {l : List (List UInt8)} {v x : Value} {s : List UInt8} (h : RowsI w l v w0) (hb0 : Below w0.heap.size w0 wr) (hx : BytesX wr x s) (hg' : ∀ g, s ≠ [] → x.ownBlock = some g → w0.heap.size ≤ g ∧ g < wr.heap.size) :
    ∃ Fo xs, OwnR wr Fo 29 1 v l.length xs ∧ ∀ o p c w5 F5, OwnR w5 F5 29 1 (.slice p (l.length + 1) c) (l.length + 1) (xs ++ [x]) → Upd (wr.alloc o) w5 Fo F5 → RowsI w (l ++ [s]) (.slice p (l.length + 1) c) w5 := by
  obtain ⟨Fo, xs, g1, g2, g3, g4⟩ := h
  have hsz := hb0.size
  have h1 := g1.keep hb0
  have h2 : ∀ (j : Nat) (x : Value) (s : List UInt8), xs[j]? = some x → l[j]? = some s → BytesX wr x s ∧ ∀ g, s ≠ [] → x.ownBlock = some g → (¬ Fo g ∧ g < wr.heap.size) ∧ w.heap.size ≤ g := fun j x s hx hs => ⟨(g2 j x s hx hs).1.below hb0, fun g hn hg => ⟨⟨((g2 j x s hx hs).2 g hn hg).1.1, by have := ((g2 j x s hx hs).2 g hn hg).1.2; omega⟩, ((g2 j x s hx hs).2 g hn hg).2⟩⟩
  have h3 : ∀ k, Fo k → w.heap.size ≤ k ∧ k < wr.heap.size := fun k hk => ⟨(g3 k hk).1, by have := (g3 k hk).2; omega⟩
  have h4 : Below w.heap.size w wr := g4.trans (hb0.mono g4.size)
  have hg : ∀ g, s ≠ [] → x.ownBlock = some g → g < wr.heap.size := fun g hn hgx => (hg' g hn hgx).2
  have hg4 : ∀ g, s ≠ [] → x.ownBlock = some g → w.heap.size ≤ g := fun g hn hgx => by have := (hg' g hn hgx).1; have := g4.size; omega
  have hf : ∀ g, s ≠ [] → x.ownBlock = some g → ¬ Fo g := fun g hn hgx e => by have := (hg' g hn hgx).1; have := (g3 g e).2; omega
  refine ⟨Fo, xs, h1, fun o p c w5 F5 hown hu => ⟨F5, xs ++ [x], by simpa using hown, fun j y t hy ht => ?_, fun k hk => ?_, ?_⟩⟩
  · have hu2 := ((Upd.refl Fo wr).alloc o).trans hu
    have hxl : xs.length = l.length := by simpa using h1.1.1
    have hkeep : ∀ (y : Value) (t : List UInt8), BytesX wr y t → (∀ g, t ≠ [] → y.ownBlock = some g → (¬ Fo g ∧ g < wr.heap.size) ∧ w.heap.size ≤ g) → BytesX w5 y t ∧ ∀ g, t ≠ [] → y.ownBlock = some g → (¬ F5 g ∧ g < w5.heap.size) ∧ w.heap.size ≤ g := fun y t hy hg => by
      refine ⟨hy.keep' fun hn g hgy => hu2.chg.block g (hg g hn hgy).1.2 (hg g hn hgy).1.1, fun g hn hgy => ⟨⟨fun e => ?_, by have := (hg g hn hgy).1.2; have := hu2.chg.size; omega⟩, (hg g hn hgy).2⟩⟩
      rcases hu2.new g e with h | h
      · exact (hg g hn hgy).1.1 h
      · have := (hg g hn hgy).1.2; omega
    by_cases hj : j < l.length
    · rw [List.getElem?_append_left (by omega)] at hy
      rw [List.getElem?_append_left hj] at ht
      obtain ⟨a, b⟩ := h2 j y t hy ht
      exact hkeep y t a b
    · rw [List.getElem?_append_right (by omega)] at hy ht
      rw [hxl] at hy
      obtain ⟨hlt, rfl⟩ : j - l.length < 1 ∧ y = x := by
        cases hd : j - l.length with
        | zero => rw [hd] at hy; simp at hy; exact ⟨by omega, hy.symm⟩
        | succ m => rw [hd] at hy; simp at hy
      have hd : j - l.length = 0 := by omega
      rw [hd] at ht
      obtain rfl : t = s := by simpa using ht.symm
      exact hkeep y t hx fun g hn hgy => ⟨⟨hf g hn hgy, hg g hn hgy⟩, hg4 g hn hgy⟩
  · have := hu.chg.size
    simp at this
    rcases hu.new k hk with h | h
    · exact ⟨(h3 k h).1, by have := (h3 k h).2; omega⟩
    · have := h4.size; simp at h; exact ⟨by omega, h.2⟩
  · have hu2 := ((Upd.refl Fo wr).alloc o).trans hu
    exact h4.trans (hu2.chg.below h4.size fun k hk => (h3 k hk).1)
/-- A cell of an elder block is set. -/
theorem RowsI.setLow {w w3 wr : World} {l : List (List UInt8)} {v y : Value} {p : Addr} (h : RowsI w3 l v wr) (hp : w.heap.size ≤ p.block) (hp3 : p.block < w3.heap.size) (hs : w.heap.size ≤ w3.heap.size) (hc : Chg (fun k => w.heap.size ≤ k) w wr) : RowsI w l v (wr.setCell p y) := by
  obtain ⟨Fo, xs, h1, h2, h3, h4⟩ := h
  have hz : (wr.setCell p y).heap.size = wr.heap.size := by simp [World.setCell]
  refine ⟨Fo, xs, ⟨ownsRow_block h1.1 fun g hg => Below.heap_setCell _ _ _ _ ?_, h1.2⟩, fun j x s hx hs => ⟨(h2 j x s hx hs).1.keep' fun hn g hg => Below.heap_setCell _ _ _ _ ?_, fun g hn hg => ⟨⟨((h2 j x s hx hs).2 g hn hg).1.1, by rw [hz]; exact ((h2 j x s hx hs).2 g hn hg).1.2⟩, by have := ((h2 j x s hx hs).2 g hn hg).2; omega⟩⟩, fun k hk => ⟨by have := (h3 k hk).1; omega, by rw [hz]; exact (h3 k hk).2⟩, (hc.setCell (.inl hp) y).below (Nat.le_refl _) fun _ h => h⟩
  · have := (h3 g (h1.2 g hg)).1; omega
  · have := ((h2 j x s hx hs).2 g hn hg).2; omega
/-- It is a list of byte strings. -/
theorem RowsI.list {w wr : World} {l : List (List UInt8)} {v : Value} (h : RowsI w l v wr) : ListAt wr v l := by
  obtain ⟨Fo, xs, h1, h2, h3, h4⟩ := h
  have hxl : xs.length = l.length := by simpa using h1.1.1
  rcases h1.cells with ⟨rfl, rfl⟩ | ⟨g, cap, rfl, hc, hg, hlt, hx⟩
  · obtain rfl : l = [] := List.length_eq_zero_iff.1 (by simpa using hxl.symm)
    exact ⟨none, 0, [], rfl, Nat.zero_le _, ⟨rfl, fun i x s h => by simp at h⟩, fun h => absurd rfl h⟩
  · exact ⟨_, cap, xs, rfl, hc, ⟨hxl, fun i x s hx hs => (h2 i x s hx hs).1⟩, fun _ => ⟨g, 0, rfl, fun j x hj => by rw [Nat.zero_add]; exact (hx j x hj).1⟩⟩

end Go.Proofs.YtemmhlibbihjmaaGreat
