/- Lists: slices that read as cells, as strings, as lists of these; slices of the call's own that are filled row by row. -/
import Derived.Test.YtgnkinhjfcbdbaaDoorOwnR
import Derived.Test.YtgnkinhjfcbdbaaDoorSp
import Derived.Test.YtgnkinhjfcbdbaaDoorBx
namespace Go.Proofs.YtgnkinhjfcbdbaaDoor
open Go.RowKit
set_option linter.unusedVariables false
set_option linter.unusedSimpArgs false

/-- A slice of n elements whose cells are these. -/
def FlatAt (w : World) (v : Value) (n : Nat) (xs : List Value) : Prop :=
  ∃ (p : Option Addr) (c : Nat), v = .slice p n c ∧ n ≤ c ∧ (xs ≠ [] → ∃ g o : Nat, p = some ⟨g, o, none⟩ ∧ ∀ (j : Nat) (x : Value), xs[j]? = some x → w.cell? ⟨g, o + j, none⟩ = some x)
theorem FlatAt.chg {w w' : World} {G : Nat → Prop} {v : Value} {n : Nat} {xs : List Value} (h : FlatAt w v n xs) (hc : Chg G w w') (hG : ∀ g, v.ownBlock = some g → ¬ G g) : FlatAt w' v n xs := by
  obtain ⟨p, c, rfl, hn, hx⟩ := h
  refine ⟨p, c, rfl, hn, fun h0 => ?_⟩
  obtain ⟨g, o, rfl, hx2⟩ := hx h0
  exact ⟨g, o, rfl, fun j x hj => by
    have h1 := hx2 j x hj
    rw [hc.cell (p := ⟨g, o + j, none⟩) (World.block_lt_of_cell? _ _ h1) (hG g rfl)]; exact h1⟩
theorem FlatAt.below {w w' : World} {v : Value} {n : Nat} {xs : List Value} (h : FlatAt w v n xs) (hb : Below w.heap.size w w') : FlatAt w' v n xs := h.chg (G := fun _ => False) (Chg.of_below hb) fun _ _ h => h
theorem FlatAt.slice {w : World} {v : Value} {n : Nat} {xs : List Value} (h : FlatAt w v n xs) : ∃ p c, v = .slice p n c ∧ n ≤ c := by
  obtain ⟨p, c, rfl, hn, -⟩ := h
  exact ⟨p, c, rfl, hn⟩
theorem FlatAt.get {w : World} {p : Option Addr} {n c : Nat} {xs : List Value} (h : FlatAt w (.slice p n c) n xs) {j : Nat} {x : Value} (hj : xs[j]? = some x) : ∃ g o : Nat, p = some ⟨g, o, none⟩ ∧ n ≤ c ∧ w.cell? ⟨g, o + j, none⟩ = some x := by
  obtain ⟨p', c', he, hn, hx⟩ := h
  obtain ⟨rfl, -, rfl⟩ : p = p' ∧ n = n ∧ c = c' := by simpa using he
  obtain ⟨g, o, rfl, hx2⟩ := hx (by rintro rfl; simp at hj)
  exact ⟨g, o, rfl, hn, hx2 j x hj⟩
theorem OwnR.flat {w : World} {F : Nat → Prop} {E : TypeId} {size n : Nat} {v : Value} {xs : List Value} (h : OwnR w F E size v n xs) : FlatAt w v n xs := by
  obtain ⟨p, c, rfl⟩ := h.slice
  rcases h.cells with ⟨h1, rfl⟩ | ⟨g, cap, h1, hn, -, -, hx⟩
  · obtain ⟨rfl, rfl, rfl⟩ : p = none ∧ n = 0 ∧ c = 0 := by simpa using h1
    exact ⟨_, _, rfl, Nat.le_refl _, fun h => absurd rfl h⟩
  · obtain ⟨rfl, -, rfl⟩ : p = some ⟨g, 0, none⟩ ∧ n = n ∧ c = cap := by simpa using h1
    exact ⟨_, _, rfl, hn, fun _ => ⟨g, 0, rfl, fun j x hj => by rw [Nat.zero_add]; exact (hx j x hj).1⟩⟩
theorem addrMid (g o j : Nat) : (⟨g, o + j, none⟩ : Addr) = (⟨g, o, none⟩ : Addr).add j := by unfold Addr.add; split <;> simp_all
/-- As what is appended. -/
theorem FlatAt.src {T E : TypeId} {size bytes : Nat} (el : Elem T E size bytes) {w : World} {v : Value} {n : Nat} {xs : List Value} (h : FlatAt w v n xs) (hl : xs.length = n * size) (h1 : ∀ u ∈ xs, u.oneCell' = true) : Src Tryd.prog size T v n xs w := by
  obtain ⟨p, c, rfl, hn, hx⟩ := h
  by_cases h0 : xs = []
  · subst h0
    have hn0 : n = 0 := by
      have h2 := el.pos
      rcases Nat.eq_zero_or_pos n with h | h
      · exact h
      · have h3 := Nat.mul_pos h h2
        simp only [List.length_nil] at hl
        omega
    subst hn0
    cases p with
    | none => exact Src.ofNil w el.under c
    | some a => exact Src.ofSlice w el.under a 0 c [] (by simp) (fun j u hj => by simp at hj) h1
  · obtain ⟨g, o, rfl, hx2⟩ := hx h0
    exact Src.ofSlice w el.under ⟨g, o, none⟩ n c xs hl (fun j u hj => addrMid g o j ▸ hx2 j u hj) h1

/-- What a function returns: a new slice. -/
def MadeF (w : World) (n : Nat) (xs : List Value) (e : Ending) (w' : World) : Prop :=
  ∃ x, e = .returned x ∧ FlatAt w' x n xs ∧ Below w.heap.size w w' ∧ ∀ g, x.ownBlock = some g → w.heap.size ≤ g ∧ g < w'.heap.size

/-- A slice of the call's own, which is filled. -/
structure Acc (w : World) (F : Nat → Prop) (E : TypeId) (size : Nat) (v : Value) (n : Nat) (xs : List Value) (wr : World) : Prop where
  own : OwnR wr F E size v n xs
  low : ∀ k, F k → w.heap.size ≤ k
  inn : In F wr
  below : Below w.heap.size w wr
theorem Acc.start (w : World) (E : TypeId) (size : Nat) : Acc w (fun _ => False) E size (.slice none 0 0) 0 [] w := ⟨OwnR.nil _ _ _ _, fun _ h => h.elim, fun _ h => h.elim, Below.refl _ _⟩
theorem Acc.slice {w : World} {F : Nat → Prop} {E : TypeId} {size : Nat} {v : Value} {n : Nat} {xs : List Value} {wr : World} (h : Acc w F E size v n xs wr) : ∃ p c, v = .slice p n c := h.own.slice
theorem Acc.keep {w : World} {F : Nat → Prop} {E : TypeId} {size : Nat} {v : Value} {n : Nat} {xs : List Value} {wr w2 : World} (h : Acc w F E size v n xs wr) (hb : Below wr.heap.size wr w2) : Acc w F E size v n xs w2 :=
  ⟨h.own.keep hb, h.low, h.inn.mono hb.size, h.below.trans (hb.mono h.below.size)⟩
theorem Acc.next {w : World} {F F5 : Nat → Prop} {E : TypeId} {size : Nat} {v v5 : Value} {n n5 : Nat} {xs xs5 : List Value} {wr w5 : World} (h : Acc w F E size v n xs wr) (hown : OwnR w5 F5 E size v5 n5 xs5) (hu : Upd wr w5 F F5) : Acc w F5 E size v5 n5 xs5 w5 :=
  ⟨hown, fun k hk => (hu.new k hk).elim (h.low k) fun x => Nat.le_trans h.below.size x.1, hu.inn h.inn, h.below.trans (hu.chg.below h.below.size h.low)⟩
theorem Acc.made {w : World} {F : Nat → Prop} {E : TypeId} {size : Nat} {v : Value} {n : Nat} {xs : List Value} {wr : World} (h : Acc w F E size v n xs wr) : MadeF w n xs (.returned v) wr :=
  ⟨v, rfl, h.own.flat, h.below, fun g hg => ⟨h.low g (h.own.2 g hg), h.own.lt g hg⟩⟩

/-- A slice of one-cell elements that stand for a list's. -/
def EachAt {α : Type} (P : World → Value → α → Prop) (w : World) (v : Value) (l : List α) : Prop := ∃ xs : List Value, xs.length = l.length ∧ FlatAt w v l.length xs ∧ ∀ (i : Nat) (x : Value) (a : α), xs[i]? = some x → l[i]? = some a → P w x a
/-- It holds on where the element's block stands. -/
def Stable {α : Type} (P : World → Value → α → Prop) : Prop := ∀ (w w' : World) (G : Nat → Prop) (x : Value) (a : α), P w x a → Chg G w w' → (∀ g, x.ownBlock = some g → ¬ G g) → P w' x a
theorem Stable.below {α : Type} {P : World → Value → α → Prop} (hP : Stable P) {w w' : World} {x : Value} {a : α} (h : P w x a) (hb : Below w.heap.size w w') : P w' x a := hP w w' (fun _ => False) x a h (Chg.of_below hb) fun _ _ h => h
theorem EachAt.below {α : Type} {P : World → Value → α → Prop} (hP : Stable P) {w w' : World} {v : Value} {l : List α} (h : EachAt P w v l) (hb : Below w.heap.size w w') : EachAt P w' v l := by
  obtain ⟨xs, h1, h2, h3⟩ := h
  exact ⟨xs, h1, h2.below hb, fun i x a hx ha => hP.below (h3 i x a hx ha) hb⟩
theorem EachAt.slice {α : Type} {P : World → Value → α → Prop} {w : World} {v : Value} {l : List α} (h : EachAt P w v l) : ∃ p c, v = .slice p l.length c ∧ l.length ≤ c := by
  obtain ⟨xs, h1, h2, -⟩ := h
  exact h2.slice
theorem EachAt.row {α : Type} {P : World → Value → α → Prop} {w : World} {p : Option Addr} {n c : Nat} {l : List α} (h : EachAt P w (.slice p n c) l) {i : Nat} {a : α} (hi : l[i]? = some a) :
    ∃ (g o : Nat) (x : Value), p = some ⟨g, o, none⟩ ∧ n = l.length ∧ i < n ∧ n ≤ c ∧ w.cell? ⟨g, o + i, none⟩ = some x ∧ P w x a := by
  obtain ⟨xs, h1, h2, h3⟩ := h
  obtain ⟨p', c', he, -⟩ := id h2
  obtain ⟨rfl, rfl, rfl⟩ : p = p' ∧ n = l.length ∧ c = c' := by simpa using he
  obtain ⟨hil, -⟩ := List.getElem?_eq_some_iff.1 hi
  have hx : xs[i]? = some xs[i] := List.getElem?_eq_getElem (by omega)
  obtain ⟨g, o, rfl, hn, hc⟩ := h2.get hx
  exact ⟨g, o, _, rfl, rfl, hil, hn, hc, h3 i _ a hx hi⟩

/-- A slice of the call's own, filled with elements that stand for a list's. -/
def AccL {α : Type} (P : World → Value → α → Prop) (w : World) (F : Nat → Prop) (E : TypeId) (v : Value) (l : List α) (wr : World) : Prop :=
  ∃ xs : List Value, xs.length = l.length ∧ Acc w F E 1 v l.length xs wr ∧ ∀ (i : Nat) (x : Value) (a : α), xs[i]? = some x → l[i]? = some a → P wr x a ∧ ∀ g, x.ownBlock = some g → g < wr.heap.size ∧ ¬ F g
theorem AccL.start {α : Type} (P : World → Value → α → Prop) (w : World) (E : TypeId) : AccL P w (fun _ => False) E (.slice none 0 0) [] w := ⟨[], rfl, Acc.start w E 1, fun i x a h => by simp at h⟩
theorem AccL.slice {α : Type} {P : World → Value → α → Prop} {w : World} {F : Nat → Prop} {E : TypeId} {v : Value} {l : List α} {wr : World} (h : AccL P w F E v l wr) : ∃ p c, v = .slice p l.length c := by
  obtain ⟨xs, -, h, -⟩ := h
  exact h.slice
theorem AccL.below {α : Type} {P : World → Value → α → Prop} {w : World} {F : Nat → Prop} {E : TypeId} {v : Value} {l : List α} {wr : World} (h : AccL P w F E v l wr) : Below w.heap.size w wr := by
  obtain ⟨xs, -, h, -⟩ := h
  exact h.below
theorem AccL.keep {α : Type} {P : World → Value → α → Prop} (hP : Stable P) {w : World} {F : Nat → Prop} {E : TypeId} {v : Value} {l : List α} {wr w2 : World} (h : AccL P w F E v l wr) (hb : Below wr.heap.size wr w2) : AccL P w F E v l w2 := by
  obtain ⟨xs, h1, h2, h3⟩ := h
  exact ⟨xs, h1, h2.keep hb, fun i x a hx ha => ⟨hP.below (h3 i x a hx ha).1 hb, fun g hg => by have := (h3 i x a hx ha).2 g hg; exact ⟨Nat.lt_of_lt_of_le this.1 hb.size, this.2⟩⟩⟩
theorem AccL.each {α : Type} {P : World → Value → α → Prop} {w : World} {F : Nat → Prop} {E : TypeId} {v : Value} {l : List α} {wr : World} (h : AccL P w F E v l wr) : EachAt P wr v l := by
  obtain ⟨xs, h1, h2, h3⟩ := h
  exact ⟨xs, h1, h2.own.flat, fun i x a hx ha => (h3 i x a hx ha).1⟩
/-- One element more: w2: behind its making; the box that append takes is laid then. -/
theorem AccL.more {α : Type} {P : World → Value → α → Prop} (hP : Stable P) {w : World} {F : Nat → Prop} {E : TypeId} {v : Value} {l : List α} {wr w2 : World} (h : AccL P w F E v l wr) (hb : Below wr.heap.size wr w2) {x : Value} {a : α} (hx : P w2 x a) (hxo : ∀ g, x.ownBlock = some g → g < w2.heap.size ∧ ¬ F g) (o : Obj) :
    ∃ xs, OwnR (w2.alloc o) F E 1 v l.length xs ∧ ∀ p c w5 F5, OwnR w5 F5 E 1 (.slice p (l.length + 1) c) (l.length + 1) (xs ++ [x]) → Upd (w2.alloc o) w5 F F5 → AccL P w F5 E (.slice p (l.length + 1) c) (l ++ [a]) w5 := by
  have hba : Below w2.heap.size w2 (w2.alloc o) := (Below.refl _ _).alloc (Nat.le_refl _) _
  obtain ⟨xs, h1, h2, h3⟩ := (h.keep hP hb).keep hP hba
  refine ⟨xs, h2.own, fun p c w5 F5 hown hu => ⟨xs ++ [x], by simp [h1], ?_, fun i y b hy hb2 => ?_⟩⟩
  · have := h2.next hown hu
    simpa using this
  · have hs := hu.chg.size
    have hsa : (w2.alloc o).heap.size = w2.heap.size + 1 := by simp
    have key : ∀ (z : Value) (d : α), P (w2.alloc o) z d → (∀ g, z.ownBlock = some g → g < (w2.alloc o).heap.size ∧ ¬ F g) → P w5 z d ∧ ∀ g, z.ownBlock = some g → g < w5.heap.size ∧ ¬ F5 g := fun z d hz hzo =>
      ⟨hP _ _ F z d hz hu.chg fun g hg => (hzo g hg).2, fun g hg => ⟨by have := (hzo g hg).1; omega, fun e => by
        rcases hu.new g e with h | h
        · exact (hzo g hg).2 h
        · have := (hzo g hg).1; omega⟩⟩
    by_cases hi : i < xs.length
    · rw [List.getElem?_append_left hi] at hy
      rw [List.getElem?_append_left (by omega)] at hb2
      have := h3 i y b hy hb2
      exact key y b this.1 this.2
    · rw [List.getElem?_append_right (by omega)] at hy hb2
      have hi0 : i - xs.length = 0 := by
        rcases Nat.lt_or_ge 0 (i - xs.length) with h | h
        · obtain ⟨m, hm⟩ : ∃ m, i - xs.length = m + 1 := ⟨i - xs.length - 1, by omega⟩
          rw [hm] at hy
          simp at hy
        · omega
      rw [hi0] at hy
      rw [show i - l.length = 0 by omega] at hb2
      obtain rfl : x = y := by simpa using hy
      obtain rfl : a = b := by simpa using hb2
      exact key x a (hP.below hx hba) fun g hg => ⟨by have := (hxo g hg).1; omega, (hxo g hg).2⟩
theorem AccL.inn {α : Type} {P : World → Value → α → Prop} {w : World} {F : Nat → Prop} {E : TypeId} {v : Value} {l : List α} {wr : World} (h : AccL P w F E v l wr) : In F wr ∧ ∀ k, F k → w.heap.size ≤ k := by
  obtain ⟨xs, -, h, -⟩ := h
  exact ⟨h.inn, h.low⟩

/-- A slice of strings. -/
def StrL (w : World) (v : Value) (ss : List ByteArray) : Prop := FlatAt w v ss.length (ss.map Value.string)
theorem strL_stable : Stable StrL := fun w w' G x a h hc hG => FlatAt.chg h hc hG
theorem StrL.below {w w' : World} {v : Value} {ss : List ByteArray} (h : StrL w v ss) (hb : Below w.heap.size w w') : StrL w' v ss := FlatAt.below h hb
theorem StrL.row {w : World} {p : Option Addr} {n c : Nat} {ss : List ByteArray} (h : StrL w (.slice p n c) ss) {i : Nat} {s : ByteArray} (hi : ss[i]? = some s) :
    ∃ g o : Nat, p = some ⟨g, o, none⟩ ∧ n = ss.length ∧ i < n ∧ n ≤ c ∧ w.cell? ⟨g, o + i, none⟩ = some (.string s) := by
  obtain ⟨p', c', he, hn, hx⟩ := id h
  obtain ⟨rfl, rfl, rfl⟩ : p = p' ∧ n = ss.length ∧ c = c' := by simpa using he
  obtain ⟨hil, -⟩ := List.getElem?_eq_some_iff.1 hi
  obtain ⟨g, o, rfl, hn, hc⟩ := FlatAt.get h (j := i) (x := .string s) (by simp [hi])
  exact ⟨g, o, rfl, rfl, hil, hn, hc⟩
theorem StrL.slice {w : World} {v : Value} {ss : List ByteArray} (h : StrL w v ss) : ∃ p c, v = .slice p ss.length c ∧ ss.length ≤ c := FlatAt.slice h
/-- A slice of lists of strings. -/
abbrev LstL : World → Value → List (List ByteArray) → Prop := EachAt StrL

def MadeS (w : World) (ss : List ByteArray) (e : Ending) (w' : World) : Prop :=
  ∃ x, e = .returned x ∧ StrL w' x ss ∧ Below w.heap.size w w' ∧ ∀ g, x.ownBlock = some g → w.heap.size ≤ g ∧ g < w'.heap.size
theorem elemStrs : Elem 22 9 1 16 := elem_of (z := .string ⟨#[]⟩) Tryd.underlying22 (by kernel_rfl) rfl (by decide)
theorem one_strs (ss : List ByteArray) : ∀ u ∈ ss.map Value.string, u.oneCell' = true := by
  intro u hu
  obtain ⟨s, -, rfl⟩ := List.mem_map.1 hu
  rfl
theorem StrL.src {w : World} {v : Value} {ss : List ByteArray} (h : StrL w v ss) : Src Tryd.prog 1 22 v ss.length (ss.map Value.string) w := FlatAt.src elemStrs h (by simp) (one_strs ss)
theorem takeSnoc {α : Type} {l : List α} {i : Nat} {s : α} (h : l[i]? = some s) : l.take (i + 1) = l.take i ++ [s] := by
  obtain ⟨hi, rfl⟩ := List.getElem?_eq_some_iff.1 h
  exact List.take_succ_eq_append_getElem hi
end Go.Proofs.YtgnkinhjfcbdbaaDoor
