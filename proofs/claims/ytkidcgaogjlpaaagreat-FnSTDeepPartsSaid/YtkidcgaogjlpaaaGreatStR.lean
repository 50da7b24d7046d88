/- laws.stRows, laws.stSome. -/
import Derived.Test.YtkidcgaogjlpaaaGreatStF
import Derived.Test.YtkidcgaogjlpaaaGreatNumD
import Derived.Laws.MakeOwn
import Derived.Deep.DeepCutAuto
namespace Go.Proofs.YtkidcgaogjlpaaaGreat
open Go.RowKit
set_option linter.unusedVariables false
set_option linter.unusedSimpArgs false

/-- A slice of byte strings that lie in certain blocks. -/
def ListD (w : World) (D : Nat → Prop) (v : Value) (l : List (List UInt8)) : Prop :=
  ∃ (p : Option Addr) (c : Nat) (xs : List Value), v = .slice p l.length c ∧ l.length ≤ c ∧ Reads w xs l ∧ (l ≠ [] → ∃ g o : Nat, p = some ⟨g, o, none⟩ ∧ ∀ (j : Nat) (x : Value), xs[j]? = some x → w.cell? ⟨g, o + j, none⟩ = some x) ∧
    ∀ (j : Nat) (x : Value) (s : List UInt8), xs[j]? = some x → l[j]? = some s → s ≠ [] → ∀ g, x.ownBlock = some g → D g
theorem ListD.list {w : World} {D : Nat → Prop} {v : Value} {l : List (List UInt8)} (h : ListD w D v l) : ListAt w v l := by
  obtain ⟨p, c, xs, h1, h2, h3, h4, -⟩ := h
  exact ⟨p, c, xs, h1, h2, h3, h4⟩
theorem ListAt.d {w : World} {v : Value} {l : List (List UInt8)} (h : ListAt w v l) : ListD w (fun _ => True) v l := by
  obtain ⟨p, c, xs, h1, h2, h3, h4⟩ := h
  exact ⟨p, c, xs, h1, h2, h3, h4, fun _ _ _ _ _ _ _ _ => trivial⟩
theorem ListD.below {w w' : World} {D : Nat → Prop} {v : Value} {l : List (List UInt8)} (h : ListD w D v l) (hb : Below w.heap.size w w') : ListD w' D v l := by
  obtain ⟨p, c, xs, rfl, hc, hr, hx, hd⟩ := h
  refine ⟨p, c, xs, rfl, hc, hr.below hb, fun hn => ?_, hd⟩
  obtain ⟨g, o, rfl, hx2⟩ := hx hn
  exact ⟨g, o, rfl, fun j x hj => by have := hx2 j x hj; rw [hb.cell (World.block_lt_of_cell? _ _ this)]; exact this⟩
theorem ListD.row {w : World} {D : Nat → Prop} {p : Option Addr} {n c : Nat} {l : List (List UInt8)} (h : ListD w D (.slice p n c) l) {i : Nat} {s : List UInt8} (hi : l[i]? = some s) :
    ∃ (g o : Nat) (x : Value), p = some ⟨g, o, none⟩ ∧ n = l.length ∧ i < n ∧ n ≤ c ∧ w.cell? ⟨g, o + i, none⟩ = some x ∧ BytesX w x s ∧ (s ≠ [] → ∀ k, x.ownBlock = some k → D k ∧ k < w.heap.size) := by
  obtain ⟨p', c', xs, he, hc, hr, hx, hd⟩ := h
  obtain ⟨rfl, rfl, rfl⟩ : p = p' ∧ n = l.length ∧ c = c' := by simpa using he
  obtain ⟨hil, -⟩ := List.getElem?_eq_some_iff.1 hi
  obtain ⟨g, o, rfl, hx2⟩ := hx (by rintro rfl; simp at hi)
  obtain ⟨x, hxs⟩ : ∃ x, xs[i]? = some x := ⟨_, List.getElem?_eq_getElem (by rw [hr.1]; exact hil)⟩
  refine ⟨g, o, x, rfl, rfl, hil, hc, hx2 i x hxs, hr.2 i x s hxs hi, fun hn k hk => ⟨hd i x s hxs hi hn k hk, ?_⟩⟩
  rcases hr.2 i x s hxs hi with h | ⟨rfl, -⟩
  · exact h.lt hn k hk
  · exact absurd rfl hn

/-- A list of the call's own of byte strings, each new or in certain blocks. -/
def RowsO (w : World) (D : Nat → Prop) (l : List (List UInt8)) (v : Value) (wr : World) : Prop :=
  ∃ (Fo : Nat → Prop) (xs : List Value), OwnR wr Fo 34 1 v l.length xs ∧ (∀ (j : Nat) (x : Value) (s : List UInt8), xs[j]? = some x → l[j]? = some s → BytesX wr x s ∧ ∀ g, s ≠ [] → x.ownBlock = some g → (¬ Fo g ∧ g < wr.heap.size) ∧ ((D g ∧ g < w.heap.size) ∨ w.heap.size ≤ g)) ∧
    (∀ k, Fo k → w.heap.size ≤ k ∧ k < wr.heap.size) ∧ Below w.heap.size w wr
theorem RowsO.start (w : World) (D : Nat → Prop) : RowsO w D [] (.slice none 0 0) w := ⟨fun _ => False, [], OwnR.nil _ _ _ _, fun j x s h => by simp at h, fun _ h => h.elim, Below.refl _ _⟩
theorem RowsO.below {w wr : World} {D : Nat → Prop} {l : List (List UInt8)} {v : Value} (h : RowsO w D l v wr) : Below w.heap.size w wr := by obtain ⟨_, _, _, _, _, h⟩ := h; exact h
theorem RowsO.slice {w wr : World} {D : Nat → Prop} {l : List (List UInt8)} {v : Value} (h : RowsO w D l v wr) : ∃ p c, v = .slice p l.length c := by
  obtain ⟨Fo, xs, h1, -⟩ := h
  exact h1.slice
theorem RowsO.keep {w wr w' : World} {D : Nat → Prop} {l : List (List UInt8)} {v : Value} (h : RowsO w D l v wr) (hb : Below wr.heap.size wr w') : RowsO w D l v w' := by
  obtain ⟨Fo, xs, h1, h2, h3, h4⟩ := h
  have := hb.size
  exact ⟨Fo, xs, h1.keep hb, fun j x s hx hs => ⟨(h2 j x s hx hs).1.below hb, fun g hn hg => ⟨⟨((h2 j x s hx hs).2 g hn hg).1.1, by have := ((h2 j x s hx hs).2 g hn hg).1.2; omega⟩, ((h2 j x s hx hs).2 g hn hg).2⟩⟩, fun k hk => ⟨(h3 k hk).1, by have := (h3 k hk).2; omega⟩, h4.trans (hb.mono h4.size)⟩
/-- More are appended. -/
theorem RowsO.more {w w0 wr : World} {D : Nat → Prop} {l m : List (List UInt8)} {v : Value} {ys : List Value} (h : RowsO w D l v w0) (hb0 : Below w0.heap.size w0 wr) (hyl : ys.length = m.length)
    (hy : ∀ (j : Nat) (x : Value) (s : List UInt8), ys[j]? = some x → m[j]? = some s → BytesX wr x s ∧ ∀ g, s ≠ [] → x.ownBlock = some g → (((D g ∧ g < w.heap.size) ∨ w0.heap.size ≤ g) ∧ g < wr.heap.size)) :
    ∃ Fo xs, (∀ k, Fo k → w.heap.size ≤ k ∧ k < w0.heap.size) ∧ OwnR wr Fo 34 1 v l.length xs ∧ ∀ W p c w5 F5, Below wr.heap.size wr W → OwnR w5 F5 34 1 (.slice p (l.length + m.length) c) (l.length + m.length) (xs ++ ys) → Upd W w5 Fo F5 → RowsO w D (l ++ m) (.slice p (l.length + m.length) c) w5 := by
  obtain ⟨Fo, xs, g1, g2, g3, g4⟩ := h
  have hsz := hb0.size
  have h1 := g1.keep hb0
  have hw : Below w.heap.size w wr := g4.trans (hb0.mono g4.size)
  refine ⟨Fo, xs, g3, h1, fun W p c w5 F5 hW hown hu => ⟨F5, xs ++ ys, by simpa using hown, fun j y t hyj ht => ?_, fun k hk => ?_, ?_⟩⟩
  · have hu2 := ((Upd.refl Fo wr).below hW).trans hu
    have hxl : xs.length = l.length := by simpa using h1.1.1
    have hkeep : ∀ (y : Value) (t : List UInt8), BytesX wr y t → (∀ g, t ≠ [] → y.ownBlock = some g → (¬ Fo g ∧ g < wr.heap.size) ∧ ((D g ∧ g < w.heap.size) ∨ w.heap.size ≤ g)) → BytesX w5 y t ∧ ∀ g, t ≠ [] → y.ownBlock = some g → (¬ F5 g ∧ g < w5.heap.size) ∧ ((D g ∧ g < w.heap.size) ∨ w.heap.size ≤ g) := fun y t hy hg => by
      refine ⟨hy.keep' fun hn g hgy => hu2.chg.block g (hg g hn hgy).1.2 (hg g hn hgy).1.1, fun g hn hgy => ⟨⟨fun e => ?_, by have := (hg g hn hgy).1.2; have := hu2.chg.size; omega⟩, (hg g hn hgy).2⟩⟩
      rcases hu2.new g e with h | h
      · exact (hg g hn hgy).1.1 h
      · have := (hg g hn hgy).1.2; omega
    by_cases hj : j < l.length
    · rw [List.getElem?_append_left (by omega)] at hyj
      rw [List.getElem?_append_left hj] at ht
      obtain ⟨a, b⟩ := g2 j y t hyj ht
      exact hkeep y t (a.below hb0) fun g hn hgy => ⟨⟨(b g hn hgy).1.1, by have := (b g hn hgy).1.2; omega⟩, (b g hn hgy).2⟩
    · rw [List.getElem?_append_right (by omega)] at hyj ht
      rw [hxl] at hyj
      obtain ⟨a, b⟩ := hy _ y t hyj ht
      refine hkeep y t a fun g hn hgy => ⟨⟨fun e => ?_, (b g hn hgy).2⟩, ?_⟩
      · have := g3 g e
        rcases (b g hn hgy).1 with h | h <;> omega
      · rcases (b g hn hgy).1 with h | h
        · exact .inl h
        · have := g4.size; exact .inr (by omega)
  · have hu2 := ((Upd.refl Fo wr).below hW).trans hu
    rcases hu2.new k hk with h | h
    · exact ⟨(g3 k h).1, by have := (g3 k h).2; have := hu2.chg.size; omega⟩
    · have := hw.size; exact ⟨by omega, h.2⟩
  · have hu2 := ((Upd.refl Fo wr).below hW).trans hu
    exact hw.trans (hu2.chg.below hw.size fun k hk => (g3 k hk).1)
theorem RowsO.list {w wr : World} {D : Nat → Prop} {l : List (List UInt8)} {v : Value} (h : RowsO w D l v wr) : ListAt wr v l := by
  obtain ⟨Fo, xs, h1, h2, h3, h4⟩ := h
  have hxl : xs.length = l.length := by simpa using h1.1.1
  rcases h1.cells with ⟨rfl, rfl⟩ | ⟨g, cap, rfl, hc, hg, hlt, hx⟩
  · obtain rfl : l = [] := List.length_eq_zero_iff.1 (by simpa using hxl.symm)
    exact ⟨none, 0, [], rfl, Nat.zero_le _, ⟨rfl, fun i x s h => by simp at h⟩, fun h => absurd rfl h⟩
  · exact ⟨_, cap, xs, rfl, hc, ⟨hxl, fun i x s hx hs => (h2 i x s hx hs).1⟩, fun _ => ⟨g, 0, rfl, fun j x hj => by rw [Nat.zero_add]; exact (hx j x hj).1⟩⟩
/-- The list's own cells, as the source of an append. -/
theorem RowsO.src {w wr : World} {D : Nat → Prop} {l : List (List UInt8)} {v : Value} (h : RowsO w D l v wr) :
    ∃ ys, ys.length = l.length ∧ Src Tryz.prog 1 31 v l.length ys wr ∧ ∀ (j : Nat) (x : Value) (s : List UInt8), ys[j]? = some x → l[j]? = some s → BytesX wr x s ∧ ∀ g, s ≠ [] → x.ownBlock = some g → g < wr.heap.size ∧ ((D g ∧ g < w.heap.size) ∨ w.heap.size ≤ g) := by
  obtain ⟨Fo, xs, h1, h2, h3, h4⟩ := h
  have hxl : xs.length = l.length := by simpa using h1.1.1
  refine ⟨xs, hxl, ?_, fun j x s hx hs => ⟨(h2 j x s hx hs).1, fun g hn hg => ⟨((h2 j x s hx hs).2 g hn hg).1.2, ((h2 j x s hx hs).2 g hn hg).2⟩⟩⟩
  rcases h1.cells with ⟨rfl, rfl⟩ | ⟨g, cap, rfl, hc, hg, hlt, hx⟩
  · rw [← hxl]
    exact Src.ofNil _ elemL.under 0
  · refine Src.ofSlice wr elemL.under ⟨g, 0, none⟩ l.length cap xs (by omega) (fun j u hu => by rw [Addr.add_mid, Nat.zero_add]; exact (hx j u hu).1) fun u hu => ?_
    obtain ⟨j, hj, rfl⟩ := List.getElem_of_mem hu
    obtain ⟨p, c, he⟩ := ((h2 j xs[j] l[j] (List.getElem?_eq_getElem hj) (List.getElem?_eq_getElem (by omega))).1).slice
    rw [he]; rfl

/-- What becomes of a row. -/
def rowK : Option Nat → List UInt8 → List UInt8
  | none, b => b.take 200
  | some n, b => (b.take 200).take n ++ List.replicate (n - (b.take 200).length) 0
def rowsK (N : Option Nat) (l : List (List UInt8)) : List (List UInt8) := (l.take 40).map (rowK N)
theorem rowK_good (N : Option Nat) (b : List UInt8) : goodK N (rowK N b) := by
  cases N with
  | none => trivial
  | some n =>
    show ((b.take 200).take n ++ List.replicate (n - (b.take 200).length) 0).length = n
    simp only [List.length_append, List.length_take, List.length_replicate]
    omega
theorem rowK_le (N : Option Nat) (b : List UInt8) (hN : ∀ n, N = some n → n ≤ 512) : (rowK N b).length ≤ 512 := by
  cases N with
  | none => simp [rowK]; omega
  | some n =>
    have h := rowK_good (some n) b
    have : (rowK (some n) b).length = n := h
    have := hN n rfl
    omega
theorem rowsK_snoc {N : Option Nat} {l : List (List UInt8)} {i : Nat} {s : List UInt8} (h : l[i]? = some s) (hi : i < 40) : rowsK N (l.take (i + 1)) = rowsK N (l.take i) ++ [rowK N s] := by
  unfold rowsK
  rw [List.take_take, List.take_take, Nat.min_eq_right (by omega), Nat.min_eq_right (by omega), take_snoc h, List.map_append]
  rfl
theorem rowsK_len (N : Option Nat) (l : List (List UInt8)) (i : Nat) (hi : i ≤ l.length) (h40 : i ≤ 40) : (rowsK N (l.take i)).length = i := by
  unfold rowsK
  rw [List.length_map, List.length_take, List.length_take]
  omega
theorem rowsK_all (N : Option Nat) (l : List (List UInt8)) : rowsK N (l.take 40) = rowsK N l := by
  unfold rowsK
  rw [List.take_take, Nat.min_self]
/-- The first of them. -/
theorem BytesX.cut {w : World} {p : Option Addr} {c : Nat} {b : List UInt8} (h : BytesX w (.slice p b.length c) b) (m : Nat) (hm : m ≤ b.length) : BytesX w (.slice p m c) (b.take m) := by
  rcases h with (⟨h1, rfl⟩ | ⟨g, off, cap, h1, hc, hx⟩) | ⟨rfl, a, h1⟩
  · obtain rfl : m = 0 := by simpa using hm
    exact .inl (.inl ⟨h1, by simp⟩)
  · obtain ⟨rfl, -, rfl⟩ : p = some ⟨g, off, none⟩ ∧ b.length = b.length ∧ c = cap := by simpa using h1
    exact .inl (.inr ⟨g, off, c, by simp [Nat.min_eq_left hm], by simp; omega, fun j hj => by
      have hj2 : j < b.length := by simp at hj; omega
      rw [hx j hj2]; simp⟩)
  · obtain rfl : m = 0 := by simpa using hm
    exact .inr ⟨by simp, a, h1⟩
theorem BytesX.cap {w : World} {p : Option Addr} {c : Nat} {b : List UInt8} (h : BytesX w (.slice p b.length c) b) : b.length ≤ c := by
  rcases h with (⟨h1, rfl⟩ | ⟨g, off, cap, h1, hc, hx⟩) | ⟨rfl, a, h1⟩
  · simp
  · obtain ⟨-, -, rfl⟩ : p = some ⟨g, off, none⟩ ∧ b.length = b.length ∧ c = cap := by simpa using h1
    exact hc
  · simp
set_option maxRecDepth 100000 in
theorem run_makeN (n : Nat) (hn : n ≤ 1000000) (w : World) : (Instr.makeSlice 34 (.int .i64 n) (.int .i64 n)).run Tryz.prog w = .ok (.slice (some ⟨w.heap.size, 0, none⟩) n n) (w.alloc (.cells (u8s (List.replicate n 0)).toArray 5)) := by
  obtain ⟨i0, z, hi, hz0, hz1, hz2, hz3⟩ := elemB.info
  obtain rfl : z = .int .u8 0 := by have := zeroB2 i0 hi; rw [hz0] at this; exact Option.some.inj this
  have h := run_make (P := Tryz.prog) w 34 5 i0 _ Tryz.underlying34 hi hz0 .i64 .i64 n n (by omega) (Int.le_refl _) (by rw [hz2]; omega) (by omega)
  rw [h]
  simp only [Int.toNat_natCast, hz1]
  congr 3
  apply Array.ext'
  apply List.ext_getElem
  · simp [madeCells]
  · intro i h1 h2
    simp [madeCells, u8s, Value.cells, Nat.mod_one]
/-- A row is laid over zeros. -/
theorem fixed_bytes {w : World} {g n : Nat} {b : List UInt8} (h : w.heap[g]? = some (.cells (splice (u8s (List.replicate n 0)) 0 (u8s ((b.take 200).take n))).toArray 5 (0, 0))) : BytesAt w (.slice (some ⟨g, 0, none⟩) n n) (rowK (some n) b) := by
  have hl : (rowK (some n) b).length = n := rowK_good (some n) b
  have e : splice (u8s (List.replicate n 0)) 0 (u8s ((b.take 200).take n)) = u8s (rowK (some n) b) := by
    unfold splice rowK
    rw [u8s_append]
    simp only [List.take_zero, List.nil_append, Nat.zero_add, u8s_length]
    congr 1
    unfold u8s
    rw [← List.map_drop, List.drop_replicate]
    congr 2
    simp only [List.length_take]
    omega
  rw [e] at h
  refine .inr ⟨g, 0, n, by rw [hl], by rw [hl]; exact Nat.le_refl _, fun j hj => ?_⟩
  rw [Nat.zero_add, cell_of_row _ _ j _ _ _ h]
  simp [u8s, hj]

set_option maxRecDepth 100000 in
set_option maxHeartbeats 1000000 in
theorem stRowsV (w : World) (K S : Nat) (hK : K < 12) (hN : ∀ n, kN K S = some n → n ≤ 512) (D : Nat → Prop) (v : Value) (l : List (List UInt8)) (h : ListD w D v l) (hl : l.length ≤ 140737488355328) :
    Calls Tryz.prog 23 #[.agg #[.int .i64 K, .int .i64 S], v] w fun e w' => ∃ x, e = .returned x ∧ RowsO w D (rowsK (kN K S) l) x w' := by
  obtain ⟨p, c, rfl, hlc⟩ := h.list.slice
  obtain ⟨N, hNe⟩ : ∃ N, N = kN K S := ⟨_, rfl⟩
  rw [← hNe] at hN ⊢
  have HL := Lib.hid h
  obtain ⟨W1, hW1⟩ : ∃ W1, W1 = w.alloc (.cells #[.int .i64 K, .int .i64 S] 23) := ⟨_, rfl⟩
  have hb1 : Below w.heap.size w W1 := by rw [hW1]; exact (Below.refl _ w).alloc (Nat.le_refl _) _
  have hst := stSizeV W1 K S hK
  rw [← hNe, hW1] at hst
  have HST := Lib.hid hst
  have HB1 := Lib.hid hb1
  have HW1 := Lib.hid hW1
  have HN := Lib.hid hN
  clear h hst hb1 hN hNe hW1
  obtain ⟨zn, hzn⟩ : ∃ zn, zn = sizeK N := ⟨_, rfl⟩
  rw [← hzn] at HST
  have HZN := Lib.hid hzn
  clear hzn
  go_enter Tryz.func23, Tryz.ntmps23
  go_wp2_with fail
  refine HST.out.mono ?_
  rintro e w2 ⟨rfl, hb2⟩
  rw [← HW1.out] at hb2
  have HB2 := Lib.hid (HB1.out.trans (hb2.mono HB1.out.size))
  clear hb2 HST
  go_wp2_with fail
  go_loopw [5, 7] (fun vo vi wr => ∃ i : Nat, i ≤ l.length ∧ i ≤ 40 ∧ vi = .int .i64 i ∧ RowsO w D (rowsK N (l.take i)) vo wr) (fun _ vi _ => 40 - (intOf vi).toNat)
  case atStart =>
    refine ⟨0, Nat.zero_le _, Nat.zero_le _, rfl, ?_⟩
    exact (RowsO.start w D).keep HB2.out
  case round =>
    obtain ⟨i, hi, hi40, rfl, hR⟩ := hrel
    have hll := rowsK_len N l i hi hi40
    obtain ⟨po, co, rfl⟩ := hR.slice
    have HR := Lib.hid hR
    rw [hll]
    clear hR
    by_cases hlt : i < l.length
    · by_cases hlt40 : i < 40
      · have hltI : (i : Int) < (l.length : Int) := by omega
        have h40I : (i : Int) < 40 := by omega
        obtain ⟨s, hsi⟩ : ∃ s, l[i]? = some s := ⟨_, List.getElem?_eq_getElem hlt⟩
        obtain ⟨g, o, x, rfl, -, -, -, hcx, hbx, hbd⟩ := (HL.out.below HR.out.below).row hsi
        have hbd0 : s ≠ [] → ∀ k, x.ownBlock = some k → D k ∧ k < w.heap.size := fun hn k hk => by
          obtain ⟨g', o', x', he, -, -, -, hc', -, hd'⟩ := HL.out.row hsi
          have hcell : wr.cell? ⟨g', o' + i, none⟩ = some x' := by rw [HR.out.below.cell (World.block_lt_of_cell? _ _ hc')]; exact hc'
          obtain ⟨rfl, rfl⟩ : g = g' ∧ o = o' := by simpa using he
          rw [hcx] at hcell
          obtain rfl := Option.some.inj hcell
          exact hd' hn k hk
        obtain ⟨px, cx, rfl⟩ := hbx.slice
        have hcap := hbx.cap
        have HSN := Lib.hid (rowsK_snoc (N := N) hsi hlt40)
        have HBX := Lib.hid hbx
        have HBD := Lib.hid hbd0
        clear hbx hbd hbd0 hsi
        cases N with
        | none =>
          by_cases h200 : 200 < s.length
          · have h200I : (200 : Int) < (s.length : Int) := by omega
            have hc200 : (200 : Int) ≤ (cx : Int) := by omega
            have HCUT : Hid (BytesX wr (.slice px 200 cx) (s.take 200)) := Lib.hid (by exact HBX.out.cut 200 (by omega))
            have hneg : ¬ (0 : Int) ≤ zn := by rw [HZN.out]; decide
            obtain ⟨Fo, xs, -, hown, hmore⟩ := HR.out.more (m := [rowK none s]) (ys := [.slice px 200 cx]) (Below.refl _ wr) rfl (fun j y t hy ht => by
              cases j with
              | zero =>
                obtain rfl : Value.slice px 200 cx = y := by simpa using hy
                obtain rfl : rowK none s = t := by simpa using ht
                refine ⟨HCUT.out, fun k hn hk => ?_⟩
                have hs0 : s ≠ [] := by rintro rfl; exact hn rfl
                have h := HBD.out hs0 k (by cases px <;> exact hk)
                exact ⟨.inl h, by have := HR.out.below.size; omega⟩
              | succ j => simp at hy)
            rw [hll] at hown hmore
            have HOWN := Lib.hid (hown.keep ((Below.refl _ wr).alloc (Nat.le_refl _) (.cells #[.slice px 200 cx] 34)))
            have HMORE := Lib.hid hmore
            have HSR := Lib.hid (src_new elemL wr.heap.size [.slice px 200 cx] _ (heap_alloc_new wr (.cells #[.slice px 200 cx] 34)) rfl (by simp [Value.oneCell']) 1)
            clear hown hmore
            go_wp2_with (at_builtin; refine append_rows elemL _ Fo i 1 xs _ rfl _ _ _ rfl _ rfl HOWN.out _ rfl HSR.out (by omega) (by omega) ?_; intro p5 c5 w5 F5 hown5 hu5)
            go_roundw
            case rel => exact ⟨i + 1, hlt, hlt40, by go_num, by rw [HSN.out]; exact HMORE.out _ _ _ _ _ ((Below.refl _ wr).alloc (Nat.le_refl _) _) hown5 hu5⟩
            case measure => simp [intOf]; omega
          · have h200I : ¬ (200 : Int) < (s.length : Int) := by omega
            have HCUT : Hid (BytesX wr (.slice px s.length cx) (s.take 200)) := Lib.hid (by rw [List.take_of_length_le (by omega)]; exact HBX.out)
            have hneg : ¬ (0 : Int) ≤ zn := by rw [HZN.out]; decide
            obtain ⟨Fo, xs, -, hown, hmore⟩ := HR.out.more (m := [rowK none s]) (ys := [.slice px s.length cx]) (Below.refl _ wr) rfl (fun j y t hy ht => by
              cases j with
              | zero =>
                obtain rfl : Value.slice px s.length cx = y := by simpa using hy
                obtain rfl : rowK none s = t := by simpa using ht
                refine ⟨HCUT.out, fun k hn hk => ?_⟩
                have hs0 : s ≠ [] := by rintro rfl; exact hn rfl
                have h := HBD.out hs0 k (by cases px <;> exact hk)
                exact ⟨.inl h, by have := HR.out.below.size; omega⟩
              | succ j => simp at hy)
            rw [hll] at hown hmore
            have HOWN := Lib.hid (hown.keep ((Below.refl _ wr).alloc (Nat.le_refl _) (.cells #[.slice px s.length cx] 34)))
            have HMORE := Lib.hid hmore
            have HSR := Lib.hid (src_new elemL wr.heap.size [.slice px s.length cx] _ (heap_alloc_new wr (.cells #[.slice px s.length cx] 34)) rfl (by simp [Value.oneCell']) 1)
            clear hown hmore
            go_wp2_with (at_builtin; refine append_rows elemL _ Fo i 1 xs _ rfl _ _ _ rfl _ rfl HOWN.out _ rfl HSR.out (by omega) (by omega) ?_; intro p5 c5 w5 F5 hown5 hu5)
            go_roundw
            case rel => exact ⟨i + 1, hlt, hlt40, by go_num, by rw [HSN.out]; exact HMORE.out _ _ _ _ _ ((Below.refl _ wr).alloc (Nat.le_refl _) _) hown5 hu5⟩
            case measure => simp [intOf]; omega
        | some n =>
          by_cases h200 : 200 < s.length
          · have h200I : (200 : Int) < (s.length : Int) := by omega
            have hc200 : (200 : Int) ≤ (cx : Int) := by omega
            have HCUT : Hid (BytesX wr (.slice px 200 cx) (s.take 200)) := Lib.hid (by exact HBX.out.cut 200 (by omega))
            obtain rfl : zn = (n : Int) := HZN.out
            have hn0 : (0 : Int) ≤ (n : Int) := by omega
            have hn512 := HN.out n rfl
            have hmk := run_makeN n (by omega)
            obtain ⟨cs, hcs⟩ : ∃ cs, cs = u8s ((s.take 200).take n) := ⟨_, rfl⟩
            have hcsl : cs.length = Nat.min 200 n := by rw [hcs, u8s_length, List.length_take, List.length_take]; show min n (min 200 s.length) = min 200 n; omega
            obtain ⟨zs, hzs⟩ : ∃ zs, zs = u8s (List.replicate n 0) := ⟨_, rfl⟩
            have hzl : zs.length = n := by rw [hzs]; simp
            rw [← hzs] at hmk
            have H1 : Hid (∀ u ∈ cs, u.oneCell' = true) := Lib.hid (by rw [hcs]; exact u8s_one _)
            have HPOS : Hid (0 < cs.length → (some (⟨wr.heap.size, 0, none⟩ : Addr) = some ⟨wr.heap.size, 0, none⟩ ∧ ∃ ad, px = some ad ∧ ∀ j v, cs[j]? = some v → (wr.alloc (.cells zs.toArray 5)).cell? (ad.add j) = some v)) := Lib.hid fun hp => by
              have hsl : 0 < (s.take 200).length := by rw [hcsl] at hp; have : Nat.min 200 n ≤ 200 := Nat.min_le_left _ _; simp; omega
              obtain ⟨b, off, c9, he, -, hr⟩ := HCUT.out.range hsl
              obtain ⟨rfl, -⟩ : px = some ⟨b, off, none⟩ ∧ cx = c9 := by simp at he; exact ⟨he.1, he.2.2⟩
              refine ⟨rfl, _, rfl, fun j y hj => ?_⟩
              rw [Addr.add_mid]
              refine range_alloc hr _ j y ?_
              rw [hcs] at hj
              unfold u8s at hj ⊢
              rw [List.map_take, List.getElem?_take] at hj
              split at hj
              · exact hj
              · simp at hj
            have HCS := Lib.hid (And.intro hcs hzs)
            have HFIT : Hid (0 + cs.length ≤ zs.length) := Lib.hid (by rw [hcsl, hzl, Nat.zero_add]; exact Nat.min_le_right _ _)
            have HCL := Lib.hid hcsl
            have HSZ : Hid ((Tryz.prog.info? 5).map (·.size) = some 1) := Lib.hid (by kernel_rfl)
            have HNEW : Hid ((wr.alloc (.cells zs.toArray 5)).heap[wr.heap.size]? = some (.cells zs.toArray 5 (0, 0))) := Lib.hid (heap_alloc_new _ _)
            clear hcs hzs hcsl hzl
            go_upto_region 12 with ((with_reducible refine wpList_copy_splice rfl (.tmp 35) (.tmp 36) 34 34 rfl 5 Tryz.underlying34 HSZ.out _ _ _ _ _ _ rfl rfl wr.heap.size 0 zs _ HNEW.out cs HCL.out HPOS.out HFIT.out H1.out wr.heap.size wr ((Below.refl _ wr).alloc (Nat.le_refl _) _) (Nat.le_refl _) ?_); intro w4 hg4 hb4)
            rw [HCS.out.1, HCS.out.2] at hg4
            have hfb := fixed_bytes hg4.out
            have hsz4 : wr.heap.size < w4.heap.size := (Array.getElem?_eq_some_iff.1 hg4.out).1
            obtain ⟨Fo, xs, -, hown, hmore⟩ := HR.out.more (m := [rowK (some n) s]) (ys := [.slice (some ⟨wr.heap.size, 0, none⟩) n n]) hb4 rfl (fun j y t hy ht => by
              cases j with
              | zero =>
                obtain rfl : Value.slice (some ⟨wr.heap.size, 0, none⟩) n n = y := by simpa using hy
                obtain rfl : rowK (some n) s = t := by simpa using ht
                refine ⟨hfb.x, fun k hn hk => ?_⟩
                obtain rfl : wr.heap.size = k := by simpa [Value.ownBlock] using hk
                exact ⟨.inr (Nat.le_refl _), hsz4⟩
              | succ j => simp at hy)
            rw [hll] at hown hmore
            have HOWN := Lib.hid (hown.keep ((Below.refl _ w4).alloc (Nat.le_refl _) (.cells #[.slice (some ⟨wr.heap.size, 0, none⟩) n n] 34)))
            have HMORE := Lib.hid hmore
            have HSR := Lib.hid (src_new elemL w4.heap.size [.slice (some ⟨wr.heap.size, 0, none⟩) n n] _ (heap_alloc_new w4 (.cells #[.slice (some ⟨wr.heap.size, 0, none⟩) n n] 34)) rfl (by simp [Value.oneCell']) 1)
            clear hown hmore hg4 hfb hb4
            go_wp2_with (at_builtin; refine append_rows elemL _ Fo i 1 xs _ rfl _ _ _ rfl _ rfl HOWN.out _ rfl HSR.out (by omega) (by omega) ?_; intro p5 c5 w5 F5 hown5 hu5)
            go_roundw
            case rel => exact ⟨i + 1, hlt, hlt40, by go_num, by rw [HSN.out]; exact HMORE.out _ _ _ _ _ ((Below.refl _ w4).alloc (Nat.le_refl _) _) hown5 hu5⟩
            case measure => simp [intOf]; omega
          · have h200I : ¬ (200 : Int) < (s.length : Int) := by omega
            have HCUT : Hid (BytesX wr (.slice px s.length cx) (s.take 200)) := Lib.hid (by rw [List.take_of_length_le (by omega)]; exact HBX.out)
            obtain rfl : zn = (n : Int) := HZN.out
            have hn0 : (0 : Int) ≤ (n : Int) := by omega
            have hn512 := HN.out n rfl
            have hmk := run_makeN n (by omega)
            obtain ⟨cs, hcs⟩ : ∃ cs, cs = u8s ((s.take 200).take n) := ⟨_, rfl⟩
            have hcsl : cs.length = Nat.min s.length n := by rw [hcs, u8s_length, List.length_take, List.length_take]; show min n (min 200 s.length) = min s.length n; omega
            obtain ⟨zs, hzs⟩ : ∃ zs, zs = u8s (List.replicate n 0) := ⟨_, rfl⟩
            have hzl : zs.length = n := by rw [hzs]; simp
            rw [← hzs] at hmk
            have H1 : Hid (∀ u ∈ cs, u.oneCell' = true) := Lib.hid (by rw [hcs]; exact u8s_one _)
            have HPOS : Hid (0 < cs.length → (some (⟨wr.heap.size, 0, none⟩ : Addr) = some ⟨wr.heap.size, 0, none⟩ ∧ ∃ ad, px = some ad ∧ ∀ j v, cs[j]? = some v → (wr.alloc (.cells zs.toArray 5)).cell? (ad.add j) = some v)) := Lib.hid fun hp => by
              have hsl : 0 < (s.take 200).length := by rw [hcsl] at hp; have : Nat.min s.length n ≤ s.length := Nat.min_le_left _ _; simp; omega
              obtain ⟨b, off, c9, he, -, hr⟩ := HCUT.out.range hsl
              obtain ⟨rfl, -⟩ : px = some ⟨b, off, none⟩ ∧ cx = c9 := by simp at he; exact ⟨he.1, he.2.2⟩
              refine ⟨rfl, _, rfl, fun j y hj => ?_⟩
              rw [Addr.add_mid]
              refine range_alloc hr _ j y ?_
              rw [hcs] at hj
              unfold u8s at hj ⊢
              rw [List.map_take, List.getElem?_take] at hj
              split at hj
              · exact hj
              · simp at hj
            have HCS := Lib.hid (And.intro hcs hzs)
            have HFIT : Hid (0 + cs.length ≤ zs.length) := Lib.hid (by rw [hcsl, hzl, Nat.zero_add]; exact Nat.min_le_right _ _)
            have HCL := Lib.hid hcsl
            have HSZ : Hid ((Tryz.prog.info? 5).map (·.size) = some 1) := Lib.hid (by kernel_rfl)
            have HNEW : Hid ((wr.alloc (.cells zs.toArray 5)).heap[wr.heap.size]? = some (.cells zs.toArray 5 (0, 0))) := Lib.hid (heap_alloc_new _ _)
            clear hcs hzs hcsl hzl
            go_upto_region 12 with ((with_reducible refine wpList_copy_splice rfl (.tmp 35) (.tmp 36) 34 34 rfl 5 Tryz.underlying34 HSZ.out _ _ _ _ _ _ rfl rfl wr.heap.size 0 zs _ HNEW.out cs HCL.out HPOS.out HFIT.out H1.out wr.heap.size wr ((Below.refl _ wr).alloc (Nat.le_refl _) _) (Nat.le_refl _) ?_); intro w4 hg4 hb4)
            rw [HCS.out.1, HCS.out.2] at hg4
            have hfb := fixed_bytes hg4.out
            have hsz4 : wr.heap.size < w4.heap.size := (Array.getElem?_eq_some_iff.1 hg4.out).1
            obtain ⟨Fo, xs, -, hown, hmore⟩ := HR.out.more (m := [rowK (some n) s]) (ys := [.slice (some ⟨wr.heap.size, 0, none⟩) n n]) hb4 rfl (fun j y t hy ht => by
              cases j with
              | zero =>
                obtain rfl : Value.slice (some ⟨wr.heap.size, 0, none⟩) n n = y := by simpa using hy
                obtain rfl : rowK (some n) s = t := by simpa using ht
                refine ⟨hfb.x, fun k hn hk => ?_⟩
                obtain rfl : wr.heap.size = k := by simpa [Value.ownBlock] using hk
                exact ⟨.inr (Nat.le_refl _), hsz4⟩
              | succ j => simp at hy)
            rw [hll] at hown hmore
            have HOWN := Lib.hid (hown.keep ((Below.refl _ w4).alloc (Nat.le_refl _) (.cells #[.slice (some ⟨wr.heap.size, 0, none⟩) n n] 34)))
            have HMORE := Lib.hid hmore
            have HSR := Lib.hid (src_new elemL w4.heap.size [.slice (some ⟨wr.heap.size, 0, none⟩) n n] _ (heap_alloc_new w4 (.cells #[.slice (some ⟨wr.heap.size, 0, none⟩) n n] 34)) rfl (by simp [Value.oneCell']) 1)
            clear hown hmore hg4 hfb hb4
            go_wp2_with (at_builtin; refine append_rows elemL _ Fo i 1 xs _ rfl _ _ _ rfl _ rfl HOWN.out _ rfl HSR.out (by omega) (by omega) ?_; intro p5 c5 w5 F5 hown5 hu5)
            go_roundw
            case rel => exact ⟨i + 1, hlt, hlt40, by go_num, by rw [HSN.out]; exact HMORE.out _ _ _ _ _ ((Below.refl _ w4).alloc (Nat.le_refl _) _) hown5 hu5⟩
            case measure => simp [intOf]; omega
      · obtain rfl : i = 40 := by omega
        have hltI : (40 : Int) < (l.length : Int) := by omega
        go_wp2_with fail
        go_ret
        have h := HR.out
        rw [hll, rowsK_all] at h
        exact ⟨_, rfl, h⟩
    · obtain rfl : i = l.length := by omega
      have hltI : ¬ (l.length : Int) < (l.length : Int) := by omega
      go_wp2_with fail
      go_ret
      have h := HR.out
      rw [hll, List.take_length] at h
      exact ⟨_, rfl, h⟩
end Go.Proofs.YtkidcgaogjlpaaaGreat
