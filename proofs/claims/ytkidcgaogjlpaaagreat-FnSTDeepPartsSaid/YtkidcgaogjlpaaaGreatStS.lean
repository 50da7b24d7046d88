/- laws.stSome. -/
import Derived.Test.YtkidcgaogjlpaaaGreatStR
import Derived.Deep.RegionHeld3
namespace Go.Proofs.YtkidcgaogjlpaaaGreat
open Go.RowKit
set_option linter.unusedVariables false
set_option linter.unusedSimpArgs false

theorem step_append_rows {ops : Array Oper} {o : Oper} {a : Act} {K : Act → World → Prop} {Q : Exit → Act → World → Prop} {Z : Prop} {T E : TypeId} {size bytes : Nat} (el : Elem T E size bytes) (w : World) (F : Nat → Prop) (n m : Nat) (xs news : List Value) (hgd : o.guard = none) (s x : Operand) (tx : TypeId)
    (ho : o.op = .call { callee := .builtin .append, args := #[s, x], argTypes := #[T, tx] }) (v : Value) (hv : a.eval s = v) (h : OwnR w F E size v n xs) (xv : Value) (hx : a.eval x = xv) (hs : Src Tryz.prog size tx xv m news w) (hl : n + m ≤ 140737488355328) (hlb : (n + m) * bytes ≤ 140737488355328)
    (hK : ∀ p c w' F', OwnR w' F' E size (.slice p (n + m) c) (n + m) (xs ++ news) → Upd w w' F F' → K (a.put o.dst (.slice p (n + m) c)) w') : if Region.wanted o (yielded ops a.tmps) = true then Oper.wp Tryz.prog o a w K Q else Z := by
  rw [if_pos (by simp [Region.wanted, hgd])]
  exact wp_append_rows el w F n m xs news s x tx ho v hv h xv hx hs hl hlb hK
/-- A list of one byte string of one byte. -/
theorem listD_one {W : World} {b7 b8 : Nat} {y : UInt8} (h8 : W.cell? ⟨b8, 0, none⟩ = some (.slice (some ⟨b7, 0, none⟩) 1 1)) (h7 : W.cell? ⟨b7, 0, none⟩ = some (.int .u8 y.toNat)) : ListD W (fun k => k = b7) (.slice (some ⟨b8, 0, none⟩) 1 1) [[y]] := by
  refine ⟨_, 1, [.slice (some ⟨b7, 0, none⟩) 1 1], rfl, Nat.le_refl _, ⟨rfl, fun i x s hx hs => ?_⟩, fun _ => ⟨b8, 0, rfl, fun j x hj => ?_⟩, fun j x s hx hs hn g hg => ?_⟩
  · cases i with
    | zero =>
      obtain rfl : Value.slice (some ⟨b7, 0, none⟩) 1 1 = x := by simpa using hx
      obtain rfl : [y] = s := by simpa using hs
      refine .inl (.inr ⟨b7, 0, 1, rfl, Nat.le_refl _, fun j hj => ?_⟩)
      obtain rfl : j = 0 := by simp at hj; omega
      simpa using h7
    | succ i => simp at hx
  · cases j with
    | zero =>
      obtain rfl : Value.slice (some ⟨b7, 0, none⟩) 1 1 = x := by simpa using hj
      exact h8
    | succ i => simp at hj
  · cases j with
    | zero =>
      obtain rfl : Value.slice (some ⟨b7, 0, none⟩) 1 1 = x := by simpa using hx
      simpa [Value.ownBlock] using hg.symm
    | succ i => simp at hx
/-- Both lists, one behind the other. -/
theorem two_rows {w W w1 V w2 : World} {D7 : Nat → Prop} {a b : List (List UInt8)} {va vb : Value} (hw : Below w.heap.size w W) (ha : RowsO W (fun _ => True) a va w1) (hV : Below w1.heap.size w1 V) (hb : RowsO V D7 b vb w2) (h7 : ∀ k, D7 k → k < W.heap.size ∨ w1.heap.size ≤ k) :
    ∃ Fo xs ys, (∀ k, Fo k → W.heap.size ≤ k) ∧ OwnR w2 Fo 34 1 va a.length xs ∧ Src Tryz.prog 1 31 vb b.length ys w2 ∧ ∀ p c w5 F5, OwnR w5 F5 34 1 (.slice p (a.length + b.length) c) (a.length + b.length) (xs ++ ys) → Upd w2 w5 Fo F5 → ListAt w5 (.slice p (a.length + b.length) c) (a ++ b) ∧ Below w.heap.size w w5 := by
  obtain ⟨ys, hyl, hsrc, hy⟩ := hb.src
  have hsz := hV.size
  have hbb := hb.below
  obtain ⟨Fo, xs, hFo, hown, hmore⟩ := ha.more (m := b) (ys := ys) (hV.trans (hbb.mono hsz)) hyl fun j x s hx hs => ⟨(hy j x s hx hs).1, fun g hn hg => ⟨by
    obtain ⟨-, h⟩ := (hy j x s hx hs).2 g hn hg
    rcases h with ⟨h, -⟩ | h
    · rcases h7 g h with h | h
      · exact .inl ⟨trivial, h⟩
      · exact .inr h
    · exact .inr (by omega), ((hy j x s hx hs).2 g hn hg).1⟩⟩
  exact ⟨Fo, xs, ys, fun k hk => (hFo k hk).1, hown, hsrc, fun p c w5 F5 h1 h2 => by
    have h := hmore w2 p c w5 F5 (Below.refl _ _) h1 h2
    exact ⟨h.list, hw.trans (h.below.mono hw.size)⟩⟩

theorem cell_two (w : World) (o : Obj) (x : Value) (T : TypeId) : ((w.alloc o).alloc (.cells #[x] T)).drew.cell? ⟨w.heap.size + 1, 0, none⟩ = some x := by
  rw [cell_of_row _ _ 0 _ _ _ (heap_two w o (.cells #[x] T))]; rfl
theorem cell_three1 (w : World) (o : Obj) (x : Value) (T : TypeId) (o3 : Obj) : (((w.alloc o).alloc (.cells #[x] T)).alloc o3).drew.cell? ⟨w.heap.size + 1, 0, none⟩ = some x := by
  show (((w.alloc o).alloc (.cells #[x] T)).alloc o3).cell? ⟨w.heap.size + 1, 0, none⟩ = some x
  rw [World.cell?_alloc_lt _ _ _ (by simp)]
  exact cell_two w o x T
theorem cell_three2 (w : World) (o o2 : Obj) (x : Value) (T : TypeId) : (((w.alloc o).alloc o2).alloc (.cells #[x] T)).drew.cell? ⟨w.heap.size + 1 + 1, 0, none⟩ = some x := by
  have h := heap_alloc_new ((w.alloc o).alloc o2) (.cells #[x] T)
  rw [World.size_alloc, World.size_alloc] at h
  have h2 : (((w.alloc o).alloc o2).alloc (.cells #[x] T)).drew.heap[w.heap.size + 1 + 1]? = some (.cells #[x] T (0, 0)) := h
  rw [cell_of_row _ _ 0 _ _ _ h2]; rfl
theorem rowsK_le40 (N : Option Nat) (l : List (List UInt8)) : (rowsK N l).length ≤ 40 := by
  unfold rowsK
  rw [List.length_map, List.length_take]
  omega
/-- The rows that are looked at, and one more. -/
def someK (N : Option Nat) (l : List (List UInt8)) : List (List UInt8) := rowsK N l ++ rowsK N [[7]]

set_option maxRecDepth 100000 in
set_option maxHeartbeats 1000000 in
theorem stSomeV (w : World) (K S : Nat) (hK : K < 12) (hN : ∀ n, kN K S = some n → n ≤ 512) (v : Value) (l : List (List UInt8)) (h : ListAt w v l) (hl : l.length ≤ 140737488355328) :
    Calls Tryz.prog 16 #[.agg #[.int .i64 K, .int .i64 S], v] w fun e w' => ∃ x, e = .returned x ∧ ListAt w' x (someK (kN K S) l) ∧ Below w.heap.size w w' := by
  obtain ⟨p, c, rfl, hlc⟩ := h.slice
  have HSR1 : Hid (∀ W, Below w.heap.size w W → Calls Tryz.prog 23 #[.agg #[.int .i64 K, .int .i64 S], .slice p l.length c] W fun e w' => ∃ x, e = .returned x ∧ RowsO W (fun _ => True) (rowsK (kN K S) l) x w') := Lib.hid fun W hb => stRowsV W K S hK hN (fun _ => True) _ l (h.d.below hb) hl
  have HSR2 : Hid (∀ (W : World) (b7 b8 : Nat), W.cell? ⟨b8, 0, none⟩ = some (.slice (some ⟨b7, 0, none⟩) 1 1) → W.cell? ⟨b7, 0, none⟩ = some (.int .u8 7) → Calls Tryz.prog 23 #[.agg #[.int .i64 K, .int .i64 S], .slice (some ⟨b8, 0, none⟩) 1 1] W fun e w' => ∃ x, e = .returned x ∧ RowsO W (fun k => k = b7) (rowsK (kN K S) [[7]]) x w') := Lib.hid fun W b7 b8 h8 h7 => stRowsV W K S hK hN (fun k => k = b7) _ [[7]] (listD_one (y := 7) h8 h7) (by simp)
  have H40 := rowsK_le40 (kN K S) l
  have H41 := rowsK_le40 (kN K S) [[7]]
  unfold someK
  generalize rowsK (kN K S) l = L1 at HSR1 H40 ⊢
  generalize rowsK (kN K S) [[7]] = L2 at HSR2 H41 ⊢
  have HLL : Hid (L1.length + L2.length ≤ 140737488355328 ∧ (L1.length + L2.length) * 24 ≤ 140737488355328) := Lib.hid (by omega)
  clear h H40 H41 hN
  go_enter Tryz.func16, Tryz.ntmps16
  go_wp2_with fail
  go_region_held3 (fun w' => w'.cell? ⟨w.heap.size, 0, none⟩ = some (.int .i64 K) ∧ w'.cell? ⟨w.heap.size, 1, none⟩ = some (.int .i64 S)) (first | exact ⟨s0, s1⟩ | go_keep)
    (first
      | (refine step_append_rows elemL _ Fo L1.length L2.length xs ys (by rfl) _ _ _ (by rfl) _ (by rfl) hown _ (by rfl) hsrc HLL.out.1 HLL.out.2 ?_; intro p5 c5 w5 F5 h5 hu5; have s0 : w5.cell? ⟨w.heap.size, 0, none⟩ = some (.int .i64 K) := (by rw [hu5.chg.cell hlt2 hnF]; exact s0); have s1 : w5.cell? ⟨w.heap.size, 1, none⟩ = some (.int .i64 S) := (by rw [hu5.chg.cell hlt2 hnF]; exact s1))
      | (go_at_call 23; have hb1' := hb1; with_reducible refine Calls.mono (HSR2.out ((w1.alloc (.cells #[.int .u8 7] 5)).alloc (.cells #[.slice (some ⟨w1.heap.size, 0, none⟩) 1 1] 34)) (w1.heap.size) (w1.heap.size + 1) ?h8 ?h7) ?_; (case h8 => go_simp); (case h7 => go_simp); rintro e w2 ⟨x2, rfl, hR2⟩; obtain ⟨q2, c2, rfl⟩ := hR2.slice; have hb2 := hR2.below; have hV : Below w1.heap.size w1 ((w1.alloc (.cells #[.int .u8 7] 5)).alloc (.cells #[.slice (some ⟨w1.heap.size, 0, none⟩) 1 1] 34)) := ((Below.refl _ w1).alloc (Nat.le_refl _) _).alloc (by simp) _; have hb12 := hV.trans (hb2.mono hV.size); have s0 : w2.cell? ⟨w.heap.size, 0, none⟩ = some (.int .i64 K) := (by rw [hb12.cell hlt1]; exact s0); have s1 : w2.cell? ⟨w.heap.size, 1, none⟩ = some (.int .i64 S) := (by rw [hb12.cell hlt1]; exact s1); obtain ⟨Fo, xs, ys, hFo, hown, hsrc, hfin⟩ := two_rows hbw hR1 hV hR2 (fun k hk => .inr (Nat.le_of_eq hk.symm)); have hnF : ¬ Fo w.heap.size := (fun e => by have := hFo _ e; simp at this; omega); have hlt2 : w.heap.size < w2.heap.size := Nat.lt_of_lt_of_le hlt1 hb12.size)
      | (go_at_call 23; have hb1' := hb1; with_reducible refine Calls.mono (HSR2.out (w1.alloc (.cells #[.slice (some ⟨w.heap.size + 1, 0, none⟩) 1 1] 34)) (w.heap.size + 1) (w1.heap.size) ?h8 ?h7) ?_; (case h8 => go_simp); (case h7 => (rw [World.cell?_alloc_lt _ _ _ hlt7]; exact k7)); rintro e w2 ⟨x2, rfl, hR2⟩; obtain ⟨q2, c2, rfl⟩ := hR2.slice; have hb2 := hR2.below; have hV : Below w1.heap.size w1 (w1.alloc (.cells #[.slice (some ⟨w.heap.size + 1, 0, none⟩) 1 1] 34)) := ((Below.refl _ w1).alloc (Nat.le_refl _) _); have hb12 := hV.trans (hb2.mono hV.size); have s0 : w2.cell? ⟨w.heap.size, 0, none⟩ = some (.int .i64 K) := (by rw [hb12.cell hlt1]; exact s0); have s1 : w2.cell? ⟨w.heap.size, 1, none⟩ = some (.int .i64 S) := (by rw [hb12.cell hlt1]; exact s1); obtain ⟨Fo, xs, ys, hFo, hown, hsrc, hfin⟩ := two_rows hbw hR1 hV hR2 (fun k hk => .inl (by rw [hk]; simp <;> omega)); have hnF : ¬ Fo w.heap.size := (fun e => by have := hFo _ e; simp at this; omega); have hlt2 : w.heap.size < w2.heap.size := Nat.lt_of_lt_of_le hlt1 hb12.size)
      | (go_at_call 23; have hb1' := hb1; with_reducible refine Calls.mono (HSR2.out w1 (w.heap.size + 1) (w.heap.size + 1 + 1) ?h8 ?h7) ?_; (case h8 => exact k8); (case h7 => exact k7); rintro e w2 ⟨x2, rfl, hR2⟩; obtain ⟨q2, c2, rfl⟩ := hR2.slice; have hb2 := hR2.below; have hV : Below w1.heap.size w1 w1 := (Below.refl _ w1); have hb12 := hV.trans (hb2.mono hV.size); have s0 : w2.cell? ⟨w.heap.size, 0, none⟩ = some (.int .i64 K) := (by rw [hb12.cell hlt1]; exact s0); have s1 : w2.cell? ⟨w.heap.size, 1, none⟩ = some (.int .i64 S) := (by rw [hb12.cell hlt1]; exact s1); obtain ⟨Fo, xs, ys, hFo, hown, hsrc, hfin⟩ := two_rows hbw hR1 hV hR2 (fun k hk => .inl (by rw [hk]; simp <;> omega)); have hnF : ¬ Fo w.heap.size := (fun e => by have := hFo _ e; simp at this; omega); have hlt2 : w.heap.size < w2.heap.size := Nat.lt_of_lt_of_le hlt1 hb12.size)
      | (go_at_call 23; have hbw : Below w.heap.size w (w.alloc (.cells #[.int .i64 K, .int .i64 S] 23)).drew := ((Below.refl _ w).alloc (Nat.le_refl _) _).drew; with_reducible refine Calls.mono (HSR1.out _ hbw) ?_; rintro e w1 ⟨x1, rfl, hR1⟩; obtain ⟨q1, c1, rfl⟩ := hR1.slice; have hb1 := hR1.below; have hlt1 : w.heap.size < w1.heap.size := (by have := hb1.size; simp at this; omega); have s0 : w1.cell? ⟨w.heap.size, 0, none⟩ = some (.int .i64 K) := (by rw [hb1.cell (by simp <;> omega)]; go_simp); have s1 : w1.cell? ⟨w.heap.size, 1, none⟩ = some (.int .i64 S) := (by rw [hb1.cell (by simp <;> omega)]; go_simp))
      | (go_at_call 23; have hbw : Below w.heap.size w ((w.alloc (.cells #[.int .i64 K, .int .i64 S] 23)).alloc (.cells #[.int .u8 7] 5)).drew := (((Below.refl _ w).alloc (Nat.le_refl _) _).alloc (by simp) _).drew; with_reducible refine Calls.mono (HSR1.out _ hbw) ?_; rintro e w1 ⟨x1, rfl, hR1⟩; obtain ⟨q1, c1, rfl⟩ := hR1.slice; have hb1 := hR1.below; have hlt1 : w.heap.size < w1.heap.size := (by have := hb1.size; simp at this; omega); have s0 : w1.cell? ⟨w.heap.size, 0, none⟩ = some (.int .i64 K) := (by rw [hb1.cell (by simp <;> omega)]; go_simp); have s1 : w1.cell? ⟨w.heap.size, 1, none⟩ = some (.int .i64 S) := (by rw [hb1.cell (by simp <;> omega)]; go_simp); have hlt7 : w.heap.size + 1 < w1.heap.size := (by have := hb1.size; simp at this; omega); have k7 : w1.cell? ⟨w.heap.size + 1, 0, none⟩ = some (.int .u8 7) := (by rw [hb1.cell (by simp <;> omega)]; first | exact cell_two _ _ _ _ | exact cell_three1 _ _ _ _ _))
      | (go_at_call 23; have hbw : Below w.heap.size w (((w.alloc (.cells #[.int .i64 K, .int .i64 S] 23)).alloc (.cells #[.int .u8 7] 5)).alloc (.cells #[.slice (some ⟨w.heap.size + 1, 0, none⟩) 1 1] 34)).drew := ((((Below.refl _ w).alloc (Nat.le_refl _) _).alloc (by simp) _).alloc (by simp; omega) _).drew; with_reducible refine Calls.mono (HSR1.out _ hbw) ?_; rintro e w1 ⟨x1, rfl, hR1⟩; obtain ⟨q1, c1, rfl⟩ := hR1.slice; have hb1 := hR1.below; have hlt1 : w.heap.size < w1.heap.size := (by have := hb1.size; simp at this; omega); have s0 : w1.cell? ⟨w.heap.size, 0, none⟩ = some (.int .i64 K) := (by rw [hb1.cell (by simp <;> omega)]; go_simp); have s1 : w1.cell? ⟨w.heap.size, 1, none⟩ = some (.int .i64 S) := (by rw [hb1.cell (by simp <;> omega)]; go_simp); have hlt7 : w.heap.size + 1 < w1.heap.size := (by have := hb1.size; simp at this; omega); have k7 : w1.cell? ⟨w.heap.size + 1, 0, none⟩ = some (.int .u8 7) := (by rw [hb1.cell (by simp <;> omega)]; first | exact cell_two _ _ _ _ | exact cell_three1 _ _ _ _ _); have k8 : w1.cell? ⟨w.heap.size + 1 + 1, 0, none⟩ = some (.slice (some ⟨w.heap.size + 1, 0, none⟩) 1 1) := (by rw [hb1.cell (by simp <;> omega)]; exact cell_three2 _ _ _ _ _)))
  all_goals
    go_wp2_with fail
    go_ret
    exact ⟨_, rfl, (hfin _ _ _ _ h5 hu5).1, (hfin _ _ _ _ h5 hu5).2⟩
end Go.Proofs.YtkidcgaogjlpaaaGreat
