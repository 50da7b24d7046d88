/- laws.FnSTDeepFew. Written by gen_few.py. -/
import Derived.Test.YtkidcgaogjlpaaaGreatStB
namespace Go.Proofs.YtkidcgaogjlpaaaGreat
open Go.RowKit
set_option linter.unusedVariables false
set_option linter.unusedSimpArgs false

theorem keep_alloc {w : World} {b : Nat} {o : Obj} (h : w.heap[b]? = some o) (o2 : Obj) : (w.alloc o2).heap[b]? = some o := by
  rw [Below.heap_alloc _ _ _ (Array.getElem?_eq_some_iff.1 h).1]; exact h
theorem heap_second (w : World) (o o2 : Obj) : ((w.alloc o).alloc o2).heap[w.heap.size + 1]? = some o2 := by
  have h := heap_alloc_new (w.alloc o) o2
  rw [World.size_alloc] at h
  exact h
theorem heap_third (w : World) (o o2 o3 : Obj) : (((w.alloc o).alloc o2).alloc o3).heap[w.heap.size + 1 + 1]? = some o3 := by
  have h := heap_alloc_new ((w.alloc o).alloc o2) o3
  rw [World.size_alloc, World.size_alloc] at h
  exact h
theorem heap_below {w w' : World} (hb : Below w.heap.size w w') {b : Nat} {o : Obj} (h : w.heap[b]? = some o) : w'.heap[b]? = some o := by
  rw [hb.block b (Array.getElem?_eq_some_iff.1 h).1]; exact h
theorem heap_drew {w : World} {b : Nat} {o : Obj} (h : w.heap[b]? = some o) : w.drew.heap[b]? = some o := h
/-- A list of two byte strings. -/
theorem listD_two {W : World} {q1 q2 q3 : Nat} (h1 : W.heap[q1]? = some (.cells #[.int .u8 1] 5 (0, 0))) (h2 : W.heap[q2]? = some (.cells #[.int .u8 2, .int .u8 3] 5 (0, 0)))
    (h3 : W.heap[q3]? = some (.cells #[.slice (some ⟨q1, 0, none⟩) 1 1, .slice (some ⟨q2, 0, none⟩) 2 2] 34 (0, 0))) : ListD W (fun k => k = q1 ∨ k = q2) (.slice (some ⟨q3, 0, none⟩) 2 2) [[1], [2, 3]] := by
  have b1 : BytesAt W (.slice (some ⟨q1, 0, none⟩) 1 1) [1] := .inr ⟨q1, 0, 1, rfl, Nat.le_refl _, fun j hj => by
    obtain rfl : j = 0 := by simp at hj; omega
    rw [cell_of_row _ _ _ _ _ _ h1]; rfl⟩
  have b2 : BytesAt W (.slice (some ⟨q2, 0, none⟩) 2 2) [2, 3] := .inr ⟨q2, 0, 2, rfl, Nat.le_refl _, fun j hj => by
    have hj2 : j = 0 ∨ j = 1 := by simp at hj; omega
    rcases hj2 with rfl | rfl <;> (rw [cell_of_row _ _ _ _ _ _ h2]; rfl)⟩
  refine ⟨_, 2, [.slice (some ⟨q1, 0, none⟩) 1 1, .slice (some ⟨q2, 0, none⟩) 2 2], rfl, Nat.le_refl _, ⟨rfl, fun i x s hx hs => ?_⟩, fun _ => ⟨q3, 0, rfl, fun j x hj => ?_⟩, fun j x s hx hs hn g hg => ?_⟩
  · match i, hx, hs with
    | 0, hx, hs =>
      obtain rfl : Value.slice (some ⟨q1, 0, none⟩) 1 1 = x := by simpa using hx
      obtain rfl : [1] = s := by simpa using hs
      exact b1.x
    | 1, hx, hs =>
      obtain rfl : Value.slice (some ⟨q2, 0, none⟩) 2 2 = x := by simpa using hx
      obtain rfl : [2, 3] = s := by simpa using hs
      exact b2.x
    | i + 2, hx, hs => simp at hx
  · match j, hj with
    | 0, hj =>
      obtain rfl : Value.slice (some ⟨q1, 0, none⟩) 1 1 = x := by simpa using hj
      rw [cell_of_row _ _ _ _ _ _ h3]; rfl
    | 1, hj =>
      obtain rfl : Value.slice (some ⟨q2, 0, none⟩) 2 2 = x := by simpa using hj
      rw [cell_of_row _ _ _ _ _ _ h3]; rfl
    | j + 2, hj => simp at hj
  · match j, hx with
    | 0, hx =>
      obtain rfl : Value.slice (some ⟨q1, 0, none⟩) 1 1 = x := by simpa using hx
      exact .inl (by simpa [Value.ownBlock] using hg.symm)
    | 1, hx =>
      obtain rfl : Value.slice (some ⟨q2, 0, none⟩) 2 2 = x := by simpa using hx
      exact .inr (by simpa [Value.ownBlock] using hg.symm)
    | j + 2, hx => simp at hx
/-- The rows of this law. -/
def fewK (N : Option Nat) (l : List (List UInt8)) : List (List UInt8) := rowsK N l ++ rowsK N [[1], [2, 3]]
theorem fewK_small (N : Option Nat) (hN : ∀ n, N = some n → n ≤ 512) (l : List (List UInt8)) : Small (fewK N l) ∧ (∀ s ∈ fewK N l, goodK N s) ∧ (fewK N l).length ≤ 42 ∧ 2 ≤ (fewK N l).length ∧ ∀ s ∈ fewK N l, s.length ≤ 512 := by
  have h1 : (rowsK N [[1], [2, 3]]).length = 2 := by simp [rowsK]
  have hl : (fewK N l).length = (rowsK N l).length + 2 := by unfold fewK; rw [List.length_append, h1]
  have h40 := rowsK_le40 N l
  have h512 : ∀ s ∈ fewK N l, s.length ≤ 512 := fun s hs => by
    rcases List.mem_append.1 hs with hs | hs
    · exact (rowsK_small N hN _).1 s hs
    · exact (rowsK_small N hN _).1 s hs
  have hf := flat_le (fewK N l) 512 h512
  refine ⟨⟨?_, by omega⟩, fun s hs => ?_, by omega, by omega, h512⟩
  · have : (fewK N l).length * 512 ≤ 42 * 512 := Nat.mul_le_mul_right _ (by omega)
    omega
  · rcases List.mem_append.1 hs with hs | hs
    · exact (rowsK_small N hN _).2 s hs
    · exact (rowsK_small N hN _).2 s hs
theorem encK_appendW (N : Option Nat) (a b : List (List UInt8)) : encK N (a ++ b) = encK N a ++ encK N b := by
  cases N with
  | none => simp [encK, encS]
  | some n => simp [encK]
theorem drew2 {w W w' : World} (h : Below W.heap.size W w') (hW : Below w.heap.size w W) : Below w.heap.size W w' := h.mono hW.size
/-- The first of a list, and the others. -/
theorem list_take {w : World} {p : Option Addr} {c : Nat} {l : List (List UInt8)} (h : ListAt w (.slice p l.length c) l) (n : Nat) (hn : n ≤ l.length) : ListAt w (.slice p n c) (l.take n) := by
  obtain ⟨p', c', xs, he, hc, hr, hx⟩ := h
  obtain ⟨rfl, rfl⟩ : p = p' ∧ c = c' := by simpa using he
  have hl : (l.take n).length = n := by rw [List.length_take]; omega
  refine ⟨p, c, xs.take n, by rw [hl], by omega, ⟨by rw [hl, List.length_take, hr.1]; omega, fun i x s hxi hsi => ?_⟩, fun hne => ?_⟩
  · rw [List.getElem?_take] at hxi hsi
    split at hxi
    · rename_i hi
      rw [if_pos hi] at hsi
      exact hr.2 i x s hxi hsi
    · simp at hxi
  · obtain ⟨g, o, hp, hx2⟩ := hx (by rintro rfl; simp at hne)
    refine ⟨g, o, hp, fun j x hj => ?_⟩
    rw [List.getElem?_take] at hj
    split at hj
    · exact hx2 j x hj
    · simp at hj
theorem list_drop {w : World} {g o : Nat} {c : Nat} {l : List (List UInt8)} (h : ListAt w (.slice (some ⟨g, o, none⟩) l.length c) l) (n : Nat) (hn : n < l.length) : ListAt w (.slice (some ⟨g, o + n, none⟩) (l.length - n) (c - n)) (l.drop n) := by
  obtain ⟨p', c', xs, he, hc, hr, hx⟩ := h
  obtain ⟨rfl, rfl⟩ : some ⟨g, o, none⟩ = p' ∧ c = c' := by simpa using he
  have hl : (l.drop n).length = l.length - n := by rw [List.length_drop]
  refine ⟨_, c - n, xs.drop n, by rw [hl], by omega, ⟨by rw [hl, List.length_drop, hr.1], fun i x s hxi hsi => ?_⟩, fun hne => ⟨g, o + n, rfl, fun j x hj => ?_⟩⟩
  · rw [List.getElem?_drop] at hxi hsi
    exact hr.2 _ x s hxi hsi
  · obtain ⟨g', o', hp, hx2⟩ := hx (by rintro rfl; simp at hn)
    obtain ⟨rfl, rfl⟩ : g = g' ∧ o = o' := by simpa using hp
    rw [List.getElem?_drop] at hj
    rw [Nat.add_assoc]
    exact hx2 _ x hj
theorem bytes_drop {w : World} {p : Option Addr} {c : Nat} {b : List UInt8} (h : BytesAt w (.slice p b.length c) b) (n : Nat) (hn : n < b.length) : ∃ g o : Nat, p = some ⟨g, o, none⟩ ∧ b.length ≤ c ∧ BytesAt w (.slice (some ⟨g, o + n, none⟩) (b.length - n) (c - n)) (b.drop n) := by
  rcases h with ⟨h1, rfl⟩ | ⟨g, off, cap, h1, hc, hx⟩
  · simp at hn
  · obtain ⟨rfl, -, rfl⟩ : p = some ⟨g, off, none⟩ ∧ b.length = b.length ∧ c = cap := by simpa using h1
    refine ⟨g, off, rfl, hc, .inr ⟨g, off + n, c - n, by simp, by simp; omega, fun j hj => ?_⟩⟩
    have hj2 : n + j < b.length := by simp at hj; omega
    rw [Nat.add_assoc, hx (n + j) hj2]; simp

set_option maxRecDepth 100000 in
set_option maxHeartbeats 8000000 in
theorem lawFew (w : World) (k s a : Nat) (hk : k < 256) (hs : s < 256) (ha : a < 256) (v : Value) (l : List (List UInt8)) (h : ListAt w v l) (hl : l.length ≤ 9223372036854775807) (hb : ∀ s ∈ l, s.length ≤ 9223372036854775807) :
    Calls Tryz.prog 7 #[.int .u8 k, .int .u8 s, v, .int .u8 a] w fun e w' => e = .returned (.bool true) ∧ Below w.heap.size w w' := by
  obtain ⟨p, c, rfl, hlc⟩ := h.slice
  have HL := Lib.hid h
  have HFIT := Lib.hid (fits13V w _ l h hl hb)
  have HK := Lib.hid (stKindV w k s hk hs)
  have HBG := Lib.hid (begun k s)
  have hpos := stKN_pos k s
  generalize kN (k % 12) (stS k s) = N at HBG hpos
  generalize k % 12 = K at HBG HK
  generalize stS k s = S at HBG HK
  have HPOS := Lib.hid hpos
  have HSM := Lib.hid (fewK_small N HBG.out.le l)
  clear h hb hpos
  go_enter Tryz.func7, Tryz.ntmps7
  go_wp2_with fail
  refine HFIT.out.mono ?_
  rintro e w1 ⟨rfl, b, rfl, hfit⟩
  cases b
  · clear hfit
    go_wp2_with fail
    go_ret
    exact ⟨rfl, Below.refl _ _⟩
  · have hl2 : l.length ≤ 140737488355328 := by have := (hfit rfl).1; omega
    clear hfit HFIT
    go_wp2_with fail
    refine HK.out.mono ?_
    rintro e w1 ⟨rfl, hb1⟩
    have HB1 := Lib.hid hb1
    clear hb1
    go_wp2_with fail
    generalize hW2 : World.alloc w1 (Obj.cells #[.int .i64 K, .int .i64 S] 23) = W2
    have k0 : W2.cell? ⟨w1.heap.size, 0, none⟩ = some (.int .i64 K) := by rw [← hW2]; clear hW2; go_simp
    have k1 : W2.cell? ⟨w1.heap.size, 1, none⟩ = some (.int .i64 S) := by rw [← hW2]; clear hW2; go_simp
    have hlt : w1.heap.size < W2.heap.size := by rw [← hW2]; simp
    have hbW : Below w.heap.size w W2 := by rw [← hW2]; exact HB1.out.trans (((Below.refl _ w1).alloc (Nat.le_refl _) _).mono HB1.out.size)
    have HKK : Hid (∀ W, Below W2.heap.size W2 W → W.cell? ⟨w1.heap.size, 0, none⟩ = some (.int .i64 K) ∧ W.cell? ⟨w1.heap.size, 1, none⟩ = some (.int .i64 S)) := Lib.hid fun W hb3 => ⟨by rw [hb3.cell hlt]; exact k0, by rw [hb3.cell hlt]; exact k1⟩
    have hN : ∀ n, kN K S = some n → n ≤ 512 := by rw [← HBG.out.n]; exact HBG.out.le
    have HSR1 : Hid (∀ W, Below W2.heap.size W2 W → Calls Tryz.prog 23 #[.agg #[.int .i64 K, .int .i64 S], .slice p l.length c] W fun e w' => ∃ x, e = .returned x ∧ RowsO W (fun _ => True) (rowsK N l) x w') := Lib.hid fun W hb => by
      rw [HBG.out.n]
      exact stRowsV W K S HBG.out.k hN (fun _ => True) _ l ((HL.out.below hbW).below hb).d hl2
    have HSR2 : Hid (∀ (W : World) (q1 q2 q3 : Nat), W.heap[q1]? = some (.cells #[.int .u8 1] 5 (0, 0)) → W.heap[q2]? = some (.cells #[.int .u8 2, .int .u8 3] 5 (0, 0)) → W.heap[q3]? = some (.cells #[.slice (some ⟨q1, 0, none⟩) 1 1, .slice (some ⟨q2, 0, none⟩) 2 2] 34 (0, 0)) →
        Calls Tryz.prog 23 #[.agg #[.int .i64 K, .int .i64 S], .slice (some ⟨q3, 0, none⟩) 2 2] W fun e w' => ∃ x, e = .returned x ∧ RowsO W (fun k => k = q1 ∨ k = q2) (rowsK N [[1], [2, 3]]) x w') := Lib.hid fun W q1 q2 q3 h1 h2 h3 => by
      rw [HBG.out.n]
      exact stRowsV W K S HBG.out.k hN (fun k => k = q1 ∨ k = q2) _ [[1], [2, 3]] (listD_two h1 h2 h3) (by simp)
    have h40 := rowsK_le40 N l
    have h41 := rowsK_le40 N [[1], [2, 3]]
    have hfew : fewK N l = rowsK N l ++ rowsK N [[1], [2, 3]] := rfl
    rw [hfew] at HSM
    generalize rowsK N l = L1 at HSR1 HSM h40
    generalize rowsK N [[1], [2, 3]] = L2 at HSR2 HSM h41
    have HLL : Hid (L1.length + L2.length ≤ 140737488355328 ∧ (L1.length + L2.length) * 24 ≤ 140737488355328) := Lib.hid (by omega)
    have HK3 : Hid (∀ o1 o2 o3, (((W2.alloc o1).alloc o2).alloc o3).drew.cell? ⟨w1.heap.size, 0, none⟩ = some (.int .i64 K) ∧ (((W2.alloc o1).alloc o2).alloc o3).drew.cell? ⟨w1.heap.size, 1, none⟩ = some (.int .i64 S)) := Lib.hid fun o1 o2 o3 => HKK.out _ (((((Below.refl _ W2).alloc (Nat.le_refl _) _).alloc (by simp) _).alloc (by simp; omega) _).drew)
    have HK31 : Hid (∀ w3, Below W2.heap.size W2 w3 → ∀ o1, (w3.alloc o1).cell? ⟨w1.heap.size, 0, none⟩ = some (.int .i64 K) ∧ (w3.alloc o1).cell? ⟨w1.heap.size, 1, none⟩ = some (.int .i64 S)) := Lib.hid fun w3 hb o1 => HKK.out _ (hb.alloc hb.size o1)
    have HK32 : Hid (∀ w3, Below W2.heap.size W2 w3 → ∀ o1 o2, ((w3.alloc o1).alloc o2).cell? ⟨w1.heap.size, 0, none⟩ = some (.int .i64 K) ∧ ((w3.alloc o1).alloc o2).cell? ⟨w1.heap.size, 1, none⟩ = some (.int .i64 S)) := Lib.hid fun w3 hb o1 o2 => HKK.out _ ((hb.alloc hb.size o1).alloc (by have := hb.size; simp; omega) o2)
    have HK33 : Hid (∀ w3, Below W2.heap.size W2 w3 → ∀ o1 o2 o3, (((w3.alloc o1).alloc o2).alloc o3).cell? ⟨w1.heap.size, 0, none⟩ = some (.int .i64 K) ∧ (((w3.alloc o1).alloc o2).alloc o3).cell? ⟨w1.heap.size, 1, none⟩ = some (.int .i64 S)) := Lib.hid fun w3 hb o1 o2 o3 => HKK.out _ (((hb.alloc hb.size o1).alloc (by have := hb.size; simp; omega) o2).alloc (by have := hb.size; simp; omega) o3)
    have HBW := Lib.hid hbW
    clear hW2 hbW hN h40 h41 hfew HL
    go_region_held3 (fun w' => w'.cell? ⟨w1.heap.size, 0, none⟩ = some (.int .i64 K) ∧ w'.cell? ⟨w1.heap.size, 1, none⟩ = some (.int .i64 S)) (first | exact ⟨t0, t1⟩ | exact ⟨s0, s1⟩ | exact HK3.out _ _ _ | exact HK31.out w3 hbw3 _ | exact HK32.out w3 hbw3 _ _ | exact HK33.out w3 hbw3 _ _ _ | go_keep)
      (first
        | (refine step_append_rows elemL _ Fo L1.length L2.length xs ys (by rfl) _ _ _ (by rfl) _ (by rfl) hown _ (by rfl) hsrc HLL.out.1 HLL.out.2 ?_; intro p5 c5 w5 F5 h5 hu5; have hf5 := hfin p5 c5 w5 F5 h5 hu5; obtain ⟨t0, t1⟩ := HKK.out w5 hf5.2)
        | (go_at_call 23; have hb3' := hb3; with_reducible refine Calls.mono (HSR2.out (((w3.alloc (.cells #[.int .u8 1] 5)).alloc (.cells #[.int .u8 2, .int .u8 3] 5)).alloc (.cells #[.slice (some ⟨w3.heap.size, 0, none⟩) 1 1, .slice (some ⟨w3.heap.size + 1, 0, none⟩) 2 2] 34)) (w3.heap.size) (w3.heap.size + 1) (w3.heap.size + 1 + 1) (keep_alloc (keep_alloc (heap_alloc_new w3 (.cells #[.int .u8 1] 5)) (.cells #[.int .u8 2, .int .u8 3] 5)) (.cells #[.slice (some ⟨w3.heap.size, 0, none⟩) 1 1, .slice (some ⟨w3.heap.size + 1, 0, none⟩) 2 2] 34)) (keep_alloc (heap_second w3 (.cells #[.int .u8 1] 5) (.cells #[.int .u8 2, .int .u8 3] 5)) (.cells #[.slice (some ⟨w3.heap.size, 0, none⟩) 1 1, .slice (some ⟨w3.heap.size + 1, 0, none⟩) 2 2] 34)) (heap_third w3 (.cells #[.int .u8 1] 5) (.cells #[.int .u8 2, .int .u8 3] 5) (.cells #[.slice (some ⟨w3.heap.size, 0, none⟩) 1 1, .slice (some ⟨w3.heap.size + 1, 0, none⟩) 2 2] 34))) ?_; rintro e w4 ⟨x2, rfl, hR2⟩; obtain ⟨q2, c2, rfl⟩ := hR2.slice; have hV : Below w3.heap.size w3 (((w3.alloc (.cells #[.int .u8 1] 5)).alloc (.cells #[.int .u8 2, .int .u8 3] 5)).alloc (.cells #[.slice (some ⟨w3.heap.size, 0, none⟩) 1 1, .slice (some ⟨w3.heap.size + 1, 0, none⟩) 2 2] 34)) := ((((Below.refl _ w3).alloc (Nat.le_refl _) _).alloc (by simp <;> omega) _).alloc (by simp <;> omega) _); have hb34 := hV.trans (hR2.below.mono hV.size); obtain ⟨t0, t1⟩ := HKK.out w4 (hbw3.trans (hb34.mono hbw3.size)); obtain ⟨Fo, xs, ys, hFo, hown, hsrc, hfin⟩ := two_rows hbw hR1 hV hR2 (fun k hk => hk.elim (fun e => .inr (by rw [e]; omega)) (fun e => .inr (by rw [e]; omega))))
        | (go_at_call 23; have hb3' := hb3; with_reducible refine Calls.mono (HSR2.out ((w3.alloc (.cells #[.int .u8 2, .int .u8 3] 5)).alloc (.cells #[.slice (some ⟨W2.heap.size, 0, none⟩) 1 1, .slice (some ⟨w3.heap.size, 0, none⟩) 2 2] 34)) (W2.heap.size) (w3.heap.size) (w3.heap.size + 1) (keep_alloc (keep_alloc g1 (.cells #[.int .u8 2, .int .u8 3] 5)) (.cells #[.slice (some ⟨W2.heap.size, 0, none⟩) 1 1, .slice (some ⟨w3.heap.size, 0, none⟩) 2 2] 34)) (keep_alloc (heap_alloc_new w3 (.cells #[.int .u8 2, .int .u8 3] 5)) (.cells #[.slice (some ⟨W2.heap.size, 0, none⟩) 1 1, .slice (some ⟨w3.heap.size, 0, none⟩) 2 2] 34)) (heap_second w3 (.cells #[.int .u8 2, .int .u8 3] 5) (.cells #[.slice (some ⟨W2.heap.size, 0, none⟩) 1 1, .slice (some ⟨w3.heap.size, 0, none⟩) 2 2] 34))) ?_; rintro e w4 ⟨x2, rfl, hR2⟩; obtain ⟨q2, c2, rfl⟩ := hR2.slice; have hV : Below w3.heap.size w3 ((w3.alloc (.cells #[.int .u8 2, .int .u8 3] 5)).alloc (.cells #[.slice (some ⟨W2.heap.size, 0, none⟩) 1 1, .slice (some ⟨w3.heap.size, 0, none⟩) 2 2] 34)) := (((Below.refl _ w3).alloc (Nat.le_refl _) _).alloc (by simp <;> omega) _); have hb34 := hV.trans (hR2.below.mono hV.size); obtain ⟨t0, t1⟩ := HKK.out w4 (hbw3.trans (hb34.mono hbw3.size)); obtain ⟨Fo, xs, ys, hFo, hown, hsrc, hfin⟩ := two_rows hbw hR1 hV hR2 (fun k hk => hk.elim (fun e => .inl (by rw [e]; simp <;> omega)) (fun e => .inr (by rw [e]; omega))))
        | (go_at_call 23; have hb3' := hb3; with_reducible refine Calls.mono (HSR2.out (w3.alloc (.cells #[.slice (some ⟨W2.heap.size, 0, none⟩) 1 1, .slice (some ⟨W2.heap.size + 1, 0, none⟩) 2 2] 34)) (W2.heap.size) (W2.heap.size + 1) (w3.heap.size) (keep_alloc g1 (.cells #[.slice (some ⟨W2.heap.size, 0, none⟩) 1 1, .slice (some ⟨W2.heap.size + 1, 0, none⟩) 2 2] 34)) (keep_alloc g2 (.cells #[.slice (some ⟨W2.heap.size, 0, none⟩) 1 1, .slice (some ⟨W2.heap.size + 1, 0, none⟩) 2 2] 34)) (heap_alloc_new w3 (.cells #[.slice (some ⟨W2.heap.size, 0, none⟩) 1 1, .slice (some ⟨W2.heap.size + 1, 0, none⟩) 2 2] 34))) ?_; rintro e w4 ⟨x2, rfl, hR2⟩; obtain ⟨q2, c2, rfl⟩ := hR2.slice; have hV : Below w3.heap.size w3 (w3.alloc (.cells #[.slice (some ⟨W2.heap.size, 0, none⟩) 1 1, .slice (some ⟨W2.heap.size + 1, 0, none⟩) 2 2] 34)) := ((Below.refl _ w3).alloc (Nat.le_refl _) _); have hb34 := hV.trans (hR2.below.mono hV.size); obtain ⟨t0, t1⟩ := HKK.out w4 (hbw3.trans (hb34.mono hbw3.size)); obtain ⟨Fo, xs, ys, hFo, hown, hsrc, hfin⟩ := two_rows hbw hR1 hV hR2 (fun k hk => hk.elim (fun e => .inl (by rw [e]; simp <;> omega)) (fun e => .inl (by rw [e]; simp <;> omega))))
        | (go_at_call 23; have hb3' := hb3; with_reducible refine Calls.mono (HSR2.out w3 (W2.heap.size) (W2.heap.size + 1) (W2.heap.size + 1 + 1) g1 g2 g3) ?_; rintro e w4 ⟨x2, rfl, hR2⟩; obtain ⟨q2, c2, rfl⟩ := hR2.slice; have hV : Below w3.heap.size w3 w3 := (Below.refl _ w3); have hb34 := hV.trans (hR2.below.mono hV.size); obtain ⟨t0, t1⟩ := HKK.out w4 (hbw3.trans (hb34.mono hbw3.size)); obtain ⟨Fo, xs, ys, hFo, hown, hsrc, hfin⟩ := two_rows hbw hR1 hV hR2 (fun k hk => hk.elim (fun e => .inl (by rw [e]; simp <;> omega)) (fun e => .inl (by rw [e]; simp <;> omega))))
        | (go_at_call 23; have hb3' := hb3; with_reducible refine Calls.mono (HSR2.out (((w3.alloc (.cells #[.int .u8 2, .int .u8 3] 5)).alloc (.cells #[.int .u8 1] 5)).alloc (.cells #[.slice (some ⟨w3.heap.size + 1, 0, none⟩) 1 1, .slice (some ⟨w3.heap.size, 0, none⟩) 2 2] 34)) (w3.heap.size + 1) (w3.heap.size) (w3.heap.size + 1 + 1) (keep_alloc (heap_second w3 (.cells #[.int .u8 2, .int .u8 3] 5) (.cells #[.int .u8 1] 5)) (.cells #[.slice (some ⟨w3.heap.size + 1, 0, none⟩) 1 1, .slice (some ⟨w3.heap.size, 0, none⟩) 2 2] 34)) (keep_alloc (keep_alloc (heap_alloc_new w3 (.cells #[.int .u8 2, .int .u8 3] 5)) (.cells #[.int .u8 1] 5)) (.cells #[.slice (some ⟨w3.heap.size + 1, 0, none⟩) 1 1, .slice (some ⟨w3.heap.size, 0, none⟩) 2 2] 34)) (heap_third w3 (.cells #[.int .u8 2, .int .u8 3] 5) (.cells #[.int .u8 1] 5) (.cells #[.slice (some ⟨w3.heap.size + 1, 0, none⟩) 1 1, .slice (some ⟨w3.heap.size, 0, none⟩) 2 2] 34))) ?_; rintro e w4 ⟨x2, rfl, hR2⟩; obtain ⟨q2, c2, rfl⟩ := hR2.slice; have hV : Below w3.heap.size w3 (((w3.alloc (.cells #[.int .u8 2, .int .u8 3] 5)).alloc (.cells #[.int .u8 1] 5)).alloc (.cells #[.slice (some ⟨w3.heap.size + 1, 0, none⟩) 1 1, .slice (some ⟨w3.heap.size, 0, none⟩) 2 2] 34)) := ((((Below.refl _ w3).alloc (Nat.le_refl _) _).alloc (by simp <;> omega) _).alloc (by simp <;> omega) _); have hb34 := hV.trans (hR2.below.mono hV.size); obtain ⟨t0, t1⟩ := HKK.out w4 (hbw3.trans (hb34.mono hbw3.size)); obtain ⟨Fo, xs, ys, hFo, hown, hsrc, hfin⟩ := two_rows hbw hR1 hV hR2 (fun k hk => hk.elim (fun e => .inr (by rw [e]; omega)) (fun e => .inr (by rw [e]; omega))))
        | (go_at_call 23; have hb3' := hb3; with_reducible refine Calls.mono (HSR2.out ((w3.alloc (.cells #[.int .u8 1] 5)).alloc (.cells #[.slice (some ⟨w3.heap.size, 0, none⟩) 1 1, .slice (some ⟨W2.heap.size, 0, none⟩) 2 2] 34)) (w3.heap.size) (W2.heap.size) (w3.heap.size + 1) (keep_alloc (heap_alloc_new w3 (.cells #[.int .u8 1] 5)) (.cells #[.slice (some ⟨w3.heap.size, 0, none⟩) 1 1, .slice (some ⟨W2.heap.size, 0, none⟩) 2 2] 34)) (keep_alloc (keep_alloc g2 (.cells #[.int .u8 1] 5)) (.cells #[.slice (some ⟨w3.heap.size, 0, none⟩) 1 1, .slice (some ⟨W2.heap.size, 0, none⟩) 2 2] 34)) (heap_second w3 (.cells #[.int .u8 1] 5) (.cells #[.slice (some ⟨w3.heap.size, 0, none⟩) 1 1, .slice (some ⟨W2.heap.size, 0, none⟩) 2 2] 34))) ?_; rintro e w4 ⟨x2, rfl, hR2⟩; obtain ⟨q2, c2, rfl⟩ := hR2.slice; have hV : Below w3.heap.size w3 ((w3.alloc (.cells #[.int .u8 1] 5)).alloc (.cells #[.slice (some ⟨w3.heap.size, 0, none⟩) 1 1, .slice (some ⟨W2.heap.size, 0, none⟩) 2 2] 34)) := (((Below.refl _ w3).alloc (Nat.le_refl _) _).alloc (by simp <;> omega) _); have hb34 := hV.trans (hR2.below.mono hV.size); obtain ⟨t0, t1⟩ := HKK.out w4 (hbw3.trans (hb34.mono hbw3.size)); obtain ⟨Fo, xs, ys, hFo, hown, hsrc, hfin⟩ := two_rows hbw hR1 hV hR2 (fun k hk => hk.elim (fun e => .inr (by rw [e]; omega)) (fun e => .inl (by rw [e]; simp <;> omega))))
        | (go_at_call 23; have hb3' := hb3; with_reducible refine Calls.mono (HSR2.out (w3.alloc (.cells #[.slice (some ⟨W2.heap.size + 1, 0, none⟩) 1 1, .slice (some ⟨W2.heap.size, 0, none⟩) 2 2] 34)) (W2.heap.size + 1) (W2.heap.size) (w3.heap.size) (keep_alloc g1 (.cells #[.slice (some ⟨W2.heap.size + 1, 0, none⟩) 1 1, .slice (some ⟨W2.heap.size, 0, none⟩) 2 2] 34)) (keep_alloc g2 (.cells #[.slice (some ⟨W2.heap.size + 1, 0, none⟩) 1 1, .slice (some ⟨W2.heap.size, 0, none⟩) 2 2] 34)) (heap_alloc_new w3 (.cells #[.slice (some ⟨W2.heap.size + 1, 0, none⟩) 1 1, .slice (some ⟨W2.heap.size, 0, none⟩) 2 2] 34))) ?_; rintro e w4 ⟨x2, rfl, hR2⟩; obtain ⟨q2, c2, rfl⟩ := hR2.slice; have hV : Below w3.heap.size w3 (w3.alloc (.cells #[.slice (some ⟨W2.heap.size + 1, 0, none⟩) 1 1, .slice (some ⟨W2.heap.size, 0, none⟩) 2 2] 34)) := ((Below.refl _ w3).alloc (Nat.le_refl _) _); have hb34 := hV.trans (hR2.below.mono hV.size); obtain ⟨t0, t1⟩ := HKK.out w4 (hbw3.trans (hb34.mono hbw3.size)); obtain ⟨Fo, xs, ys, hFo, hown, hsrc, hfin⟩ := two_rows hbw hR1 hV hR2 (fun k hk => hk.elim (fun e => .inl (by rw [e]; simp <;> omega)) (fun e => .inl (by rw [e]; simp <;> omega))))
        | (go_at_call 23; have hb3' := hb3; with_reducible refine Calls.mono (HSR2.out w3 (W2.heap.size + 1) (W2.heap.size) (W2.heap.size + 1 + 1) g1 g2 g3) ?_; rintro e w4 ⟨x2, rfl, hR2⟩; obtain ⟨q2, c2, rfl⟩ := hR2.slice; have hV : Below w3.heap.size w3 w3 := (Below.refl _ w3); have hb34 := hV.trans (hR2.below.mono hV.size); obtain ⟨t0, t1⟩ := HKK.out w4 (hbw3.trans (hb34.mono hbw3.size)); obtain ⟨Fo, xs, ys, hFo, hown, hsrc, hfin⟩ := two_rows hbw hR1 hV hR2 (fun k hk => hk.elim (fun e => .inl (by rw [e]; simp <;> omega)) (fun e => .inl (by rw [e]; simp <;> omega))))
        | (go_at_call 23; have hbw : Below W2.heap.size W2 W2.drew := (Below.refl _ W2).drew; with_reducible refine Calls.mono (HSR1.out _ hbw) ?_; rintro e w3 ⟨x1, rfl, hR1⟩; obtain ⟨q1, c1, rfl⟩ := hR1.slice; have hb3 := hR1.below; have hbw3 := hbw.trans (hb3.mono hbw.size); obtain ⟨s0, s1⟩ := HKK.out w3 hbw3)
        | (go_at_call 23; have hbw : Below W2.heap.size W2 (W2.alloc (.cells #[.int .u8 1] 5)).drew := ((Below.refl _ W2).alloc (Nat.le_refl _) _).drew; with_reducible refine Calls.mono (HSR1.out _ hbw) ?_; rintro e w3 ⟨x1, rfl, hR1⟩; obtain ⟨q1, c1, rfl⟩ := hR1.slice; have hb3 := hR1.below; have hbw3 := hbw.trans (hb3.mono hbw.size); obtain ⟨s0, s1⟩ := HKK.out w3 hbw3; have g1 := heap_below hb3 (heap_drew (heap_alloc_new W2 (.cells #[.int .u8 1] 5))))
        | (go_at_call 23; have hbw : Below W2.heap.size W2 ((W2.alloc (.cells #[.int .u8 1] 5)).alloc (.cells #[.int .u8 2, .int .u8 3] 5)).drew := (((Below.refl _ W2).alloc (Nat.le_refl _) _).alloc (by simp <;> omega) _).drew; with_reducible refine Calls.mono (HSR1.out _ hbw) ?_; rintro e w3 ⟨x1, rfl, hR1⟩; obtain ⟨q1, c1, rfl⟩ := hR1.slice; have hb3 := hR1.below; have hbw3 := hbw.trans (hb3.mono hbw.size); obtain ⟨s0, s1⟩ := HKK.out w3 hbw3; have g1 := heap_below hb3 (heap_drew (keep_alloc (heap_alloc_new W2 (.cells #[.int .u8 1] 5)) (.cells #[.int .u8 2, .int .u8 3] 5))); have g2 := heap_below hb3 (heap_drew (heap_second W2 (.cells #[.int .u8 1] 5) (.cells #[.int .u8 2, .int .u8 3] 5))))
        | (go_at_call 23; have hbw : Below W2.heap.size W2 (((W2.alloc (.cells #[.int .u8 1] 5)).alloc (.cells #[.int .u8 2, .int .u8 3] 5)).alloc (.cells #[.slice (some ⟨W2.heap.size, 0, none⟩) 1 1, .slice (some ⟨W2.heap.size + 1, 0, none⟩) 2 2] 34)).drew := ((((Below.refl _ W2).alloc (Nat.le_refl _) _).alloc (by simp <;> omega) _).alloc (by simp <;> omega) _).drew; with_reducible refine Calls.mono (HSR1.out _ hbw) ?_; rintro e w3 ⟨x1, rfl, hR1⟩; obtain ⟨q1, c1, rfl⟩ := hR1.slice; have hb3 := hR1.below; have hbw3 := hbw.trans (hb3.mono hbw.size); obtain ⟨s0, s1⟩ := HKK.out w3 hbw3; have g1 := heap_below hb3 (heap_drew (keep_alloc (keep_alloc (heap_alloc_new W2 (.cells #[.int .u8 1] 5)) (.cells #[.int .u8 2, .int .u8 3] 5)) (.cells #[.slice (some ⟨W2.heap.size, 0, none⟩) 1 1, .slice (some ⟨W2.heap.size + 1, 0, none⟩) 2 2] 34))); have g2 := heap_below hb3 (heap_drew (keep_alloc (heap_second W2 (.cells #[.int .u8 1] 5) (.cells #[.int .u8 2, .int .u8 3] 5)) (.cells #[.slice (some ⟨W2.heap.size, 0, none⟩) 1 1, .slice (some ⟨W2.heap.size + 1, 0, none⟩) 2 2] 34))); have g3 := heap_below hb3 (heap_drew (heap_third W2 (.cells #[.int .u8 1] 5) (.cells #[.int .u8 2, .int .u8 3] 5) (.cells #[.slice (some ⟨W2.heap.size, 0, none⟩) 1 1, .slice (some ⟨W2.heap.size + 1, 0, none⟩) 2 2] 34))))
        | (go_at_call 23; have hbw : Below W2.heap.size W2 (W2.alloc (.cells #[.int .u8 2, .int .u8 3] 5)).drew := ((Below.refl _ W2).alloc (Nat.le_refl _) _).drew; with_reducible refine Calls.mono (HSR1.out _ hbw) ?_; rintro e w3 ⟨x1, rfl, hR1⟩; obtain ⟨q1, c1, rfl⟩ := hR1.slice; have hb3 := hR1.below; have hbw3 := hbw.trans (hb3.mono hbw.size); obtain ⟨s0, s1⟩ := HKK.out w3 hbw3; have g2 := heap_below hb3 (heap_drew (heap_alloc_new W2 (.cells #[.int .u8 2, .int .u8 3] 5))))
        | (go_at_call 23; have hbw : Below W2.heap.size W2 ((W2.alloc (.cells #[.int .u8 2, .int .u8 3] 5)).alloc (.cells #[.int .u8 1] 5)).drew := (((Below.refl _ W2).alloc (Nat.le_refl _) _).alloc (by simp <;> omega) _).drew; with_reducible refine Calls.mono (HSR1.out _ hbw) ?_; rintro e w3 ⟨x1, rfl, hR1⟩; obtain ⟨q1, c1, rfl⟩ := hR1.slice; have hb3 := hR1.below; have hbw3 := hbw.trans (hb3.mono hbw.size); obtain ⟨s0, s1⟩ := HKK.out w3 hbw3; have g2 := heap_below hb3 (heap_drew (keep_alloc (heap_alloc_new W2 (.cells #[.int .u8 2, .int .u8 3] 5)) (.cells #[.int .u8 1] 5))); have g1 := heap_below hb3 (heap_drew (heap_second W2 (.cells #[.int .u8 2, .int .u8 3] 5) (.cells #[.int .u8 1] 5))))
        | (go_at_call 23; have hbw : Below W2.heap.size W2 (((W2.alloc (.cells #[.int .u8 2, .int .u8 3] 5)).alloc (.cells #[.int .u8 1] 5)).alloc (.cells #[.slice (some ⟨W2.heap.size + 1, 0, none⟩) 1 1, .slice (some ⟨W2.heap.size, 0, none⟩) 2 2] 34)).drew := ((((Below.refl _ W2).alloc (Nat.le_refl _) _).alloc (by simp <;> omega) _).alloc (by simp <;> omega) _).drew; with_reducible refine Calls.mono (HSR1.out _ hbw) ?_; rintro e w3 ⟨x1, rfl, hR1⟩; obtain ⟨q1, c1, rfl⟩ := hR1.slice; have hb3 := hR1.below; have hbw3 := hbw.trans (hb3.mono hbw.size); obtain ⟨s0, s1⟩ := HKK.out w3 hbw3; have g2 := heap_below hb3 (heap_drew (keep_alloc (keep_alloc (heap_alloc_new W2 (.cells #[.int .u8 2, .int .u8 3] 5)) (.cells #[.int .u8 1] 5)) (.cells #[.slice (some ⟨W2.heap.size + 1, 0, none⟩) 1 1, .slice (some ⟨W2.heap.size, 0, none⟩) 2 2] 34))); have g1 := heap_below hb3 (heap_drew (keep_alloc (heap_second W2 (.cells #[.int .u8 2, .int .u8 3] 5) (.cells #[.int .u8 1] 5)) (.cells #[.slice (some ⟨W2.heap.size + 1, 0, none⟩) 1 1, .slice (some ⟨W2.heap.size, 0, none⟩) 2 2] 34))); have g3 := heap_below hb3 (heap_drew (heap_third W2 (.cells #[.int .u8 2, .int .u8 3] 5) (.cells #[.int .u8 1] 5) (.cells #[.slice (some ⟨W2.heap.size + 1, 0, none⟩) 1 1, .slice (some ⟨W2.heap.size, 0, none⟩) 2 2] 34)))))
    all_goals
      obtain ⟨hlist, hb5⟩ := hf5
      obtain ⟨L, hLd⟩ : ∃ L, L = L1 ++ L2 := ⟨_, rfl⟩
      have hsm := HSM.out
      rw [← hLd] at hlist hsm
      have hlen : L1.length + L2.length = L.length := by rw [hLd, List.length_append]
      have hL2 := hsm.2.2.2.1
      have hL42 := hsm.2.2.1
      obtain ⟨r, hr⟩ : ∃ r, r = a % (L.length - 1) := ⟨_, rfl⟩
      have hrl : r < L.length - 1 := by rw [hr]; exact Nat.mod_lt _ (by omega)
      obtain ⟨M, hM⟩ : ∃ M, M = 1 + r := ⟨_, rfl⟩
      have hlenI : (L1.length : Int) + (L2.length : Int) = (L.length : Int) := by omega
      have hsub : (L.length : Int) - 1 = ((L.length - 1 : Nat) : Int) := by omega
      have hrT : (a : Int).tmod ((L.length - 1 : Nat) : Int) = (r : Int) := by
        rw [hr]
        have h := Int.ofNat_tmod a (L.length - 1)
        simpa using h.symm
      have hrT2 : (a : Int).tmod ((L.length : Int) - 1) = (r : Int) := by rw [hsub]; exact hrT
      have hrE : (a : Int) % ((L.length : Int) - 1) = (r : Int) := by rw [hsub, hr]; simp
      have hne1 : ¬ (L.length : Int) - 1 = 0 := by omega
      have hMI : 1 + (r : Int) = (M : Int) := by omega
      have hMle : (M : Int) ≤ (L.length : Int) := by omega
      have hMr : r = M - 1 := by omega
      obtain ⟨pg, po, hp5, hcap5⟩ : ∃ g o : Nat, p5 = some ⟨g, o, none⟩ ∧ L.length ≤ c5 := by
        obtain ⟨p', c', xs', he, hc', hr', hx'⟩ := hlist
        obtain ⟨g, o, hp, -⟩ := hx' (by rintro rfl; simp at hL2)
        obtain ⟨rfl, -, rfl⟩ : p5 = p' ∧ L1.length + L2.length = L.length ∧ c5 = c' := by simpa using he
        exact ⟨g, o, hp, hc'⟩
      subst hp5
      rw [hlen] at hlist ⊢
      obtain ⟨ET, hET⟩ : ∃ ET, ET = encK N (L.take M) := ⟨_, rfl⟩
      obtain ⟨ED, hED⟩ : ∃ ED, ED = encK N (L.drop M) := ⟨_, rfl⟩
      obtain ⟨E, hE⟩ : ∃ E, E = encK N L := ⟨_, rfl⟩
      have hEE : E = ET ++ ED := by rw [hE, hET, hED, ← encK_appendW, List.take_append_drop]
      have hEl : E.length ≤ 1000000 := by
        have h1 := encK_le N L
        have h4 := flat_le L 512 hsm.2.2.2.2
        have h5 : L.length * 512 ≤ 42 * 512 := Nat.mul_le_mul_right _ hL42
        rw [hE]; omega
      have htl : (L.take M).length = M := by rw [List.length_take]; omega
      have hgt : ∀ s ∈ L.take M, goodK N s := fun s hs => hsm.2.1 s (List.mem_of_mem_take hs)
      have hgd : ∀ s ∈ L.drop M, goodK N s := fun s hs => hsm.2.1 s (List.mem_of_mem_drop hs)
      have hET0 : 0 < ET.length := by rw [hET]; exact encK_pos N HPOS.out _ hgt (by omega)
      have hED0 : 0 < ED.length := by rw [hED]; exact encK_pos N HPOS.out _ hgd (by rw [List.length_drop]; omega)
      have hELn : E.length = ET.length + ED.length := by rw [hEE, List.length_append]
      have hsmd : Small (L.drop M) := ⟨by
        have h1 := hsm.1.1
        rw [← List.take_append_drop M L, List.flatten_append, List.length_append] at h1
        omega, by rw [List.length_drop]; have := hsm.1.2; omega⟩
      have HE5 : Hid (Calls Tryz.prog 17 #[.agg #[.int .i64 K, .int .i64 S], .slice (some ⟨pg, po, none⟩) L.length c5] w5 (Made w5 E)) := Lib.hid (by rw [hE]; exact HBG.out.enc w5 _ L hlist hsm.2.1 hsm.1)
      have HDC : Hid (∀ W dv, BytesAt W dv E → (∀ g, dv.ownBlock = some g → g < W.heap.size) → Calls Tryz.prog 19 #[.agg #[.int .i64 K, .int .i64 S], dv, .int .i64 M] W fun e w' => ∃ p c, e = .returned (.tuple #[.slice p M c, .int .i64 ED.length, .bool true]) ∧ ListAt w' (.slice p M c) (L.take M) ∧ Below W.heap.size W w') := Lib.hid fun W dv hB hD => by
        have h := HBG.out.dec W dv E ED (L.take M) true hB hD (.inl ⟨rfl, by rw [← hET]; exact hEE⟩) hgt (hsm.1.take M) (by omega)
        rw [htl] at h
        refine h.mono fun e w' h => ?_
        obtain ⟨x, he, hR⟩ := h.1 rfl
        obtain ⟨p, c, hx⟩ := hR.slice
        rw [htl] at hx
        have hl := hR.list
        obtain ⟨_, _, _, _, _, hb⟩ := hR
        subst hx
        exact ⟨p, c, he, hl, hb⟩
      have HLT : Hid (ListAt w5 (.slice (some ⟨pg, po, none⟩) M c5) (L.take M)) := Lib.hid (list_take hlist M (by omega))
      have HLD : Hid (ListAt w5 (.slice (some ⟨pg, po + M, none⟩) (L.length - M) (c5 - M)) (L.drop M)) := Lib.hid (list_drop hlist M (by omega))
      have HED : Hid (∀ W, Below w5.heap.size w5 W → Calls Tryz.prog 17 #[.agg #[.int .i64 K, .int .i64 S], .slice (some ⟨pg, po + M, none⟩) (L.length - M) (c5 - M)] W (Made W ED)) := Lib.hid fun W hb => by rw [hED]; exact HBG.out.enc W _ (L.drop M) (HLD.out.below hb) hgd hsmd
      have HDROP : Hid (E.drop ET.length = ED) := Lib.hid (by rw [hEE, List.drop_left])
      have HBW5 := Lib.hid (HBW.out.trans (hb5.mono HBW.out.size))
      have HK5 : Hid (∀ W, Below w5.heap.size w5 W → W.cell? ⟨w1.heap.size, 0, none⟩ = some (.int .i64 K) ∧ W.cell? ⟨w1.heap.size, 1, none⟩ = some (.int .i64 S)) := Lib.hid fun W hb => HKK.out W (hb5.trans (hb.mono hb5.size))
      have haw : IntKind.i64.wrap (a : Int) = (a : Int) := by rw [IntKind.wrap_i64]; omega
      have hn1 : ¬ (ED.length : Int) ≤ 0 := by omega
      have hEDne : ¬ ED = [] := by rintro rfl; simp at hED0
      have hEDn0 : ¬ ED.length = 0 := by omega
      have hEDI : ¬ (ED.length : Int) = 0 := by omega
      have hn2 : ¬ (E.length : Int) ≤ (ED.length : Int) := by omega
      have hn3 : ED.length < E.length := by omega
      have hn4 : (E.length : Int) - (ED.length : Int) = (ET.length : Int) := by omega
      have hn5 : IntKind.i64.wrap (ET.length : Int) = (ET.length : Int) := by rw [IntKind.wrap_i64]; omega
      have hM100 : (L.take M).length ≤ 100000 := by rw [htl]; omega
      have hMc : (M : Int) ≤ (c5 : Int) := by omega
      have hETE : (ET.length : Int) ≤ (E.length : Int) := by omega
      have hETl := Lib.hid (show ET.length < E.length by omega)
      have hcM : ¬ c5 = M := by omega
      have hMLI : (M : Int) ≤ (L.length : Int) := by omega
      have hETI : (0 : Int) ≤ (ET.length : Int) := by omega
      have HM100 := Lib.hid hM100
      clear hlist hb5 hsm hLd hEE hgt hgd hsmd hELn hE hET hED hr htl hM100 HSM HLD HBG HKK HBW t0 t1 s0 s1 hR1 hR2 hV hb34 hb3 hbw hbw3 hFo hown hsrc hfin h5 hu5 HK3 HK31 HK32 HK33 HSR1 HSR2 HLL HPOS hM hMr
      obtain ⟨n0, n1⟩ := HK5.out w5 (Below.refl _ _)
      go_wp2_with fail
      refine HE5.out.mono ?_
      intro e w6 hm6
      obtain ⟨p6, c6, rfl, hB6, hb6, ho6⟩ := made_conv hm6
      obtain ⟨m0, m1⟩ := HK5.out w6 hb6
      have HDC6 := Lib.hid (HDC.out w6 _ hB6 (fun g hg => (ho6 g hg).2))
      obtain ⟨g6, o6, rfl, hc6, hbd⟩ := bytes_drop hB6 ET.length hETl.out
      rw [HDROP.out] at hbd
      have hlE : E.length - ET.length = ED.length := by omega
      rw [hlE] at hbd
      have HCV : Hid (∀ W, Below w6.heap.size w6 W → (Go.convert 34 9 (.slice (some ⟨g6, o6 + ET.length, none⟩) ED.length (c6 - ET.length))).run Tryz.prog W = .ok (.string ⟨ED.toArray⟩) W) := Lib.hid fun W hb => run_convert_at (hbd.below hb)
      have hcE : ¬ c6 = ET.length := by have := hETl.out; omega
      have HB6 := Lib.hid hb6
      clear hm6 hB6 hb6 ho6 hbd HDC HE5 n0 n1
      go_wp2_with fail
      refine HDC6.out.mono ?_
      rintro e w7 ⟨q7, d7, rfl, hl7, hb7⟩
      have hb57 := HB6.out.trans (hb7.mono HB6.out.size)
      obtain ⟨n0, n1⟩ := HK5.out w7 hb57
      have HSAME := Lib.hid (stSameV w7 _ _ (L.take M) hl7 (HLT.out.below hb57) HM100.out)
      have HB7 := Lib.hid (And.intro hb7 hb57)
      clear hl7 hb7 hb57 HDC6 m0 m1
      go_wp2_with fail
      refine HSAME.out.mono ?_
      rintro e w8 ⟨rfl, m8, rfl⟩
      have hd8 : Below w7.heap.size w7 (w7.drewN m8).drew := (drewN_below w7 m8).trans (drewBelow (w7.drewN m8))
      have hd8' : Below w5.heap.size w5 (w7.drewN m8).drew := HB7.out.2.trans (hd8.mono HB7.out.2.size)
      have hd9 : Below w7.heap.size w7 (w7.drewN (m8 + 1)) := drewN_below w7 (m8 + 1)
      have hd9' : Below w5.heap.size w5 (w7.drewN (m8 + 1)) := HB7.out.2.trans (hd9.mono HB7.out.2.size)
      obtain ⟨i0, i1⟩ := HK5.out _ hd8'
      obtain ⟨j0, j1⟩ := HK5.out _ hd9'
      have cv8 := HCV.out _ (HB7.out.1.trans (hd8.mono HB7.out.1.size))
      have cv9 := HCV.out _ (HB7.out.1.trans (hd9.mono HB7.out.1.size))
      clear HSAME HLT HM100
      go_wp2_with fail
      go_region_with
        (first
          | (go_at_call 17; with_reducible refine Calls.mono (HED.out (w7.drewN m8).drew hd8') ?_; intro e w9 hm9; obtain ⟨p9, c9, rfl, hB9, hb9, ho9⟩ := made_conv hm9; have hcv9 := run_convert_at hB9; have hb79 := hd8.trans (drew2 hb9 hd8); have cvA := HCV.out w9 (HB7.out.1.trans (hb79.mono HB7.out.1.size)))
          | (go_at_call 17; with_reducible refine Calls.mono (HED.out (w7.drewN (m8 + 1)) hd9') ?_; intro e w9 hm9; obtain ⟨p9, c9, rfl, hB9, hb9, ho9⟩ := made_conv hm9; have hcv9 := run_convert_at hB9; have hb79 := hd9.trans (drew2 hb9 hd9); have cvA := HCV.out w9 (HB7.out.1.trans (hb79.mono HB7.out.1.size))))
      all_goals
        go_wp2_with fail
        go_ret
        exact ⟨rfl, HBW5.out.trans ((HB7.out.2.trans (hb79.mono HB7.out.2.size)).mono HBW5.out.size)⟩
end Go.Proofs.YtkidcgaogjlpaaaGreat
