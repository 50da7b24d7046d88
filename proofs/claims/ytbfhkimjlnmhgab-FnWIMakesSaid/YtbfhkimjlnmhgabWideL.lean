/- FnWIMakes' walk. -/
import Derived.Test.YtbfhkimjlnmhgabWide
import Derived.Laws.StructEq
import Derived.Laws.Tables
import Derived.Laws.Cover2
import Derived.KernelRfl
import Derived.Laws.BitsLemmas
namespace Go.Proofs.Ytbfhkimjlnmhgab
open Go.RowKit
set_option linter.unusedVariables false

theorem Gives.cell {w w' : World} {v : Value} {e : Ending} (h : Gives w v e w') {b o : Nat} (hb : b < w.heap.size) : w'.cell? ⟨b, o, none⟩ = w.cell? ⟨b, o, none⟩ := h.2.cell (p := ⟨b, o, none⟩) hb
theorem eqRow (a b c d : Int) (w : World) : (Op.equalIn 10000 25 (.agg #[.int .u64 a, .int .u64 b, .int .u64 c, .int .u64 d]) (.agg #[.int .u64 a, .int .u64 b, .int .u64 c, .int .u64 d])).run Try.prog w = .ok true w := by
  have u3 := Try.underlying22
  have a3 := Try.isAgg22
  have z3 := Try.sizeOf22
  rw [show (10000 : Nat) = 9999 + 1 from rfl, Op.equalIn]
  simp only [Sem.run_bind, run_underlying Try.underlying25, Result.andThen_ok]
  simp only [Std.Legacy.Range.forIn_eq_forIn_range', Std.Legacy.Range.size, Nat.sub_zero, Nat.add_sub_cancel, Nat.div_one, List.range'_succ, List.range'_zero, List.forIn_cons, List.forIn_nil]
  go_simp
theorem rowOf4 {w : World} {b : Nat} {a0 a1 a2 a3 : Value} {T : TypeId} (h : w.heap[b]? = some (.cells #[a0, a1, a2, a3] T (0, 0))) :
    w.cell? ⟨b, 0, none⟩ = some a0 ∧ w.cell? ⟨b, 1, none⟩ = some a1 ∧ w.cell? ⟨b, 2, none⟩ = some a2 ∧ w.cell? ⟨b, 3, none⟩ = some a3 := by
  simp [World.cell?, h]
set_option maxRecDepth 100000 in
theorem law1n (a v n : Int) (ha0 : 0 ≤ a) (ha1 : a ≤ 255) (ha : a % 7 = 0) (hv0 : 0 ≤ v) (hv1 : v ≤ 18446744073709551615) (hq : v / 9223372036854775808 = 1) (hn : IntKind.i64.wrap v = n) (hv : IntKind.u64.wrap n = v) (hs : n < 0) (w : World) : Calls Try.prog 3 #[.int .u8 a, .int .u64 v] w (Gives w (.bool true)) := by
  have hA : ∀ w', Below w.heap.size w w' → w.heap.size < w'.heap.size → w'.heap[w.heap.size]? = some (.cells #[.int .u64 v, .int .u64 18446744073709551615, .int .u64 0, .int .u64 0] 25 (0, 0)) → Calls Try.prog 5 #[.int .i64 1, .int .u64 v] w' fun e w'' => e = .returned (.agg #[.int .u64 v, .int .u64 18446744073709551615, .int .u64 0, .int .u64 0]) ∧ Below w.heap.size w w'' ∧ w.heap.size < w''.heap.size ∧ w''.heap[w.heap.size]? = some (.cells #[.int .u64 v, .int .u64 18446744073709551615, .int .u64 0, .int .u64 0] 25 (0, 0)) := fun w' hb hl hc =>
    (from1n v n hn hv hs w').mono fun e w'' h => ⟨h.1, hb.trans (h.2.mono hb.size), by have := h.2.size; omega, by rw [h.2.block _ hl]; exact hc⟩
  have hC : ∀ w', Below w.heap.size w w' → w.heap.size < w'.heap.size → w'.heap[w.heap.size]? = some (.cells #[.int .u64 v, .int .u64 18446744073709551615, .int .u64 0, .int .u64 0] 25 (0, 0)) → Calls Try.prog 5 #[.int .i64 6, .int .u64 9] w' fun e w'' => e = .returned (.agg #[.int .u64 9, .int .u64 0, .int .u64 0, .int .u64 0]) ∧ Below w.heap.size w w'' ∧ w.heap.size < w''.heap.size ∧ w''.heap[w.heap.size]? = some (.cells #[.int .u64 v, .int .u64 18446744073709551615, .int .u64 0, .int .u64 0] 25 (0, 0)) := fun w' hb hl hc =>
    (from6u 9 9 rfl w').mono fun e w'' h => ⟨h.1, hb.trans (h.2.mono hb.size), by have := h.2.size; omega, by rw [h.2.block _ hl]; exact hc⟩
  have HA := Lib.hid hA
  have HC := Lib.hid hC
  clear hA hC hn hv hs
  go_enter Try.func3, Try.ntmps3
  go_wp2_with fail
  obtain ⟨W, hW⟩ : ∃ W : World, W = (w.alloc (.cells #[.int .u64 v, .int .u64 18446744073709551615, .int .u64 0, .int .u64 0] 25)) := ⟨_, rfl⟩
  have hb0 : Below w.heap.size w W.drew := by rw [hW]; exact ((Below.refl _ w).alloc (Nat.le_refl _) _).trans ⟨rfl, rfl, rfl, Nat.le_refl _, fun _ _ => rfl⟩
  have hl0 : w.heap.size < W.drew.heap.size := by rw [hW]; simp
  have hc0 : W.drew.heap[w.heap.size]? = some (.cells #[.int .u64 v, .int .u64 18446744073709551615, .int .u64 0, .int .u64 0] 25 (0, 0)) := by rw [hW]; exact heap_alloc_new _ _
  rw [← hW]
  clear hW
  obtain ⟨x0, x1, x2, x3⟩ := rowOf4 hc0
  have e1 := eqRow v 18446744073709551615 0 0
  have e2 := eqRow 9 0 0 0
  go_region_held3 (fun w' => w'.cell? ⟨w.heap.size, 0, none⟩ = some (.int .u64 v) ∧ w'.cell? ⟨w.heap.size, 1, none⟩ = some (.int .u64 18446744073709551615) ∧ w'.cell? ⟨w.heap.size, 2, none⟩ = some (.int .u64 0) ∧ w'.cell? ⟨w.heap.size, 3, none⟩ = some (.int .u64 0)) (first | go_keep | (go_split_ands; refine ⟨?_, ?_, ?_, ?_⟩ <;> assumption)) (first
    | (go_at_call 5; ((with_reducible refine (HA.out _ hb0 hl0 hc0).mono ?_); rintro e w1 ⟨rfl, hb1, hl1, hc1⟩; obtain ⟨y0, y1, y2, y3⟩ := rowOf4 hc1))
    | (go_at_call 5; ((with_reducible refine (HC.out _ hb1 hl1 hc1).mono ?_); rintro e w2 ⟨rfl, hb2, hl2, hc2⟩; obtain ⟨z0, z1, z2, z3⟩ := rowOf4 hc2))
    | fail)
  all_goals
    go_wp2_with fail
    go_ret
    exact ⟨rfl, hb2⟩
set_option maxRecDepth 100000 in
theorem law1p (a v n : Int) (ha0 : 0 ≤ a) (ha1 : a ≤ 255) (ha : a % 7 = 0) (hv0 : 0 ≤ v) (hv1 : v ≤ 18446744073709551615) (hq : v / 9223372036854775808 = 0) (hn : IntKind.i64.wrap v = n) (hv : IntKind.u64.wrap n = v) (hs : 0 ≤ n) (w : World) : Calls Try.prog 3 #[.int .u8 a, .int .u64 v] w (Gives w (.bool true)) := by
  have hA : ∀ w', Below w.heap.size w w' → w.heap.size < w'.heap.size → w'.heap[w.heap.size]? = some (.cells #[.int .u64 v, .int .u64 0, .int .u64 0, .int .u64 0] 25 (0, 0)) → Calls Try.prog 5 #[.int .i64 1, .int .u64 v] w' fun e w'' => e = .returned (.agg #[.int .u64 v, .int .u64 0, .int .u64 0, .int .u64 0]) ∧ Below w.heap.size w w'' ∧ w.heap.size < w''.heap.size ∧ w''.heap[w.heap.size]? = some (.cells #[.int .u64 v, .int .u64 0, .int .u64 0, .int .u64 0] 25 (0, 0)) := fun w' hb hl hc =>
    (from1p v n hn hv hs w').mono fun e w'' h => ⟨h.1, hb.trans (h.2.mono hb.size), by have := h.2.size; omega, by rw [h.2.block _ hl]; exact hc⟩
  have hC : ∀ w', Below w.heap.size w w' → w.heap.size < w'.heap.size → w'.heap[w.heap.size]? = some (.cells #[.int .u64 v, .int .u64 0, .int .u64 0, .int .u64 0] 25 (0, 0)) → Calls Try.prog 5 #[.int .i64 6, .int .u64 9] w' fun e w'' => e = .returned (.agg #[.int .u64 9, .int .u64 0, .int .u64 0, .int .u64 0]) ∧ Below w.heap.size w w'' ∧ w.heap.size < w''.heap.size ∧ w''.heap[w.heap.size]? = some (.cells #[.int .u64 v, .int .u64 0, .int .u64 0, .int .u64 0] 25 (0, 0)) := fun w' hb hl hc =>
    (from6u 9 9 rfl w').mono fun e w'' h => ⟨h.1, hb.trans (h.2.mono hb.size), by have := h.2.size; omega, by rw [h.2.block _ hl]; exact hc⟩
  have HA := Lib.hid hA
  have HC := Lib.hid hC
  clear hA hC hn hv hs
  go_enter Try.func3, Try.ntmps3
  go_wp2_with fail
  obtain ⟨W, hW⟩ : ∃ W : World, W = (w.alloc (.cells #[.int .u64 v, .int .u64 0, .int .u64 0, .int .u64 0] 25)) := ⟨_, rfl⟩
  have hb0 : Below w.heap.size w W.drew := by rw [hW]; exact ((Below.refl _ w).alloc (Nat.le_refl _) _).trans ⟨rfl, rfl, rfl, Nat.le_refl _, fun _ _ => rfl⟩
  have hl0 : w.heap.size < W.drew.heap.size := by rw [hW]; simp
  have hc0 : W.drew.heap[w.heap.size]? = some (.cells #[.int .u64 v, .int .u64 0, .int .u64 0, .int .u64 0] 25 (0, 0)) := by rw [hW]; exact heap_alloc_new _ _
  rw [← hW]
  clear hW
  obtain ⟨x0, x1, x2, x3⟩ := rowOf4 hc0
  have e1 := eqRow v 0 0 0
  have e2 := eqRow 9 0 0 0
  go_region_held3 (fun w' => w'.cell? ⟨w.heap.size, 0, none⟩ = some (.int .u64 v) ∧ w'.cell? ⟨w.heap.size, 1, none⟩ = some (.int .u64 0) ∧ w'.cell? ⟨w.heap.size, 2, none⟩ = some (.int .u64 0) ∧ w'.cell? ⟨w.heap.size, 3, none⟩ = some (.int .u64 0)) (first | go_keep | (go_split_ands; refine ⟨?_, ?_, ?_, ?_⟩ <;> assumption)) (first
    | (go_at_call 5; ((with_reducible refine (HA.out _ hb0 hl0 hc0).mono ?_); rintro e w1 ⟨rfl, hb1, hl1, hc1⟩; obtain ⟨y0, y1, y2, y3⟩ := rowOf4 hc1))
    | (go_at_call 5; ((with_reducible refine (HC.out _ hb1 hl1 hc1).mono ?_); rintro e w2 ⟨rfl, hb2, hl2, hc2⟩; obtain ⟨z0, z1, z2, z3⟩ := rowOf4 hc2))
    | fail)
  all_goals
    go_wp2_with fail
    go_ret
    exact ⟨rfl, hb2⟩
set_option maxRecDepth 100000 in
theorem law2n (a v n : Int) (ha0 : 0 ≤ a) (ha1 : a ≤ 255) (ha : a % 7 = 1) (hv0 : 0 ≤ v) (hv1 : v ≤ 18446744073709551615) (hq : v / 9223372036854775808 = 1) (hn : IntKind.i64.wrap v = n) (hv : IntKind.u64.wrap n = v) (hs : n < 0) (w : World) : Calls Try.prog 3 #[.int .u8 a, .int .u64 v] w (Gives w (.bool true)) := by
  clear hn hv hs
  go_enter Try.func3, Try.ntmps3
  go_wp2_with fail
  go_ret
  exact ⟨rfl, Below.refl _ _⟩
set_option maxRecDepth 100000 in
theorem law2p (a v n : Int) (ha0 : 0 ≤ a) (ha1 : a ≤ 255) (ha : a % 7 = 1) (hv0 : 0 ≤ v) (hv1 : v ≤ 18446744073709551615) (hq : v / 9223372036854775808 = 0) (hn : IntKind.i64.wrap v = n) (hv : IntKind.u64.wrap n = v) (hs : 0 ≤ n) (w : World) : Calls Try.prog 3 #[.int .u8 a, .int .u64 v] w (Gives w (.bool true)) := by
  have hA : ∀ w', Below w.heap.size w w' → w.heap.size < w'.heap.size → w'.heap[w.heap.size]? = some (.cells #[.int .u64 v, .int .u64 0, .int .u64 0, .int .u64 0] 25 (0, 0)) → Calls Try.prog 5 #[.int .i64 2, .int .u64 v] w' fun e w'' => e = .returned (.agg #[.int .u64 v, .int .u64 0, .int .u64 0, .int .u64 0]) ∧ Below w.heap.size w w'' ∧ w.heap.size < w''.heap.size ∧ w''.heap[w.heap.size]? = some (.cells #[.int .u64 v, .int .u64 0, .int .u64 0, .int .u64 0] 25 (0, 0)) := fun w' hb hl hc =>
    (from2p v n hn hv hs w').mono fun e w'' h => ⟨h.1, hb.trans (h.2.mono hb.size), by have := h.2.size; omega, by rw [h.2.block _ hl]; exact hc⟩
  have hC : ∀ w', Below w.heap.size w w' → w.heap.size < w'.heap.size → w'.heap[w.heap.size]? = some (.cells #[.int .u64 v, .int .u64 0, .int .u64 0, .int .u64 0] 25 (0, 0)) → Calls Try.prog 5 #[.int .i64 6, .int .u64 9] w' fun e w'' => e = .returned (.agg #[.int .u64 9, .int .u64 0, .int .u64 0, .int .u64 0]) ∧ Below w.heap.size w w'' ∧ w.heap.size < w''.heap.size ∧ w''.heap[w.heap.size]? = some (.cells #[.int .u64 v, .int .u64 0, .int .u64 0, .int .u64 0] 25 (0, 0)) := fun w' hb hl hc =>
    (from6u 9 9 rfl w').mono fun e w'' h => ⟨h.1, hb.trans (h.2.mono hb.size), by have := h.2.size; omega, by rw [h.2.block _ hl]; exact hc⟩
  have HA := Lib.hid hA
  have HC := Lib.hid hC
  clear hA hC hn hv hs
  go_enter Try.func3, Try.ntmps3
  go_wp2_with fail
  obtain ⟨W, hW⟩ : ∃ W : World, W = (w.alloc (.cells #[.int .u64 v, .int .u64 0, .int .u64 0, .int .u64 0] 25)) := ⟨_, rfl⟩
  have hb0 : Below w.heap.size w W.drew := by rw [hW]; exact ((Below.refl _ w).alloc (Nat.le_refl _) _).trans ⟨rfl, rfl, rfl, Nat.le_refl _, fun _ _ => rfl⟩
  have hl0 : w.heap.size < W.drew.heap.size := by rw [hW]; simp
  have hc0 : W.drew.heap[w.heap.size]? = some (.cells #[.int .u64 v, .int .u64 0, .int .u64 0, .int .u64 0] 25 (0, 0)) := by rw [hW]; exact heap_alloc_new _ _
  rw [← hW]
  clear hW
  obtain ⟨x0, x1, x2, x3⟩ := rowOf4 hc0
  have e1 := eqRow v 0 0 0
  have e2 := eqRow 9 0 0 0
  go_region_held3 (fun w' => w'.cell? ⟨w.heap.size, 0, none⟩ = some (.int .u64 v) ∧ w'.cell? ⟨w.heap.size, 1, none⟩ = some (.int .u64 0) ∧ w'.cell? ⟨w.heap.size, 2, none⟩ = some (.int .u64 0) ∧ w'.cell? ⟨w.heap.size, 3, none⟩ = some (.int .u64 0)) (first | go_keep | (go_split_ands; refine ⟨?_, ?_, ?_, ?_⟩ <;> assumption)) (first
    | (go_at_call 5; ((with_reducible refine (HA.out _ hb0 hl0 hc0).mono ?_); rintro e w1 ⟨rfl, hb1, hl1, hc1⟩; obtain ⟨y0, y1, y2, y3⟩ := rowOf4 hc1))
    | (go_at_call 5; ((with_reducible refine (HC.out _ hb1 hl1 hc1).mono ?_); rintro e w2 ⟨rfl, hb2, hl2, hc2⟩; obtain ⟨z0, z1, z2, z3⟩ := rowOf4 hc2))
    | fail)
  all_goals
    go_wp2_with fail
    go_ret
    exact ⟨rfl, hb2⟩
set_option maxRecDepth 100000 in
theorem law3n (a v n : Int) (ha0 : 0 ≤ a) (ha1 : a ≤ 255) (ha : a % 7 = 2) (hv0 : 0 ≤ v) (hv1 : v ≤ 18446744073709551615) (hq : v / 9223372036854775808 = 1) (hn : IntKind.i64.wrap v = n) (hv : IntKind.u64.wrap n = v) (hs : n < 0) (w : World) : Calls Try.prog 3 #[.int .u8 a, .int .u64 v] w (Gives w (.bool true)) := by
  have hA : ∀ w', Below w.heap.size w w' → w.heap.size < w'.heap.size → w'.heap[w.heap.size]? = some (.cells #[.int .u64 v, .int .u64 18446744073709551615, .int .u64 18446744073709551615, .int .u64 18446744073709551615] 25 (0, 0)) → Calls Try.prog 5 #[.int .i64 3, .int .u64 v] w' fun e w'' => e = .returned (.agg #[.int .u64 v, .int .u64 18446744073709551615, .int .u64 18446744073709551615, .int .u64 18446744073709551615]) ∧ Below w.heap.size w w'' ∧ w.heap.size < w''.heap.size ∧ w''.heap[w.heap.size]? = some (.cells #[.int .u64 v, .int .u64 18446744073709551615, .int .u64 18446744073709551615, .int .u64 18446744073709551615] 25 (0, 0)) := fun w' hb hl hc =>
    (from3n v n hn hv hs w').mono fun e w'' h => ⟨h.1, hb.trans (h.2.mono hb.size), by have := h.2.size; omega, by rw [h.2.block _ hl]; exact hc⟩
  have hC : ∀ w', Below w.heap.size w w' → w.heap.size < w'.heap.size → w'.heap[w.heap.size]? = some (.cells #[.int .u64 v, .int .u64 18446744073709551615, .int .u64 18446744073709551615, .int .u64 18446744073709551615] 25 (0, 0)) → Calls Try.prog 5 #[.int .i64 6, .int .u64 9] w' fun e w'' => e = .returned (.agg #[.int .u64 9, .int .u64 0, .int .u64 0, .int .u64 0]) ∧ Below w.heap.size w w'' ∧ w.heap.size < w''.heap.size ∧ w''.heap[w.heap.size]? = some (.cells #[.int .u64 v, .int .u64 18446744073709551615, .int .u64 18446744073709551615, .int .u64 18446744073709551615] 25 (0, 0)) := fun w' hb hl hc =>
    (from6u 9 9 rfl w').mono fun e w'' h => ⟨h.1, hb.trans (h.2.mono hb.size), by have := h.2.size; omega, by rw [h.2.block _ hl]; exact hc⟩
  have HA := Lib.hid hA
  have HC := Lib.hid hC
  clear hA hC hn hv hs
  go_enter Try.func3, Try.ntmps3
  go_wp2_with fail
  obtain ⟨W, hW⟩ : ∃ W : World, W = (w.alloc (.cells #[.int .u64 v, .int .u64 18446744073709551615, .int .u64 18446744073709551615, .int .u64 18446744073709551615] 25)) := ⟨_, rfl⟩
  have hb0 : Below w.heap.size w W.drew := by rw [hW]; exact ((Below.refl _ w).alloc (Nat.le_refl _) _).trans ⟨rfl, rfl, rfl, Nat.le_refl _, fun _ _ => rfl⟩
  have hl0 : w.heap.size < W.drew.heap.size := by rw [hW]; simp
  have hc0 : W.drew.heap[w.heap.size]? = some (.cells #[.int .u64 v, .int .u64 18446744073709551615, .int .u64 18446744073709551615, .int .u64 18446744073709551615] 25 (0, 0)) := by rw [hW]; exact heap_alloc_new _ _
  rw [← hW]
  clear hW
  obtain ⟨x0, x1, x2, x3⟩ := rowOf4 hc0
  have e1 := eqRow v 18446744073709551615 18446744073709551615 18446744073709551615
  have e2 := eqRow 9 0 0 0
  go_region_held3 (fun w' => w'.cell? ⟨w.heap.size, 0, none⟩ = some (.int .u64 v) ∧ w'.cell? ⟨w.heap.size, 1, none⟩ = some (.int .u64 18446744073709551615) ∧ w'.cell? ⟨w.heap.size, 2, none⟩ = some (.int .u64 18446744073709551615) ∧ w'.cell? ⟨w.heap.size, 3, none⟩ = some (.int .u64 18446744073709551615)) (first | go_keep | (go_split_ands; refine ⟨?_, ?_, ?_, ?_⟩ <;> assumption)) (first
    | (go_at_call 5; ((with_reducible refine (HA.out _ hb0 hl0 hc0).mono ?_); rintro e w1 ⟨rfl, hb1, hl1, hc1⟩; obtain ⟨y0, y1, y2, y3⟩ := rowOf4 hc1))
    | (go_at_call 5; ((with_reducible refine (HC.out _ hb1 hl1 hc1).mono ?_); rintro e w2 ⟨rfl, hb2, hl2, hc2⟩; obtain ⟨z0, z1, z2, z3⟩ := rowOf4 hc2))
    | fail)
  all_goals
    go_wp2_with fail
    go_ret
    exact ⟨rfl, hb2⟩
set_option maxRecDepth 100000 in
theorem law3p (a v n : Int) (ha0 : 0 ≤ a) (ha1 : a ≤ 255) (ha : a % 7 = 2) (hv0 : 0 ≤ v) (hv1 : v ≤ 18446744073709551615) (hq : v / 9223372036854775808 = 0) (hn : IntKind.i64.wrap v = n) (hv : IntKind.u64.wrap n = v) (hs : 0 ≤ n) (w : World) : Calls Try.prog 3 #[.int .u8 a, .int .u64 v] w (Gives w (.bool true)) := by
  have hA : ∀ w', Below w.heap.size w w' → w.heap.size < w'.heap.size → w'.heap[w.heap.size]? = some (.cells #[.int .u64 v, .int .u64 0, .int .u64 0, .int .u64 0] 25 (0, 0)) → Calls Try.prog 5 #[.int .i64 3, .int .u64 v] w' fun e w'' => e = .returned (.agg #[.int .u64 v, .int .u64 0, .int .u64 0, .int .u64 0]) ∧ Below w.heap.size w w'' ∧ w.heap.size < w''.heap.size ∧ w''.heap[w.heap.size]? = some (.cells #[.int .u64 v, .int .u64 0, .int .u64 0, .int .u64 0] 25 (0, 0)) := fun w' hb hl hc =>
    (from3p v n hn hv hs w').mono fun e w'' h => ⟨h.1, hb.trans (h.2.mono hb.size), by have := h.2.size; omega, by rw [h.2.block _ hl]; exact hc⟩
  have hC : ∀ w', Below w.heap.size w w' → w.heap.size < w'.heap.size → w'.heap[w.heap.size]? = some (.cells #[.int .u64 v, .int .u64 0, .int .u64 0, .int .u64 0] 25 (0, 0)) → Calls Try.prog 5 #[.int .i64 6, .int .u64 9] w' fun e w'' => e = .returned (.agg #[.int .u64 9, .int .u64 0, .int .u64 0, .int .u64 0]) ∧ Below w.heap.size w w'' ∧ w.heap.size < w''.heap.size ∧ w''.heap[w.heap.size]? = some (.cells #[.int .u64 v, .int .u64 0, .int .u64 0, .int .u64 0] 25 (0, 0)) := fun w' hb hl hc =>
    (from6u 9 9 rfl w').mono fun e w'' h => ⟨h.1, hb.trans (h.2.mono hb.size), by have := h.2.size; omega, by rw [h.2.block _ hl]; exact hc⟩
  have HA := Lib.hid hA
  have HC := Lib.hid hC
  clear hA hC hn hv hs
  go_enter Try.func3, Try.ntmps3
  go_wp2_with fail
  obtain ⟨W, hW⟩ : ∃ W : World, W = (w.alloc (.cells #[.int .u64 v, .int .u64 0, .int .u64 0, .int .u64 0] 25)) := ⟨_, rfl⟩
  have hb0 : Below w.heap.size w W.drew := by rw [hW]; exact ((Below.refl _ w).alloc (Nat.le_refl _) _).trans ⟨rfl, rfl, rfl, Nat.le_refl _, fun _ _ => rfl⟩
  have hl0 : w.heap.size < W.drew.heap.size := by rw [hW]; simp
  have hc0 : W.drew.heap[w.heap.size]? = some (.cells #[.int .u64 v, .int .u64 0, .int .u64 0, .int .u64 0] 25 (0, 0)) := by rw [hW]; exact heap_alloc_new _ _
  rw [← hW]
  clear hW
  obtain ⟨x0, x1, x2, x3⟩ := rowOf4 hc0
  have e1 := eqRow v 0 0 0
  have e2 := eqRow 9 0 0 0
  go_region_held3 (fun w' => w'.cell? ⟨w.heap.size, 0, none⟩ = some (.int .u64 v) ∧ w'.cell? ⟨w.heap.size, 1, none⟩ = some (.int .u64 0) ∧ w'.cell? ⟨w.heap.size, 2, none⟩ = some (.int .u64 0) ∧ w'.cell? ⟨w.heap.size, 3, none⟩ = some (.int .u64 0)) (first | go_keep | (go_split_ands; refine ⟨?_, ?_, ?_, ?_⟩ <;> assumption)) (first
    | (go_at_call 5; ((with_reducible refine (HA.out _ hb0 hl0 hc0).mono ?_); rintro e w1 ⟨rfl, hb1, hl1, hc1⟩; obtain ⟨y0, y1, y2, y3⟩ := rowOf4 hc1))
    | (go_at_call 5; ((with_reducible refine (HC.out _ hb1 hl1 hc1).mono ?_); rintro e w2 ⟨rfl, hb2, hl2, hc2⟩; obtain ⟨z0, z1, z2, z3⟩ := rowOf4 hc2))
    | fail)
  all_goals
    go_wp2_with fail
    go_ret
    exact ⟨rfl, hb2⟩
set_option maxRecDepth 100000 in
theorem law4n (a v n : Int) (ha0 : 0 ≤ a) (ha1 : a ≤ 255) (ha : a % 7 = 3) (hv0 : 0 ≤ v) (hv1 : v ≤ 18446744073709551615) (hq : v / 9223372036854775808 = 1) (hn : IntKind.i64.wrap v = n) (hv : IntKind.u64.wrap n = v) (hs : n < 0) (w : World) : Calls Try.prog 3 #[.int .u8 a, .int .u64 v] w (Gives w (.bool true)) := by
  clear hn hv hs
  go_enter Try.func3, Try.ntmps3
  go_wp2_with fail
  go_ret
  exact ⟨rfl, Below.refl _ _⟩
set_option maxRecDepth 100000 in
theorem law4p (a v n : Int) (ha0 : 0 ≤ a) (ha1 : a ≤ 255) (ha : a % 7 = 3) (hv0 : 0 ≤ v) (hv1 : v ≤ 18446744073709551615) (hq : v / 9223372036854775808 = 0) (hn : IntKind.i64.wrap v = n) (hv : IntKind.u64.wrap n = v) (hs : 0 ≤ n) (w : World) : Calls Try.prog 3 #[.int .u8 a, .int .u64 v] w (Gives w (.bool true)) := by
  have hA : ∀ w', Below w.heap.size w w' → w.heap.size < w'.heap.size → w'.heap[w.heap.size]? = some (.cells #[.int .u64 v, .int .u64 0, .int .u64 0, .int .u64 0] 25 (0, 0)) → Calls Try.prog 5 #[.int .i64 4, .int .u64 v] w' fun e w'' => e = .returned (.agg #[.int .u64 v, .int .u64 0, .int .u64 0, .int .u64 0]) ∧ Below w.heap.size w w'' ∧ w.heap.size < w''.heap.size ∧ w''.heap[w.heap.size]? = some (.cells #[.int .u64 v, .int .u64 0, .int .u64 0, .int .u64 0] 25 (0, 0)) := fun w' hb hl hc =>
    (from4p v n hn hv hs w').mono fun e w'' h => ⟨h.1, hb.trans (h.2.mono hb.size), by have := h.2.size; omega, by rw [h.2.block _ hl]; exact hc⟩
  have hC : ∀ w', Below w.heap.size w w' → w.heap.size < w'.heap.size → w'.heap[w.heap.size]? = some (.cells #[.int .u64 v, .int .u64 0, .int .u64 0, .int .u64 0] 25 (0, 0)) → Calls Try.prog 5 #[.int .i64 6, .int .u64 9] w' fun e w'' => e = .returned (.agg #[.int .u64 9, .int .u64 0, .int .u64 0, .int .u64 0]) ∧ Below w.heap.size w w'' ∧ w.heap.size < w''.heap.size ∧ w''.heap[w.heap.size]? = some (.cells #[.int .u64 v, .int .u64 0, .int .u64 0, .int .u64 0] 25 (0, 0)) := fun w' hb hl hc =>
    (from6u 9 9 rfl w').mono fun e w'' h => ⟨h.1, hb.trans (h.2.mono hb.size), by have := h.2.size; omega, by rw [h.2.block _ hl]; exact hc⟩
  have HA := Lib.hid hA
  have HC := Lib.hid hC
  clear hA hC hn hv hs
  go_enter Try.func3, Try.ntmps3
  go_wp2_with fail
  obtain ⟨W, hW⟩ : ∃ W : World, W = (w.alloc (.cells #[.int .u64 v, .int .u64 0, .int .u64 0, .int .u64 0] 25)) := ⟨_, rfl⟩
  have hb0 : Below w.heap.size w W.drew := by rw [hW]; exact ((Below.refl _ w).alloc (Nat.le_refl _) _).trans ⟨rfl, rfl, rfl, Nat.le_refl _, fun _ _ => rfl⟩
  have hl0 : w.heap.size < W.drew.heap.size := by rw [hW]; simp
  have hc0 : W.drew.heap[w.heap.size]? = some (.cells #[.int .u64 v, .int .u64 0, .int .u64 0, .int .u64 0] 25 (0, 0)) := by rw [hW]; exact heap_alloc_new _ _
  rw [← hW]
  clear hW
  obtain ⟨x0, x1, x2, x3⟩ := rowOf4 hc0
  have e1 := eqRow v 0 0 0
  have e2 := eqRow 9 0 0 0
  go_region_held3 (fun w' => w'.cell? ⟨w.heap.size, 0, none⟩ = some (.int .u64 v) ∧ w'.cell? ⟨w.heap.size, 1, none⟩ = some (.int .u64 0) ∧ w'.cell? ⟨w.heap.size, 2, none⟩ = some (.int .u64 0) ∧ w'.cell? ⟨w.heap.size, 3, none⟩ = some (.int .u64 0)) (first | go_keep | (go_split_ands; refine ⟨?_, ?_, ?_, ?_⟩ <;> assumption)) (first
    | (go_at_call 5; ((with_reducible refine (HA.out _ hb0 hl0 hc0).mono ?_); rintro e w1 ⟨rfl, hb1, hl1, hc1⟩; obtain ⟨y0, y1, y2, y3⟩ := rowOf4 hc1))
    | (go_at_call 5; ((with_reducible refine (HC.out _ hb1 hl1 hc1).mono ?_); rintro e w2 ⟨rfl, hb2, hl2, hc2⟩; obtain ⟨z0, z1, z2, z3⟩ := rowOf4 hc2))
    | fail)
  all_goals
    go_wp2_with fail
    go_ret
    exact ⟨rfl, hb2⟩
set_option maxRecDepth 100000 in
theorem law5n (a v n : Int) (ha0 : 0 ≤ a) (ha1 : a ≤ 255) (ha : a % 7 = 4) (hv0 : 0 ≤ v) (hv1 : v ≤ 18446744073709551615) (hq : v / 9223372036854775808 = 1) (hn : IntKind.i64.wrap v = n) (hv : IntKind.u64.wrap n = v) (hs : n < 0) (w : World) : Calls Try.prog 3 #[.int .u8 a, .int .u64 v] w (Gives w (.bool true)) := by
  have hA : ∀ w', Below w.heap.size w w' → w.heap.size < w'.heap.size → w'.heap[w.heap.size]? = some (.cells #[.int .u64 v, .int .u64 0, .int .u64 0, .int .u64 0] 25 (0, 0)) → Calls Try.prog 5 #[.int .i64 5, .int .u64 v] w' fun e w'' => e = .returned (.agg #[.int .u64 v, .int .u64 0, .int .u64 0, .int .u64 0]) ∧ Below w.heap.size w w'' ∧ w.heap.size < w''.heap.size ∧ w''.heap[w.heap.size]? = some (.cells #[.int .u64 v, .int .u64 0, .int .u64 0, .int .u64 0] 25 (0, 0)) := fun w' hb hl hc =>
    (from5u v n hn w').mono fun e w'' h => ⟨h.1, hb.trans (h.2.mono hb.size), by have := h.2.size; omega, by rw [h.2.block _ hl]; exact hc⟩
  have hC : ∀ w', Below w.heap.size w w' → w.heap.size < w'.heap.size → w'.heap[w.heap.size]? = some (.cells #[.int .u64 v, .int .u64 0, .int .u64 0, .int .u64 0] 25 (0, 0)) → Calls Try.prog 5 #[.int .i64 6, .int .u64 9] w' fun e w'' => e = .returned (.agg #[.int .u64 9, .int .u64 0, .int .u64 0, .int .u64 0]) ∧ Below w.heap.size w w'' ∧ w.heap.size < w''.heap.size ∧ w''.heap[w.heap.size]? = some (.cells #[.int .u64 v, .int .u64 0, .int .u64 0, .int .u64 0] 25 (0, 0)) := fun w' hb hl hc =>
    (from6u 9 9 rfl w').mono fun e w'' h => ⟨h.1, hb.trans (h.2.mono hb.size), by have := h.2.size; omega, by rw [h.2.block _ hl]; exact hc⟩
  have HA := Lib.hid hA
  have HC := Lib.hid hC
  clear hA hC hn hv hs
  go_enter Try.func3, Try.ntmps3
  go_wp2_with fail
  obtain ⟨W, hW⟩ : ∃ W : World, W = (w.alloc (.cells #[.int .u64 v, .int .u64 0, .int .u64 0, .int .u64 0] 25)) := ⟨_, rfl⟩
  have hb0 : Below w.heap.size w W.drew := by rw [hW]; exact ((Below.refl _ w).alloc (Nat.le_refl _) _).trans ⟨rfl, rfl, rfl, Nat.le_refl _, fun _ _ => rfl⟩
  have hl0 : w.heap.size < W.drew.heap.size := by rw [hW]; simp
  have hc0 : W.drew.heap[w.heap.size]? = some (.cells #[.int .u64 v, .int .u64 0, .int .u64 0, .int .u64 0] 25 (0, 0)) := by rw [hW]; exact heap_alloc_new _ _
  rw [← hW]
  clear hW
  obtain ⟨x0, x1, x2, x3⟩ := rowOf4 hc0
  have e1 := eqRow v 0 0 0
  have e2 := eqRow 9 0 0 0
  go_region_held3 (fun w' => w'.cell? ⟨w.heap.size, 0, none⟩ = some (.int .u64 v) ∧ w'.cell? ⟨w.heap.size, 1, none⟩ = some (.int .u64 0) ∧ w'.cell? ⟨w.heap.size, 2, none⟩ = some (.int .u64 0) ∧ w'.cell? ⟨w.heap.size, 3, none⟩ = some (.int .u64 0)) (first | go_keep | (go_split_ands; refine ⟨?_, ?_, ?_, ?_⟩ <;> assumption)) (first
    | (go_at_call 5; ((with_reducible refine (HA.out _ hb0 hl0 hc0).mono ?_); rintro e w1 ⟨rfl, hb1, hl1, hc1⟩; obtain ⟨y0, y1, y2, y3⟩ := rowOf4 hc1))
    | (go_at_call 5; ((with_reducible refine (HC.out _ hb1 hl1 hc1).mono ?_); rintro e w2 ⟨rfl, hb2, hl2, hc2⟩; obtain ⟨z0, z1, z2, z3⟩ := rowOf4 hc2))
    | fail)
  all_goals
    go_wp2_with fail
    go_ret
    exact ⟨rfl, hb2⟩
set_option maxRecDepth 100000 in
theorem law5p (a v n : Int) (ha0 : 0 ≤ a) (ha1 : a ≤ 255) (ha : a % 7 = 4) (hv0 : 0 ≤ v) (hv1 : v ≤ 18446744073709551615) (hq : v / 9223372036854775808 = 0) (hn : IntKind.i64.wrap v = n) (hv : IntKind.u64.wrap n = v) (hs : 0 ≤ n) (w : World) : Calls Try.prog 3 #[.int .u8 a, .int .u64 v] w (Gives w (.bool true)) := by
  have hA : ∀ w', Below w.heap.size w w' → w.heap.size < w'.heap.size → w'.heap[w.heap.size]? = some (.cells #[.int .u64 v, .int .u64 0, .int .u64 0, .int .u64 0] 25 (0, 0)) → Calls Try.prog 5 #[.int .i64 5, .int .u64 v] w' fun e w'' => e = .returned (.agg #[.int .u64 v, .int .u64 0, .int .u64 0, .int .u64 0]) ∧ Below w.heap.size w w'' ∧ w.heap.size < w''.heap.size ∧ w''.heap[w.heap.size]? = some (.cells #[.int .u64 v, .int .u64 0, .int .u64 0, .int .u64 0] 25 (0, 0)) := fun w' hb hl hc =>
    (from5u v n hn w').mono fun e w'' h => ⟨h.1, hb.trans (h.2.mono hb.size), by have := h.2.size; omega, by rw [h.2.block _ hl]; exact hc⟩
  have hC : ∀ w', Below w.heap.size w w' → w.heap.size < w'.heap.size → w'.heap[w.heap.size]? = some (.cells #[.int .u64 v, .int .u64 0, .int .u64 0, .int .u64 0] 25 (0, 0)) → Calls Try.prog 5 #[.int .i64 6, .int .u64 9] w' fun e w'' => e = .returned (.agg #[.int .u64 9, .int .u64 0, .int .u64 0, .int .u64 0]) ∧ Below w.heap.size w w'' ∧ w.heap.size < w''.heap.size ∧ w''.heap[w.heap.size]? = some (.cells #[.int .u64 v, .int .u64 0, .int .u64 0, .int .u64 0] 25 (0, 0)) := fun w' hb hl hc =>
    (from6u 9 9 rfl w').mono fun e w'' h => ⟨h.1, hb.trans (h.2.mono hb.size), by have := h.2.size; omega, by rw [h.2.block _ hl]; exact hc⟩
  have HA := Lib.hid hA
  have HC := Lib.hid hC
  clear hA hC hn hv hs
  go_enter Try.func3, Try.ntmps3
  go_wp2_with fail
  obtain ⟨W, hW⟩ : ∃ W : World, W = (w.alloc (.cells #[.int .u64 v, .int .u64 0, .int .u64 0, .int .u64 0] 25)) := ⟨_, rfl⟩
  have hb0 : Below w.heap.size w W.drew := by rw [hW]; exact ((Below.refl _ w).alloc (Nat.le_refl _) _).trans ⟨rfl, rfl, rfl, Nat.le_refl _, fun _ _ => rfl⟩
  have hl0 : w.heap.size < W.drew.heap.size := by rw [hW]; simp
  have hc0 : W.drew.heap[w.heap.size]? = some (.cells #[.int .u64 v, .int .u64 0, .int .u64 0, .int .u64 0] 25 (0, 0)) := by rw [hW]; exact heap_alloc_new _ _
  rw [← hW]
  clear hW
  obtain ⟨x0, x1, x2, x3⟩ := rowOf4 hc0
  have e1 := eqRow v 0 0 0
  have e2 := eqRow 9 0 0 0
  go_region_held3 (fun w' => w'.cell? ⟨w.heap.size, 0, none⟩ = some (.int .u64 v) ∧ w'.cell? ⟨w.heap.size, 1, none⟩ = some (.int .u64 0) ∧ w'.cell? ⟨w.heap.size, 2, none⟩ = some (.int .u64 0) ∧ w'.cell? ⟨w.heap.size, 3, none⟩ = some (.int .u64 0)) (first | go_keep | (go_split_ands; refine ⟨?_, ?_, ?_, ?_⟩ <;> assumption)) (first
    | (go_at_call 5; ((with_reducible refine (HA.out _ hb0 hl0 hc0).mono ?_); rintro e w1 ⟨rfl, hb1, hl1, hc1⟩; obtain ⟨y0, y1, y2, y3⟩ := rowOf4 hc1))
    | (go_at_call 5; ((with_reducible refine (HC.out _ hb1 hl1 hc1).mono ?_); rintro e w2 ⟨rfl, hb2, hl2, hc2⟩; obtain ⟨z0, z1, z2, z3⟩ := rowOf4 hc2))
    | fail)
  all_goals
    go_wp2_with fail
    go_ret
    exact ⟨rfl, hb2⟩
set_option maxRecDepth 100000 in
theorem law6n (a v n : Int) (ha0 : 0 ≤ a) (ha1 : a ≤ 255) (ha : a % 7 = 5) (hv0 : 0 ≤ v) (hv1 : v ≤ 18446744073709551615) (hq : v / 9223372036854775808 = 1) (hn : IntKind.i64.wrap v = n) (hv : IntKind.u64.wrap n = v) (hs : n < 0) (w : World) : Calls Try.prog 3 #[.int .u8 a, .int .u64 v] w (Gives w (.bool true)) := by
  have hA : ∀ w', Below w.heap.size w w' → w.heap.size < w'.heap.size → w'.heap[w.heap.size]? = some (.cells #[.int .u64 v, .int .u64 0, .int .u64 0, .int .u64 0] 25 (0, 0)) → Calls Try.prog 5 #[.int .i64 6, .int .u64 v] w' fun e w'' => e = .returned (.agg #[.int .u64 v, .int .u64 0, .int .u64 0, .int .u64 0]) ∧ Below w.heap.size w w'' ∧ w.heap.size < w''.heap.size ∧ w''.heap[w.heap.size]? = some (.cells #[.int .u64 v, .int .u64 0, .int .u64 0, .int .u64 0] 25 (0, 0)) := fun w' hb hl hc =>
    (from6u v n hn w').mono fun e w'' h => ⟨h.1, hb.trans (h.2.mono hb.size), by have := h.2.size; omega, by rw [h.2.block _ hl]; exact hc⟩
  have hC : ∀ w', Below w.heap.size w w' → w.heap.size < w'.heap.size → w'.heap[w.heap.size]? = some (.cells #[.int .u64 v, .int .u64 0, .int .u64 0, .int .u64 0] 25 (0, 0)) → Calls Try.prog 5 #[.int .i64 6, .int .u64 9] w' fun e w'' => e = .returned (.agg #[.int .u64 9, .int .u64 0, .int .u64 0, .int .u64 0]) ∧ Below w.heap.size w w'' ∧ w.heap.size < w''.heap.size ∧ w''.heap[w.heap.size]? = some (.cells #[.int .u64 v, .int .u64 0, .int .u64 0, .int .u64 0] 25 (0, 0)) := fun w' hb hl hc =>
    (from6u 9 9 rfl w').mono fun e w'' h => ⟨h.1, hb.trans (h.2.mono hb.size), by have := h.2.size; omega, by rw [h.2.block _ hl]; exact hc⟩
  have HA := Lib.hid hA
  have HC := Lib.hid hC
  clear hA hC hn hv hs
  go_enter Try.func3, Try.ntmps3
  go_wp2_with fail
  obtain ⟨W, hW⟩ : ∃ W : World, W = (w.alloc (.cells #[.int .u64 v, .int .u64 0, .int .u64 0, .int .u64 0] 25)) := ⟨_, rfl⟩
  have hb0 : Below w.heap.size w W.drew := by rw [hW]; exact ((Below.refl _ w).alloc (Nat.le_refl _) _).trans ⟨rfl, rfl, rfl, Nat.le_refl _, fun _ _ => rfl⟩
  have hl0 : w.heap.size < W.drew.heap.size := by rw [hW]; simp
  have hc0 : W.drew.heap[w.heap.size]? = some (.cells #[.int .u64 v, .int .u64 0, .int .u64 0, .int .u64 0] 25 (0, 0)) := by rw [hW]; exact heap_alloc_new _ _
  rw [← hW]
  clear hW
  obtain ⟨x0, x1, x2, x3⟩ := rowOf4 hc0
  have e1 := eqRow v 0 0 0
  have e2 := eqRow 9 0 0 0
  go_region_held3 (fun w' => w'.cell? ⟨w.heap.size, 0, none⟩ = some (.int .u64 v) ∧ w'.cell? ⟨w.heap.size, 1, none⟩ = some (.int .u64 0) ∧ w'.cell? ⟨w.heap.size, 2, none⟩ = some (.int .u64 0) ∧ w'.cell? ⟨w.heap.size, 3, none⟩ = some (.int .u64 0)) (first | go_keep | (go_split_ands; refine ⟨?_, ?_, ?_, ?_⟩ <;> assumption)) (first
    | (go_at_call 5; ((with_reducible refine (HA.out _ hb0 hl0 hc0).mono ?_); rintro e w1 ⟨rfl, hb1, hl1, hc1⟩; obtain ⟨y0, y1, y2, y3⟩ := rowOf4 hc1))
    | (go_at_call 5; ((with_reducible refine (HC.out _ hb1 hl1 hc1).mono ?_); rintro e w2 ⟨rfl, hb2, hl2, hc2⟩; obtain ⟨z0, z1, z2, z3⟩ := rowOf4 hc2))
    | fail)
  all_goals
    go_wp2_with fail
    go_ret
    exact ⟨rfl, hb2⟩
set_option maxRecDepth 100000 in
theorem law6p (a v n : Int) (ha0 : 0 ≤ a) (ha1 : a ≤ 255) (ha : a % 7 = 5) (hv0 : 0 ≤ v) (hv1 : v ≤ 18446744073709551615) (hq : v / 9223372036854775808 = 0) (hn : IntKind.i64.wrap v = n) (hv : IntKind.u64.wrap n = v) (hs : 0 ≤ n) (w : World) : Calls Try.prog 3 #[.int .u8 a, .int .u64 v] w (Gives w (.bool true)) := by
  have hA : ∀ w', Below w.heap.size w w' → w.heap.size < w'.heap.size → w'.heap[w.heap.size]? = some (.cells #[.int .u64 v, .int .u64 0, .int .u64 0, .int .u64 0] 25 (0, 0)) → Calls Try.prog 5 #[.int .i64 6, .int .u64 v] w' fun e w'' => e = .returned (.agg #[.int .u64 v, .int .u64 0, .int .u64 0, .int .u64 0]) ∧ Below w.heap.size w w'' ∧ w.heap.size < w''.heap.size ∧ w''.heap[w.heap.size]? = some (.cells #[.int .u64 v, .int .u64 0, .int .u64 0, .int .u64 0] 25 (0, 0)) := fun w' hb hl hc =>
    (from6u v n hn w').mono fun e w'' h => ⟨h.1, hb.trans (h.2.mono hb.size), by have := h.2.size; omega, by rw [h.2.block _ hl]; exact hc⟩
  have hC : ∀ w', Below w.heap.size w w' → w.heap.size < w'.heap.size → w'.heap[w.heap.size]? = some (.cells #[.int .u64 v, .int .u64 0, .int .u64 0, .int .u64 0] 25 (0, 0)) → Calls Try.prog 5 #[.int .i64 6, .int .u64 9] w' fun e w'' => e = .returned (.agg #[.int .u64 9, .int .u64 0, .int .u64 0, .int .u64 0]) ∧ Below w.heap.size w w'' ∧ w.heap.size < w''.heap.size ∧ w''.heap[w.heap.size]? = some (.cells #[.int .u64 v, .int .u64 0, .int .u64 0, .int .u64 0] 25 (0, 0)) := fun w' hb hl hc =>
    (from6u 9 9 rfl w').mono fun e w'' h => ⟨h.1, hb.trans (h.2.mono hb.size), by have := h.2.size; omega, by rw [h.2.block _ hl]; exact hc⟩
  have HA := Lib.hid hA
  have HC := Lib.hid hC
  clear hA hC hn hv hs
  go_enter Try.func3, Try.ntmps3
  go_wp2_with fail
  obtain ⟨W, hW⟩ : ∃ W : World, W = (w.alloc (.cells #[.int .u64 v, .int .u64 0, .int .u64 0, .int .u64 0] 25)) := ⟨_, rfl⟩
  have hb0 : Below w.heap.size w W.drew := by rw [hW]; exact ((Below.refl _ w).alloc (Nat.le_refl _) _).trans ⟨rfl, rfl, rfl, Nat.le_refl _, fun _ _ => rfl⟩
  have hl0 : w.heap.size < W.drew.heap.size := by rw [hW]; simp
  have hc0 : W.drew.heap[w.heap.size]? = some (.cells #[.int .u64 v, .int .u64 0, .int .u64 0, .int .u64 0] 25 (0, 0)) := by rw [hW]; exact heap_alloc_new _ _
  rw [← hW]
  clear hW
  obtain ⟨x0, x1, x2, x3⟩ := rowOf4 hc0
  have e1 := eqRow v 0 0 0
  have e2 := eqRow 9 0 0 0
  go_region_held3 (fun w' => w'.cell? ⟨w.heap.size, 0, none⟩ = some (.int .u64 v) ∧ w'.cell? ⟨w.heap.size, 1, none⟩ = some (.int .u64 0) ∧ w'.cell? ⟨w.heap.size, 2, none⟩ = some (.int .u64 0) ∧ w'.cell? ⟨w.heap.size, 3, none⟩ = some (.int .u64 0)) (first | go_keep | (go_split_ands; refine ⟨?_, ?_, ?_, ?_⟩ <;> assumption)) (first
    | (go_at_call 5; ((with_reducible refine (HA.out _ hb0 hl0 hc0).mono ?_); rintro e w1 ⟨rfl, hb1, hl1, hc1⟩; obtain ⟨y0, y1, y2, y3⟩ := rowOf4 hc1))
    | (go_at_call 5; ((with_reducible refine (HC.out _ hb1 hl1 hc1).mono ?_); rintro e w2 ⟨rfl, hb2, hl2, hc2⟩; obtain ⟨z0, z1, z2, z3⟩ := rowOf4 hc2))
    | fail)
  all_goals
    go_wp2_with fail
    go_ret
    exact ⟨rfl, hb2⟩
set_option maxRecDepth 100000 in
theorem law7n (a v n : Int) (ha0 : 0 ≤ a) (ha1 : a ≤ 255) (ha : a % 7 = 6) (hv0 : 0 ≤ v) (hv1 : v ≤ 18446744073709551615) (hq : v / 9223372036854775808 = 1) (hn : IntKind.i64.wrap v = n) (hv : IntKind.u64.wrap n = v) (hs : n < 0) (w : World) : Calls Try.prog 3 #[.int .u8 a, .int .u64 v] w (Gives w (.bool true)) := by
  have hA : ∀ w', Below w.heap.size w w' → w.heap.size < w'.heap.size → w'.heap[w.heap.size]? = some (.cells #[.int .u64 v, .int .u64 0, .int .u64 0, .int .u64 0] 25 (0, 0)) → Calls Try.prog 5 #[.int .i64 7, .int .u64 v] w' fun e w'' => e = .returned (.agg #[.int .u64 v, .int .u64 0, .int .u64 0, .int .u64 0]) ∧ Below w.heap.size w w'' ∧ w.heap.size < w''.heap.size ∧ w''.heap[w.heap.size]? = some (.cells #[.int .u64 v, .int .u64 0, .int .u64 0, .int .u64 0] 25 (0, 0)) := fun w' hb hl hc =>
    (from7u v n hn w').mono fun e w'' h => ⟨h.1, hb.trans (h.2.mono hb.size), by have := h.2.size; omega, by rw [h.2.block _ hl]; exact hc⟩
  have hC : ∀ w', Below w.heap.size w w' → w.heap.size < w'.heap.size → w'.heap[w.heap.size]? = some (.cells #[.int .u64 v, .int .u64 0, .int .u64 0, .int .u64 0] 25 (0, 0)) → Calls Try.prog 5 #[.int .i64 6, .int .u64 9] w' fun e w'' => e = .returned (.agg #[.int .u64 9, .int .u64 0, .int .u64 0, .int .u64 0]) ∧ Below w.heap.size w w'' ∧ w.heap.size < w''.heap.size ∧ w''.heap[w.heap.size]? = some (.cells #[.int .u64 v, .int .u64 0, .int .u64 0, .int .u64 0] 25 (0, 0)) := fun w' hb hl hc =>
    (from6u 9 9 rfl w').mono fun e w'' h => ⟨h.1, hb.trans (h.2.mono hb.size), by have := h.2.size; omega, by rw [h.2.block _ hl]; exact hc⟩
  have HA := Lib.hid hA
  have HC := Lib.hid hC
  clear hA hC hn hv hs
  go_enter Try.func3, Try.ntmps3
  go_wp2_with fail
  obtain ⟨W, hW⟩ : ∃ W : World, W = (w.alloc (.cells #[.int .u64 v, .int .u64 0, .int .u64 0, .int .u64 0] 25)) := ⟨_, rfl⟩
  have hb0 : Below w.heap.size w W.drew := by rw [hW]; exact ((Below.refl _ w).alloc (Nat.le_refl _) _).trans ⟨rfl, rfl, rfl, Nat.le_refl _, fun _ _ => rfl⟩
  have hl0 : w.heap.size < W.drew.heap.size := by rw [hW]; simp
  have hc0 : W.drew.heap[w.heap.size]? = some (.cells #[.int .u64 v, .int .u64 0, .int .u64 0, .int .u64 0] 25 (0, 0)) := by rw [hW]; exact heap_alloc_new _ _
  rw [← hW]
  clear hW
  obtain ⟨x0, x1, x2, x3⟩ := rowOf4 hc0
  have e1 := eqRow v 0 0 0
  have e2 := eqRow 9 0 0 0
  go_region_held3 (fun w' => w'.cell? ⟨w.heap.size, 0, none⟩ = some (.int .u64 v) ∧ w'.cell? ⟨w.heap.size, 1, none⟩ = some (.int .u64 0) ∧ w'.cell? ⟨w.heap.size, 2, none⟩ = some (.int .u64 0) ∧ w'.cell? ⟨w.heap.size, 3, none⟩ = some (.int .u64 0)) (first | go_keep | (go_split_ands; refine ⟨?_, ?_, ?_, ?_⟩ <;> assumption)) (first
    | (go_at_call 5; ((with_reducible refine (HA.out _ hb0 hl0 hc0).mono ?_); rintro e w1 ⟨rfl, hb1, hl1, hc1⟩; obtain ⟨y0, y1, y2, y3⟩ := rowOf4 hc1))
    | (go_at_call 5; ((with_reducible refine (HC.out _ hb1 hl1 hc1).mono ?_); rintro e w2 ⟨rfl, hb2, hl2, hc2⟩; obtain ⟨z0, z1, z2, z3⟩ := rowOf4 hc2))
    | fail)
  all_goals
    go_wp2_with fail
    go_ret
    exact ⟨rfl, hb2⟩
set_option maxRecDepth 100000 in
theorem law7p (a v n : Int) (ha0 : 0 ≤ a) (ha1 : a ≤ 255) (ha : a % 7 = 6) (hv0 : 0 ≤ v) (hv1 : v ≤ 18446744073709551615) (hq : v / 9223372036854775808 = 0) (hn : IntKind.i64.wrap v = n) (hv : IntKind.u64.wrap n = v) (hs : 0 ≤ n) (w : World) : Calls Try.prog 3 #[.int .u8 a, .int .u64 v] w (Gives w (.bool true)) := by
  have hA : ∀ w', Below w.heap.size w w' → w.heap.size < w'.heap.size → w'.heap[w.heap.size]? = some (.cells #[.int .u64 v, .int .u64 0, .int .u64 0, .int .u64 0] 25 (0, 0)) → Calls Try.prog 5 #[.int .i64 7, .int .u64 v] w' fun e w'' => e = .returned (.agg #[.int .u64 v, .int .u64 0, .int .u64 0, .int .u64 0]) ∧ Below w.heap.size w w'' ∧ w.heap.size < w''.heap.size ∧ w''.heap[w.heap.size]? = some (.cells #[.int .u64 v, .int .u64 0, .int .u64 0, .int .u64 0] 25 (0, 0)) := fun w' hb hl hc =>
    (from7u v n hn w').mono fun e w'' h => ⟨h.1, hb.trans (h.2.mono hb.size), by have := h.2.size; omega, by rw [h.2.block _ hl]; exact hc⟩
  have hC : ∀ w', Below w.heap.size w w' → w.heap.size < w'.heap.size → w'.heap[w.heap.size]? = some (.cells #[.int .u64 v, .int .u64 0, .int .u64 0, .int .u64 0] 25 (0, 0)) → Calls Try.prog 5 #[.int .i64 6, .int .u64 9] w' fun e w'' => e = .returned (.agg #[.int .u64 9, .int .u64 0, .int .u64 0, .int .u64 0]) ∧ Below w.heap.size w w'' ∧ w.heap.size < w''.heap.size ∧ w''.heap[w.heap.size]? = some (.cells #[.int .u64 v, .int .u64 0, .int .u64 0, .int .u64 0] 25 (0, 0)) := fun w' hb hl hc =>
    (from6u 9 9 rfl w').mono fun e w'' h => ⟨h.1, hb.trans (h.2.mono hb.size), by have := h.2.size; omega, by rw [h.2.block _ hl]; exact hc⟩
  have HA := Lib.hid hA
  have HC := Lib.hid hC
  clear hA hC hn hv hs
  go_enter Try.func3, Try.ntmps3
  go_wp2_with fail
  obtain ⟨W, hW⟩ : ∃ W : World, W = (w.alloc (.cells #[.int .u64 v, .int .u64 0, .int .u64 0, .int .u64 0] 25)) := ⟨_, rfl⟩
  have hb0 : Below w.heap.size w W.drew := by rw [hW]; exact ((Below.refl _ w).alloc (Nat.le_refl _) _).trans ⟨rfl, rfl, rfl, Nat.le_refl _, fun _ _ => rfl⟩
  have hl0 : w.heap.size < W.drew.heap.size := by rw [hW]; simp
  have hc0 : W.drew.heap[w.heap.size]? = some (.cells #[.int .u64 v, .int .u64 0, .int .u64 0, .int .u64 0] 25 (0, 0)) := by rw [hW]; exact heap_alloc_new _ _
  rw [← hW]
  clear hW
  obtain ⟨x0, x1, x2, x3⟩ := rowOf4 hc0
  have e1 := eqRow v 0 0 0
  have e2 := eqRow 9 0 0 0
  go_region_held3 (fun w' => w'.cell? ⟨w.heap.size, 0, none⟩ = some (.int .u64 v) ∧ w'.cell? ⟨w.heap.size, 1, none⟩ = some (.int .u64 0) ∧ w'.cell? ⟨w.heap.size, 2, none⟩ = some (.int .u64 0) ∧ w'.cell? ⟨w.heap.size, 3, none⟩ = some (.int .u64 0)) (first | go_keep | (go_split_ands; refine ⟨?_, ?_, ?_, ?_⟩ <;> assumption)) (first
    | (go_at_call 5; ((with_reducible refine (HA.out _ hb0 hl0 hc0).mono ?_); rintro e w1 ⟨rfl, hb1, hl1, hc1⟩; obtain ⟨y0, y1, y2, y3⟩ := rowOf4 hc1))
    | (go_at_call 5; ((with_reducible refine (HC.out _ hb1 hl1 hc1).mono ?_); rintro e w2 ⟨rfl, hb2, hl2, hc2⟩; obtain ⟨z0, z1, z2, z3⟩ := rowOf4 hc2))
    | fail)
  all_goals
    go_wp2_with fail
    go_ret
    exact ⟨rfl, hb2⟩
theorem lawAll (a v : Int) (ha0 : 0 ≤ a) (ha1 : a ≤ 255) (hv0 : 0 ≤ v) (hv1 : v ≤ 18446744073709551615) (w : World) : Calls Try.prog 3 #[.int .u8 a, .int .u64 v] w (Gives w (.bool true)) := by
  have w64 : ∀ n : Int, IntKind.u64.wrap n = n % 18446744073709551616 := fun n => by simp [IntKind.wrap, IntKind.bits, IntKind.signed]
  rcases (by omega : v / 9223372036854775808 = 0 ∨ v / 9223372036854775808 = 1) with hq | hq
  · have hn : IntKind.i64.wrap v = v := by rw [IntKind.wrap_i64]; omega
    have hv : IntKind.u64.wrap v = v := by rw [w64]; omega
    rcases (by omega : a % 7 = 0 ∨ a % 7 = 1 ∨ a % 7 = 2 ∨ a % 7 = 3 ∨ a % 7 = 4 ∨ a % 7 = 5 ∨ a % 7 = 6) with h | h | h | h | h | h | h
    · exact law1p a v v ha0 ha1 h hv0 hv1 hq hn hv hv0 w
    · exact law2p a v v ha0 ha1 h hv0 hv1 hq hn hv hv0 w
    · exact law3p a v v ha0 ha1 h hv0 hv1 hq hn hv hv0 w
    · exact law4p a v v ha0 ha1 h hv0 hv1 hq hn hv hv0 w
    · exact law5p a v v ha0 ha1 h hv0 hv1 hq hn hv hv0 w
    · exact law6p a v v ha0 ha1 h hv0 hv1 hq hn hv hv0 w
    · exact law7p a v v ha0 ha1 h hv0 hv1 hq hn hv hv0 w
  · have hn : IntKind.i64.wrap v = v - 18446744073709551616 := by rw [IntKind.wrap_i64]; omega
    have hv : IntKind.u64.wrap (v - 18446744073709551616) = v := by rw [w64]; omega
    have hs : v - 18446744073709551616 < 0 := by omega
    rcases (by omega : a % 7 = 0 ∨ a % 7 = 1 ∨ a % 7 = 2 ∨ a % 7 = 3 ∨ a % 7 = 4 ∨ a % 7 = 5 ∨ a % 7 = 6) with h | h | h | h | h | h | h
    · exact law1n a v _ ha0 ha1 h hv0 hv1 hq hn hv hs w
    · exact law2n a v _ ha0 ha1 h hv0 hv1 hq hn hv hs w
    · exact law3n a v _ ha0 ha1 h hv0 hv1 hq hn hv hs w
    · exact law4n a v _ ha0 ha1 h hv0 hv1 hq hn hv hs w
    · exact law5n a v _ ha0 ha1 h hv0 hv1 hq hn hv hs w
    · exact law6n a v _ ha0 ha1 h hv0 hv1 hq hn hv hs w
    · exact law7n a v _ ha0 ha1 h hv0 hv1 hq hn hv hs w
end Go.Proofs.Ytbfhkimjlnmhgab
