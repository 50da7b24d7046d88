/- laws.FnPKServer. -/
import Derived.Test.YtlohpmncagfecaaSrvS
import Derived.Test.YtlohpmncagfecaaFaultL
namespace Go.Proofs.Ytlohpmncagfecaa
open Go.RowKit

theorem fits15_yes (w : World) (m y d : ByteArray) (a b c u : Int) (h1 : m.size ≤ 2147483647) (h2 : y.size ≤ 2147483647) (h3 : d.size ≤ 2147483647) :
    Calls Try.prog 32 #[.agg #[.string m, .int .i64 a, .int .i64 b, .int .i64 c, .string y, .string d, .int .i64 u]] w fun e w' => e = .returned (.bool true) ∧ Below w.heap.size w w' := by
  go_enter Try.func32, Try.ntmps32
  go_wp2
  go_ret
  exact ⟨rfl, (Below.refl _ w).alloc (Nat.le_refl _) _⟩

theorem fits15_no (w : World) (m y d : ByteArray) (a b c u : Int) (h : ¬ (m.size ≤ 2147483647 ∧ y.size ≤ 2147483647 ∧ d.size ≤ 2147483647)) :
    Calls Try.prog 32 #[.agg #[.string m, .int .i64 a, .int .i64 b, .int .i64 c, .string y, .string d, .int .i64 u]] w fun e w' => e = .returned (.bool false) ∧ Below w.heap.size w w' := by
  rcases (by omega : 2147483647 < m.size ∨ (m.size ≤ 2147483647 ∧ 2147483647 < y.size) ∨ (m.size ≤ 2147483647 ∧ y.size ≤ 2147483647 ∧ 2147483647 < d.size)) with h1 | ⟨h1, h2⟩ | ⟨h1, h2, h3⟩
  all_goals
    clear h
    go_enter Try.func32, Try.ntmps32
    go_wp2
    go_ret
    exact ⟨rfl, (Below.refl _ w).alloc (Nat.le_refl _) _⟩

theorem pkVersion (w : World) (n v : Nat) (hv : v = 50000 + n % 4501) (hn : n < 65536) :
    Calls Try.prog 33 #[.int .u16 n] w fun e w' => e = .returned (.int .i64 (v : Nat)) ∧ w = w' := by
  obtain ⟨k, hk, e1⟩ : ∃ k : Nat, k = n % 4501 ∧ ((n : Int) % 4501) = (k : Int) := ⟨n % 4501, rfl, by omega⟩
  have hk2 : k < 4501 := by omega
  have hv2 : (v : Int) = 50000 + (k : Int) := by omega
  clear hk hv
  go_enter Try.func33, Try.ntmps33
  go_wp2
  go_ret
  exact ⟨by simp only [hv2]; rfl, rfl⟩

theorem rowIs_of_heap {w : World} {q : Nat} {cs : List Value} {T : TypeId} {fz : Nat × Nat} (h : w.heap[q]? = some (.cells cs.toArray T fz)) : RowIs w q cs := fun j u hj => by
  simp [World.cell?, h, hj]

set_option maxRecDepth 100000 in
theorem lawServer_no1 (w : World) (m y d : ByteArray) (a b c u : Int) (p : Option Addr) (ln cp n at_ : Nat) (hln : ln ≤ 9223372036854775807) (h : ¬ ((m.size ≤ 2147483647 ∧ y.size ≤ 2147483647 ∧ d.size ≤ 2147483647) ∧ ln ≤ 2147483647)) :
    Calls Try.prog 8 #[.agg #[.string m, .int .i64 a, .int .i64 b, .int .i64 c, .string y, .string d, .int .i64 u], .int .u16 n, .slice p ln cp, .int .u16 at_] w fun e w' => e = .returned (.bool true) ∧ Below w.heap.size w w' := by
  by_cases h1 : m.size ≤ 2147483647 ∧ y.size ≤ 2147483647 ∧ d.size ≤ 2147483647
  · have h2 : 2147483647 < ln := by omega
    go_enter Try.func8, Try.ntmps8
    go_wp2_with (go_at_call 32; refine (fits15_yes _ m y d a b c u h1.1 h1.2.1 h1.2.2).mono ?_; rintro e w1 ⟨rfl, hb1⟩)
    go_ret
    exact ⟨rfl, ((Below.refl _ w).alloc (Nat.le_refl _) _).trans (hb1.mono (by simp))⟩
  · go_enter Try.func8, Try.ntmps8
    go_wp2_with (go_at_call 32; refine (fits15_no _ m y d a b c u h1).mono ?_; rintro e w1 ⟨rfl, hb1⟩)
    go_ret
    exact ⟨rfl, ((Below.refl _ w).alloc (Nat.le_refl _) _).trans (hb1.mono (by simp))⟩

set_option maxRecDepth 100000 in
set_option maxHeartbeats 1000000 in
theorem lawServer_no2 (w : World) (m y d : ByteArray) (a b c u : Int) (p : Option Addr) (ln cp n v at_ : Nat) (hn : n < 65536) (hv : v = 50000 + n % 4501) (h1 : m.size ≤ 2147483647) (h2 : y.size ≤ 2147483647) (h3 : d.size ≤ 2147483647) (h4 : ln ≤ 2147483647) (h : ¬ (short [m, y, d] = true ∧ whole [a, b, u] = true ∧ ln ≤ 9)) :
    Calls Try.prog 8 #[.agg #[.string m, .int .i64 a, .int .i64 b, .int .i64 c, .string y, .string d, .int .i64 u], .int .u16 n, .slice p ln cp, .int .u16 at_] w fun e w' => e = .returned (.bool true) ∧ Below w.heap.size w w' := by
  have HV := Lib.hid hv
  have HN := Lib.hid hn
  have h9 : short [m, y, d] = true → whole [a, b, u] = true → 9 < ln := fun x y => Nat.lt_of_not_le fun z => h ⟨x, y, z⟩
  have H9 := Lib.hid h9
  clear h h9 hv hn
  by_cases hs : short [m, y, d] = true
  · cases hw : whole [a, b, u]
    · have HS := Lib.hid hs
      have HW := Lib.hid hw
      clear hs hw
      go_enter Try.func8, Try.ntmps8
      go_wp2_with fail
      refine (fits15_yes _ m y d a b c u h1 h2 h3).mono ?_
      rintro e w1 ⟨rfl, hb1⟩
      simp only [World.size_alloc] at hb1
      have hq1 : w1.heap[w.heap.size]? = some (.cells ([.string m, .int .i64 a, .int .i64 b, .int .i64 c, .string y, .string d, .int .i64 u] : List Value).toArray 65 (0, 0)) := by rw [hb1.block _ (by omega)]; exact heap_alloc_new _ _
      have hB1 := ((Below.refl _ w).alloc (Nat.le_refl _) (.cells #[.string m, .int .i64 a, .int .i64 b, .int .i64 c, .string y, .string d, .int .i64 u] 65)).trans (hb1.mono (by simp))
      have z3 : w1.frozen? ⟨w.heap.size, 3, none⟩ = false := by simp [World.frozen?, hq1]
      have c3 : w1.cell? ⟨w.heap.size, 3, none⟩ = some (.int .i64 c) := by simp [World.cell?, hq1]
      clear hb1
      go_wp2_with fail
      refine (pkVersion _ n v HV.out HN.out).mono ?_
      rintro e w2 ⟨rfl, rfl⟩
      have hq2 := row_set hq1 3 (.int .i64 (v : Nat))
      obtain ⟨w2, hw2⟩ : ∃ w2, w2 = w1.setCell ⟨w.heap.size, 3, none⟩ (.int .i64 (v : Nat)) := ⟨_, rfl⟩
      have hr2 : RowIs w2 w.heap.size [.string m, .int .i64 a, .int .i64 b, .int .i64 (v : Nat), .string y, .string d, .int .i64 u] := by rw [hw2]; exact rowIs_of_heap hq2
      have hB2 : Below w.heap.size w w2 := by rw [hw2]; exact hB1.setCell (Nat.le_refl _) _
      have b0 := hr2 0 _ rfl
      have b4 := hr2 4 _ rfl
      have b5 := hr2 5 _ rfl
      rw [hw2] at b0 b4 b5
      have HW2 := Lib.hid hw2
      have HRW := Lib.hid (show RowIs (w2.alloc (.cells (strs [m, y, d]).toArray 9)) w1.heap.size (strs [m, y, d]) by have h := rowIs_new w2 (strs [m, y, d]) 9; rw [show w2.heap.size = w1.heap.size by rw [hw2]; simp] at h; exact h)
      clear hq1 hq2 hB1 hw2
      go_wp2_with fail
      rw [← HW2.out]
      refine (pkShort _ _ _ [m, y, d] HRW.out (by simp)).mono ?_
      rintro e w3 ⟨rfl, hw3⟩
      rw [HS.out]
      have hB3 : Below w2.heap.size w2 w3 := by rw [← hw3]; exact (Below.refl _ w2).alloc (Nat.le_refl _) _
      have hr3 := hr2.below hB3
      have hBB := hB2.trans (hB3.mono hB2.size)
      clear hw3 hr2 hB2 hB3 b0 b4 b5 z3 c3
      have b1 := hr3 1 _ rfl
      have b2 := hr3 2 _ rfl
      have b6 := hr3 6 _ rfl
      go_wp2_with fail
      refine (pkWhole _ _ _ [a, b, u] (rowIs_new w3 (zints [a, b, u]) 3) (by simp)).mono ?_
      rintro e w4 ⟨rfl, rfl⟩
      rw [HW.out]
      go_wp2_with fail
      go_ret
      exact ⟨rfl, hBB.alloc hBB.size _⟩
    · have h5 := H9.out hs hw
      have HS := Lib.hid hs
      have HW := Lib.hid hw
      clear hs hw
      go_enter Try.func8, Try.ntmps8
      go_wp2_with fail
      refine (fits15_yes _ m y d a b c u h1 h2 h3).mono ?_
      rintro e w1 ⟨rfl, hb1⟩
      simp only [World.size_alloc] at hb1
      have hq1 : w1.heap[w.heap.size]? = some (.cells ([.string m, .int .i64 a, .int .i64 b, .int .i64 c, .string y, .string d, .int .i64 u] : List Value).toArray 65 (0, 0)) := by rw [hb1.block _ (by omega)]; exact heap_alloc_new _ _
      have hB1 := ((Below.refl _ w).alloc (Nat.le_refl _) (.cells #[.string m, .int .i64 a, .int .i64 b, .int .i64 c, .string y, .string d, .int .i64 u] 65)).trans (hb1.mono (by simp))
      have z3 : w1.frozen? ⟨w.heap.size, 3, none⟩ = false := by simp [World.frozen?, hq1]
      have c3 : w1.cell? ⟨w.heap.size, 3, none⟩ = some (.int .i64 c) := by simp [World.cell?, hq1]
      clear hb1
      go_wp2_with fail
      refine (pkVersion _ n v HV.out HN.out).mono ?_
      rintro e w2 ⟨rfl, rfl⟩
      have hq2 := row_set hq1 3 (.int .i64 (v : Nat))
      obtain ⟨w2, hw2⟩ : ∃ w2, w2 = w1.setCell ⟨w.heap.size, 3, none⟩ (.int .i64 (v : Nat)) := ⟨_, rfl⟩
      have hr2 : RowIs w2 w.heap.size [.string m, .int .i64 a, .int .i64 b, .int .i64 (v : Nat), .string y, .string d, .int .i64 u] := by rw [hw2]; exact rowIs_of_heap hq2
      have hB2 : Below w.heap.size w w2 := by rw [hw2]; exact hB1.setCell (Nat.le_refl _) _
      have b0 := hr2 0 _ rfl
      have b4 := hr2 4 _ rfl
      have b5 := hr2 5 _ rfl
      rw [hw2] at b0 b4 b5
      have HW2 := Lib.hid hw2
      have HRW := Lib.hid (show RowIs (w2.alloc (.cells (strs [m, y, d]).toArray 9)) w1.heap.size (strs [m, y, d]) by have h := rowIs_new w2 (strs [m, y, d]) 9; rw [show w2.heap.size = w1.heap.size by rw [hw2]; simp] at h; exact h)
      clear hq1 hq2 hB1 hw2
      go_wp2_with fail
      rw [← HW2.out]
      refine (pkShort _ _ _ [m, y, d] HRW.out (by simp)).mono ?_
      rintro e w3 ⟨rfl, hw3⟩
      rw [HS.out]
      have hB3 : Below w2.heap.size w2 w3 := by rw [← hw3]; exact (Below.refl _ w2).alloc (Nat.le_refl _) _
      have hr3 := hr2.below hB3
      have hBB := hB2.trans (hB3.mono hB2.size)
      clear hw3 hr2 hB2 hB3 b0 b4 b5 z3 c3
      have b1 := hr3 1 _ rfl
      have b2 := hr3 2 _ rfl
      have b6 := hr3 6 _ rfl
      go_wp2_with fail
      refine (pkWhole _ _ _ [a, b, u] (rowIs_new w3 (zints [a, b, u]) 3) (by simp)).mono ?_
      rintro e w4 ⟨rfl, rfl⟩
      rw [HW.out]
      go_wp2_with fail
      go_ret
      exact ⟨rfl, hBB.alloc hBB.size _⟩
  · have hs' : short [m, y, d] = false := by simpa using hs
    have HS := Lib.hid hs'
    clear hs hs'
    go_enter Try.func8, Try.ntmps8
    go_wp2_with fail
    refine (fits15_yes _ m y d a b c u h1 h2 h3).mono ?_
    rintro e w1 ⟨rfl, hb1⟩
    simp only [World.size_alloc] at hb1
    have hq1 : w1.heap[w.heap.size]? = some (.cells ([.string m, .int .i64 a, .int .i64 b, .int .i64 c, .string y, .string d, .int .i64 u] : List Value).toArray 65 (0, 0)) := by rw [hb1.block _ (by omega)]; exact heap_alloc_new _ _
    have hB1 := ((Below.refl _ w).alloc (Nat.le_refl _) (.cells #[.string m, .int .i64 a, .int .i64 b, .int .i64 c, .string y, .string d, .int .i64 u] 65)).trans (hb1.mono (by simp))
    have z3 : w1.frozen? ⟨w.heap.size, 3, none⟩ = false := by simp [World.frozen?, hq1]
    have c3 : w1.cell? ⟨w.heap.size, 3, none⟩ = some (.int .i64 c) := by simp [World.cell?, hq1]
    clear hb1
    go_wp2_with fail
    refine (pkVersion _ n v HV.out HN.out).mono ?_
    rintro e w2 ⟨rfl, rfl⟩
    have hq2 := row_set hq1 3 (.int .i64 (v : Nat))
    obtain ⟨w2, hw2⟩ : ∃ w2, w2 = w1.setCell ⟨w.heap.size, 3, none⟩ (.int .i64 (v : Nat)) := ⟨_, rfl⟩
    have hr2 : RowIs w2 w.heap.size [.string m, .int .i64 a, .int .i64 b, .int .i64 (v : Nat), .string y, .string d, .int .i64 u] := by rw [hw2]; exact rowIs_of_heap hq2
    have hB2 : Below w.heap.size w w2 := by rw [hw2]; exact hB1.setCell (Nat.le_refl _) _
    have b0 := hr2 0 _ rfl
    have b4 := hr2 4 _ rfl
    have b5 := hr2 5 _ rfl
    rw [hw2] at b0 b4 b5
    have HW2 := Lib.hid hw2
    have HRW := Lib.hid (show RowIs (w2.alloc (.cells (strs [m, y, d]).toArray 9)) w1.heap.size (strs [m, y, d]) by have h := rowIs_new w2 (strs [m, y, d]) 9; rw [show w2.heap.size = w1.heap.size by rw [hw2]; simp] at h; exact h)
    clear hq1 hq2 hB1 hw2
    go_wp2_with fail
    rw [← HW2.out]
    refine (pkShort _ _ _ [m, y, d] HRW.out (by simp)).mono ?_
    rintro e w3 ⟨rfl, hw3⟩
    rw [HS.out]
    have hB3 : Below w2.heap.size w2 w3 := by rw [← hw3]; exact (Below.refl _ w2).alloc (Nat.le_refl _) _
    have hr3 := hr2.below hB3
    have hBB := hB2.trans (hB3.mono hB2.size)
    clear hw3 hr2 hB2 hB3 b0 b4 b5 z3 c3
    have b1 := hr3 1 _ rfl
    have b2 := hr3 2 _ rfl
    have b6 := hr3 6 _ rfl
    go_wp2_with fail
    go_ret
    exact ⟨rfl, hBB⟩

theorem whole3n {a b u : Nat} (h : a < 2147483648 ∧ b < 2147483648 ∧ u < 2147483648) : whole [(a : Int), (b : Int), (u : Int)] = true := by simp [whole]; omega

set_option maxHeartbeats 2000000 in
set_option maxRecDepth 100000 in
theorem lawServer_yes (w : World) (m y d : ByteArray) (a b u : Nat) (c : Int) (x : Value) (behind : List UInt8) (n v at_ : Nat) (hn : n < 65536) (hv : v = 50000 + n % 4501) (hm : m.size ≤ 100) (hy : y.size ≤ 100) (hd : d.size ≤ 100) (ha : a < 2147483648) (hb : b < 2147483648) (hu : u < 2147483648) (hx : BytesAt w x behind) (hl : behind.length ≤ 9) (hat : at_ < 65536) :
    Calls Try.prog 8 #[.agg #[.string m, .int .i64 (a : Nat), .int .i64 (b : Nat), .int .i64 c, .string y, .string d, .int .i64 (u : Nat)], .int .u16 n, x, .int .u16 at_] w fun e w' => e = .returned (.bool true) ∧ Below w.heap.size w w' := by
  obtain ⟨p, cp, rfl⟩ := hx.slice
  have hvb : v ≤ 54500 := by omega
  have HI := Lib.hid (fun w1 => pkServer w1 (v : Int) m a b v y d u hm (by omega) (by omega) (by omega) hy hd (by omega))
  have HS := Lib.hid (fun w1 => spServerBytes w1 (v : Int) m a b v y d u hm (by omega) (by omega) (by omega) hy hd (by omega))
  have HG := Lib.hid (fun w1 v1 all hall hv1 hD1 => pkServerGet w1 v1 behind (v : Int) m a b v y d u hm (by omega) (by omega) (by omega) hy hd (by omega) (by omega) all hall hv1 hD1)
  have HZ := Lib.hid (fun w1 v1 all hs hv1 hD1 => pkServerGet_bad w1 v1 (v : Int) m a b v y d u hm (by omega) (by omega) (by omega) hy hd (by omega) all hs hv1 hD1)
  have HP := Lib.hid (fun w1 => spServer w1 (v : Int) m a b v y d u)
  have hbl := srvLen (v : Int) m a b v y d u hm (by omega) (by omega) (by omega) hy hd (by omega)
  have H100 := Lib.hid (And.intro hm (And.intro hy hd))
  have HW3 := Lib.hid (And.intro ha (And.intro hb hu))
  have H3 := Lib.hid (show m.size ≤ 2147483647 ∧ y.size ≤ 2147483647 ∧ d.size ≤ 2147483647 by omega)
  have HV := Lib.hid hv
  have HN := Lib.hid hn
  clear hm hy hd ha hb hu hv hn
  obtain ⟨bs, hbs⟩ : ∃ bs, bs = srvBytes (v : Int) m a b v y d u := ⟨_, rfl⟩
  rw [← hbs] at HI HS HG HZ hbl
  obtain ⟨all, hall⟩ : ∃ all, all = 0 :: bs := ⟨_, rfl⟩
  rw [← hall] at HI HZ
  have hal : all.length ≤ 1001 ∧ 1 ≤ all.length := by rw [hall, List.length_cons]; omega
  have HAll := Lib.hid hall
  clear hbs hall
  unfold srvDec at HG HP
  obtain ⟨Y, hY⟩ : ∃ Y, Y = verT (v : Int) y := ⟨_, rfl⟩
  obtain ⟨D, hD⟩ : ∃ D, D = verD (v : Int) d := ⟨_, rfl⟩
  obtain ⟨U, hU⟩ : ∃ U, U = verP (v : Int) u := ⟨_, rfl⟩
  rw [← hY, ← hD, ← hU] at HG HP
  clear hY hD hU
  unfold srvVals at HI HS HP HG
  go_enter Try.func8, Try.ntmps8
  go_wp2_with fail
  refine (fits15_yes _ m y d a b c u H3.out.1 H3.out.2.1 H3.out.2.2).mono ?_
  rintro e w1 ⟨rfl, hb1⟩
  simp only [World.size_alloc] at hb1
  have hq1 : w1.heap[w.heap.size]? = some (.cells ([.string m, .int .i64 (a : Nat), .int .i64 (b : Nat), .int .i64 c, .string y, .string d, .int .i64 (u : Nat)] : List Value).toArray 65 (0, 0)) := by rw [hb1.block _ (by omega)]; exact heap_alloc_new _ _
  have hB1 := ((Below.refl _ w).alloc (Nat.le_refl _) (.cells #[.string m, .int .i64 (a : Nat), .int .i64 (b : Nat), .int .i64 c, .string y, .string d, .int .i64 (u : Nat)] 65)).trans (hb1.mono (by simp))
  have z3 : w1.frozen? ⟨w.heap.size, 3, none⟩ = false := by simp [World.frozen?, hq1]
  have c3 : w1.cell? ⟨w.heap.size, 3, none⟩ = some (.int .i64 c) := by simp [World.cell?, hq1]
  clear hb1
  go_wp2_with fail
  refine (pkVersion _ n v HV.out HN.out).mono ?_
  rintro e w2 ⟨rfl, rfl⟩
  have hq2 := row_set hq1 3 (.int .i64 (v : Nat))
  obtain ⟨w2, hw2⟩ : ∃ w2, w2 = w1.setCell ⟨w.heap.size, 3, none⟩ (.int .i64 (v : Nat)) := ⟨_, rfl⟩
  have hr2 : RowIs w2 w.heap.size [.string m, .int .i64 (a : Nat), .int .i64 (b : Nat), .int .i64 (v : Nat), .string y, .string d, .int .i64 (u : Nat)] := by rw [hw2]; exact rowIs_of_heap hq2
  have hB2 : Below w.heap.size w w2 := by rw [hw2]; exact hB1.setCell (Nat.le_refl _) _
  have b0 := hr2 0 _ rfl
  have b4 := hr2 4 _ rfl
  have b5 := hr2 5 _ rfl
  rw [hw2] at b0 b4 b5
  have HW2 := Lib.hid hw2
  have HRW := Lib.hid (show RowIs (w2.alloc (.cells (strs [m, y, d]).toArray 9)) w1.heap.size (strs [m, y, d]) by have h := rowIs_new w2 (strs [m, y, d]) 9; rw [show w2.heap.size = w1.heap.size by rw [hw2]; simp] at h; exact h)
  clear hq1 hq2 hB1 hw2
  go_wp2_with fail
  rw [← HW2.out]
  refine (pkShort _ _ _ [m, y, d] HRW.out (by simp)).mono ?_
  rintro e w3 ⟨rfl, hw3⟩
  rw [short3 H100.out]
  have hB3 : Below w2.heap.size w2 w3 := by rw [← hw3]; exact (Below.refl _ w2).alloc (Nat.le_refl _) _
  have hr3 := hr2.below hB3
  have hBB := hB2.trans (hB3.mono hB2.size)
  clear hw3 hr2 hB2 hB3 b0 b4 b5 z3 c3
  have b1 := hr3 1 _ rfl
  have b2 := hr3 2 _ rfl
  have b6 := hr3 6 _ rfl
  go_wp2_with fail
  refine (pkWhole _ _ _ [(a : Int), (b : Int), (u : Int)] (rowIs_new w3 (zints [(a : Int), (b : Int), (u : Int)]) 3) (by simp)).mono ?_
  rintro e w4 ⟨rfl, hw4⟩
  rw [whole3n HW3.out]
  have hB4 : Below w3.heap.size w3 w4 := by rw [← hw4]; exact (Below.refl _ w3).alloc (Nat.le_refl _) _
  have hr4 := hr3.below hB4
  have hB := hBB.trans (hB4.mono hBB.size)
  clear hw4 hr3 hBB hB4 b1 b2 b6
  have a0 := hr4 0 _ rfl
  have a1 := hr4 1 _ rfl
  have a2 := hr4 2 _ rfl
  have a3 := hr4 3 _ rfl
  have a4 := hr4 4 _ rfl
  have a5 := hr4 5 _ rfl
  have a6 := hr4 6 _ rfl
  go_wp2_with fail
  refine (HI.out _).mono ?_
  intro e w5 hm
  obtain ⟨v5, rfl, hv5, hb5, HV5⟩ := Made.hid hm
  clear hm a0 a1 a2 a3 a4 a5 a6
  have hr5 := hr4.below hb5
  have hB5 := hB.trans (hb5.mono hB.size)
  clear hr4 hB hb5
  have a0 := hr5 0 _ rfl
  have a1 := hr5 1 _ rfl
  have a2 := hr5 2 _ rfl
  have a3 := hr5 3 _ rfl
  have a4 := hr5 4 _ rfl
  have a5 := hr5 5 _ rfl
  have a6 := hr5 6 _ rfl
  go_wp2_with fail
  refine (HS.out _).mono ?_
  intro e w6 hm
  obtain ⟨v6, rfl, hv6, hb6, -⟩ := Made.hid hm
  clear hm a0 a1 a2 a3 a4 a5 a6
  have hr6 := hr5.below hb6
  have hB6 := hB5.trans (hb6.mono hB5.size)
  have hv5' := hv5.below hb6
  have HS6 := Lib.hid hb6.size
  clear hr5 hB5 hb6 hv5
  obtain ⟨p5, c5, rfl⟩ := hv5'.slice
  go_wp2_with fail
  refine (pkEnds _ _ v6 0 0 (by decide) all bs HAll.out hv5' hv6 (by omega)).mono ?_
  rintro e w7 ⟨rfl, hb7⟩
  have hr7 := hr6.below hb7
  have hB7 := hB6.trans (hb7.mono hB6.size)
  have hv7 := hv5'.below hb7
  have HS7 := Lib.hid hb7.size
  have hx7 := hx.below hB7
  clear hr6 hB6 hb7 hv5' hv6
  go_wp2_with (first | (go_at_call 16; refine (cloneBytes _ _ all hv7 (by omega)).mono ?_; intro e w8 hm; obtain ⟨p8, c8, rfl, s8, hb8⟩ := hm.since (Below.refl _ _); clear hm) | (at_builtin; refine append_since _ _ all behind rfl _ _ _ rfl _ rfl s8 _ rfl (hx7.below hb8).srcB (by omega) ?_; intro q9 c9 w9 s9))
  have hs9 : BytesAt w9 (.slice q9 (all.length + behind.length) c9) (all ++ behind) := s9.bytes
  refine (HG.out _ _ (all ++ behind) (by rw [HAll.out]; rfl) hs9 (fun g hg => by obtain ⟨F, ho, hF⟩ := s9.own; exact (hF g (ho.2 g hg)).2)).mono ?_
  rintro e wa ⟨rfl, hba⟩
  have hBa := hB7.trans ((s9.below.mono hB7.size).trans (hba.mono (by have := s9.below.size; have := hB7.size; omega)))
  have hra := (hr7.below s9.below).below hba
  have hva := (hv7.below s9.below).below hba
  have HSa := Lib.hid (Nat.le_trans s9.below.size hba.size)
  clear hs9 hba s9 s8 hb8 hr7 hB7 hv7 hx7
  go_wp2_with fail
  have hrn := rowIs_new wa [.string m, .int .i64 (a : Nat), .int .i64 (b : Nat), .int .i64 (v : Nat), .string Y, .string D, .int .i64 (U : Nat)] 65
  have hA : Below wa.heap.size wa (wa.alloc (.cells #[.string m, .int .i64 (a : Nat), .int .i64 (b : Nat), .int .i64 (v : Nat), .string Y, .string D, .int .i64 (U : Nat)] 65)) := (Below.refl _ _).alloc (Nat.le_refl _) _
  have hb0 : 0 < all.length := by omega
  refine (pkCut _ _ all at_ (hva.below hA) hb0 (by omega) hat).mono ?_
  rintro e wb ⟨⟨xb, rfl, hxb, hob⟩, hwb⟩
  have hrb : RowIs wb wa.heap.size [.string m, .int .i64 (a : Nat), .int .i64 (b : Nat), .int .i64 (v : Nat), .string Y, .string D, .int .i64 (U : Nat)] := by rw [← hwb]; exact hrn
  have hrb' : RowIs wb w.heap.size [.string m, .int .i64 (a : Nat), .int .i64 (b : Nat), .int .i64 (v : Nat), .string y, .string d, .int .i64 (u : Nat)] := by rw [← hwb]; exact hra.below hA
  have hBb : Below w.heap.size w wb := by rw [← hwb]; exact hBa.trans (hA.mono hBa.size)
  have hSb : Hid (wa.heap.size < wb.heap.size) := by rw [← hwb]; show _ < _; simp
  rw [hwb] at hxb
  have HOb := Lib.hid hob
  have hsh := short_take (Nat.mod_lt at_ hb0)
  clear hob hwb hrn hA hra hva hBa
  obtain ⟨cut, hcut⟩ : ∃ cut, cut = List.take (at_ % all.length) all := ⟨_, rfl⟩
  rw [← hcut] at hsh hxb
  clear hcut
  obtain ⟨pb, cb, rfl⟩ := hxb.slice
  go_wp2_with fail
  refine (HZ.out _ _ _ hsh hxb (fun g hg => by have h1 := HV5.out g (HOb.out g hg); have h2 := HS6.out; have h3 := HS7.out; have h4 := HSa.out; have h5 := hSb.out; omega)).mono ?_
  rintro e wc ⟨rfl, hbc⟩
  have hrA := (hrb.below hbc).below ((Below.refl _ _).alloc (Nat.le_refl _) (.cells #[.string ⟨#[]⟩, .int .i64 0, .int .i64 0, .int .i64 0, .string ⟨#[]⟩, .string ⟨#[]⟩, .int .i64 0] 65))
  have hrB := (hrb'.below hbc).below ((Below.refl _ _).alloc (Nat.le_refl _) (.cells #[.string ⟨#[]⟩, .int .i64 0, .int .i64 0, .int .i64 0, .string ⟨#[]⟩, .string ⟨#[]⟩, .int .i64 0] 65))
  have hBc := hBb.trans (hbc.mono hBb.size)
  have a0 := hrA 0 _ rfl
  have a1 := hrA 1 _ rfl
  have a2 := hrA 2 _ rfl
  have a3 := hrA 3 _ rfl
  have a4 := hrA 4 _ rfl
  have a5 := hrA 5 _ rfl
  have a6 := hrA 6 _ rfl
  have b0 := hrB 0 _ rfl
  have b1 := hrB 1 _ rfl
  have b2 := hrB 2 _ rfl
  have b3 := hrB 3 _ rfl
  have b4 := hrB 4 _ rfl
  have b5 := hrB 5 _ rfl
  have b6 := hrB 6 _ rfl
  have HRA := Lib.hid hrA
  have HRB := Lib.hid hrB
  clear hrA hrB hrb hrb' hbc hBb hsh hxb
  go_wp2_with fail
  go_region_held3 (fun w' => w'.cell? ⟨wa.heap.size, 0, none⟩ = some (.string m) ∧ w'.cell? ⟨wa.heap.size, 1, none⟩ = some (.int .i64 (a : Nat)) ∧ w'.cell? ⟨wa.heap.size, 2, none⟩ = some (.int .i64 (b : Nat)) ∧ w'.cell? ⟨wa.heap.size, 3, none⟩ = some (.int .i64 (v : Nat)) ∧ w'.cell? ⟨wa.heap.size, 4, none⟩ = some (.string Y) ∧ w'.cell? ⟨wa.heap.size, 5, none⟩ = some (.string D) ∧ w'.cell? ⟨wa.heap.size, 6, none⟩ = some (.int .i64 (U : Nat)) ∧ w'.cell? ⟨w.heap.size, 0, none⟩ = some (.string m) ∧ w'.cell? ⟨w.heap.size, 1, none⟩ = some (.int .i64 (a : Nat)) ∧ w'.cell? ⟨w.heap.size, 2, none⟩ = some (.int .i64 (b : Nat)) ∧ w'.cell? ⟨w.heap.size, 3, none⟩ = some (.int .i64 (v : Nat)) ∧ w'.cell? ⟨w.heap.size, 4, none⟩ = some (.string y) ∧ w'.cell? ⟨w.heap.size, 5, none⟩ = some (.string d) ∧ w'.cell? ⟨w.heap.size, 6, none⟩ = some (.int .i64 (u : Nat))) (first | go_keep | (go_split_ands; refine ⟨?_, ?_, ?_, ?_, ?_, ?_, ?_, ?_, ?_, ?_, ?_, ?_, ?_, ?_⟩ <;> assumption))
    (first | (go_at_call 37; refine (HP.out _).mono ?_; rintro e wd ⟨rfl, hbd⟩; have rA := RowIs.below (w := _) (by exact HRA.out) hbd; have rB := RowIs.below (w := _) (by exact HRB.out) hbd; have x0 := rA 0 _ rfl; have x1 := rA 1 _ rfl; have x2 := rA 2 _ rfl; have x3 := rA 3 _ rfl; have x4 := rA 4 _ rfl; have x5 := rA 5 _ rfl; have x6 := rA 6 _ rfl; have y0 := rB 0 _ rfl; have y1 := rB 1 _ rfl; have y2 := rB 2 _ rfl; have y3 := rB 3 _ rfl; have y4 := rB 4 _ rfl; have y5 := rB 5 _ rfl; have y6 := rB 6 _ rfl) | fail)
  all_goals
    go_wp2_with fail
    go_ret
    refine ⟨rfl, ((hBc.alloc hBc.size _).trans ((below_d _).mono ?_)).trans (hbd.mono ?_)⟩
    · have := hBc.size; simp; omega
    · have := hBc.size; simp; omega

theorem lawServer (w : World) (m y d : ByteArray) (a b c u : Int) (x : Value) (behind : List UInt8) (n at_ : Nat) (hx : BytesAt w x behind) (hlen : behind.length ≤ 9223372036854775807) (hn : n < 65536) (hat : at_ < 65536) :
    Calls Try.prog 8 #[.agg #[.string m, .int .i64 a, .int .i64 b, .int .i64 c, .string y, .string d, .int .i64 u], .int .u16 n, x, .int .u16 at_] w fun e w' => e = .returned (.bool true) ∧ Below w.heap.size w w' := by
  obtain ⟨p, cp, rfl⟩ := id hx.slice
  by_cases h1 : (m.size ≤ 2147483647 ∧ y.size ≤ 2147483647 ∧ d.size ≤ 2147483647) ∧ behind.length ≤ 2147483647
  · by_cases h2 : short [m, y, d] = true ∧ whole [a, b, u] = true ∧ behind.length ≤ 9
    · have h3 : m.size ≤ 100 ∧ y.size ≤ 100 ∧ d.size ≤ 100 := by have := h2.1; simp [short] at this; omega
      have h4 : (0 ≤ a ∧ a < 2147483648) ∧ (0 ≤ b ∧ b < 2147483648) ∧ (0 ≤ u ∧ u < 2147483648) := by have := h2.2.1; simp [whole] at this; omega
      obtain ⟨a', rfl⟩ := Int.eq_ofNat_of_zero_le h4.1.1
      obtain ⟨b', rfl⟩ := Int.eq_ofNat_of_zero_le h4.2.1.1
      obtain ⟨u', rfl⟩ := Int.eq_ofNat_of_zero_le h4.2.2.1
      exact lawServer_yes w m y d a' b' u' c _ behind n _ at_ hn rfl h3.1 h3.2.1 h3.2.2 (by omega) (by omega) (by omega) hx h2.2.2 hat
    · exact lawServer_no2 w m y d a b c u p _ cp n _ at_ hn rfl h1.1.1 h1.1.2.1 h1.1.2.2 h1.2 h2
  · exact lawServer_no1 w m y d a b c u p _ cp n at_ hlen h1
end Go.Proofs.Ytlohpmncagfecaa
