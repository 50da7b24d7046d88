/- Ticks of a precision. -/
import Derived.WalkKit
import Derived.ProofKit
import Derived.Test.YtbfhkimjlnmhgaaChecked
import Derived.LoopTactic
import Derived.Deep.QuietTactic
import Derived.BigQuiet
import Derived.Lib.Hide
import Derived.Test.YtbfhkimjlnmhgaaMem
namespace Go.Proofs.Ytbfhkimjlnmhgaa
open Go.RowKit

theorem pow10_le : ∀ k : Nat, k ≤ 9 → 1 ≤ 10 ^ k ∧ 10 ^ k ≤ 1000000000 := by decide
theorem pow10_lt : ∀ k : Nat, k < 9 → 10 ^ k * 10 = 10 ^ (k + 1) ∧ 10 ^ k ≤ 100000000 := by decide

theorem dtTick (q : Nat) (hq : q ≤ 9) (w : World) : Calls Try.prog 17 #[.int .u8 q] w fun e w' => e = .returned (.int .i64 (10 ^ (9 - q) : Nat)) ∧ w = w' := by
  go_enter Try.func17, Try.ntmps17
  go_wp2
  go_loop [3, 4] (fun t i => ∃ k : Nat, q + k ≤ 9 ∧ i = .int .u8 (q + k : Nat) ∧ t = .int .i64 (10 ^ k : Nat)) (fun _ i => 9 - (intOf i).toNat)
  case atStart => exact ⟨0, by omega, rfl, rfl⟩
  case round =>
    obtain ⟨k, hk, rfl, rfl⟩ := hrel
    by_cases hlt : q + k < 9
    · obtain ⟨h1, h2⟩ := pow10_lt k (by omega)
      obtain ⟨z, hz⟩ : ∃ z, z = 10 ^ k := ⟨_, rfl⟩
      rw [← hz] at h1 h2 ⊢
      have H1 := Lib.hid h1
      clear h1 hz
      go_wp2
      go_round
      case rel => exact ⟨k + 1, by omega, by go_num, by rw [← H1.out]; go_num⟩
      case measure => simp [intOf]; omega
    · have : k = 9 - q := by omega
      subst this
      go_wp2
      go_ret
      exact ⟨rfl, rfl⟩

theorem precScale (q : Nat) (hq : q ≤ 9) (w : World) : Calls Try.prog 39 #[.int .u8 q] w fun e w' => e = .returned (.int .i64 (10 ^ (9 - q) : Nat)) ∧ w = w' := by
  go_enter Try.func39, Try.ntmps39
  go_wp2
  go_loop [3, 4] (fun t i => ∃ k j : Nat, j + k = 9 ∧ q ≤ j ∧ i = .int .u8 j ∧ t = .int .i64 (10 ^ k : Nat)) (fun _ i => (intOf i).toNat)
  case atStart => exact ⟨0, 9, by omega, by omega, rfl, rfl⟩
  case round =>
    obtain ⟨k, j, hk, hj, rfl, rfl⟩ := hrel
    by_cases hlt : q < j
    · obtain ⟨h1, h2⟩ := pow10_lt k (by omega)
      obtain ⟨z, hz⟩ : ∃ z, z = 10 ^ k := ⟨_, rfl⟩
      rw [← hz] at h1 h2 ⊢
      have H1 := Lib.hid h1
      clear h1 hz
      obtain ⟨i, rfl⟩ : ∃ i, j = i + 1 := ⟨j - 1, by omega⟩
      go_wp2
      go_round
      case rel => exact ⟨k + 1, i, by omega, by omega, by go_num, by rw [← H1.out]; go_num⟩
      case measure => simp [intOf]
    · have : j = q := by omega
      subst this
      have : k = 9 - j := by omega
      subst this
      go_wp2
      go_ret
      exact ⟨rfl, rfl⟩

theorem durTrunc (d m : Nat) (hd : d < 9223372036854775808) (hm : 0 < m) (hm2 : m ≤ 1000000000) (w : World) : Calls Try.prog 42 #[.int .i64 d, .int .i64 m] w fun e w' => e = .returned (.int .i64 (d - d % m : Nat)) ∧ w = w' := by
  have h0 : 0 ≤ (d : Int) % (m : Int) := Int.emod_nonneg _ (by omega)
  have h1 : (d : Int) % (m : Int) ≤ d := by have := Nat.mod_le d m; rw [← Int.natCast_emod]; omega
  go_enter Try.func42, Try.ntmps42
  go_wp2
  go_ret
  exact ⟨congrArg (fun x => Ending.returned (.int .i64 x)) (by rw [Int.natCast_sub (Nat.mod_le d m), Int.natCast_emod]), rfl⟩

/-- The precisions that are asked. -/
def Pq (q : Nat) : Prop := q = 0 ∨ q = 3 ∨ q = 6 ∨ q = 9

theorem truncDur (d q : Nat) (hd : d < 9223372036854775808) (hq : Pq q) (w : World) : Calls Try.prog 37 #[.int .i64 d, .int .u8 q] w fun e w' => e = .returned (.int .i64 (d - d % 10 ^ (9 - q) : Nat)) ∧ w = w' := by
  have H := Lib.hid hd
  rcases hq with rfl | rfl | rfl | rfl
  · go_enter Try.func37, Try.ntmps37
    go_wp2_with (go_at_call 42; refine (durTrunc d 1000000000 H.out (by decide) (by decide) _).mono ?_; rintro e w' ⟨rfl, rfl⟩)
    go_ret
    exact ⟨rfl, rfl⟩
  · go_enter Try.func37, Try.ntmps37
    go_wp2_with (go_at_call 42; refine (durTrunc d 1000000 H.out (by decide) (by decide) _).mono ?_; rintro e w' ⟨rfl, rfl⟩)
    go_ret
    exact ⟨rfl, rfl⟩
  · go_enter Try.func37, Try.ntmps37
    go_wp2_with (go_at_call 42; refine (durTrunc d 1000 H.out (by decide) (by decide) _).mono ?_; rintro e w' ⟨rfl, rfl⟩)
    go_ret
    exact ⟨rfl, rfl⟩
  · go_enter Try.func37, Try.ntmps37
    go_wp2_with fail
    go_ret
    exact ⟨congrArg (fun x : Nat => Ending.returned (.int .i64 x)) (by rw [show 10 ^ (9 - 9) = 1 from rfl, Nat.mod_one]; rfl), rfl⟩

theorem cut_div (d s : Nat) (hs : 0 < s) : (d - d % s) / s = d / s := by
  have h := Nat.div_add_mod d s
  have e : d - d % s = s * (d / s) := by omega
  rw [e, Nat.mul_div_cancel_left _ hs]

theorem intoTicks (d q : Nat) (hd : d < 9223372036854775808) (hq : Pq q) (w : World) : Calls Try.prog 30 #[.int .i64 d, .int .u8 q] w fun e w' => e = .returned (.int .i64 (d / 10 ^ (9 - q) : Nat)) ∧ w = w' := by
  have hq9 : q ≤ 9 := by rcases hq with rfl | rfl | rfl | rfl <;> decide
  obtain ⟨s, hs⟩ : ∃ s, s = 10 ^ (9 - q) := ⟨_, rfl⟩
  have hs1 : 1 ≤ s := by rw [hs]; exact (pow10_le (9 - q) (by omega)).1
  have hs2 : s ≤ 1000000000 := by rw [hs]; exact (pow10_le (9 - q) (by omega)).2
  have h1 := truncDur d q hd hq
  have h2 := precScale q hq9
  rw [← hs] at h1 h2 ⊢
  have hle : d - d % s ≤ d := Nat.sub_le _ _
  have hdiv := cut_div d s (by omega)
  obtain ⟨x, hx⟩ : ∃ x, x = d - d % s := ⟨_, rfl⟩
  rw [← hx] at h1 hle hdiv
  have H1 := Lib.hid h1
  have H2 := Lib.hid h2
  have HD := Lib.hid hdiv
  clear h1 h2 hdiv hx hs
  have hq0 : 0 ≤ (x : Int) / (s : Int) ∧ (x : Int) / (s : Int) ≤ 9223372036854775807 := by
    have hx2 := Nat.div_le_self x s
    have hx3 : ((x / s : Nat) : Int) = (x : Int) / (s : Int) := by simp
    rw [← hx3]
    generalize x / s = y at hx2 ⊢
    omega
  obtain ⟨hqa, hqb⟩ := hq0
  go_enter Try.func30, Try.ntmps30
  go_wp2_with (first | (go_at_call 37; refine (H1.out _).mono ?_; rintro e w' ⟨rfl, rfl⟩) | (go_at_call 38; go_in) | (go_at_call 39; refine (H2.out _).mono ?_; rintro e w' ⟨rfl, rfl⟩))
  go_ret
  exact ⟨congrArg (fun x => Ending.returned (.int .i64 x)) (by rw [← HD.out]; first | rfl | (unfold wrap64; rw [Int.natCast_ediv]; omega)), rfl⟩

theorem backTicks (n q : Nat) (hq : Pq q) (hn : n * 10 ^ (9 - q) < 9223372036854775808) (w : World) : Calls Try.prog 33 #[.int .i64 n, .int .u8 q] w fun e w' => e = .returned (.int .i64 (n * 10 ^ (9 - q) : Nat)) ∧ w = w' := by
  have hq9 : q ≤ 9 := by rcases hq with rfl | rfl | rfl | rfl <;> decide
  have h1 := truncDur (n * 10 ^ (9 - q)) q hn hq
  rw [Nat.mul_mod_left, Nat.sub_zero] at h1
  have h2 := precScale q hq9
  obtain ⟨s, hs⟩ : ∃ s, s = 10 ^ (9 - q) := ⟨_, rfl⟩
  rw [← hs] at h1 h2 hn ⊢
  have hm : (n : Int) * (s : Int) = ((n * s : Nat) : Int) := by simp
  obtain ⟨x, hx⟩ : ∃ x, x = n * s := ⟨_, rfl⟩
  rw [← hx] at h1 hm hn ⊢
  have H1 := Lib.hid h1
  have H2 := Lib.hid h2
  clear h1 h2 hx hs
  go_enter Try.func33, Try.ntmps33
  go_wp2_with (first | (go_at_call 37; refine (H1.out _).mono ?_; rintro e w' ⟨rfl, rfl⟩) | (go_at_call 39; refine (H2.out _).mono ?_; rintro e w' ⟨rfl, rfl⟩))
  go_ret
  exact ⟨rfl, rfl⟩

theorem tmInto (d q : Nat) (hd : d < 9223372036854775808) (hq : Pq q) (w : World) : Calls Try.prog 18 #[.int .i64 d, .int .u8 q] w fun e w' => e = .returned (.int .i64 (d / 10 ^ (9 - q) : Nat)) ∧ w = w' := by
  have H := Lib.hid (intoTicks d q hd hq)
  have H2 := Lib.hid (precScale 9 (by decide))
  go_enter Try.func18, Try.ntmps18
  go_wp2_with (first | (go_at_call 30; refine (H.out _).mono ?_; rintro e w' ⟨rfl, rfl⟩) | (go_at_call 31; go_in) | (go_at_call 32; go_in) | (go_at_call 39; refine (H2.out _).mono ?_; rintro e w' ⟨rfl, rfl⟩))
  go_ret
  exact ⟨rfl, rfl⟩

theorem tmBack (n q : Nat) (hq : Pq q) (hn : n * 10 ^ (9 - q) < 9223372036854775808) (w : World) : Calls Try.prog 19 #[.int .i64 n, .int .u8 q] w fun e w' => e = .returned (.int .i64 (n * 10 ^ (9 - q) : Nat)) ∧ w = w' := by
  have H := Lib.hid (backTicks n q hq hn)
  go_enter Try.func19, Try.ntmps19
  go_wp2_with (go_at_call 33; refine (H.out _).mono ?_; rintro e w' ⟨rfl, rfl⟩)
  go_ret
  exact ⟨rfl, rfl⟩

set_option maxHeartbeats 1000000 in
theorem ticksRow (d p n : Nat) (hd : d < 18446744073709551616) (hp : p < 256) (hn : n < 18446744073709551616) (w : World) : Calls Try.prog 8 #[.int .u64 d, .int .u8 p, .int .u64 n] w fun e w' => e = .returned (.bool true) ∧ Below w.heap.size w w' := by
  obtain ⟨q, hq⟩ : ∃ q, q = 3 * (p % 4) := ⟨_, rfl⟩
  have hPq : Pq q := by unfold Pq; omega
  have hq9 : q ≤ 9 := by omega
  have HQ := Lib.hid hq
  obtain ⟨s, hs⟩ : ∃ s, s = 10 ^ (9 - q) := ⟨_, rfl⟩
  have hs1 : 1 ≤ s := by rw [hs]; exact (pow10_le (9 - q) (by omega)).1
  have hs2 : s ≤ 1000000000 := by rw [hs]; exact (pow10_le (9 - q) (by omega)).2
  have e1 : (d : Int) / 2 = ((d / 2 : Nat) : Int) := by simp
  have e2 : (n : Int) / 4 = ((n / 4 : Nat) : Int) := by simp
  obtain ⟨t, ht⟩ : ∃ t, t = d / 2 := ⟨_, rfl⟩
  obtain ⟨m, hm⟩ : ∃ m, m = n / 4 := ⟨_, rfl⟩
  have ht1 : t < 9223372036854775808 := by omega
  have hm1 : m < 4611686018427387904 := by omega
  rw [← ht] at e1
  rw [← hm] at e2
  have e3 : (m : Int) / (s : Int) = ((m / s : Nat) : Int) := by simp
  have e4 : (t : Int) / (s : Int) = ((t / s : Nat) : Int) := by simp
  obtain ⟨k, hk⟩ : ∃ k, k = m / s := ⟨_, rfl⟩
  obtain ⟨u, hu⟩ : ∃ u, u = t / s := ⟨_, rfl⟩
  have hks : k * s < 4611686018427387904 := by rw [hk]; have := Nat.div_mul_le_self m s; omega
  have hk1 : k < 4611686018427387904 := by rw [hk]; have := Nat.div_le_self m s; omega
  have hu1 : u < 9223372036854775808 := by rw [hu]; have := Nat.div_le_self t s; omega
  rw [← hk] at e3
  rw [← hu] at e4
  have h1 := dtTick q hq9
  have h2 := tmInto t q ht1 hPq
  have h3 := tmBack k q hPq (by rw [← hs]; omega)
  have h4 := tmInto (k * s) q (by omega) hPq
  rw [← hs] at h1 h2 h3 h4
  rw [← hu] at h2
  rw [Nat.mul_div_cancel _ (by omega)] at h4
  have e5 : (k : Int) * (s : Int) = ((k * s : Nat) : Int) := by simp
  obtain ⟨x, hx⟩ : ∃ x, x = k * s := ⟨_, rfl⟩
  rw [← hx] at h3 h4 e5 hks
  have H1 := Lib.hid h1
  have H2 := Lib.hid h2
  have H3 := Lib.hid h3
  have H4 := Lib.hid h4
  have eq : (3 * ((p : Int) % 4)) = (q : Int) := by rw [hq]; simp
  clear h1 h2 h3 h4 hs ht hm hk hu hx hq hPq HQ
  go_enter Try.func8, Try.ntmps8
  go_wp2_with (first | (go_at_call 17; refine (H1.out _).mono ?_; rintro e w' ⟨rfl, rfl⟩))
  go_quiet (fail)
  go_wp2_with (first | (go_at_call 18; ((with_reducible refine (H2.out _).mono ?_); rintro e w' ⟨rfl, rfl⟩)) | (go_at_call 18; ((with_reducible refine (H4.out _).mono ?_); rintro e w' ⟨rfl, rfl⟩)) | (go_at_call 19; ((with_reducible refine (H3.out _).mono ?_); rintro e w' ⟨rfl, rfl⟩)))
  go_ret
  exact ⟨rfl, Chg.below ((Chg.refl (fun _ => False) _).drewN _) (Nat.le_refl _) (fun _ h => h.elim)⟩
end Go.Proofs.Ytbfhkimjlnmhgaa
