/- Rounding to BFloat16. -/
import Derived.WalkKit
import Derived.ProofKit
import Derived.Test.YtbfhkimjlnmhgaaChecked
import Derived.Laws.Externs
import Derived.Laws.BitsLemmas
import Derived.Lib.Hide
namespace Go.Proofs.Ytbfhkimjlnmhgaa
open Go.RowKit

theorem run_from32 (n : Nat) (w : World) : (callFunc 24 #[.int .u32 n]).run Try.prog w = .ok (.value (.float .f32 n)) w := by kernel_rfl
theorem run_bits32 (n : Nat) (w : World) : (callFunc 34 #[.float .f32 n]).run Try.prog w = .ok (.value (.int .u32 n)) w := by kernel_rfl

theorem wraps_u32 (n : Int) (h0 : 0 ≤ n) (h1 : n < 2 ^ 32) : IntKind.u32.wrap n = n := by rw [IntKind.wrap_u32]; omega
theorem wraps_u16 (n : Int) (h0 : 0 ≤ n) (h1 : n < 2 ^ 16) : IntKind.u16.wrap n = n := by
  have : IntKind.u16.wrap n = n % 65536 := by simp [IntKind.wrap, IntKind.bits, IntKind.signed]
  rw [this]; omega
theorem u32_and1 (x : Int) (h0 : 0 ≤ x) (h1 : x < 4294967296) : bits .and .u32 x 1 = x % 2 := bits_mask .u32 32 (by decide) wraps_u32 1 (by decide) x h0 h1
theorem u32_and65535 (x : Int) (h0 : 0 ≤ x) (h1 : x < 4294967296) : bits .and .u32 x 65535 = x % 65536 := bits_mask .u32 32 (by decide) wraps_u32 16 (by decide) x h0 h1
theorem u32_and31 (x : Int) (h0 : 0 ≤ x) (h1 : x < 4294967296) : bits .and .u32 x 2147483647 = x % 2147483648 := bits_mask .u32 32 (by decide) wraps_u32 31 (by decide) x h0 h1
theorem or_comm' (k : IntKind) (x y : Int) : bits .or k x y = bits .or k y x := by simp only [bits, BitVec.or_comm]
theorem u32_or31 (x : Int) (h0 : 0 ≤ x) (h1 : x < 2147483648) : bits .or .u32 x 2147483648 = x + 2147483648 := by
  rw [or_comm', bits_join .u32 32 (by decide) wraps_u32 31 2147483648 x (by decide) (by decide) (by decide) h0 h1 (by omega)]; omega
theorem u16_or15 (x : Int) (h0 : 0 ≤ x) (h1 : x < 32768) : bits .or .u16 x 32768 = x + 32768 := by
  rw [or_comm', bits_join .u16 16 (by decide) wraps_u16 15 32768 x (by decide) (by decide) (by decide) h0 h1 (by omega)]; omega

def bf (n : Nat) : Nat := (n + (32767 + n / 65536 % 2)) % 4294967296 / 65536
def nanB (n : Nat) : Bool := decide (4278190080 < n * 2 % 4294967296)

theorem bf_int (n : Nat) : ((bf n : Nat) : Int) = ((n : Int) + (32767 + (n : Int) / 65536 % 2)) % 4294967296 / 65536 := by simp only [bf, Int.natCast_ediv, Int.natCast_emod, Int.natCast_add]; rfl

theorem bf_cases (n : Nat) (hn : n < 4294967296) (h : ¬ 4278190080 < n * 2 % 4294967296) : bf n = n / 65536 + if 32769 ≤ n % 65536 + n / 65536 % 2 then 1 else 0 := by
  have hb : n ≤ 4286578688 := by omega
  have h2 := Nat.mod_two_eq_zero_or_one (n / 65536)
  unfold bf
  generalize hq : n / 65536 % 2 = e at *
  rw [Nat.mod_eq_of_lt (by omega)]
  split <;> omega

theorem f32to (n : Nat) (w : World) (hn : n < 4294967296) : Calls Try.prog 23 #[.float .f32 n] w fun e w' => e = .returned (.int .u16 (bf n : Nat)) ∧ w = w' := by
  have h1 := run_bits32 n
  have h2 := u32_and1 ((n : Int) / 65536) (by omega) (by omega)
  go_enter Try.func23, Try.ntmps23
  go_wp2
  go_ret
  exact ⟨congrArg (fun x => Ending.returned (.int .u16 x)) (by rw [bf_int]), rfl⟩

theorem bfTo (n : Nat) (w : World) (hn : n < 4294967296) : Calls Try.prog 13 #[.int .u32 n] w fun e w' => e = .returned (.int .u16 (bf n : Nat)) ∧ w = w' := by
  have h1 := run_from32 n
  go_enter Try.func13, Try.ntmps13
  go_wp2_with (go_at_call 23; refine (f32to _ _ hn).mono ?_; rintro e w' ⟨rfl, rfl⟩)
  go_ret
  exact ⟨rfl, rfl⟩

theorem specNaN (n : Nat) (w : World) (_hn : n < 4294967296) : Calls Try.prog 12 #[.int .u32 n] w fun e w' => e = .returned (.bool (nanB n)) ∧ w = w' := by
  go_enter Try.func12, Try.ntmps12
  go_wp2
  go_ret
  exact ⟨congrArg (fun x => Ending.returned (.bool x)) (by unfold nanB; rw [Bool.eq_iff_iff]; simp; omega), rfl⟩

theorem specRound (n : Nat) (w : World) (hn : n < 4294967296) (hno : nanB n = false) : Calls Try.prog 14 #[.int .u32 n] w fun e w' => e = .returned (.int .u16 (bf n : Nat)) ∧ w = w' := by
  have h1 := u32_and65535 n (by omega) (by omega)
  unfold nanB at hno
  have hno' : ¬ 4278190080 < n * 2 % 4294967296 := by simpa using hno
  clear hno
  go_enter Try.func14, Try.ntmps14
  go_wp2
  all_goals
    go_ret
    refine ⟨congrArg (fun x => Ending.returned (.int .u16 x)) ?_, rfl⟩
    rw [bf_cases n hn hno']
    have h2 := Nat.mod_two_eq_zero_or_one (n / 65536)
    try simp only [beq_iff_eq, beq_eq_false_iff_ne, ne_eq] at *
    first | (rw [if_pos (by omega)]; omega) | (rw [if_neg (by omega)]; omega)

theorem bfTo_one (w : World) : Calls Try.prog 13 #[.int .u32 1065353216] w fun e w' => e = .returned (.int .u16 16256) ∧ w = w' := bfTo 1065353216 w (by decide)
theorem bfTo_three (w : World) : Calls Try.prog 13 #[.int .u32 1077936128] w fun e w' => e = .returned (.int .u16 16448) ∧ w = w' := bfTo 1077936128 w (by decide)

theorem boundsRow (n : Nat) (w : World) (hn : n < 4294967296) : Calls Try.prog 6 #[.int .u32 n] w fun e w' => e = .returned (.bool true) ∧ Below w.heap.size w w' := by
  by_cases h : nanB n = true
  · go_enter Try.func6, Try.ntmps6
    go_wp2_with (go_at_call 12; refine (specNaN _ _ hn).mono ?_; rintro e w' ⟨rfl, rfl⟩)
    go_ret
    exact ⟨rfl, Below.refl _ _⟩
  · have h : nanB n = false := by simpa using h
    have HH := Lib.hid h
    go_enter Try.func6, Try.ntmps6
    go_wp2_with (first | (go_at_call 12; refine (specNaN _ _ hn).mono ?_; rintro e w' ⟨rfl, rfl⟩) | (go_at_call 13; ((with_reducible refine (bfTo_one _).mono ?_); rintro e w' ⟨rfl, rfl⟩)) | (go_at_call 13; refine (bfTo _ _ hn).mono ?_; rintro e w' ⟨rfl, rfl⟩) | (go_at_call 14; refine (specRound _ _ hn HH.out).mono ?_; rintro e w' ⟨rfl, rfl⟩))
    go_ret
    exact ⟨rfl, Below.refl _ _⟩

theorem nan_lt {n : Nat} (hn : n < 2147483648) (h : nanB n = false) : n ≤ 2139095040 := by
  unfold nanB at h
  have h' : ¬ 4278190080 < n * 2 % 4294967296 := by simpa using h
  omega
theorem bf_nat (n : Nat) (hn : n ≤ 2139095040) : bf n = n / 65536 + if 32769 ≤ n % 65536 + n / 65536 % 2 then 1 else 0 := bf_cases n (by omega) (by omega)
theorem bf_lt (n : Nat) (hn : n ≤ 2139095040) : bf n < 32768 := by
  rw [bf_nat n hn]
  have h2 := Nat.mod_two_eq_zero_or_one (n / 65536)
  split <;> omega
theorem bf_mono (n m : Nat) (hn : n ≤ m) (hm : m ≤ 2139095040) : bf n ≤ bf m := by
  rw [bf_nat n (by omega), bf_nat m hm]
  by_cases h : n / 65536 = m / 65536
  · rw [h]
    split <;> split <;> omega
  · split <;> split <;> omega
theorem bf_high (n : Nat) (hn : n ≤ 2139095040) : bf (n + 2147483648) = bf n + 32768 := by
  rw [bf_nat n hn, bf_cases (n + 2147483648) (by omega) (by omega)]
  have e1 : (n + 2147483648) / 65536 = n / 65536 + 32768 := by omega
  have e2 : (n + 2147483648) % 65536 = n % 65536 := by omega
  have e3 : (n / 65536 + 32768) % 2 = n / 65536 % 2 := by omega
  rw [e1, e2, e3]
  omega

def OrdOk (w : World) (e : Ending) (w' : World) : Prop := e = .returned (.bool true) ∧ Below w.heap.size w w'

set_option maxHeartbeats 1000000 in
theorem borderRow (a b : Nat) (w : World) (ha : a < 4294967296) (hb : b < 4294967296) : Calls Try.prog 5 #[.int .u32 a, .int .u32 b] w (OrdOk w) := by
  obtain ⟨x, hx, hx1⟩ : ∃ x : Nat, bits .and .u32 a 2147483647 = x ∧ x < 2147483648 := ⟨a % 2147483648, by rw [u32_and31 a (by omega) (by omega)]; omega, by omega⟩
  obtain ⟨y, hy, hy1⟩ : ∃ y : Nat, bits .and .u32 b 2147483647 = y ∧ y < 2147483648 := ⟨b % 2147483648, by rw [u32_and31 b (by omega) (by omega)]; omega, by omega⟩
  have main : ∀ p q : Nat, p ≤ q → q < 2147483648 → nanB q = false → bf p ≤ bf q ∧ ∃ z : Nat, z < 4294967296 ∧ bits .or .u32 p 2147483648 = (z : Int) ∧ bits .or .u16 (bf p : Nat) 32768 = ((bf z : Nat) : Int) := fun p q hpq hq hnan => by
    have hq' := nan_lt hq hnan
    have h1 := bf_lt p (by omega)
    exact ⟨bf_mono p q hpq hq', p + 2147483648, by omega, (u32_or31 p (by omega) (by omega)).trans (by omega), by rw [bf_high p (by omega)]; exact (u16_or15 (bf p : Nat) (by omega) (by omega)).trans (by omega)⟩
  have HM := Lib.hid main
  clear main
  by_cases hlt : y < x
  · have hlt' : (y : Int) < (x : Int) := by omega
    by_cases hn : nanB x = true
    · go_enter Try.func5, Try.ntmps5
      go_wp2_with (go_at_call 12; refine (specNaN _ _ (by omega)).mono ?_; rintro e w' ⟨rfl, rfl⟩)
      go_ret
      exact ⟨rfl, Below.refl _ _⟩
    · have hn : nanB x = false := by simpa using hn
      obtain ⟨m1, z, hz, m2, m3⟩ := HM.out y x (by omega) hx1 hn
      go_enter Try.func5, Try.ntmps5
      go_wp2_with (first | (go_at_call 12; refine (specNaN _ _ (by omega)).mono ?_; rintro e w' ⟨rfl, rfl⟩) | (go_at_call 13; ((with_reducible refine (bfTo_three _).mono ?_); rintro e w' ⟨rfl, rfl⟩)) | (go_at_call 13; refine (bfTo _ _ (by omega)).mono ?_; rintro e w' ⟨rfl, rfl⟩))
      go_ret
      exact ⟨rfl, Below.refl _ _⟩
  · have hlt' : ¬ (y : Int) < (x : Int) := by omega
    by_cases hn : nanB y = true
    · go_enter Try.func5, Try.ntmps5
      go_wp2_with (go_at_call 12; refine (specNaN _ _ (by omega)).mono ?_; rintro e w' ⟨rfl, rfl⟩)
      go_ret
      exact ⟨rfl, Below.refl _ _⟩
    · have hn : nanB y = false := by simpa using hn
      obtain ⟨m1, z, hz, m2, m3⟩ := HM.out x y (by omega) hy1 hn
      go_enter Try.func5, Try.ntmps5
      go_wp2_with (first | (go_at_call 12; refine (specNaN _ _ (by omega)).mono ?_; rintro e w' ⟨rfl, rfl⟩) | (go_at_call 13; ((with_reducible refine (bfTo_three _).mono ?_); rintro e w' ⟨rfl, rfl⟩)) | (go_at_call 13; refine (bfTo _ _ (by omega)).mono ?_; rintro e w' ⟨rfl, rfl⟩))
      go_ret
      exact ⟨rfl, Below.refl _ _⟩
end Go.Proofs.Ytbfhkimjlnmhgaa
