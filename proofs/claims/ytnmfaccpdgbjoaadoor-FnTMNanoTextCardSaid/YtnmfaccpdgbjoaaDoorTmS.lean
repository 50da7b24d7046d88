/- spec.TMTwo, TMText, TMDigits; zzCut; proto.Time64.String; proto.ParseTime64. -/
import Derived.Test.YtnmfaccpdgbjoaaDoorTm
import Derived.Test.YtnmfaccpdgbjoaaDoorZs
import Derived.Test.YtnmfaccpdgbjoaaDoorBytes
import Derived.BigQuiet
import Derived.Deep.QuietTactic
namespace Go.Proofs.YtnmfaccpdgbjoaaDoor
open Go.RowKit
set_option linter.unusedVariables false
set_option linter.unusedSimpArgs false

theorem digs_cons : ∀ k n : Nat, digs (k + 1) n = UInt8.ofNat (48 + n / 10 ^ k % 10) :: digs k n
  | 0, n => by simp [digs]
  | k + 1, n => by
    rw [digs, digs_cons k (n / 10), Nat.div_div_eq_div_mul, Nat.mul_comm 10, ← Nat.pow_succ]
    rfl
theorem digs_snoc (x : UInt8) (k n : Nat) (h : x = UInt8.ofNat (48 + n / 10 ^ k % 10)) : (⟨#[x]⟩ : ByteArray) ++ ba (digs k n) = ba (digs (k + 1) n) := by
  rw [digs_cons, ← h]
  exact ba_app [x] _

/-- The byte of a digit, as a string of its own. -/
theorem digit_at (wr : World) (v d : Nat) (hd : d = v % 10) : ∃ x : UInt8, x = UInt8.ofNat (48 + v % 10) ∧ (Go.convert 38 9 (.slice (some ⟨wr.heap.size, 0, none⟩) 1 1)).run Tryd.prog (wr.alloc (.cells #[.int .u8 (48 + (d : Int))] 5)) = .ok (.string ⟨#[x]⟩) (wr.alloc (.cells #[.int .u8 (48 + (d : Int))] 5)) := by
  refine ⟨_, rfl, ?_⟩
  have hba := bytesAt_new wr (UInt8.ofNat (48 + v % 10))
  have hx : ((UInt8.ofNat (48 + v % 10)).toNat : Int) = 48 + (d : Int) := by simp; omega
  rw [hx] at hba
  exact run_convert_at hba

set_option maxRecDepth 100000 in
theorem tmDigits (w : World) (N : Nat) (hN : N < 1000000000000) : Calls Tryd.prog 9 #[.int .i64 N, .int .i64 9] w fun e w' => e = .returned (.string (ba (digs 9 N))) ∧ Below w.heap.size w w' := by
  go_enter Tryd.func9, Tryd.ntmps9
  go_wp2
  go_loopw [0, 5, 6] (fun vn vs vi wr => ∃ j v : Nat, j ≤ 9 ∧ v ≤ N ∧ vi = .int .i64 j ∧ vs = .string (ba (digs j N)) ∧ vn = .int .i64 v ∧ Hid (v = N / 10 ^ j) ∧ Below w.heap.size w wr) (fun _ _ vi _ => 9 - (intOf vi).toNat)
  case atStart => exact ⟨0, N, by omega, Nat.le_refl _, rfl, rfl, rfl, Lib.hid (by simp), Below.refl _ _⟩
  case round =>
    obtain ⟨j, v, hj, hv, rfl, rfl, rfl, hvj, hb⟩ := hrel
    have HB := Lib.hid hb
    clear hb
    by_cases hlt : j < 9
    · obtain ⟨d, hd⟩ : ∃ d, d = v % 10 := ⟨_, rfl⟩
      have hr : Int.tmod (v : Int) 10 = (d : Int) := tmodN _ 10 _ hd.symm
      have hq : Int.tdiv (v : Int) 10 = ((v / 10 : Nat) : Int) := tdivN _ 10 _ rfl
      have hd9 : d ≤ 9 := by omega
      obtain ⟨x, hx, hcv⟩ := digit_at wr v d hd
      have E := Lib.hid (digs_snoc x j N (by rw [hx, hvj.out]))
      have hsz : (ba (digs j N)).size = j := by rw [ba_size, digs_len]
      have h1 : (⟨#[x]⟩ : ByteArray).size = 1 := rfl
      have V := Lib.hid (show v / 10 = N / 10 ^ (j + 1) by rw [hvj.out, Nat.pow_succ, Nat.div_div_eq_div_mul])
      have hle : v / 10 ≤ N := by omega
      clear hx hvj hd
      generalize v / 10 = u at *
      go_wp2
      go_roundw
      case rel => exact ⟨j + 1, u, by omega, hle, by go_num, by rw [E.out], rfl, V, HB.out.trans (((Below.refl _ wr).alloc (Nat.le_refl _) _).mono HB.out.size)⟩
      case measure => simp [intOf]; omega
    · obtain rfl : j = 9 := by omega
      go_wp2
      go_ret
      exact ⟨rfl, HB.out⟩

set_option maxRecDepth 100000 in
theorem tmTwo (w : World) (N : Nat) (hN : N < 100) : Calls Tryd.prog 13 #[.int .i64 N] w fun e w' => e = .returned (.string (ba (two N))) ∧ Below w.heap.size w w' := by
  go_enter Tryd.func13, Tryd.ntmps13
  go_wp2
  go_loopw [0, 3] (fun vn vs wr => ∃ j v : Nat, j ≤ 2 ∧ v ≤ N ∧ vs = .string (ba (digs j N)) ∧ vn = .int .i64 v ∧ Hid (v = N / 10 ^ j) ∧ Below w.heap.size w wr) (fun _ vs _ => 2 - lenOf vs)
  case atStart => exact ⟨0, N, by omega, Nat.le_refl _, rfl, rfl, Lib.hid (by simp), Below.refl _ _⟩
  case round =>
    obtain ⟨j, v, hj, hv, rfl, rfl, hvj, hb⟩ := hrel
    have HB := Lib.hid hb
    clear hb
    have hsz : (ba (digs j N)).size = j := by rw [ba_size, digs_len]
    by_cases hlt : j < 2
    · by_cases h0 : v = 0
      · subst h0
        obtain ⟨x, hx, hcv⟩ := digit_at wr 0 0 rfl
        rw [show (48 : Int) + ((0 : Nat) : Int) = 48 from rfl] at hcv
        have E := Lib.hid (digs_snoc x j N (by rw [hx, ← hvj.out]))
        have h1 : (⟨#[x]⟩ : ByteArray).size = 1 := rfl
        have V := Lib.hid (show 0 = N / 10 ^ (j + 1) by rw [Nat.pow_succ, ← Nat.div_div_eq_div_mul, ← hvj.out])
        clear hx hvj
        go_wp2
        go_roundw
        case rel => exact ⟨j + 1, 0, by omega, by omega, by rw [E.out], rfl, V, HB.out.trans (((Below.refl _ wr).alloc (Nat.le_refl _) _).mono HB.out.size)⟩
        case measure => rw [E.out]; simp only [lenOf, ba_size, digs_len]; omega
      · obtain ⟨d, hd⟩ : ∃ d, d = v % 10 := ⟨_, rfl⟩
        have hr : Int.tmod (v : Int) 10 = (d : Int) := tmodN _ 10 _ hd.symm
        have hq : Int.tdiv (v : Int) 10 = ((v / 10 : Nat) : Int) := tdivN _ 10 _ rfl
        have hd9 : d ≤ 9 := by omega
        obtain ⟨x, hx, hcv⟩ := digit_at wr v d hd
        have E := Lib.hid (digs_snoc x j N (by rw [hx, hvj.out]))
        have h1 : (⟨#[x]⟩ : ByteArray).size = 1 := rfl
        have V := Lib.hid (show v / 10 = N / 10 ^ (j + 1) by rw [hvj.out, Nat.pow_succ, Nat.div_div_eq_div_mul])
        have hle : v / 10 ≤ N := by omega
        clear hx hvj hd
        generalize v / 10 = u at *
        have h0' : (0 : Int) < (v : Int) := by omega
        go_wp2
        go_roundw
        case rel => exact ⟨j + 1, u, by omega, hle, by rw [E.out], rfl, V, HB.out.trans (((Below.refl _ wr).alloc (Nat.le_refl _) _).mono HB.out.size)⟩
        case measure => rw [E.out]; simp only [lenOf, ba_size, digs_len]; omega
    · obtain rfl : j = 2 := by omega
      have hv0 : ¬ (0 : Int) < (v : Int) := by have := hvj.out; omega
      rw [two_digs N hN] at *
      go_wp2
      go_ret
      exact ⟨rfl, HB.out⟩
end Go.Proofs.YtnmfaccpdgbjoaaDoor
