/- spec.PRLow: the lowest bytes of a number of 128 bits; spec.pkTexts. -/
import Derived.Test.YtlohpmncagfecaaDoorSq
import Derived.Test.YtlohpmncagfecaaDoorSet
namespace Go.Proofs.YtlohpmncagfecaaDoor
open Go.RowKit

def lowB (u v i : Nat) : UInt8 := UInt8.ofNat ((if i < 8 then u else v) / 2 ^ (8 * (i % 8)) % 256)
def lows (u v n : Nat) : List UInt8 := (List.range n).map (lowB u v)
theorem lows_length (u v n : Nat) : (lows u v n).length = n := by simp [lows]
theorem lows_succ (u v n : Nat) : lows u v (n + 1) = lows u v n ++ [lowB u v n] := by simp [lows, List.range_succ]
theorem lowB_nat (u v i : Nat) : (lowB u v i).toNat = (if i < 8 then u else v) / 2 ^ (8 * (i % 8)) % 256 := by
  unfold lowB
  simp
theorem sinceNil (w : World) : Since w w (.slice none 0 0) [] := ⟨⟨fun _ => False, OwnB.nil _ _, fun _ h => h.elim⟩, Below.refl _ _⟩

set_option maxRecDepth 100000 in
set_option maxHeartbeats 8000000 in
theorem prLow (w : World) (u v n : Nat) (hu : u < 18446744073709551616) (hv : v < 18446744073709551616) (hn : n ≤ 16) :
    Calls Tryd.prog 20 #[.int .u64 u, .int .u64 v, .int .i64 n] w (MadeO w (lows u v n)) := by
  go_enter Tryd.func20, Tryd.ntmps20
  go_wp2_with fail
  go_loopw [7, 11] (fun vo vi wr => ∃ (i : Nat) (p : Option Addr) (c : Nat), i ≤ n ∧ vi = .int .i64 i ∧ vo = .slice p i c ∧ Since w wr (.slice p i c) (lows u v i)) (fun _ vi _ => n - (intOf vi).toNat)
  case atStart => exact ⟨0, none, 0, Nat.zero_le _, rfl, rfl, sinceNil _⟩
  case round =>
    obtain ⟨i, p, c, hi, rfl, rfl, hs⟩ := hrel
    by_cases hlt : i < n
    · obtain ⟨b, hb⟩ : ∃ b, b = lowB u v i := ⟨_, rfl⟩
      have HN := Lib.hid (hb ▸ lowB_nat u v i)
      have HS := Lib.hid (show lows u v (i + 1) = lows u v i ++ [b] by rw [hb]; exact lows_succ u v i)
      have HL := Lib.hid (show (lows u v i).length + 1 ≤ 140737488355328 by rw [lows_length]; omega)
      have HU := Lib.hid hu
      have HV := Lib.hid hv
      clear hb hu hv
      rcases (by omega : i = 0 ∨ i = 1 ∨ i = 2 ∨ i = 3 ∨ i = 4 ∨ i = 5 ∨ i = 6 ∨ i = 7 ∨ i = 8 ∨ i = 9 ∨ i = 10 ∨ i = 11 ∨ i = 12 ∨ i = 13 ∨ i = 14 ∨ i = 15) with rfl | rfl | rfl | rfl | rfl | rfl | rfl | rfl | rfl | rfl | rfl | rfl | rfl | rfl | rfl | rfl
      all_goals
        have hu := HU.out
        have hv := HV.out
        go_wp2_with (at_builtin; refine append_since _ w (lows u v _) [b] rfl _ _ _ rfl _ rfl (hs.alloc _) _ rfl (BytesAt.new1 _ _ b (by have h := HN.out; simp at h; omega)).srcB HL.out ?_; intro q2 c2 w2 s2)
        rw [← HS.out, lows_length] at s2
        go_roundw
        case rel => exact ⟨_, q2, c2, hlt, by go_num, by simp [lows_length], s2⟩
        case measure => simp [intOf]; omega
    · obtain rfl : i = n := by omega
      go_wp2_with fail
      go_ret
      have e := lows_length u v i
      have h2 : Since w wr (.slice p (lows u v i).length c) (lows u v i) := by rw [e]; exact hs
      have h3 := h2.madeO
      rwa [e] at h3
end Go.Proofs.YtlohpmncagfecaaDoor
