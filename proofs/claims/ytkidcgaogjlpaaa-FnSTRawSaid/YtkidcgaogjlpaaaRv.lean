/- proto.Reader: bytes, uvarints, lengths. -/
import Derived.Test.YtkidcgaogjlpaaaRd
import Derived.Test.YtkidcgaogjlpaaaUv
namespace Go.Proofs.Ytkidcgaogjlpaaa
open Go.RowKit

theorem RdAt.view {w : World} {F D : Nat → Prop} {r : Nat} {rest cur : List UInt8} (h : RdAt w F D r rest cur) (hc : cur ≠ []) :
    ∃ b g cap, w.cell? ⟨r, 1, none⟩ = some (.pointer (some ⟨b, 0, none⟩)) ∧ w.cell? ⟨b, 0, none⟩ = some (.slice (some ⟨g, 0, none⟩) cur.length cap) ∧ cur.length ≤ cap ∧ ∀ (j : Nat) (u : UInt8), cur[j]? = some u → w.cell? ⟨g, j, none⟩ = some (.int .u8 u.toNat) := by
  obtain ⟨b, v, -, h⟩ := h
  obtain ⟨vd, -, h1, -, -, h2⟩ := h.cells
  obtain ⟨FB, ⟨-, -, ⟨hl, ho⟩, -⟩, -⟩ := h.row
  rcases ho with ⟨-, h0⟩ | ⟨g, cap, cell, rfl, -, hg, hcap, -, -, ht⟩
  · exact absurd (List.length_eq_zero_iff.1 (by simpa using h0)) hc
  · refine ⟨b, g, cap, h1, by simpa using h2, by simpa using hcap, fun j u hj => ?_⟩
    have h3 : (u8s cur)[j]? = some (.int .u8 u.toNat) := by simp [u8s, hj]
    rw [← ht, List.getElem?_take] at h3
    split at h3
    · simp [World.cell?, hg]; simpa using h3
    · simp at h3

theorem uint8 (w : World) (F D : Nat → Prop) (r : Nat) (x : UInt8) (rest cur : List UInt8) (h : RdAt w F D r (x :: rest) cur) (hm : (x :: rest).length ≤ 140737488355328) :
    Calls Try.prog 13 #[.pointer (some ⟨r, 0, none⟩)] w (Got w F D r (.tuple #[.int .u8 x.toNat, .nilIface]) rest [x]) := by
  go_enter Try.func13, Try.ntmps13
  go_wp2_with (go_at_call 18; refine (readFull _ F D r (x :: rest) cur h 1 (by simp) hm).mono ?_; rintro e w1 ⟨rfl, F1, h1, hu⟩; obtain ⟨b, g, cap, hc1, hc2, hcap, hg⟩ := h1.view (by simp); have hg0 := hg 0 x rfl; clear hg; simp at hc2 hcap)
  go_ret2
  exact ⟨rfl, F1, h1, hu⟩

theorem uint8_short (w : World) (F D : Nat → Prop) (r : Nat) (cur : List UInt8) (h : RdAt w F D r [] cur) :
    Calls Try.prog 13 #[.pointer (some ⟨r, 0, none⟩)] w (Fell w F D r fun v => .tuple #[.int .u8 0, v]) := by
  go_enter Try.func13, Try.ntmps13
  go_wp2_with (first | (go_at_call 18; refine (readFull_short _ F D r [] cur h 1 (by simp)).mono ?_; rintro e w1 ⟨a, F1, cur1, rfl, h1, hu⟩) | (go_at_call 15; refine (wrapErr _ _ _ _).mono ?_; rintro e w2 ⟨⟨a2, rfl⟩, hb2⟩))
  go_ret2
  exact ⟨_, F1, cur1, rfl, h1.below hb2, hu.below hb2⟩

/-! ### UVarInt -/
/-- The bytes are a beginning of something, and not all of it. -/
def Short (rest full : List UInt8) : Prop := ∃ t, t ≠ [] ∧ full = rest ++ t

/-- Behind k rounds. -/
def VarInv (w : World) (F D : Nat → Prop) (r x : Nat) (tail : List UInt8) (k xk acc : Nat) (wr : World) : Prop :=
  ∃ pre Fr cur, pre.length = k ∧ uv x = pre ++ uv xk ∧ x = acc + xk * 2 ^ (7 * k) ∧ acc < 2 ^ (7 * k) ∧ RdAt wr Fr D r (uv xk ++ tail) cur ∧ Upd w wr F Fr

theorem or_shift (acc n k : Nat) (ha : acc < 2 ^ (7 * k)) (hs : acc + n * 2 ^ (7 * k) < 18446744073709551616) :
    bits .or .u64 (acc : Int) (IntKind.u64.wrap ((n : Int) * 2 ^ (7 * k))) = ((acc + n * 2 ^ (7 * k) : Nat) : Int) := by
  have hc : ((n : Int) * 2 ^ (7 * k)) = ((n * 2 ^ (7 * k) : Nat) : Int) := by simp
  have hw : IntKind.u64.wrap ((n * 2 ^ (7 * k) : Nat) : Int) = ((n * 2 ^ (7 * k) : Nat) : Int) := by
    generalize n * 2 ^ (7 * k) = m at *
    simp [IntKind.wrap, IntKind.bits, IntKind.signed]
    omega
  have hwr : ∀ m : Int, 0 ≤ m → m < 2 ^ 64 → IntKind.u64.wrap m = m := by
    intro m h0 h1
    simp [IntKind.wrap, IntKind.bits, IntKind.signed]
    omega
  rw [hc, hw, (bits_nat .u64 64 (by decide) hwr acc (n * 2 ^ (7 * k)) (by omega) (by omega)).2]
  congr 1
  rw [Nat.or_comm, Nat.mul_comm n, ← Nat.two_pow_add_eq_or_of_lt ha n, Nat.add_comm]

theorem VarInv.last {w : World} {F D : Nat → Prop} {r x : Nat} {tail : List UInt8} {k xk acc : Nat} {wr : World} (h : VarInv w F D r x tail k xk acc wr) : x = acc + xk * 2 ^ (7 * k) ∧ acc < 2 ^ (7 * k) := by
  obtain ⟨pre, Fr, cur, hp, hpre, hxe, hacc, hrd, hu⟩ := h
  exact ⟨hxe, hacc⟩

theorem VarInv.nine {w : World} {F D : Nat → Prop} {r x : Nat} {tail : List UInt8} {xk acc : Nat} {wr : World} (h : VarInv w F D r x tail 9 xk acc wr) (hx : x < 18446744073709551616) : xk ≤ 1 := by
  have h1 := h.last.1
  simp at h1
  omega

theorem and127 (bt : UInt8) (n : Nat) (h : bt.toNat = n + 128) (hn : n < 128) : IntKind.u64.wrap (bits .and .u8 (bt.toNat : Int) 127) = (n : Int) := by
  have h1 := bits_mask .u8 8 (by decide) wraps_u8 7 (by decide) (bt.toNat : Int) (by omega) (by omega)
  simp only [show ((2 : Int) ^ 7) = 128 by decide, show ((128 : Int) - 1) = 127 by decide] at h1
  rw [h1, h]
  simp [IntKind.wrap, IntKind.bits, IntKind.signed]
  omega

theorem VarInv.step {w : World} {F D : Nat → Prop} {r x : Nat} {tail : List UInt8} {k xk acc : Nat} {wr w1 : World} (h : VarInv w F D r x tail k xk acc wr) (hx : ¬ xk < 128) (hb : x < 18446744073709551616)
    {F1 : Nat → Prop} {cur : List UInt8} (h1 : RdAt w1 F1 D r (uv (xk / 128) ++ tail) cur) (hu : Upd w w1 F F1) :
    VarInv w F D r x tail (k + 1) (xk / 128) (acc + (xk % 128) * 2 ^ (7 * k)) w1 ∧ acc + (xk % 128) * 2 ^ (7 * k) < 18446744073709551616 := by
  obtain ⟨pre, Fr, cur0, hp, hpre, hxe, hacc, hrd, hu0⟩ := h
  have hpw : 2 ^ (7 * (k + 1)) = 2 ^ (7 * k) * 128 := by rw [Nat.mul_add, Nat.pow_add]
  have hd := Nat.div_add_mod xk 128
  have hxe2 : x = acc + (xk % 128) * 2 ^ (7 * k) + xk / 128 * 2 ^ (7 * (k + 1)) := by
    have h2 : xk * 2 ^ (7 * k) = (xk % 128) * 2 ^ (7 * k) + (xk / 128) * (2 ^ (7 * k) * 128) := by
      conv => lhs; rw [← hd]
      rw [Nat.add_mul, Nat.add_comm, Nat.mul_comm 128, Nat.mul_assoc, Nat.mul_comm 128]
    rw [hxe, hpw, h2, Nat.add_assoc]
  refine ⟨⟨pre ++ [UInt8.ofNat (xk % 128 + 128)], F1, cur, by simp [hp], by rw [hpre, uv_big hx]; simp, hxe2, ?_, h1, hu⟩, ?_⟩
  · rw [hpw]
    have h3 : (xk % 128) * 2 ^ (7 * k) ≤ 127 * 2 ^ (7 * k) := Nat.mul_le_mul_right _ (by omega)
    omega
  · generalize xk / 128 * 2 ^ (7 * (k + 1)) = z at hxe2
    omega

end Go.Proofs.Ytkidcgaogjlpaaa
