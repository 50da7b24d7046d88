/- proto.Reader: bytes, uvarints, lengths. -/
import Derived.Test.YtemmhlibbihjmaaGreatRd
import Derived.Test.YtemmhlibbihjmaaGreatUv
namespace Go.Proofs.YtemmhlibbihjmaaGreat
open Go.RowKit

theorem RdAt.view {w : World} {F D : Nat → Prop} {r : Nat} {rest cur : List UInt8} (h : RdAt w F D r rest cur) (hc : cur ≠ []) :
    ∃ b g cap, w.cell? ⟨r, 1, none⟩ = some (.pointer (some ⟨b, 0, none⟩)) ∧ w.cell? ⟨b, 0, none⟩ = some (.slice (some ⟨g, 0, none⟩) cur.length cap) ∧ cur.length ≤ cap ∧ ∀ (j : Nat) (u : UInt8), cur[j]? = some u → w.cell? ⟨g, j, none⟩ = some (.int .u8 u.toNat) := by
  obtain ⟨b, v, -, h⟩ := h
  obtain ⟨vd, -, h1, -, -, h2⟩ := h.cells
  obtain ⟨FB, ⟨-, -, ⟨hl, ho⟩, -⟩, -⟩ := h.row
  rcases ho with ⟨-, h0⟩ | ⟨g, cap, cell, rfl, -, hg, hcap, -, -, ht⟩
  · exact absurd (List.length_eq_zero_iff.1 (by simpa using h0)) hc
  · refine ⟨b, g, cap, h1, by simpa using h2, by simpa using hcap, fun j u hj => ?_⟩
    have h3 : (u8s cur)[j]? = some (.int .u8 u.toNat) := by simp [u8s, hj]
    rw [← ht, List.getElem?_take] at h3
    split at h3
    · simp [World.cell?, hg]; simpa using h3
    · simp at h3

theorem readByte (w : World) (F D : Nat → Prop) (r : Nat) (x : UInt8) (rest cur : List UInt8) (h : RdAt w F D r (x :: rest) cur) (hm : (x :: rest).length ≤ 140737488355328) :
    Calls Tryz.prog 96 #[.pointer (some ⟨r, 0, none⟩)] w (Got w F D r (.tuple #[.int .u8 x.toNat, .nilIface]) rest [x]) := by
  go_enter Tryz.func96, Tryz.ntmps96
  go_wp2_with (go_at_call 55; refine (readFull _ F D r (x :: rest) cur h 1 (by simp) hm).mono ?_; rintro e w1 ⟨rfl, F1, h1, hu⟩; obtain ⟨b, g, cap, hc1, hc2, hcap, hg⟩ := h1.view (by simp); have hg0 := hg 0 x rfl; clear hg; simp at hc2 hcap)
  go_ret2
  exact ⟨rfl, F1, h1, hu⟩

theorem readByte_short (w : World) (F D : Nat → Prop) (r : Nat) (cur : List UInt8) (h : RdAt w F D r [] cur) :
    Calls Tryz.prog 96 #[.pointer (some ⟨r, 0, none⟩)] w (Fell w F D r fun v => .tuple #[.int .u8 0, v]) := by
  go_enter Tryz.func96, Tryz.ntmps96
  go_wp2_with (go_at_call 55; refine (readFull_short _ F D r [] cur h 1 (by simp)).mono ?_; rintro e w1 ⟨a, F1, cur1, rfl, h1, hu⟩)
  go_ret2
  exact ⟨_, F1, cur1, rfl, h1, hu⟩

/-! ### UVarInt -/
/-- The bytes are a beginning of something, and not all of it. -/
def Short (rest full : List UInt8) : Prop := ∃ t, t ≠ [] ∧ full = rest ++ t

/-- Behind k rounds. -/
def VarInv (w : World) (F D : Nat → Prop) (r x : Nat) (tail : List UInt8) (k xk acc : Nat) (wr : World) : Prop :=
  ∃ pre Fr cur, pre.length = k ∧ uv x = pre ++ uv xk ∧ x = acc + xk * 2 ^ (7 * k) ∧ acc < 2 ^ (7 * k) ∧ RdAt wr Fr D r (uv xk ++ tail) cur ∧ Upd w wr F Fr

theorem or_shift (acc n k : Nat) (ha : acc < 2 ^ (7 * k)) (hs : acc + n * 2 ^ (7 * k) < 18446744073709551616) :
    bits .or .u64 (acc : Int) (IntKind.u64.wrap ((n : Int) * 2 ^ (7 * k))) = ((acc + n * 2 ^ (7 * k) : Nat) : Int) := by
  have hc : ((n : Int) * 2 ^ (7 * k)) = ((n * 2 ^ (7 * k) : Nat) : Int) := by simp
  have hw : IntKind.u64.wrap ((n * 2 ^ (7 * k) : Nat) : Int) = ((n * 2 ^ (7 * k) : Nat) : Int) := by
    generalize n * 2 ^ (7 * k) = m at *
    simp [IntKind.wrap, IntKind.bits, IntKind.signed]
    omega
  have hwr : ∀ m : Int, 0 ≤ m → m < 2 ^ 64 → IntKind.u64.wrap m = m := by
    intro m h0 h1
    simp [IntKind.wrap, IntKind.bits, IntKind.signed]
    omega
  rw [hc, hw, (bits_nat .u64 64 (by decide) hwr acc (n * 2 ^ (7 * k)) (by omega) (by omega)).2]
  congr 1
  rw [Nat.or_comm, Nat.mul_comm n, ← Nat.two_pow_add_eq_or_of_lt ha n, Nat.add_comm]

theorem VarInv.last {w : World} {F D : Nat → Prop} {r x : Nat} {tail : List UInt8} {k xk acc : Nat} {wr : World} (h : VarInv w F D r x tail k xk acc wr) : x = acc + xk * 2 ^ (7 * k) ∧ acc < 2 ^ (7 * k) := by
  obtain ⟨pre, Fr, cur, hp, hpre, hxe, hacc, hrd, hu⟩ := h
  exact ⟨hxe, hacc⟩

theorem VarInv.nine {w : World} {F D : Nat → Prop} {r x : Nat} {tail : List UInt8} {xk acc : Nat} {wr : World} (h : VarInv w F D r x tail 9 xk acc wr) (hx : x < 18446744073709551616) : xk ≤ 1 := by
  have h1 := h.last.1
  simp at h1
  omega

theorem and127 (bt : UInt8) (n : Nat) (h : bt.toNat = n + 128) (hn : n < 128) : IntKind.u64.wrap (bits .and .u8 (bt.toNat : Int) 127) = (n : Int) := by
  have h1 := bits_mask .u8 8 (by decide) wraps_u8 7 (by decide) (bt.toNat : Int) (by omega) (by omega)
  simp only [show ((2 : Int) ^ 7) = 128 by decide, show ((128 : Int) - 1) = 127 by decide] at h1
  rw [h1, h]
  simp [IntKind.wrap, IntKind.bits, IntKind.signed]
  omega

theorem VarInv.step {w : World} {F D : Nat → Prop} {r x : Nat} {tail : List UInt8} {k xk acc : Nat} {wr w1 : World} (h : VarInv w F D r x tail k xk acc wr) (hx : ¬ xk < 128) (hb : x < 18446744073709551616)
    {F1 : Nat → Prop} {cur : List UInt8} (h1 : RdAt w1 F1 D r (uv (xk / 128) ++ tail) cur) (hu : Upd w w1 F F1) :
    VarInv w F D r x tail (k + 1) (xk / 128) (acc + (xk % 128) * 2 ^ (7 * k)) w1 ∧ acc + (xk % 128) * 2 ^ (7 * k) < 18446744073709551616 := by
  obtain ⟨pre, Fr, cur0, hp, hpre, hxe, hacc, hrd, hu0⟩ := h
  have hpw : 2 ^ (7 * (k + 1)) = 2 ^ (7 * k) * 128 := by rw [Nat.mul_add, Nat.pow_add]
  have hd := Nat.div_add_mod xk 128
  have hxe2 : x = acc + (xk % 128) * 2 ^ (7 * k) + xk / 128 * 2 ^ (7 * (k + 1)) := by
    have h2 : xk * 2 ^ (7 * k) = (xk % 128) * 2 ^ (7 * k) + (xk / 128) * (2 ^ (7 * k) * 128) := by
      conv => lhs; rw [← hd]
      rw [Nat.add_mul, Nat.add_comm, Nat.mul_comm 128, Nat.mul_assoc, Nat.mul_comm 128]
    rw [hxe, hpw, h2, Nat.add_assoc]
  refine ⟨⟨pre ++ [UInt8.ofNat (xk % 128 + 128)], F1, cur, by simp [hp], by rw [hpre, uv_big hx]; simp, hxe2, ?_, h1, hu⟩, ?_⟩
  · rw [hpw]
    have h3 : (xk % 128) * 2 ^ (7 * k) ≤ 127 * 2 ^ (7 * k) := Nat.mul_le_mul_right _ (by omega)
    omega
  · generalize xk / 128 * 2 ^ (7 * (k + 1)) = z at hxe2
    omega

set_option maxRecDepth 100000 in
theorem uvarint (w : World) (F D : Nat → Prop) (r x : Nat) (tail cur : List UInt8) (hx : x < 18446744073709551616) (h : RdAt w F D r (uv x ++ tail) cur) (hm : (uv x ++ tail).length ≤ 140737488355328) :
    Calls Tryz.prog 95 #[.pointer (some ⟨r, 0, none⟩)] w fun e w' => e = .returned (.tuple #[.int .u64 x, .nilIface]) ∧ ∃ F' cur', RdAt w' F' D r tail cur' ∧ Upd w w' F F' := by
  have HX := Lib.hid hx
  clear hx
  have HI : VarInv w F D r x tail 0 x 0 w := ⟨[], F, cur, rfl, rfl, by omega, by omega, h, Upd.refl _ _⟩
  have HM := Lib.hid hm
  clear hm h
  go_enter Tryz.func95, Tryz.ntmps95
  go_wp2_with fail
  go_loopw [4, 5, 6] (fun vx vs vi wr => ∃ k xk acc : Nat, vx = .int .u64 acc ∧ vs = .int .u64 (7 * k : Nat) ∧ vi = .int .i64 k ∧ VarInv w F D r x tail k xk acc wr) (fun _ _ vi _ => 10 - (intOf vi).toNat)
  case atStart => exact ⟨0, x, 0, rfl, rfl, rfl, HI⟩
  case round =>
    obtain ⟨k, xk, acc, rfl, rfl, rfl, hinv⟩ := hrel
    have hk : k < 10 := by
      obtain ⟨pre, Fr, cur, hp, hpre, -⟩ := hinv
      have h1 := uv_length_le 10 x (by have := HX.out; omega) (by omega)
      have h2 := uv_length_pos xk
      rw [hpre] at h1
      simp at h1
      omega
    by_cases hlt : xk < 128
    · obtain ⟨bt, hbt, hnx⟩ : ∃ bt : UInt8, bt.toNat = xk ∧ ∃ Fr cur, RdAt wr Fr D r (bt :: tail) cur ∧ Upd w wr F Fr := by
        obtain ⟨pre, Fr, cur, hp, hpre, hxe, hacc, hrd, hu⟩ := hinv
        refine ⟨UInt8.ofNat xk, by simp; omega, Fr, cur, ?_, hu⟩
        rw [uv_small hlt] at hrd
        exact hrd
      obtain ⟨Fr, cur, hrd, hu⟩ := hnx
      have hb8 : bt.toNat < 128 := by omega
      have hlen : (bt :: tail).length ≤ 140737488355328 := by
        have h1 := HM.out
        have h2 := uv_length_pos x
        simp at h1 ⊢
        omega
      have HB := Lib.hid hbt
      clear hbt
      have hfin : bits .or .u64 (acc : Int) (IntKind.u64.wrap ((bt.toNat : Int) * 2 ^ (7 * k))) = (x : Int) := by
        obtain ⟨h1, h2⟩ := hinv.last
        have h3 := HX.out
        rw [HB.out, or_shift acc xk k h2 (by omega), ← h1]
      have HFIN := Lib.hid hfin
      clear hfin
      by_cases h9 : k = 9
      · have hb9 : bt.toNat ≤ 1 := by
          subst h9
          have := hinv.nine HX.out
          rw [HB.out]; exact this
        have h9' : ((k : Int) == 9) = true := beq_iff_eq.2 (by omega)
        clear h9
        go_wp2_with (go_at_call 96; refine (readByte _ Fr D r bt tail cur hrd hlen).mono ?_; rintro e w1 ⟨rfl, F1, h1, hu1⟩)
        go_ret2
        exact ⟨congrArg (fun z : Int => Ending.returned (.tuple #[.int .u64 z, .nilIface])) HFIN.out, F1, _, h1, hu.trans hu1⟩
      · have h9' : ((k : Int) == 9) = false := beq_eq_false_iff_ne.2 (by omega)
        go_wp2_with (go_at_call 96; refine (readByte _ Fr D r bt tail cur hrd hlen).mono ?_; rintro e w1 ⟨rfl, F1, h1, hu1⟩)
        go_ret2
        exact ⟨congrArg (fun z : Int => Ending.returned (.tuple #[.int .u64 z, .nilIface])) HFIN.out, F1, _, h1, hu.trans hu1⟩
    · obtain ⟨bt, hbt, hnx⟩ : ∃ bt : UInt8, bt.toNat = xk % 128 + 128 ∧ ∃ Fr cur, RdAt wr Fr D r (bt :: (uv (xk / 128) ++ tail)) cur ∧ Upd w wr F Fr := by
        obtain ⟨pre, Fr, cur, hp, hpre, hxe, hacc, hrd, hu⟩ := hinv
        refine ⟨UInt8.ofNat (xk % 128 + 128), by simp; omega, Fr, cur, ?_, hu⟩
        rw [uv_big hlt] at hrd
        exact hrd
      obtain ⟨Fr, cur, hrd, hu⟩ := hnx
      have hb8 : 128 ≤ bt.toNat := by omega
      have hb9 : bt.toNat < 256 := by omega
      have hlen : (bt :: (uv (xk / 128) ++ tail)).length ≤ 140737488355328 := by
        obtain ⟨pre, _, _, hp, hpre, -⟩ := hinv
        have h1 := HM.out
        rw [hpre, uv_big hlt] at h1
        simp at h1 ⊢
        omega
      have HB := Lib.hid hbt
      clear hbt
      go_wp2_with (go_at_call 96; refine (readByte _ Fr D r bt (uv (xk / 128) ++ tail) cur hrd hlen).mono ?_; rintro e w1 ⟨rfl, F1, h1, hu1⟩)
      go_roundw
      case rel =>
        obtain ⟨hv, hlt2⟩ := hinv.step hlt HX.out h1 (hu.trans hu1)
        refine ⟨k + 1, xk / 128, acc + (xk % 128) * 2 ^ (7 * k), ?_, by go_num, by go_num, hv⟩
        rw [and127 bt (xk % 128) HB.out (by omega), or_shift acc (xk % 128) k hinv.last.2 hlt2]
      case measure => simp [intOf]; omega
/-- The beginning of a uvarint alone is refused. -/
def VarCut (w : World) (F D : Nat → Prop) (r x : Nat) (k xk _acc : Nat) (wr : World) : Prop :=
  ∃ pre Fr cur rest, pre.length = k ∧ uv x = pre ++ uv xk ∧ Short rest (uv xk) ∧ RdAt wr Fr D r rest cur ∧ Upd w wr F Fr

theorem VarCut.next {w : World} {F D : Nat → Prop} {r x k xk acc : Nat} {wr : World} (h : VarCut w F D r x k xk acc wr) :
    (∃ Fr cur, RdAt wr Fr D r [] cur ∧ Upd w wr F Fr) ∨ ∃ (bt : UInt8) (rest : List UInt8) (Fr : Nat → Prop) (cur : List UInt8), 128 ≤ bt.toNat ∧ RdAt wr Fr D r (bt :: rest) cur ∧ (bt :: rest).length ≤ (uv x).length ∧
      Upd w wr F Fr ∧ ∀ w1 F1 acc', RdAt w1 F1 D r rest [bt] → Upd w w1 F F1 → VarCut w F D r x (k + 1) (xk / 128) acc' w1 := by
  obtain ⟨pre, Fr, cur, rest, hp, hpre, ⟨t, ht, hx⟩, hrd, hu⟩ := h
  cases rest with
  | nil => exact .inl ⟨Fr, cur, hrd, hu⟩
  | cons bt rest =>
    refine .inr ⟨bt, rest, Fr, cur, ?_, hrd, ?_, hu, ?_⟩
    · by_cases hlt : xk < 128
      · rw [uv_small hlt] at hx
        simp at hx
        exact absurd hx.2.2 ht
      · rw [uv_big hlt] at hx
        simp at hx
        rw [← hx.1]
        simp
        omega
    · rw [hpre, hx]
      simp
      omega
    · intro w1 F1 acc' h1 hu1
      by_cases hlt : xk < 128
      · rw [uv_small hlt] at hx
        simp at hx
        exact absurd hx.2.2 ht
      · rw [uv_big hlt] at hx hpre
        simp at hx
        exact ⟨pre ++ [UInt8.ofNat (xk % 128 + 128)], F1, _, rest, by simp [hp], by rw [hpre]; simp, ⟨t, ht, hx.2⟩, h1, hu1⟩

theorem VarCut.room {w : World} {F D : Nat → Prop} {r x k xk acc : Nat} {wr : World} (h : VarCut w F D r x k xk acc wr) (hx : x < 18446744073709551616) : k < 10 := by
  obtain ⟨pre, Fr, cur, rest, hp, hpre, -⟩ := h
  have h1 := uv_length_le 10 x (by omega) (by omega)
  have h2 := uv_length_pos xk
  rw [hpre] at h1
  simp at h1
  omega

set_option maxRecDepth 100000 in
theorem uvarint_short (w : World) (F D : Nat → Prop) (r x : Nat) (rest cur : List UInt8) (hx : x < 18446744073709551616) (h : RdAt w F D r rest cur) (hs : Short rest (uv x)) :
    Calls Tryz.prog 95 #[.pointer (some ⟨r, 0, none⟩)] w (Fell w F D r fun v => .tuple #[.int .u64 0, v]) := by
  have HX := Lib.hid hx
  have HI : VarCut w F D r x 0 x 0 w := ⟨[], F, cur, rest, rfl, rfl, hs, h, Upd.refl _ _⟩
  have hlen := uv_length_le 10 x (by omega) (by omega)
  clear hx h hs
  go_enter Tryz.func95, Tryz.ntmps95
  go_wp2_with fail
  go_loopw [4, 5, 6] (fun vx vs vi wr => ∃ k xk acc : Nat, vx = .int .u64 acc ∧ vs = .int .u64 (7 * k : Nat) ∧ vi = .int .i64 k ∧ VarCut w F D r x k xk acc wr) (fun _ _ vi _ => 10 - (intOf vi).toNat)
  case atStart => exact ⟨0, x, 0, rfl, rfl, rfl, HI⟩
  case round =>
    obtain ⟨k, xk, acc, rfl, rfl, rfl, hinv⟩ := hrel
    have hk := hinv.room HX.out
    rcases hinv.next with ⟨Fr, cur, hrd, hu⟩ | ⟨bt, rest, Fr, cur, hb8, hrd, hl, hu, hnext⟩
    · go_wp2_with (first | (go_at_call 96; refine (readByte_short _ Fr D r cur hrd).mono ?_; rintro e w1 ⟨a, F1, cur1, rfl, h1, hu1⟩) | (go_at_call 48; refine (wrapErr _ _ _ _).mono ?_; rintro e w2 ⟨⟨a2, rfl⟩, hb2⟩))
      go_ret2
      exact ⟨_, F1, cur1, rfl, h1.below hb2, (hu.trans hu1).below hb2⟩
    · have HN := Lib.hid hnext
      have hb9 := UInt8.toNat_lt bt
      clear hnext
      go_wp2_with (go_at_call 96; refine (readByte _ Fr D r bt rest cur hrd (by omega)).mono ?_; rintro e w1 ⟨rfl, F1, h1, hu1⟩)
      go_roundw
      case rel =>
        obtain ⟨z, hz⟩ : ∃ z : Nat, bits BinOp.or IntKind.u64 (↑acc) (IntKind.u64.wrap (IntKind.u64.wrap (bits BinOp.and IntKind.u8 (↑bt.toNat) 127) * 2 ^ (7 * k))) = (z : Int) := by
          have hwn : ∀ m : Int, 0 ≤ IntKind.u64.wrap m := by intro m; simp [IntKind.wrap, IntKind.bits, IntKind.signed]; omega
          exact Int.eq_ofNat_of_zero_le (hwn _)
        exact ⟨k + 1, xk / 128, z, by rw [hz], by go_num, by go_num, HN.out w1 F1 z h1 (hu.trans hu1)⟩
      case measure => simp [intOf]; omega
end Go.Proofs.YtemmhlibbihjmaaGreat
