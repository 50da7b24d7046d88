/- Doubles: between what numbers a rounded number lies. No program. -/
import Ieee.Arith
namespace Go.Proofs.YtnmfaccpdgbjoaaDoor
open Ieee
set_option linter.unusedVariables false
set_option linter.unusedSimpArgs false
set_option linter.unnecessarySimpa false

def zz : Nat := 2000
theorem zz_eq : zz = 2000 := rfl

theorem log_lt (n : Nat) : n < 2 ^ (n.log2 + 1) := by
  have hz := zz_eq
  by_cases h : n = 0
  · subst h; decide
  · exact Nat.lt_log2_self

theorem cut_le (n drop K : Nat) (h : n ≤ K * 2 ^ drop) : Toward.even.cut false n drop ≤ K := by
  have hz := zz_eq
  unfold Toward.cut
  simp only [Nat.shiftLeft_eq, Nat.one_mul]
  by_cases hd : drop ≤ n.log2 + 2
  · rw [Nat.min_eq_left hd]
    have hp : 0 < 2 ^ drop := Nat.two_pow_pos drop
    generalize 2 ^ drop = g at *
    have hle : n / g ≤ K := (Nat.div_le_iff_le_mul hp).2 (by omega)
    have hdm := Nat.div_add_mod n g
    by_cases he : n / g = K
    · have hr : n % g = 0 := by
        rw [he] at hdm
        have : g * K = K * g := Nat.mul_comm _ _
        omega
      have h0 : (g == 2 * 0) = false := by simp; omega
      rw [hr, he, h0]
      simp
    · have : ∀ b : Bool, b.toNat ≤ 1 := by decide
      have h2 := this (decide (g < 2 * (n % g)) || (g == 2 * (n % g) && n / g % 2 == 1))
      omega
  · rw [Nat.min_eq_right (by omega)]
    have hl := log_lt n
    have hg : 2 ^ (n.log2 + 2) = 2 * 2 ^ (n.log2 + 1) := by rw [Nat.pow_succ]; omega
    rw [hg]
    generalize 2 ^ (n.log2 + 1) = g at *
    have h1 : n / (2 * g) = 0 := Nat.div_eq_of_lt (by omega)
    have h2 : n % (2 * g) = n := Nat.mod_eq_of_lt (by omega)
    rw [h1, h2]
    have a1 : decide (2 * g < 2 * n) = false := by simp; omega
    have a2 : (2 * g == 2 * n) = false := by simp; omega
    rw [a1, a2]
    simp

theorem cut_ge (n drop K : Nat) (h : K * 2 ^ drop ≤ n) : K ≤ Toward.even.cut false n drop := by
  have hz := zz_eq
  unfold Toward.cut
  simp only [Nat.shiftLeft_eq, Nat.one_mul]
  by_cases hd : drop ≤ n.log2 + 2
  · rw [Nat.min_eq_left hd]
    have hp : 0 < 2 ^ drop := Nat.two_pow_pos drop
    exact Nat.le_trans ((Nat.le_div_iff_mul_le hp).2 h) (Nat.le_add_right _ _)
  · have hl := log_lt n
    have hg : 2 ^ (n.log2 + 1) ≤ 2 ^ drop := Nat.pow_le_pow_right (by decide) (by omega)
    have : K = 0 := by
      rcases Nat.eq_zero_or_pos K with h0 | h0
      · exact h0
      · have : 2 ^ drop ≤ K * 2 ^ drop := Nat.le_mul_of_pos_left _ h0
        omega
    rw [this]
    exact Nat.zero_le _

/-- A number m * 2 ^ p in units of 2 ^ -2000. -/
def vv (m : Nat) (p : Int) : Nat := m * 2 ^ (p + zz).toNat
/-- What a positive finite double stands for. -/
def fval (b : Nat) : Nat := match double.read b with
  | .number _ m p => vv m p
  | _ => 0

theorem read_small (r : Nat) (h : r < 2 ^ 52) : double.read r = .number false r (-1074) := by
  have hz := zz_eq
  have e1 : double.signWeight = 2 ^ 63 := by decide
  have e2 : double.binade = 2 ^ 52 := by decide
  have e3 : double.leastPlace = -1074 := by decide
  unfold Format.read
  rw [e1, e2, e3, Nat.mod_eq_of_lt (show r < 2 ^ 63 by omega), Nat.div_eq_of_lt (show r < 2 ^ 63 by omega)]
  simp [h]
theorem read_norm (r : Nat) (h : 2 ^ 52 ≤ r) (h2 : r < 2047 * 2 ^ 52) : double.read r = .number false (2 ^ 52 + r % 2 ^ 52) (-1074 + (r / 2 ^ 52 - 1 : Nat)) := by
  have hz := zz_eq
  have e1 : double.signWeight = 2 ^ 63 := by decide
  have e2 : double.binade = 2 ^ 52 := by decide
  have e3 : double.leastPlace = -1074 := by decide
  have e4 : double.infRung = 2047 * 2 ^ 52 := by decide
  unfold Format.read
  rw [e1, e2, e3, e4, Nat.mod_eq_of_lt (show r < 2 ^ 63 by omega), Nat.div_eq_of_lt (show r < 2 ^ 63 by omega)]
  simp only [show ¬ r < 2 ^ 52 by omega, if_false, h2, if_true]
  rfl

theorem vv_up (m : Nat) (p : Int) (k : Nat) (hp : 0 ≤ p + zz) : vv (m * 2 ^ k) p = vv m (p + k) := by
  have hz := zz_eq
  unfold vv
  rw [show (p + k + zz).toNat = k + (p + zz).toNat by omega, Nat.pow_add]
  ac_rfl

theorem fval_small (r : Nat) (h : r < 2 ^ 52) : fval r = vv r (-1074) := by
  unfold fval
  rw [read_small r h]
theorem fval_norm (r : Nat) (h : 2 ^ 52 ≤ r) (h2 : r < 2047 * 2 ^ 52) : fval r = vv (2 ^ 52 + r % 2 ^ 52) (-1074 + (r / 2 ^ 52 - 1 : Nat)) := by
  unfold fval
  rw [read_norm r h h2]
/-- The rung of kept units of 2 ^ last. -/
theorem fval_rung (kept : Nat) (last : Nat) (h1 : kept ≤ 2 ^ 53) (h2 : last = 0 ∨ 2 ^ 52 ≤ kept) (h3 : last < 2000) : fval (last * 2 ^ 52 + kept) = vv kept (-1074 + last) := by
  have hz := zz_eq
  by_cases hs : last * 2 ^ 52 + kept < 2 ^ 52
  · have : last = 0 := by omega
    subst this
    rw [fval_small _ hs, Nat.zero_mul, Nat.zero_add]
    rfl
  · rw [fval_norm _ (by omega) (by omega)]
    by_cases he : kept = 2 ^ 53
    · have a1 : 2 ^ 52 + (last * 2 ^ 52 + kept) % 2 ^ 52 = 2 ^ 52 := by omega
      have a2 : (last * 2 ^ 52 + kept) / 2 ^ 52 - 1 = last + 1 := by omega
      have a3 : kept = 2 ^ 52 * 2 ^ 1 := by omega
      have := vv_up (2 ^ 52) (-1074 + last) 1 (by omega)
      rw [a1, a2, a3, this]
      congr 1
      omega
    · have a1 : 2 ^ 52 + (last * 2 ^ 52 + kept) % 2 ^ 52 = kept := by omega
      have a2 : (last * 2 ^ 52 + kept) / 2 ^ 52 - 1 = last := by omega
      rw [a1, a2]

theorem two_mul_pow {a b c : Nat} (h : a + b = c) : 2 ^ a * 2 ^ b = 2 ^ c := by rw [← Nat.pow_add, h]

/-- Rounding keeps to the same side of each number that a double can hold. -/
theorem near (m : Nat) (p : Int) (hm : 0 < m) (hp : -1990 ≤ p) (hup : p + m.log2 ≤ 900) :
    double.nearest false m p < 2047 * 2 ^ 52 ∧ ∀ (K : Nat) (t : Int), K < 2 ^ 53 → -1074 ≤ t → (vv m p ≤ vv K t → fval (double.nearest false m p) ≤ vv K t) ∧ (vv K t ≤ vv m p → vv K t ≤ fval (double.nearest false m p)) := by
  have hz := zz_eq
  have e2 : double.binade = 2 ^ 52 := by decide
  have e3 : double.leastPlace = -1074 := by decide
  have e4 : double.infRung = 2047 * 2 ^ 52 := by decide
  have e5 : double.fractionBits = 52 := rfl
  obtain ⟨last, hlast⟩ : ∃ last : Int, last = max (p + m.log2 - 52) (-1074) := ⟨_, rfl⟩
  obtain ⟨e, he⟩ : ∃ e : Nat, last = -1074 + e := ⟨(last + 1074).toNat, by omega⟩
  obtain ⟨kept, hkept⟩ : ∃ kept, kept = Toward.even.cut false (m <<< (p - last).toNat) (last - p).toNat := ⟨_, rfl⟩
  have hlo : 2 ^ m.log2 ≤ m := Nat.log2_self_le (by omega)
  have hhi := log_lt m
  obtain ⟨L, hL⟩ : ∃ L, L = m.log2 := ⟨_, rfl⟩
  rw [← hL] at hlo hhi hlast hup
  obtain ⟨P, hP⟩ : ∃ P : Nat, p = (P : Int) - zz := ⟨(p + zz).toNat, by omega⟩
  obtain ⟨S, hS⟩ : ∃ S : Nat, S = e + 926 := ⟨_, rfl⟩
  have hSl : last = (S : Int) - zz := by omega
  have hk1 : kept ≤ 2 ^ 53 := by
    rw [hkept]
    refine cut_le _ _ _ ?_
    rw [Nat.shiftLeft_eq]
    rcases Nat.le_total S P with h | h
    · rw [show (p - last).toNat = P - S by omega, show (last - p).toNat = 0 by omega, Nat.pow_zero, Nat.mul_one]
      have h1 : m * 2 ^ (P - S) ≤ 2 ^ (L + 1) * 2 ^ (P - S) := Nat.mul_le_mul_right _ (by omega)
      rw [two_mul_pow rfl] at h1
      exact Nat.le_trans h1 (Nat.pow_le_pow_right (by decide) (by omega))
    · rw [show (p - last).toNat = 0 by omega, show (last - p).toNat = S - P by omega, Nat.pow_zero, Nat.mul_one, two_mul_pow rfl]
      exact Nat.le_trans (Nat.le_of_lt hhi) (Nat.pow_le_pow_right (by decide) (by omega))
  have hk2 : e = 0 ∨ 2 ^ 52 ≤ kept := by
    by_cases h0 : e = 0
    · exact .inl h0
    · refine .inr ?_
      rw [hkept]
      refine cut_ge _ _ _ ?_
      rw [Nat.shiftLeft_eq]
      rcases Nat.le_total S P with h | h
      · rw [show (p - last).toNat = P - S by omega, show (last - p).toNat = 0 by omega, Nat.pow_zero, Nat.mul_one]
        have h1 : 2 ^ L * 2 ^ (P - S) ≤ m * 2 ^ (P - S) := Nat.mul_le_mul_right _ hlo
        rw [two_mul_pow (c := 52) (by omega)] at h1
        exact h1
      · rw [show (p - last).toNat = 0 by omega, show (last - p).toNat = S - P by omega, Nat.pow_zero, Nat.mul_one, two_mul_pow (c := L) (by omega)]
        exact hlo
  have hnear : double.nearest false m p = e * 2 ^ 52 + kept := by
    unfold Format.nearest
    rw [if_neg (by omega)]
    simp only [e2, e3, e4, e5]
    rw [← hL, show max (p + (L : Int) - ((52 : Nat) : Int)) (-1074) = last from hlast.symm, ← hkept, show (last - -1074).toNat = e by omega]
    have : e * 2 ^ 52 + kept ≤ 2047 * 2 ^ 52 := by omega
    rw [Nat.min_eq_left this]
    rfl
  have hf : fval (double.nearest false m p) = kept * 2 ^ S := by
    rw [hnear, fval_rung kept e hk1 hk2 (by omega)]
    unfold vv
    rw [show (-1074 + (e : Int) + zz).toNat = S by omega]
  have hv : vv m p = m * 2 ^ P := by
    unfold vv
    rw [show (p + zz).toNat = P by omega]
  refine ⟨by rw [hnear]; omega, ?_⟩
  intro K t hK ht
  obtain ⟨T, hT⟩ : ∃ T : Nat, t = (T : Int) - zz := ⟨(t + zz).toNat, by omega⟩
  have hvk : vv K t = K * 2 ^ T := by
    unfold vv
    rw [show (t + zz).toNat = T by omega]
  rw [hf, hv, hvk]
  have big : T < S → K * 2 ^ T < 2 ^ 52 * 2 ^ S := fun h => by
    have h1 : K * 2 ^ T < 2 ^ 53 * 2 ^ T := Nat.mul_lt_mul_of_pos_right hK (Nat.two_pow_pos T)
    rw [two_mul_pow rfl] at h1 ⊢
    exact Nat.lt_of_lt_of_le h1 (Nat.pow_le_pow_right (by decide) (by omega))
  have hmp : e ≠ 0 → 2 ^ 52 * 2 ^ S ≤ m * 2 ^ P := fun h => by
    have h1 : 2 ^ L * 2 ^ P ≤ m * 2 ^ P := Nat.mul_le_mul_right _ hlo
    rw [two_mul_pow (c := 52 + S) (by omega)] at h1
    rw [two_mul_pow rfl]
    exact h1
  constructor
  · intro h
    rcases Nat.lt_or_ge T S with hts | hts
    · have := big hts
      have := hmp (by omega)
      omega
    · have hKK : K * 2 ^ T = K * 2 ^ (T - S) * 2 ^ S := by rw [Nat.mul_assoc, two_mul_pow (c := T) (by omega)]
      rw [hKK]
      refine Nat.mul_le_mul_right _ ?_
      rw [hkept]
      refine cut_le _ _ _ ?_
      rw [Nat.shiftLeft_eq]
      rw [hKK] at h
      rcases Nat.le_total S P with h1 | h1
      · rw [show (p - last).toNat = P - S by omega, show (last - p).toNat = 0 by omega, Nat.pow_zero, Nat.mul_one]
        rw [show 2 ^ P = 2 ^ (P - S) * 2 ^ S by rw [two_mul_pow (c := P) (by omega)], ← Nat.mul_assoc] at h
        exact Nat.le_of_mul_le_mul_right h (Nat.two_pow_pos S)
      · rw [show (p - last).toNat = 0 by omega, show (last - p).toNat = S - P by omega, Nat.pow_zero, Nat.mul_one]
        rw [show 2 ^ S = 2 ^ (S - P) * 2 ^ P by rw [two_mul_pow (c := S) (by omega)], ← Nat.mul_assoc] at h
        exact Nat.le_of_mul_le_mul_right h (Nat.two_pow_pos P)
  · intro h
    rcases Nat.lt_or_ge T S with hts | hts
    · have h1 := big hts
      have h2 : 2 ^ 52 * 2 ^ S ≤ kept * 2 ^ S := Nat.mul_le_mul_right _ (by omega)
      omega
    · have hKK : K * 2 ^ T = K * 2 ^ (T - S) * 2 ^ S := by rw [Nat.mul_assoc, two_mul_pow (c := T) (by omega)]
      rw [hKK] at h ⊢
      refine Nat.mul_le_mul_right _ ?_
      rw [hkept]
      refine cut_ge _ _ _ ?_
      rw [Nat.shiftLeft_eq]
      rcases Nat.le_total S P with h1 | h1
      · rw [show (p - last).toNat = P - S by omega, show (last - p).toNat = 0 by omega, Nat.pow_zero, Nat.mul_one]
        rw [show 2 ^ P = 2 ^ (P - S) * 2 ^ S by rw [two_mul_pow (c := P) (by omega)], ← Nat.mul_assoc m] at h
        exact Nat.le_of_mul_le_mul_right h (Nat.two_pow_pos S)
      · rw [show (p - last).toNat = 0 by omega, show (last - p).toNat = S - P by omega, Nat.pow_zero, Nat.mul_one]
        rw [show 2 ^ S = 2 ^ (S - P) * 2 ^ P by rw [two_mul_pow (c := S) (by omega)], ← Nat.mul_assoc] at h
        exact Nat.le_of_mul_le_mul_right h (Nat.two_pow_pos P)

/-- A word of a finite number that is not below 0. -/
def Fin (b : Nat) : Prop := b < 2047 * 2 ^ 52

theorem fin_read {b : Nat} (h : Fin b) : ∃ m p, double.read b = .number false m p ∧ -1074 ≤ p ∧ p ≤ 1000 ∧ m < 2 ^ 53 ∧ fval b = vv m p := by
  have hz := zz_eq
  unfold Fin at h
  by_cases hs : b < 2 ^ 52
  · exact ⟨b, -1074, read_small b hs, by omega, by omega, by omega, fval_small b hs⟩
  · exact ⟨_, _, read_norm b (by omega) h, by omega, by omega, by omega, fval_norm b (by omega) h⟩

theorem near_zero (p : Int) : double.nearest false 0 p = 0 := by
  have hz := zz_eq
  unfold Format.nearest
  rw [if_pos rfl]
  rfl
theorem fval_zero : fval 0 = 0 := by
  have hz := zz_eq
  rw [fval_small 0 (by decide)]
  unfold vv
  rw [Nat.zero_mul]

/-- A whole number is held as it is. -/
theorem exact (n : Nat) (h : n < 2 ^ 53) : Fin (double.nearest false n 0) ∧ fval (double.nearest false n 0) = vv n 0 := by
  have hz := zz_eq
  by_cases h0 : n = 0
  · subst h0
    rw [near_zero, fval_zero]
    exact ⟨by unfold Fin; omega, by unfold vv; rw [Nat.zero_mul]⟩
  · have hl : n.log2 < 53 := (Nat.log2_lt h0).2 h
    obtain ⟨h1, h2⟩ := near n 0 (by omega) (by omega) (by omega)
    obtain ⟨h3, h4⟩ := h2 n 0 h (by omega)
    exact ⟨h1, Nat.le_antisymm (h3 (Nat.le_refl _)) (h4 (Nat.le_refl _))⟩

theorem zero_cut (n drop : Nat) : Toward.zero.cut false n drop = n / 2 ^ drop := by
  have hz := zz_eq
  unfold Toward.cut
  simp only [Nat.shiftLeft_eq, Nat.one_mul]
  by_cases hd : drop ≤ n.log2 + 2
  · rw [Nat.min_eq_left hd]
    simp
  · rw [Nat.min_eq_right (by omega)]
    have hl := log_lt n
    have h1 : 2 ^ (n.log2 + 1) ≤ 2 ^ (n.log2 + 2) := Nat.pow_le_pow_right (by decide) (by omega)
    have h2 : 2 ^ (n.log2 + 1) ≤ 2 ^ drop := Nat.pow_le_pow_right (by decide) (by omega)
    rw [Nat.div_eq_of_lt (by omega), Nat.div_eq_of_lt (by omega)]
    rfl

/-- Cut to a whole number. -/
theorem toInt_at (b h : Nat) (hb : Fin b) (h1 : vv h 0 ≤ fval b) (h2 : fval b < vv (h + 1) 0) : (double.read b).toInt .zero = some (h : Int) := by
  have hz := zz_eq
  obtain ⟨m, p, hr, hp1, hp2, hm, hv⟩ := fin_read hb
  rw [hv] at h1 h2
  rw [hr]
  unfold Datum.toInt Datum.integral
  simp only [Nat.shiftLeft_eq]
  rw [zero_cut]
  have key : m * 2 ^ p.toNat / 2 ^ (-p).toNat = h := by
    unfold vv at h1 h2
    simp only [Int.zero_add] at h1 h2
    rw [show (zz : Int).toNat = zz from rfl] at h1 h2
    rcases Int.le_total 0 p with h0 | h0
    · rw [show (-p).toNat = 0 by omega, Nat.pow_zero, Nat.div_one]
      rw [show (p + zz).toNat = p.toNat + zz by omega, Nat.pow_add, ← Nat.mul_assoc] at h1 h2
      have a1 := Nat.le_of_mul_le_mul_right h1 (Nat.two_pow_pos zz)
      have a2 := Nat.lt_of_mul_lt_mul_right h2
      omega
    · rw [show p.toNat = 0 by omega, Nat.pow_zero, Nat.mul_one]
      obtain ⟨k, hk⟩ : ∃ k : Nat, k = (-p).toNat := ⟨_, rfl⟩
      rw [← hk]
      have hk2 : (p + zz).toNat = zz - k := by omega
      have hk3 : k ≤ 1074 := by omega
      rw [hk2, show (2 : Nat) ^ zz = 2 ^ k * 2 ^ (zz - k) by rw [two_mul_pow (c := zz) (by omega)], ← Nat.mul_assoc] at h1 h2
      have a1 := Nat.le_of_mul_le_mul_right h1 (Nat.two_pow_pos (zz - k))
      have a2 := Nat.lt_of_mul_lt_mul_right h2
      exact (Nat.div_eq_iff (Nat.two_pow_pos k)).2 ⟨a1, by have := Nat.add_mul h 1 (2 ^ k); omega⟩
  rw [key]
  unfold signed
  simp

theorem vv_le {m1 m2 : Nat} {p1 p2 : Int} (k : Nat) (h1 : -zz + k ≤ p1) (h2 : -zz + k ≤ p2) (h : m1 * 2 ^ (p1 + zz - k).toNat ≤ m2 * 2 ^ (p2 + zz - k).toNat) : vv m1 p1 ≤ vv m2 p2 := by
  have hz := zz_eq
  unfold vv
  rw [show (p1 + zz).toNat = (p1 + zz - k).toNat + k by omega, show (p2 + zz).toNat = (p2 + zz - k).toNat + k by omega, Nat.pow_add, Nat.pow_add, ← Nat.mul_assoc, ← Nat.mul_assoc]
  exact Nat.mul_le_mul_right _ h

theorem log2_mul_pow (n k : Nat) (h : 0 < n) : (n * 2 ^ k).log2 = n.log2 + k := by
  have hz := zz_eq
  have h1 : 2 ^ n.log2 ≤ n := Nat.log2_self_le (by omega)
  have h2 := log_lt n
  have hp : 0 < 2 ^ k := Nat.two_pow_pos k
  refine (Nat.log2_eq_iff (by have := Nat.mul_pos h hp; omega)).2 ⟨?_, ?_⟩
  · rw [Nat.pow_add]; exact Nat.mul_le_mul_right _ h1
  · rw [show n.log2 + k + 1 = n.log2 + 1 + k by omega, Nat.pow_add]
    exact Nat.mul_lt_mul_of_pos_right h2 hp

theorem log2_le' {a b : Nat} (h : a ≤ b) (ha : 0 < a) : a.log2 ≤ b.log2 := by
  have hz := zz_eq
  have h1 : 2 ^ a.log2 ≤ a := Nat.log2_self_le (by omega)
  exact (Nat.le_log2 (by omega)).2 (Nat.le_trans h1 h)

/-- A share of something, not the whole of it: the quotient of two numbers of at most 2 ^ E. -/
theorem div_below (m1 m2 : Nat) (i j : Int) (hm1 : 0 < m1) (hm2 : 0 < m2) (hi1 : -1074 ≤ i) (hi2 : i ≤ 60) (hj1 : -1074 ≤ j) (hj2 : j ≤ 60) (hl1 : m1 < 2 ^ 53) (hl2 : m2 < 2 ^ 53)
    (n d : Nat) (hn : vv m1 i = vv n 0) (hd : vv m2 j = vv d 0) (hlt : n < d) (E : Nat) (hE : E ≤ 42) (hd42 : d ≤ 2 ^ E) :
    ∃ q p, Datum.quotient 54 (.number false m1 i) (.number false m2 j) = some (.number false q p) ∧ -1990 ≤ p ∧ p + q.log2 ≤ 900 ∧ vv q p ≤ vv (2 ^ E - 1) (-(E : Int)) := by
  have hz := zz_eq
  obtain ⟨I, hI⟩ : ∃ I : Nat, i = (I : Int) - zz := ⟨(i + zz).toNat, by omega⟩
  obtain ⟨J, hJ⟩ : ∃ J : Nat, j = (J : Int) - zz := ⟨(j + zz).toNat, by omega⟩
  have e1 : m1 * 2 ^ I = n * 2 ^ zz := by
    unfold vv at hn
    rw [show (i + zz).toNat = I by omega] at hn
    simpa using hn
  have e2 : m2 * 2 ^ J = d * 2 ^ zz := by
    unfold vv at hd
    rw [show (j + zz).toNat = J by omega] at hd
    simpa using hd
  have hn0 : 0 < n := by
    rcases Nat.eq_zero_or_pos n with h | h
    · rw [h, Nat.zero_mul] at e1
      have := Nat.mul_pos hm1 (Nat.two_pow_pos I)
      omega
    · exact h
  have l1 := log2_mul_pow m1 I hm1
  have l2 := log2_mul_pow m2 J hm2
  rw [e1, log2_mul_pow n zz hn0] at l1
  rw [e2, log2_mul_pow d zz (by omega)] at l2
  have l3 : n.log2 ≤ d.log2 := log2_le' (by omega) hn0
  have l4 : m1.log2 ≤ 52 := by have := (Nat.log2_lt (by omega)).2 hl1; omega
  have l5 : d.log2 ≤ 42 := by
    have h1 := log2_le' hd42 (by omega)
    have h42 : (2 ^ E : Nat).log2 = E := by
      have := log2_mul_pow 1 E (by decide)
      rw [Nat.one_mul] at this
      rw [this, show Nat.log2 1 = 0 from by decide, Nat.zero_add]
    omega
  obtain ⟨a1, ha1⟩ : ∃ a, a = m1.log2 := ⟨_, rfl⟩
  obtain ⟨a2, ha2⟩ : ∃ a, a = m2.log2 := ⟨_, rfl⟩
  obtain ⟨b1, hb1⟩ : ∃ a, a = n.log2 := ⟨_, rfl⟩
  obtain ⟨b2, hb2⟩ : ∃ a, a = d.log2 := ⟨_, rfl⟩
  obtain ⟨C, hC⟩ : ∃ C, C = 54 + b2 - b1 := ⟨_, rfl⟩
  obtain ⟨M, hM⟩ : ∃ M, M = 54 + a2 - a1 := ⟨_, rfl⟩
  rw [← ha1] at l1 l4
  rw [← ha2] at l2
  rw [← hb1] at l1 l3
  rw [← hb2] at l2 l3 l5
  have hMC : M + J = C + I := by omega
  obtain ⟨Y, hY⟩ : ∃ Y, Y = 2 ^ zz := ⟨_, rfl⟩
  rw [← hY] at e1 e2
  have hdiv : m1 * 2 ^ M ≤ (2 ^ E - 1) * 2 ^ (C - E) * m2 := by
    have h1 : n * 2 ^ E ≤ (2 ^ E - 1) * d := by
      have h0 : n * 2 ^ E ≤ (d - 1) * 2 ^ E := Nat.mul_le_mul_right _ (by omega)
      have h5 : (d - 1) * 2 ^ E + 2 ^ E = d * 2 ^ E := by rw [← Nat.succ_mul, show (d - 1).succ = d by omega]
      have h6 : (2 ^ E - 1) * d + d = d * 2 ^ E := by
        obtain ⟨g, hg⟩ : ∃ g, 2 ^ E = g + 1 := ⟨2 ^ E - 1, by have := Nat.two_pow_pos E; omega⟩
        rw [hg, Nat.add_sub_cancel, Nat.mul_add, Nat.mul_one, Nat.mul_comm d g]
      omega
    have h2 : n * 2 ^ E * 2 ^ (C - E) * Y * 2 ^ I ≤ (2 ^ E - 1) * d * 2 ^ (C - E) * Y * 2 ^ I := Nat.mul_le_mul_right _ (Nat.mul_le_mul_right _ (Nat.mul_le_mul_right _ h1))
    have h3 : m1 * 2 ^ M * (2 ^ I * 2 ^ J) = n * 2 ^ E * 2 ^ (C - E) * Y * 2 ^ I := by
      rw [show m1 * 2 ^ M * (2 ^ I * 2 ^ J) = (m1 * 2 ^ I) * (2 ^ M * 2 ^ J) by ac_rfl, e1, two_mul_pow hMC, show n * 2 ^ E * 2 ^ (C - E) * Y * 2 ^ I = (n * Y) * ((2 ^ E * 2 ^ (C - E)) * 2 ^ I) by ac_rfl, two_mul_pow (show E + (C - E) = C by omega), two_mul_pow rfl]
    have h4 : (2 ^ E - 1) * 2 ^ (C - E) * m2 * (2 ^ I * 2 ^ J) = (2 ^ E - 1) * d * 2 ^ (C - E) * Y * 2 ^ I := by
      rw [show (2 ^ E - 1) * 2 ^ (C - E) * m2 * (2 ^ I * 2 ^ J) = (2 ^ E - 1) * 2 ^ (C - E) * (m2 * 2 ^ J) * 2 ^ I by ac_rfl, e2]
      ac_rfl
    rw [← h3, ← h4] at h2
    exact Nat.le_of_mul_le_mul_right h2 (Nat.mul_pos (Nat.two_pow_pos I) (Nat.two_pow_pos J))
  obtain ⟨N, hN⟩ : ∃ N, N = (2 ^ E - 1) * 2 ^ (C - E) := ⟨_, rfl⟩
  rw [← hN] at hdiv
  obtain ⟨dv, hdv⟩ : ∃ dv, dv = m1 * 2 ^ M := ⟨_, rfl⟩
  rw [← hdv] at hdiv
  have hq : 2 * (dv / m2) + (dv % m2 != 0).toNat ≤ 2 * N := by
    have hle : dv / m2 ≤ N := (Nat.div_le_iff_le_mul hm2).2 (by omega)
    have hdm := Nat.div_add_mod dv m2
    have hb : ∀ b : Bool, b.toNat ≤ 1 := by decide
    have h2 := hb (dv % m2 != 0)
    by_cases he : dv / m2 = N
    · have hr : dv % m2 = 0 := by
        rw [he] at hdm
        have : m2 * N = N * m2 := Nat.mul_comm _ _
        omega
      rw [hr, he]
      simp
    · omega
  have hNC : 2 * N < 2 ^ (C + 1) := by
    have : N < 2 ^ E * 2 ^ (C - E) := by rw [hN]; exact Nat.mul_lt_mul_of_pos_right (by have := Nat.two_pow_pos E; omega) (Nat.two_pow_pos _)
    rw [two_mul_pow (show E + (C - E) = C by omega)] at this
    rw [Nat.pow_succ]
    omega
  refine ⟨2 * (dv / m2) + (dv % m2 != 0).toNat, i - j - M - 1, ?_, by omega, ?_, ?_⟩
  · unfold Datum.quotient
    simp only
    rw [if_neg (by omega), ← ha1, ← ha2, ← hM, Nat.shiftLeft_eq, ← hdv]
    rfl
  · have : (2 * (dv / m2) + (dv % m2 != 0).toNat).log2 ≤ C + 1 := by
      rcases Nat.eq_zero_or_pos (2 * (dv / m2) + (dv % m2 != 0).toNat) with h | h
      · rw [h]; exact Nat.zero_le _
      · have := (Nat.log2_lt (by omega)).2 (Nat.lt_of_le_of_lt hq hNC)
        omega
    omega
  · unfold vv
    rw [show (i - j - M - 1 + zz).toNat = zz - C - 1 by omega, show (-(E : Int) + zz).toNat = zz - E by omega]
    refine Nat.le_trans (Nat.mul_le_mul_right _ hq) ?_
    rw [hN, show 2 * ((2 ^ E - 1) * 2 ^ (C - E)) * 2 ^ (zz - C - 1) = (2 ^ E - 1) * ((2 ^ 1 * 2 ^ (C - E)) * 2 ^ (zz - C - 1)) by ac_rfl, two_mul_pow (show 1 + (C - E) = C - E + 1 by omega), two_mul_pow (show (C - E + 1) + (zz - C - 1) = zz - E by omega)]
    exact Nat.le_refl _

theorem vv_pos {m : Nat} {p : Int} (h : 0 < m) : 0 < vv m p := Nat.mul_pos h (Nat.two_pow_pos _)
theorem place_le {m n : Nat} {p : Int} (h0 : 0 < m) (h : vv m p = vv n 0) (hn : n < 2 ^ 53) (hp : -1074 ≤ p) : p ≤ 60 := by
  have hz := zz_eq
  unfold vv at h
  rcases Int.le_total p 60 with h1 | h1
  · exact h1
  · exfalso
    have h2 : 2 ^ (p + zz).toNat ≤ m * 2 ^ (p + zz).toNat := Nat.le_mul_of_pos_left _ h0
    have h3 : n * 2 ^ zz < 2 ^ 53 * 2 ^ zz := Nat.mul_lt_mul_of_pos_right hn (Nat.two_pow_pos _)
    rw [two_mul_pow (show 53 + zz = (53 + zz) by rfl)] at h3
    have h4 : 2 ^ (53 + zz) ≤ 2 ^ (p + zz).toNat := Nat.pow_le_pow_right (by decide) (by omega)
    rw [h] at h2
    have h5 : n * 2 ^ ((0 : Int) + zz).toNat = n * 2 ^ zz := by rw [show ((0 : Int) + zz).toNat = zz by omega]
    rw [h5] at h2
    exact absurd (Nat.lt_of_le_of_lt (Nat.le_trans h4 h2) h3) (Nat.lt_irrefl _)

/-- The share of a whole, as doubles have it. -/
theorem share (n d y E : Nat) (hy : Fin y) (hyv : fval y = vv d 0) (hlt : n < d) (hE : E ≤ 42) (hd : d ≤ 2 ^ E) :
    ∃ q, double.div (double.nearest false n 0) y = some q ∧ Fin q ∧ fval q ≤ vv (2 ^ E - 1) (-(E : Int)) := by
  have hz := zz_eq
  have h42 : (2 : Nat) ^ E ≤ 2 ^ 42 := Nat.pow_le_pow_right (by decide) hE
  obtain ⟨hx, hxv⟩ := exact n (by omega)
  obtain ⟨m1, i, r1, i1, i2, i3, v1⟩ := fin_read hx
  obtain ⟨m2, j, r2, j1, j2, j3, v2⟩ := fin_read hy
  rw [v1] at hxv
  rw [v2] at hyv
  have hm2 : 0 < m2 := by
    rcases Nat.eq_zero_or_pos m2 with h | h
    · rw [h] at hyv
      have := vv_pos (p := 0) (show 0 < d by omega)
      unfold vv at hyv this
      rw [Nat.zero_mul] at hyv
      omega
    · exact h
  unfold Format.div
  rw [r1, r2, show double.fractionBits + 2 = 54 from rfl]
  rcases Nat.eq_zero_or_pos m1 with h | h
  · subst h
    have hq : Datum.quotient 54 (.number false 0 i) (.number false m2 j) = some (.number false 0 (i - j - (54 + m2.log2 - Nat.log2 0) - 1)) := by
      unfold Datum.quotient
      simp only
      rw [if_neg (by omega)]
      simp
    rw [hq]
    refine ⟨0, ?_, by unfold Fin; omega, by rw [fval_zero]; exact Nat.zero_le _⟩
    show some (double.nearest false 0 _) = some 0
    rw [near_zero]
  · obtain ⟨q, p, hq, p1, p2, p3⟩ := div_below m1 m2 i j h hm2 i1 (place_le h hxv (by omega) i1) j1 (place_le hm2 hyv (by omega) j1) i3 j3 n d hxv hyv hlt E hE hd
    rw [hq]
    rcases Nat.eq_zero_or_pos q with h0 | h0
    · subst h0
      exact ⟨0, by show some (double.nearest false 0 _) = some 0; rw [near_zero], by unfold Fin; omega, by rw [fval_zero]; exact Nat.zero_le _⟩
    · obtain ⟨f1, f2⟩ := near q p h0 p1 p2
      exact ⟨_, rfl, f1, (f2 (2 ^ E - 1) _ (by omega) (by omega)).1 p3⟩

/-- A whole number and a share of one more: the whole number again, when it is cut. -/
theorem whole (h q E : Nat) (hq : Fin q) (hqv : fval q ≤ vv (2 ^ E - 1) (-(E : Int))) (hE : E ≤ 42) (hh : (h + 1) * 2 ^ E ≤ 2 ^ 53) :
    ∃ s, double.add (double.nearest false h 0) q = some s ∧ (double.read s).toInt .zero = some (h : Int) := by
  have hz := zz_eq
  have hEp := Nat.two_pow_pos E
  have hh2 : h + 1 ≤ (h + 1) * 2 ^ E := Nat.le_mul_of_pos_right _ hEp
  obtain ⟨hx, hxv⟩ := exact h (by omega)
  obtain ⟨m1, i, r1, i1, i2, i3, v1⟩ := fin_read hx
  obtain ⟨m2, j, r2, j1, j2, j3, v2⟩ := fin_read hq
  rw [v1] at hxv
  rw [v2] at hqv
  unfold Format.add
  rw [r1, r2]
  obtain ⟨I, hI⟩ : ∃ I : Nat, i = (I : Int) - zz := ⟨(i + zz).toNat, by omega⟩
  obtain ⟨J, hJ⟩ : ∃ J : Nat, j = (J : Int) - zz := ⟨(j + zz).toNat, by omega⟩
  obtain ⟨B, hB⟩ : ∃ B : Nat, min i j = (B : Int) - zz := ⟨(min i j + zz).toNat, by omega⟩
  obtain ⟨tot, ht⟩ : ∃ tot, tot = m1 * 2 ^ (I - B) + m2 * 2 ^ (J - B) := ⟨_, rfl⟩
  have hsum : Datum.sum (.number false m1 i) (.number false m2 j) = some (.number false tot ((B : Int) - zz)) := by
    unfold Datum.sum signed
    simp only [Bool.false_eq_true, if_false, Nat.shiftLeft_eq]
    rw [hB, show (i - ((B : Int) - zz)).toNat = I - B by omega, show (j - ((B : Int) - zz)).toNat = J - B by omega]
    have e : ((m1 * 2 ^ (I - B) : Nat) : Int) + ((m2 * 2 ^ (J - B) : Nat) : Int) = (tot : Int) := by rw [ht]; simp
    rw [e]
    simp <;> omega
  have hval : vv tot ((B : Int) - zz) = vv m1 i + vv m2 j := by
    unfold vv
    rw [show ((B : Int) - zz + zz).toNat = B by omega, show (i + zz).toNat = I by omega, show (j + zz).toNat = J by omega, ht, Nat.add_mul, Nat.mul_assoc, Nat.mul_assoc, two_mul_pow (show I - B + B = I by omega), two_mul_pow (show J - B + B = J by omega)]
  have hmost : vv h 0 + vv (2 ^ E - 1) (-(E : Int)) = vv ((h + 1) * 2 ^ E - 1) (-(E : Int)) := by
    unfold vv
    rw [show ((0 : Int) + zz).toNat = E + (zz - E) by omega, show (-(E : Int) + zz).toNat = zz - E by omega, Nat.pow_add, ← Nat.mul_assoc, ← Nat.add_mul]
    congr 1
    rw [Nat.add_mul, Nat.one_mul]
    omega
  have hlow : vv h 0 ≤ vv tot ((B : Int) - zz) := by rw [hval, hxv]; exact Nat.le_add_right _ _
  have hhigh : vv tot ((B : Int) - zz) ≤ vv ((h + 1) * 2 ^ E - 1) (-(E : Int)) := by rw [hval, hxv, ← hmost]; exact Nat.add_le_add_left hqv _
  have hlt : vv ((h + 1) * 2 ^ E - 1) (-(E : Int)) < vv (h + 1) 0 := by
    unfold vv
    rw [show ((0 : Int) + zz).toNat = E + (zz - E) by omega, show (-(E : Int) + zz).toNat = zz - E by omega, Nat.pow_add, ← Nat.mul_assoc]
    exact Nat.mul_lt_mul_of_pos_right (by omega) (Nat.two_pow_pos _)
  rw [hsum]
  rcases Nat.eq_zero_or_pos tot with h0 | h0
  · refine ⟨0, by show some (double.nearest false tot _) = some 0; rw [h0, near_zero], ?_⟩
    have hz : h = 0 := by
      rcases Nat.eq_zero_or_pos h with h1 | h1
      · exact h1
      · have := vv_pos (p := 0) h1
        rw [h0] at hlow
        have e0 : vv 0 ((B : Int) - zz) = 0 := by unfold vv; rw [Nat.zero_mul]
        omega
    subst hz
    refine toInt_at 0 0 (by unfold Fin; omega) ?_ ?_
    · rw [fval_zero]; unfold vv; rw [Nat.zero_mul]; exact Nat.le_refl _
    · rw [fval_zero]; exact vv_pos (by decide)
  · have hBl : -1990 ≤ (B : Int) - zz := by omega
    have hup : (B : Int) - zz + tot.log2 ≤ 900 := by
      have h1 : tot * 2 ^ B < 2 ^ 53 * 2 ^ zz := by
        have h2 : vv tot ((B : Int) - zz) = tot * 2 ^ B := by unfold vv; rw [show ((B : Int) - zz + zz).toNat = B by omega]
        have h3 : vv (h + 1) 0 ≤ 2 ^ 53 * 2 ^ zz := by
          unfold vv
          rw [show ((0 : Int) + zz).toNat = zz by omega]
          exact Nat.mul_le_mul_right _ (by omega)
        rw [← h2]
        exact Nat.lt_of_le_of_lt hhigh (Nat.lt_of_lt_of_le hlt h3)
      rw [two_mul_pow (show 53 + zz = (53 + zz) by rfl)] at h1
      have h2 := log2_mul_pow tot B h0
      have h3 := (Nat.log2_lt (by have := Nat.mul_pos h0 (Nat.two_pow_pos B); omega)).2 h1
      omega
    obtain ⟨f1, f2⟩ := near tot ((B : Int) - zz) h0 hBl hup
    refine ⟨_, rfl, toInt_at _ h f1 ((f2 h 0 (by omega) (by omega)).2 hlow) (Nat.lt_of_le_of_lt ((f2 ((h + 1) * 2 ^ E - 1) _ (by omega) (by omega)).1 hhigh) hlt)⟩
end Go.Proofs.YtnmfaccpdgbjoaaDoor
