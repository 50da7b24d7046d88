/- Digits of times of day, in plain Lean. No program. -/
import Derived.Lib.ItoaMem
import Derived.Lib.Hide
import GoSem.Op.String
import Derived.Lib.Atoi
import Derived.Lib.ParseIntB
namespace Go.Proofs.YtgnkinhjfcbdbaaDoor
set_option linter.unusedVariables false
set_option linter.unusedSimpArgs false

/-- Bytes as a string. -/
def ba (l : List UInt8) : ByteArray := ⟨l.toArray⟩
theorem ba_app (a b : List UInt8) : ba a ++ ba b = ba (a ++ b) := by
  apply ByteArray.ext
  simp [ba, ByteArray.data_append]
theorem ba_size (l : List UInt8) : (ba l).size = l.length := by simp [ba, ByteArray.size]
theorem ba_list (l : List UInt8) : (ba l).data.toList = l := by simp [ba]
theorem ba_self (s : ByteArray) : ba s.data.toList = s := by simp [ba]
theorem ba_toList (l : List UInt8) : (ba l).toList = l := by rw [ByteArray.toList_eq, ba_list]
theorem ba_inj {a b : List UInt8} (h : ba a = ba b) : a = b := by rw [← ba_list a, h, ba_list]
def lenOf : Value → Nat
  | .string s => s.size
  | _ => 0

/-- Two digits. -/
def two (n : Nat) : List UInt8 := [UInt8.ofNat (48 + n / 10), UInt8.ofNat (48 + n % 10)]
/-- Zeros ahead. -/
def padTo (k : Nat) (l : List UInt8) : List UInt8 := List.replicate (k - l.length) 48 ++ l
/-- The last k digits. -/
def digs : Nat → Nat → List UInt8
  | 0, _ => []
  | k + 1, n => digs k (n / 10) ++ [UInt8.ofNat (48 + n % 10)]
theorem digs_len : ∀ k n : Nat, (digs k n).length = k
  | 0, _ => rfl
  | k + 1, n => by simp [digs, digs_len k]
theorem dec_lt (n : Nat) (h : n < 10) : Lib.decDigits n = [UInt8.ofNat (48 + n)] := by rw [Lib.decDigits, dif_pos h]
theorem dec_ge (n : Nat) (h : 10 ≤ n) : Lib.decDigits n = Lib.decDigits (n / 10) ++ [UInt8.ofNat (48 + n % 10)] := by rw [Lib.decDigits, dif_neg (by omega)]
theorem dec_pos (n : Nat) : 1 ≤ (Lib.decDigits n).length := by
  by_cases h : n < 10
  · rw [dec_lt n h]; simp
  · rw [dec_ge n (by omega)]; simp
theorem dec_len : ∀ k n : Nat, n < 10 ^ (k + 1) → (Lib.decDigits n).length ≤ k + 1
  | 0, n, h => by rw [dec_lt n (by omega)]; simp
  | k + 1, n, h => by
    by_cases h1 : n < 10
    · rw [dec_lt n h1]; simp
    · rw [dec_ge n (by omega)]
      have := dec_len k (n / 10) (by rw [Nat.pow_succ] at h; omega)
      simp only [List.length_append, List.length_cons, List.length_nil]
      omega
theorem digs_zero : ∀ k : Nat, digs k 0 = List.replicate k 48
  | 0 => rfl
  | k + 1 => by
    have h : UInt8.ofNat (48 + 0 % 10) = 48 := by decide
    rw [digs, Nat.zero_div, digs_zero k, h, List.replicate_succ']
theorem pad_digs : ∀ k n : Nat, n < 10 ^ (k + 1) → padTo (k + 1) (Lib.decDigits n) = digs (k + 1) n
  | 0, n, h => by
    rw [dec_lt n (by omega)]
    simp [padTo, digs, Nat.mod_eq_of_lt (show n < 10 by omega)]
  | k + 1, n, h => by
    by_cases h1 : n < 10
    · rw [dec_lt n h1, digs, Nat.div_eq_of_lt h1, digs_zero, Nat.mod_eq_of_lt h1]
      simp [padTo]
    · rw [dec_ge n (by omega), digs, ← pad_digs k (n / 10) (by rw [Nat.pow_succ] at h; omega)]
      unfold padTo
      rw [← List.append_assoc]
      congr 2
      congr 1
      simp
theorem two_digs (n : Nat) (h : n < 100) : digs 2 n = two n := by
  have : n / 10 % 10 = n / 10 := Nat.mod_eq_of_lt (by omega)
  simp [digs, two, this]
theorem pad_two (n : Nat) (h : n < 100) : padTo 2 (Lib.decDigits n) = two n := by rw [pad_digs 1 n (by omega), two_digs n h]

/-- Hours, minutes and seconds. -/
def txt (n : Nat) : List UInt8 := two (n / 3600) ++ ([58] ++ (two (n / 60 % 60) ++ ([58] ++ two (n % 60))))
theorem txt_len (n : Nat) : (txt n).length = 8 := rfl

open Go.Op in
theorem less_digit (a b : Nat) (l m : List UInt8) (ha : a < 10) (hb : b < 10) : bytesLess (UInt8.ofNat (48 + a) :: l) (UInt8.ofNat (48 + b) :: m) = if a < b then true else if a = b then bytesLess l m else false := by
  have h1 : (UInt8.ofNat (48 + a)).toNat = 48 + a := by simp; omega
  have h2 : (UInt8.ofNat (48 + b)).toNat = 48 + b := by simp; omega
  have e1 : (UInt8.ofNat (48 + a) < UInt8.ofNat (48 + b)) ↔ a < b := by rw [UInt8.lt_iff_toNat_lt, h1, h2]; omega
  have e2 : (UInt8.ofNat (48 + a) == UInt8.ofNat (48 + b)) = decide (a = b) := by
    rw [Bool.eq_iff_iff, beq_iff_eq, decide_eq_true_eq, ← UInt8.toNat_inj, h1, h2]; omega
  simp only [bytesLess]
  rw [e2, show decide (UInt8.ofNat (48 + a) < UInt8.ofNat (48 + b)) = decide (a < b) from decide_eq_decide.2 e1]
  by_cases h : a < b
  · simp [h]
  · by_cases h' : a = b
    · simp [h']
    · simp [h, h']
open Go.Op in
theorem less_two (a b : Nat) (l m : List UInt8) (ha : a < 100) (hb : b < 100) : bytesLess (two a ++ l) (two b ++ m) = if a < b then true else if a = b then bytesLess l m else false := by
  show bytesLess (_ :: _ :: l) (_ :: _ :: m) = _
  rw [less_digit _ _ _ _ (by omega) (by omega), less_digit _ _ _ _ (by omega) (by omega)]
  rcases Nat.lt_trichotomy a b with h | h | h
  · rw [if_pos h]
    by_cases h1 : a / 10 < b / 10
    · rw [if_pos h1]
    · rw [if_neg h1, if_pos (by omega), if_pos (by omega)]
  · subst h; simp
  · rw [if_neg (show ¬ a < b by omega), if_neg (show ¬ a = b by omega)]
    by_cases h1 : a / 10 = b / 10
    · rw [if_neg (by omega), if_pos h1, if_neg (by omega), if_neg (by omega)]
    · rw [if_neg (by omega), if_neg h1]
open Go.Op in
theorem less_sep (l m : List UInt8) : bytesLess ([58] ++ l) ([58] ++ m) = bytesLess l m := by simp [bytesLess]
open Go.Op in
theorem less_two0 (a b : Nat) (ha : a < 100) (hb : b < 100) : bytesLess (two a) (two b) = if a < b then true else if a = b then false else false := by
  have := less_two a b [] [] ha hb
  simpa [bytesLess] using this
open Go.Op in
theorem less_txt (a b : Nat) (ha : a < 360000) (hb : b < 360000) : bytesLess (txt a) (txt b) = decide (a < b) := by
  unfold txt
  rw [less_two _ _ _ _ (by omega) (by omega), less_sep, less_two _ _ _ _ (by omega) (by omega), less_sep, less_two0 _ _ (by omega) (by omega)]
  have h1 : a = 3600 * (a / 3600) + 60 * (a / 60 % 60) + a % 60 := by omega
  have h2 : b = 3600 * (b / 3600) + 60 * (b / 60 % 60) + b % 60 := by omega
  have h3 : a / 60 % 60 < 60 := Nat.mod_lt _ (by decide)
  have h4 : b / 60 % 60 < 60 := Nat.mod_lt _ (by decide)
  have h5 : a % 60 < 60 := Nat.mod_lt _ (by decide)
  have h6 : b % 60 < 60 := Nat.mod_lt _ (by decide)
  generalize a / 3600 = p at *
  generalize a / 60 % 60 = q at *
  generalize a % 60 = r at *
  generalize b / 3600 = p' at *
  generalize b / 60 % 60 = q' at *
  generalize b % 60 = r' at *
  rw [Bool.eq_iff_iff, decide_eq_true_eq]
  repeat' split
  all_goals simp
  all_goals omega
open Go.Op in
theorem txt_inj (a b : Nat) (ha : a < 360000) (hb : b < 360000) (h : txt a = txt b) : a = b := by
  have h1 := less_txt a b ha hb
  have h2 := less_txt b a hb ha
  have h3 := less_txt b b hb hb
  rw [h, h3] at h1
  rw [h, h3] at h2
  simp at h1 h2
  omega

theorem pu_snoc (M : Nat) : ∀ (l : List UInt8) (acc u d : Nat), Lib.parseUintM M acc l = .ok u → d < 10 → u < 1844674407370955162 → u * 10 + d ≤ M → Lib.parseUintM M acc (l ++ [UInt8.ofNat (48 + d)]) = .ok (u * 10 + d)
  | [], acc, u, d, h, hd, h1, h2 => by
    have he : acc = u := by simpa [Lib.parseUintM] using h
    subst he
    have hn : (UInt8.ofNat (48 + d)).toNat = 48 + d := by simp; omega
    rw [List.nil_append, Lib.parseUintM, hn, if_pos (by omega), if_neg (by omega), if_neg (by omega), Lib.parseUintM]
    congr 2
    omega
  | c :: r, acc, u, d, h, hd, h1, h2 => by
    rw [List.cons_append, Lib.parseUintM]
    rw [Lib.parseUintM] at h
    split at h
    · rename_i hc
      rw [if_pos hc]
      split at h
      · cases h
      · rename_i ha
        rw [if_neg ha]
        split at h
        · cases h
        · rename_i hb
          rw [if_neg hb]
          exact pu_snoc M r _ u d h hd h1 h2
    · cases h
theorem pu_digs : ∀ k n : Nat, k ≤ 18 → n < 10 ^ k → Lib.parseUintM (2 ^ 64 - 1) 0 (digs k n) = .ok n
  | 0, n, hk, h => by
    have : n = 0 := by omega
    subst this
    rfl
  | k + 1, n, hk, h => by
    have hp : 10 ^ (k + 1) = 10 ^ k * 10 := Nat.pow_succ _ _
    have h17 : 10 ^ k ≤ 10 ^ 17 := Nat.pow_le_pow_right (by decide) (by omega)
    have h0 := pu_digs k (n / 10) (by omega) (by omega)
    have := pu_snoc (2 ^ 64 - 1) (digs k (n / 10)) 0 (n / 10) (n % 10) h0 (by omega) (by omega) (by omega)
    rw [digs, this]
    congr 1
    omega
theorem digs_head : ∀ (k n : Nat), ∃ (d : Nat) (r : List UInt8), d < 10 ∧ digs (k + 1) n = UInt8.ofNat (48 + d) :: r
  | 0, n => ⟨n % 10, [], by omega, rfl⟩
  | k + 1, n => by
    obtain ⟨d, r, hd, h⟩ := digs_head k (n / 10)
    exact ⟨d, r ++ [UInt8.ofNat (48 + n % 10)], hd, by rw [digs, h]; rfl⟩
theorem pi_digs (k n : Nat) (hk : k + 1 ≤ 18) (h : n < 10 ^ (k + 1)) : Lib.parseIntB 64 (digs (k + 1) n) = .ok (n : Int) := by
  obtain ⟨d, r, hd, he⟩ := digs_head k n
  have hu := pu_digs (k + 1) n hk h
  have hn : (UInt8.ofNat (48 + d)).toNat = 48 + d := by simp; omega
  have h18 : 10 ^ (k + 1) ≤ 10 ^ 18 := Nat.pow_le_pow_right (by decide) hk
  rw [he] at hu ⊢
  unfold Lib.parseIntB Lib.parseUintB
  simp only [hn]
  rw [if_neg (show ¬ (48 + d = 43 ∨ 48 + d = 45) by omega), if_neg (by simp), hu]
  simp only
  rw [if_neg (by omega), if_neg (by omega), if_neg (by omega)]
theorem atoi_two : ∀ n : Nat, n < 100 → Lib.atoi (two n) = some (n : Int) := by decide
end Go.Proofs.YtgnkinhjfcbdbaaDoor
