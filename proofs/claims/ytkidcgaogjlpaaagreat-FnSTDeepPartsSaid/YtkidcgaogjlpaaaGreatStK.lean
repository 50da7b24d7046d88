/- Every kind of column of strings. -/
import Derived.Test.YtkidcgaogjlpaaaGreatInsF
import Derived.Test.YtkidcgaogjlpaaaGreatStS
namespace Go.Proofs.YtkidcgaogjlpaaaGreat
open Go.RowKit
set_option linter.unusedVariables false

theorem kinds (K S : Nat) (hK : K < 12) (hS : K = 4 → 0 < S) : ∃ t v C, Makes (.agg #[.int .i64 K, .int .i64 S]) t v C ∧ ∀ w, Texts t (v w) (encK (kN K S)) (goodK (kN K S)) (C w) := by
  have h : K = 0 ∨ K = 1 ∨ K = 2 ∨ K = 3 ∨ K = 4 ∨ K = 5 ∨ K = 6 ∨ K = 7 ∨ K = 8 ∨ K = 9 ∨ K = 10 ∨ K = 11 := by omega
  rcases h with rfl | rfl | rfl | rfl | rfl | rfl | rfl | rfl | rfl | rfl | rfl | rfl
  · exact ⟨_, _, _, makes0 _, texts0⟩
  · exact ⟨_, _, _, makes1 _, texts1⟩
  · exact ⟨_, _, _, makes2 _, texts2⟩
  · exact ⟨_, _, _, makes3 _, texts3⟩
  · exact ⟨_, _, _, makes4 S, texts4 S (hS rfl)⟩
  · exact ⟨_, _, _, makes5 _, texts5⟩
  · exact ⟨_, _, _, makes6 _, texts6⟩
  · exact ⟨_, _, _, makes7 _, texts7⟩
  · exact ⟨_, _, _, makes8 _, texts8⟩
  · exact ⟨_, _, _, makes9 _, texts9⟩
  · exact ⟨_, _, _, makes10 _, texts10⟩
  · exact ⟨_, _, _, makes11 _, texts11⟩
theorem kN_le (K S : Nat) (hK : K < 12) (hS : S ≤ 40) : ∀ n, kN K S = some n → n ≤ 512 ∧ (0 < S → 0 < n) := by
  intro n h
  have h2 : K = 0 ∨ K = 1 ∨ K = 2 ∨ K = 3 ∨ K = 4 ∨ K = 5 ∨ K = 6 ∨ K = 7 ∨ K = 8 ∨ K = 9 ∨ K = 10 ∨ K = 11 := by omega
  rcases h2 with rfl | rfl | rfl | rfl | rfl | rfl | rfl | rfl | rfl | rfl | rfl | rfl <;> simp [kN] at h <;> omega
theorem stS_le (k s : Nat) : stS k s ≤ 40 ∧ (k % 12 = 4 → 0 < stS k s) := by
  unfold stS
  split <;> omega
theorem flat_le (l : List (List UInt8)) (m : Nat) (h : ∀ s ∈ l, s.length ≤ m) : l.flatten.length ≤ l.length * m := by
  induction l with
  | nil => simp
  | cons s l ih =>
    have h1 := h s List.mem_cons_self
    have h2 := ih fun t ht => h t (List.mem_cons_of_mem _ ht)
    rw [List.flatten_cons, List.length_append, List.length_cons, Nat.add_mul, Nat.one_mul]
    omega
theorem rowsK_small (N : Option Nat) (hN : ∀ n, N = some n → n ≤ 512) (l : List (List UInt8)) : (∀ s ∈ rowsK N l, s.length ≤ 512) ∧ ∀ s ∈ rowsK N l, goodK N s := by
  constructor
  · intro s hs
    obtain ⟨b, -, rfl⟩ := List.mem_map.1 hs
    exact rowK_le N b hN
  · intro s hs
    obtain ⟨b, -, rfl⟩ := List.mem_map.1 hs
    exact rowK_good N b
theorem someK_small (N : Option Nat) (hN : ∀ n, N = some n → n ≤ 512) (l : List (List UInt8)) : Small (someK N l) ∧ (∀ s ∈ someK N l, goodK N s) ∧ (someK N l).length ≤ 41 ∧ 0 < (someK N l).length := by
  have h1 : (rowsK N [[7]]).length = 1 := by simp [rowsK]
  have hl : (someK N l).length = (rowsK N l).length + 1 := by unfold someK; rw [List.length_append, h1]
  have h40 := rowsK_le40 N l
  have hf := flat_le (someK N l) 512 fun s hs => by
    rcases List.mem_append.1 hs with hs | hs
    · exact (rowsK_small N hN _).1 s hs
    · exact (rowsK_small N hN _).1 s hs
  refine ⟨⟨?_, by omega⟩, fun s hs => ?_, by omega, by omega⟩
  · have : (someK N l).length * 512 ≤ 41 * 512 := Nat.mul_le_mul_right _ (by omega)
    omega
  · rcases List.mem_append.1 hs with hs | hs
    · exact (rowsK_small N hN _).2 s hs
    · exact (rowsK_small N hN _).2 s hs
end Go.Proofs.YtkidcgaogjlpaaaGreat
