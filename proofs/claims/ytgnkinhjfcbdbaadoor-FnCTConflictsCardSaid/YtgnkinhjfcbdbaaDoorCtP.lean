/- Conflicts of types, in plain Lean: a function that does not care for the order of its two types. -/
import Derived.Test.YtgnkinhjfcbdbaaDoorCtA
import Derived.Test.YtgnkinhjfcbdbaaDoorZs
import Derived.Lib.Space
namespace Go.Proofs.YtgnkinhjfcbdbaaDoor
open Go.RowKit
set_option linter.unusedVariables false
set_option linter.unusedSimpArgs false

def Asc (l : List UInt8) : Prop := ∀ x ∈ l, x.toNat < 128
def trimS (s : ByteArray) : ByteArray := ba (Lib.trimSpace s.data.toList)
def normS (s : ByteArray) : ByteArray := ba (Lib.join ((splitB 44 s.data.toList).map Lib.trimSpace) [44])
def sDateTime : ByteArray := ⟨#[68, 97, 116, 101, 84, 105, 109, 101]⟩
/-- As the program goes; r: what the elements of two arrays answer. -/
def confStep (r : Bool) (a b : ByteArray) : Bool :=
  if a = b then false else if baseS a ≠ baseS b then true else if normS a = normS b then false else if baseS a = sArray then r else if baseS a = sDateTime then false else true
def conf : Nat → ByteArray → ByteArray → Bool
  | 0, a, b => confStep true a b
  | d + 1, a, b => confStep (conf d (elemS a) (elemS b)) a b
theorem step_symm (r : Bool) (a b : ByteArray) : confStep r a b = confStep r b a := by
  unfold confStep
  by_cases h1 : a = b
  · subst h1; rfl
  · have h1' : ¬ b = a := fun e => h1 e.symm
    by_cases h2 : baseS a = baseS b
    · by_cases h3 : normS a = normS b
      · simp [h1, h1', h2, h3]
      · have h3' : ¬ normS b = normS a := fun e => h3 e.symm
        simp [h1, h1', h2, h3, h3']
    · have h2' : ¬ baseS b = baseS a := fun e => h2 e.symm
      simp [h1, h1', h2, h2']
theorem conf_symm : ∀ (d : Nat) (a b : ByteArray), conf d a b = conf d b a
  | 0, a, b => step_symm true a b
  | d + 1, a, b => by
    unfold conf
    rw [conf_symm d (elemS a) (elemS b), step_symm]
theorem step_self (r : Bool) (a : ByteArray) : confStep r a a = false := if_pos rfl
theorem conf_self' (d : Nat) (a : ByteArray) : conf d a a = false := by
  cases d <;> exact step_self _ a

/-- Lengths: parts, trimmed parts, and what is joined again. -/
def sumL : List (List UInt8) → Nat
  | [] => 0
  | p :: r => p.length + 1 + sumL r
theorem split_sum (c : Nat) : ∀ l : List UInt8, sumL (splitB c l) = l.length + 1 ∧ splitB c l ≠ []
  | [] => by simp [splitB, sumL]
  | x :: l => by
    obtain ⟨h1, h2⟩ := split_sum c l
    unfold splitB
    split
    · simp only [sumL, List.length_nil, List.length_cons, h1]
      exact ⟨by omega, by simp⟩
    · cases hs : splitB c l with
      | nil => exact absurd hs h2
      | cons a r =>
        rw [hs] at h1
        simp only [sumL, List.length_cons] at h1 ⊢
        exact ⟨by omega, by simp⟩
theorem trim_len (l : List UInt8) : (Lib.trimSpace l).length ≤ l.length := by
  unfold Lib.trimSpace
  rw [List.length_reverse]
  refine Nat.le_trans (List.dropWhile_sublist _).length_le ?_
  rw [List.length_reverse]
  exact (List.dropWhile_sublist _).length_le
theorem trim_sum : ∀ ps : List (List UInt8), sumL (ps.map Lib.trimSpace) ≤ sumL ps
  | [] => Nat.le_refl _
  | p :: r => by
    have := trim_sum r
    have := trim_len p
    simp only [List.map_cons, sumL]
    omega
theorem tail_sum : ∀ r : List (List UInt8), (Lib.joinTail [44] r).length = sumL r
  | [] => rfl
  | p :: r => by
    have := tail_sum r
    simp only [Lib.joinTail, List.map_cons, List.flatten_cons, List.length_append, sumL, List.length_cons, List.length_nil] at this ⊢
    omega
theorem join_sum (ps : List (List UInt8)) : (Lib.join ps [44]).length ≤ sumL ps := by
  cases ps with
  | nil => exact Nat.le_refl _
  | cons p r =>
    rw [Lib.join_cons, List.length_append, tail_sum]
    simp only [sumL]
    omega
theorem norm_len (s : ByteArray) : (normS s).size ≤ s.size + 1 := by
  unfold normS
  rw [ba_size]
  refine Nat.le_trans (join_sum _) (Nat.le_trans (trim_sum _) ?_)
  rw [(split_sum 44 _).1]
  have : s.data.toList.length = s.size := by simp
  omega
theorem norm_size (s : ByteArray) (h : s.size ≤ 1000) : (normS s).size ≤ 2000 := by have := norm_len s; omega
theorem split_len (c : Nat) (l : List UInt8) : (splitB c l).length ≤ l.length + 1 := by
  rw [← (split_sum c l).1]
  generalize splitB c l = ps
  induction ps with
  | nil => exact Nat.le_refl _
  | cons p r ih => simp only [sumL, List.length_cons]; omega
theorem split_asc (c : Nat) : ∀ l : List UInt8, Asc l → ∀ p ∈ splitB c l, Asc p ∧ p.length ≤ l.length
  | [], h => by
    intro p hp
    obtain rfl : p = [] := by simpa [splitB] using hp
    exact ⟨h, Nat.le_refl _⟩
  | x :: l, h => by
    have ih := split_asc c l fun y hy => h y (by simp [hy])
    intro p hp
    unfold splitB at hp
    split at hp
    · rcases List.mem_cons.1 hp with rfl | hp
      · exact ⟨fun y hy => by simp at hy, by simp⟩
      · have := ih p hp
        exact ⟨this.1, by simp only [List.length_cons]; omega⟩
    · cases hs : splitB c l with
      | nil => exact absurd hs (split_sum c l).2
      | cons a r =>
        rw [hs] at hp
        rcases List.mem_cons.1 hp with rfl | hp
        · have := ih a (by rw [hs]; simp)
          refine ⟨fun y hy => ?_, by simp only [List.length_cons]; omega⟩
          rcases List.mem_cons.1 hy with rfl | hy
          · exact h _ (by simp)
          · exact this.1 y hy
        · have := ih p (by rw [hs]; simp [hp])
          exact ⟨this.1, by simp only [List.length_cons]; omega⟩

/-- Names that the bases of these types are not. -/
def special : List (List UInt8) := [[69, 110, 117, 109, 56], [69, 110, 117, 109, 49, 54], [68, 101, 99, 105, 109, 97, 108], [78, 117, 108, 108, 97, 98, 108, 101], [76, 111, 119, 67, 97, 114, 100, 105, 110, 97, 108, 105, 116, 121], [68, 97, 116, 101, 84, 105, 109, 101, 54, 52]]
structure Good (s : ByteArray) : Prop where
  size : s.size ≤ 1000
  pos : 0 < s.size
  asc : Asc s.data.toList
  base : ∀ k ∈ special, (baseS s).data.toList ≠ k
def okPlain (s : ByteArray) : Bool := decide (s.size ≤ 1000) && decide (0 < s.size) && s.data.toList.all (fun x => decide (x.toNat < 128) && decide (x.toNat ≠ 40)) && special.all (fun k => s.data.toList != k) && s.data.toList != sArray.data.toList
theorem all_plain : plainL.all okPlain = true := by decide +kernel
theorem plain_good (n : Nat) : Good (plainAt n) ∧ baseS (plainAt n) = plainAt n ∧ plainAt n ≠ sArray := by
  have h := List.all_eq_true.1 all_plain _ (List.mem_of_getElem? (plainAt_get n))
  generalize plainAt n = s at *
  simp only [okPlain, Bool.and_eq_true, decide_eq_true_eq, List.all_eq_true, bne_iff_ne] at h
  obtain ⟨⟨⟨⟨h1, h2⟩, h3⟩, h4⟩, h5⟩ := h
  have hb : baseS s = s := by
    unfold baseS
    rw [if_pos (.inl (by
      rw [idxB_none fun j hj => (h3 _ (List.getElem_mem hj)).2]
      decide))]
  exact ⟨⟨h1, h2, fun x hx => (h3 x hx).1, by rw [hb]; exact h4⟩, hb, fun e => h5 (by rw [e])⟩
theorem idx_of (T x : List UInt8) (hn : ∀ y ∈ T, y.toNat ≠ 40) : idxB (T ++ 40 :: (x ++ [41])) 40 = (T.length : Nat) := by
  refine idxB_at (by simp) ?_ fun j hj => ?_
  · rw [List.getElem_append_right (Nat.le_refl _)]
    simp
  · rw [List.getElem_append_left hj]
    exact hn _ (List.getElem_mem _)
theorem last_of (T x : List UInt8) : lastB (T ++ 40 :: (x ++ [41])) 41 = (T.length + 1 + x.length : Nat) := by
  refine lastB_at (by simp; omega) ?_ fun j hj hij => by simp at hj; omega
  rw [List.getElem_append_right (by omega)]
  have : T.length + 1 + x.length - T.length = x.length + 1 := by omega
  simp [this]
theorem base_of (s t : ByteArray) (x : List UInt8) (h : s.data.toList = t.data.toList ++ 40 :: (x ++ [41])) (h0 : 0 < t.size) (hn : ∀ y ∈ t.data.toList, y.toNat ≠ 40) : baseS s = t := by
  have ht : t.data.toList.length = t.size := by simp
  have h1 := idx_of t.data.toList x hn
  have h2 := last_of t.data.toList x
  rw [← h] at h1 h2
  unfold baseS
  rw [h1, h2, if_neg (by omega)]
  refine Go.WideShapes.bytes_inj ?_
  rw [ext_list, h, Int.toNat_natCast, List.drop_zero, Nat.sub_zero, List.take_left]
theorem ofS_two (t a b : ByteArray) : ofS t [a, b] = t ++ sOpen ++ a ++ sComma ++ b ++ sShut := rfl
theorem one_list (t a : ByteArray) : (ofS t [a]).data.toList = t.data.toList ++ 40 :: (a.data.toList ++ [41]) := by
  rw [ofS_one]
  simp [ByteArray.data_append, sOpen, sShut]
theorem two_list (t a b : ByteArray) : (ofS t [a, b]).data.toList = t.data.toList ++ 40 :: ((a.data.toList ++ [44, 32] ++ b.data.toList) ++ [41]) := by
  rw [ofS_two]
  simp [ByteArray.data_append, sOpen, sShut, sComma]
theorem asc_of (t : ByteArray) (x : List UInt8) (ht : Asc t.data.toList) (hx : Asc x) : Asc (t.data.toList ++ 40 :: (x ++ [41])) := by
  intro y hy
  simp only [List.mem_append, List.mem_cons, List.not_mem_nil, or_false] at hy
  rcases hy with h | rfl | h | rfl
  · exact ht y h
  · decide
  · exact hx y h
  · decide
theorem asc_two (a b : List UInt8) (ha : Asc a) (hb : Asc b) : Asc (a ++ [44, 32] ++ b) := by
  intro y hy
  simp only [List.mem_append, List.mem_cons, List.not_mem_nil, or_false] at hy
  rcases hy with (h | rfl | rfl) | h
  · exact ha y h
  · decide
  · decide
  · exact hb y h
theorem good_of (s t : ByteArray) (x : List UInt8) (h : s.data.toList = t.data.toList ++ 40 :: (x ++ [41])) (h0 : 0 < t.size) (hn : ∀ y ∈ t.data.toList, y.toNat ≠ 40) (ht : Asc t.data.toList) (hx : Asc x) (hs : s.size ≤ 1000)
    (hk : ∀ k ∈ special, t.data.toList ≠ k) : Good s ∧ baseS s = t := by
  have hb := base_of s t x h h0 hn
  refine ⟨⟨hs, ?_, by rw [h]; exact asc_of t x ht hx, by rw [hb]; exact hk⟩, hb⟩
  have : s.data.toList.length = s.size := by simp
  rw [h] at this
  simp at this
  omega
/-- What a type by bytes is. -/
theorem ct_shape : ∀ (d : Nat), d ≤ 3 → ∀ code : List UInt8, Good (ctT code d) ∧ (baseS (ctT code d) ≠ sArray ∨ ∃ (d' : Nat) (code' : List UInt8), d = d' + 1 ∧ elemS (ctT code d) = ctT code' d')
  | 0, _, code => by
    unfold ctT
    obtain ⟨h1, h2, h3⟩ := plain_good (code.headD 0).toNat
    exact ⟨h1, .inl (by rw [h2]; exact h3)⟩
  | d + 1, hd, [] => by
    unfold ctT
    obtain ⟨h1, h2, h3⟩ := plain_good 0
    exact ⟨h1, .inl (by rw [h2]; exact h3)⟩
  | d + 1, hd, [c] => by
    unfold ctT
    obtain ⟨h1, h2, h3⟩ := plain_good c.toNat
    exact ⟨h1, .inl (by rw [h2]; exact h3)⟩
  | d + 1, hd, c :: c2 :: rest => by
    have hz := Nat.le_trans (ctT_size (d + 1) (c :: c2 :: rest)) (ctMost_le (d + 1) hd)
    have g1 := (ct_shape d (by omega) (c2 :: rest)).1.asc
    have g2 := (ct_shape d (by omega) rest).1.asc
    have hct : ctT (c :: c2 :: rest) (d + 1) = if c.toNat % 5 = 0 then ofS sArray [ctT (c2 :: rest) d] else if c.toNat % 5 = 1 then ofS sMap [sString, ctT (c2 :: rest) d] else if c.toNat % 5 = 2 then ofS sTuple [ctT (c2 :: rest) d, ctT rest d] else plainAt c2.toNat := by rw [ctT]
    rw [hct] at hz ⊢
    split
    · rename_i h
      rw [if_pos h] at hz
      exact ⟨(good_of _ sArray _ (one_list _ _) (by decide) (by decide) (by unfold Asc; decide) g1 (by omega) (by decide)).1, .inr ⟨d, c2 :: rest, rfl, arr_elem _⟩⟩
    · rename_i h
      rw [if_neg h] at hz
      split
      · rename_i h'
        rw [if_pos h'] at hz
        have hg := good_of _ sMap _ (two_list sMap sString (ctT (c2 :: rest) d)) (by decide) (by decide) (by unfold Asc; decide) (asc_two _ _ (by unfold Asc; decide) g1) (by omega) (by decide)
        exact ⟨hg.1, .inl (by rw [hg.2]; decide)⟩
      · rename_i h'
        rw [if_neg h'] at hz
        split
        · rename_i h''
          rw [if_pos h''] at hz
          have hg := good_of _ sTuple _ (two_list sTuple (ctT (c2 :: rest) d) (ctT rest d)) (by decide) (by decide) (by unfold Asc; decide) (asc_two _ _ g1 g2) (by omega) (by decide)
          exact ⟨hg.1, .inl (by rw [hg.2]; decide)⟩
        · obtain ⟨h1, h2, h3⟩ := plain_good c2.toNat
          exact ⟨h1, .inl (by rw [h2]; exact h3)⟩
end Go.Proofs.YtgnkinhjfcbdbaaDoor
