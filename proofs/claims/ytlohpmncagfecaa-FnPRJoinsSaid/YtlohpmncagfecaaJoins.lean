/- laws.FnPRJoins. -/
import Derived.Test.YtlohpmncagfecaaAwake
import Derived.Deep.RegionHeld3
namespace Go.Proofs.Ytlohpmncagfecaa
open Go.RowKit
set_option linter.unnecessarySimpa false
set_option linter.unusedVariables false
set_option linter.unusedSimpArgs false

theorem few_take {xs : List Pr} (h : few xs = true) (n : Nat) : few (xs.take n) = true := by
  simp [few] at h ⊢
  exact ⟨fun x hx => h.1 x (List.mem_of_mem_take hx), by omega⟩
theorem few_drop {xs : List Pr} (h : few xs = true) (n : Nat) : few (xs.drop n) = true := by
  simp [few] at h ⊢
  exact ⟨fun x hx => h.1 x (List.mem_of_mem_drop hx), by omega⟩
theorem prs_split (xs : List Pr) (n : Nat) : prsBytes (xs.take n) ++ prsBytes (xs.drop n) = prsBytes xs := by
  unfold prsBytes
  rw [← List.flatMap_append, List.take_append_drop]

theorem PrimsAt.goods {w : World} {B : Nat} {lv : Value} {xs : List Pr} (h : PrimsAt w B lv xs) (hf : few xs = true) : ∀ x ∈ xs, x.u < 18446744073709551616 ∧ okPr x = true := by
  intro x hx
  have hg : okPr x = true := (few_Few hf).1 x hx
  rcases h with ⟨-, rfl⟩ | ⟨b, off, cap, -, -, -, h⟩
  · simp at hx
  · obtain ⟨i, hi⟩ := List.mem_iff_getElem?.1 hx
    obtain ⟨_, _, _, _, _, _, _, h6, _⟩ := h i x hi
    exact ⟨h6, hg⟩
theorem PrimsAt.bytes_le {w : World} {B : Nat} {lv : Value} {xs : List Pr} (h : PrimsAt w B lv xs) (hf : few xs = true) : (prsBytes xs).length ≤ 30300 := by
  have h1 := prsBytes_le xs (h.goods hf)
  have : xs.length ≤ 30 := by simp [few] at hf; exact hf.2
  omega

/-- The three lists of the law. -/
structure Parts (w : World) (B : Nat) (l a c : Value) (xs : List Pr) (n : Nat) : Prop where
  l : PrimsAt w B l xs
  a : PrimsAt w B a (xs.take n)
  c : PrimsAt w B c (xs.drop n)

theorem parts_of {w : World} {B b off cap : Nat} {xs : List Pr} (n : Nat) (h : PrimsAt w B (.slice (some ⟨b, off, none⟩) xs.length cap) xs) (hn : n ≤ xs.length) (o2 : Nat) (ho : o2 = off + n * 4 ∨ n = xs.length) (k : Nat) (hk : k = xs.length - n) (c2 : Nat) (hc2 : c2 = cap - n) :
    Parts w B (.slice (some ⟨b, off, none⟩) xs.length cap) (.slice (some ⟨b, off, none⟩) n cap) (.slice (some ⟨b, o2, none⟩) k c2) xs n := by
  rcases id h with ⟨h1, -⟩ | ⟨b', off', cap', h1, hc, hb, hx⟩
  · exact absurd h1 (by simp)
  · obtain ⟨⟨rfl, rfl⟩, rfl⟩ : (b = b' ∧ off = off') ∧ cap = cap' := by simpa using h1
    subst hk hc2
    refine ⟨h, .inr ⟨b, off, cap, by simp [Nat.min_eq_left hn], by simp; omega, hb, fun i x hi => ?_⟩, .inr ⟨b, o2, cap - n, by simp, by simp; omega, hb, fun i x hi => ?_⟩⟩
    · rw [List.getElem?_take] at hi
      split at hi
      · exact hx i x hi
      · simp at hi
    · rw [List.getElem?_drop] at hi
      rcases ho with rfl | rfl
      · have := hx (n + i) x hi
        rwa [show off + (n + i) * 4 = off + n * 4 + i * 4 by omega] at this
      · have := (List.getElem?_eq_some_iff.1 hi).1
        omega

theorem joins_no (w : World) (B : Nat) (lv : Value) (xs : List Pr) (m : Nat) (h : PrimsAt w B lv xs) (hB : B ≤ w.heap.size) (hn : xs.length ≤ 9223372036854775807) (hno : ¬ (fitsPr xs = true ∧ few xs = true)) :
    Calls Try.prog 4 #[lv, .int .u8 m] w fun e w' => e = .returned (.bool true) ∧ Below w.heap.size w w' := by
  have HF := Lib.hid (fits23 w B lv xs h hB hn)
  obtain ⟨p, c, rfl⟩ := h.slice
  cases hf : fitsPr xs
  · rw [hf] at HF
    clear hno hf
    go_enter Try.func4, Try.ntmps4
    go_wp2_with fail
    refine HF.out.mono ?_
    rintro e w1 ⟨rfl, hb1⟩
    go_wp2_with fail
    go_ret
    exact ⟨rfl, hb1⟩
  · have hw : few xs = false := by simpa [hf] using hno
    have HW := Lib.hid hw
    rw [hf] at HF
    have HP := Lib.hid h
    clear hno hf hw h
    go_enter Try.func4, Try.ntmps4
    go_wp2_with fail
    refine HF.out.mono ?_
    rintro e w1 ⟨rfl, hb1⟩
    have h1 := HP.out.below hB hb1
    have hB1 := Nat.le_trans hB hb1.size
    go_wp2_with fail
    refine (prFew _ B _ xs h1 hB1 hn).mono ?_
    rintro e w2 ⟨rfl, hb2⟩
    rw [HW.out]
    go_wp2_with fail
    go_ret
    exact ⟨rfl, hb1.trans (hb2.mono hb1.size)⟩
set_option maxRecDepth 100000 in
theorem joins_yes (w : World) (B b off cap : Nat) (xs : List Pr) (m n : Nat) (h : PrimsAt w B (.slice (some ⟨b, off, none⟩) xs.length cap) xs) (hB : B ≤ w.heap.size) (hn : n = m % (xs.length + 1)) (hf : fitsPr xs = true) (hw : few xs = true) (hcap : xs.length ≤ cap) (hcm : cap ≤ 9223372036854775807) (hm : m < 256) :
    Calls Try.prog 4 #[.slice (some ⟨b, off, none⟩) xs.length cap, .int .u8 m] w fun e w' => e = .returned (.bool true) ∧ Below w.heap.size w w' := by
  have hlen : xs.length ≤ 30 := by simp [few] at hw; exact hw.2
  have HF := Lib.hid (fits23 w B _ xs h hB (by omega))
  rw [hf] at HF
  have hnl : n ≤ xs.length := by have := Nat.mod_lt m (show 0 < xs.length + 1 by omega); omega
  have e1 : (m : Int) % ((xs.length : Int) + 1) = (n : Int) := by subst hn; rw [Int.natCast_emod]; simp
  have HP := Lib.hid h
  have HW := Lib.hid hw
  have HLE := Lib.hid (h.bytes_le hw)
  clear hn hf hw h
  have n0 : (0 : Int) ≤ (n : Int) := Int.natCast_nonneg _
  have n1 : (n : Int) ≤ (cap : Int) := by omega
  have n2 : (n : Int) ≤ (xs.length : Int) := by omega
  by_cases hc : cap = n
  · obtain rfl : n = cap := hc.symm
    have HNX := Lib.hid (show n = xs.length by omega)
    go_enter Try.func4, Try.ntmps4
    go_wp2_with fail
    refine HF.out.mono ?_
    rintro e w1 ⟨rfl, hb1⟩
    have h1 := HP.out.below hB hb1
    have hB1 := Nat.le_trans hB hb1.size
    go_wp2_with fail
    refine (prFew _ B _ xs h1 hB1 (by omega)).mono ?_
    rintro e w2 ⟨rfl, hb2⟩
    rw [HW.out]
    have h2 := Lib.hid (parts_of n (h1.below hB1 hb2) hnl off (.inr HNX.out) 0 (by omega) 0 (by omega))
    have hb02 := hb1.trans (hb2.mono hb1.size)
    have hB2 := Nat.le_trans hB1 hb2.size
    clear h1 hb1 hb2 hB1
    have tok1 := Lib.hid (show 0 = 0 from rfl)
    have tok2 := Lib.hid (show 0 = 0 from rfl)
    have tok3 := Lib.hid (show 0 = 0 from rfl)
    go_wp2_with fail
    have HLA := Lib.hid (h2.out.a.bytes_le (few_take HW.out n))
    have HLC := Lib.hid (h2.out.c.bytes_le (few_drop HW.out n))
    have HEQ := Lib.hid (show (prsBytes xs == prsBytes (xs.take n) ++ prsBytes (xs.drop n)) = true by rw [prs_split]; simp)
    go_region_held3 (fun _ => True) (trivial) (first
      | (go_at_call 20; clear tok1; refine (prPut _ B _ xs (by exact h2.out.l) (by exact hB2) (few_Few HW.out)).mono ?_; rintro e w3 ⟨hb3, v3, rfl, hv3, -⟩; have q3 : Below w2.heap.size w2 w3 := (below_d' w2).trans hb3)
      | (go_at_call 20; clear tok2; refine (prPut _ B _ (xs.take n) (by exact (h2.out.a.below hB2 q3)) (by exact Nat.le_trans hB2 q3.size) (few_Few (few_take HW.out n))).mono ?_; rintro e w4 ⟨hb4, v4, rfl, hv4, -⟩; have q4 : Below w2.heap.size w2 w4 := q3.trans (hb4.mono q3.size); have hv34 : BytesAt w4 v3 (prsBytes xs) := hv3.below hb4)
      | (go_at_call 16; refine (cloneBytes _ v4 _ hv4 (by have := HLA.out; omega)).mono ?_; intro e w5 hm; obtain ⟨p5, c5, rfl, s5, hb5⟩ := hm.since (Below.refl _ _); clear hm; have q5 : Below w2.heap.size w2 w5 := q4.trans (hb5.mono q4.size))
      | (go_at_call 20; clear tok3; refine (prPut _ B _ (xs.drop n) (by exact (h2.out.c.below hB2 q5)) (by exact Nat.le_trans hB2 q5.size) (few_Few (few_drop HW.out n))).mono ?_; rintro e w6 ⟨hb6, v6, rfl, hv6, -⟩; have s5' := s5.later hb6)
      | (refine step_append_since _ _ (prsBytes (xs.take n)) (prsBytes (xs.drop n)) (by rfl) _ _ _ (by rfl) _ (by rfl) s5' _ (by rfl) hv6.srcB (by have := HLA.out; have := HLC.out; omega) ?_; intro p7 c7 w7 s7; have hv37 := hv34.below s7.below; have hv7 : BytesAt w7 (.slice p7 ((prsBytes (xs.take n)).length + (prsBytes (xs.drop n)).length) c7) (prsBytes (xs.take n) ++ prsBytes (xs.drop n)) := s7.bytes; have q7 : Below w2.heap.size w2 w7 := q4.trans (s7.below.mono q4.size))
      | (go_at_call 13; refine (bytesEqual _ _ _ (prsBytes xs) (prsBytes (xs.take n) ++ prsBytes (xs.drop n)) hv37 hv7).mono ?_; rintro e w8 ⟨rfl, rfl⟩; rw [HEQ.out])
      | (go_at_call 21; refine (prAwake _).mono ?_; rintro e w9 ⟨rfl, hb9⟩)
      | fail)
    all_goals
      go_wp2_with fail
      go_ret
      exact ⟨rfl, hb02.trans ((q7.trans (hb9.mono q7.size)).mono hb02.size)⟩
  · go_enter Try.func4, Try.ntmps4
    go_wp2_with fail
    refine HF.out.mono ?_
    rintro e w1 ⟨rfl, hb1⟩
    have h1 := HP.out.below hB hb1
    have hB1 := Nat.le_trans hB hb1.size
    go_wp2_with fail
    refine (prFew _ B _ xs h1 hB1 (by omega)).mono ?_
    rintro e w2 ⟨rfl, hb2⟩
    rw [HW.out]
    have h2 := Lib.hid (parts_of n (h1.below hB1 hb2) hnl (off + n * 4) (.inl rfl) _ rfl _ rfl)
    have hb02 := hb1.trans (hb2.mono hb1.size)
    have hB2 := Nat.le_trans hB1 hb2.size
    clear h1 hb1 hb2 hB1
    have tok1 := Lib.hid (show 0 = 0 from rfl)
    have tok2 := Lib.hid (show 0 = 0 from rfl)
    have tok3 := Lib.hid (show 0 = 0 from rfl)
    go_wp2_with fail
    have HLA := Lib.hid (h2.out.a.bytes_le (few_take HW.out n))
    have HLC := Lib.hid (h2.out.c.bytes_le (few_drop HW.out n))
    have HEQ := Lib.hid (show (prsBytes xs == prsBytes (xs.take n) ++ prsBytes (xs.drop n)) = true by rw [prs_split]; simp)
    go_region_held3 (fun _ => True) (trivial) (first
      | (go_at_call 20; clear tok1; refine (prPut _ B _ xs (by exact h2.out.l) (by exact hB2) (few_Few HW.out)).mono ?_; rintro e w3 ⟨hb3, v3, rfl, hv3, -⟩; have q3 : Below w2.heap.size w2 w3 := (below_d' w2).trans hb3)
      | (go_at_call 20; clear tok2; refine (prPut _ B _ (xs.take n) (by exact (h2.out.a.below hB2 q3)) (by exact Nat.le_trans hB2 q3.size) (few_Few (few_take HW.out n))).mono ?_; rintro e w4 ⟨hb4, v4, rfl, hv4, -⟩; have q4 : Below w2.heap.size w2 w4 := q3.trans (hb4.mono q3.size); have hv34 : BytesAt w4 v3 (prsBytes xs) := hv3.below hb4)
      | (go_at_call 16; refine (cloneBytes _ v4 _ hv4 (by have := HLA.out; omega)).mono ?_; intro e w5 hm; obtain ⟨p5, c5, rfl, s5, hb5⟩ := hm.since (Below.refl _ _); clear hm; have q5 : Below w2.heap.size w2 w5 := q4.trans (hb5.mono q4.size))
      | (go_at_call 20; clear tok3; refine (prPut _ B _ (xs.drop n) (by exact (h2.out.c.below hB2 q5)) (by exact Nat.le_trans hB2 q5.size) (few_Few (few_drop HW.out n))).mono ?_; rintro e w6 ⟨hb6, v6, rfl, hv6, -⟩; have s5' := s5.later hb6)
      | (refine step_append_since _ _ (prsBytes (xs.take n)) (prsBytes (xs.drop n)) (by rfl) _ _ _ (by rfl) _ (by rfl) s5' _ (by rfl) hv6.srcB (by have := HLA.out; have := HLC.out; omega) ?_; intro p7 c7 w7 s7; have hv37 := hv34.below s7.below; have hv7 : BytesAt w7 (.slice p7 ((prsBytes (xs.take n)).length + (prsBytes (xs.drop n)).length) c7) (prsBytes (xs.take n) ++ prsBytes (xs.drop n)) := s7.bytes; have q7 : Below w2.heap.size w2 w7 := q4.trans (s7.below.mono q4.size))
      | (go_at_call 13; refine (bytesEqual _ _ _ (prsBytes xs) (prsBytes (xs.take n) ++ prsBytes (xs.drop n)) hv37 hv7).mono ?_; rintro e w8 ⟨rfl, rfl⟩; rw [HEQ.out])
      | (go_at_call 21; refine (prAwake _).mono ?_; rintro e w9 ⟨rfl, hb9⟩)
      | fail)
    all_goals
      go_wp2_with fail
      go_ret
      exact ⟨rfl, hb02.trans ((q7.trans (hb9.mono q7.size)).mono hb02.size)⟩

set_option maxRecDepth 100000 in
theorem joins_nil (w : World) (B : Nat) (m : Nat) (hB : B ≤ w.heap.size) (hm : m < 256) :
    Calls Try.prog 4 #[.slice none 0 0, .int .u8 m] w fun e w' => e = .returned (.bool true) ∧ Below w.heap.size w w' := by
  have h : PrimsAt w B (.slice none 0 0) [] := .inl ⟨rfl, rfl⟩
  have HF := Lib.hid (fits23 w B _ [] h hB (by simp))
  rw [show fitsPr [] = true by decide] at HF
  have HW := Lib.hid (show few [] = true by decide)
  have HP := Lib.hid h
  obtain ⟨xs, hxs⟩ : ∃ xs : List Pr, xs = [] := ⟨_, rfl⟩
  rw [← hxs] at HW HP
  have HXS := Lib.hid hxs
  clear h hxs
  go_enter Try.func4, Try.ntmps4
  go_wp2_with fail
  refine HF.out.mono ?_
  rintro e w1 ⟨rfl, hb1⟩
  have h1 := HP.out.below hB hb1
  have hB1 := Nat.le_trans hB hb1.size
  go_wp2_with fail
  refine (prFew _ B _ xs h1 hB1 (by rw [HXS.out]; simp)).mono ?_
  rintro e w2 ⟨rfl, hb2⟩
  rw [HW.out]
  have h2 : Hid (Parts w2 B (.slice none 0 0) (.slice none 0 0) (.slice none 0 0) xs 0) := ⟨h1.below hB1 hb2, by rw [HXS.out]; exact .inl ⟨rfl, rfl⟩, by rw [HXS.out]; exact .inl ⟨rfl, rfl⟩⟩
  have hb02 := hb1.trans (hb2.mono hb1.size)
  have hB2 := Nat.le_trans hB1 hb2.size
  clear h1 hb1 hb2 hB1
  have tok1 := Lib.hid (show 0 = 0 from rfl)
  have tok2 := Lib.hid (show 0 = 0 from rfl)
  have tok3 := Lib.hid (show 0 = 0 from rfl)
  go_wp2_with fail
  have HLA := Lib.hid (h2.out.a.bytes_le (few_take HW.out 0))
  have HLC := Lib.hid (h2.out.c.bytes_le (few_drop HW.out 0))
  have HEQ := Lib.hid (show (prsBytes xs == prsBytes (xs.take 0) ++ prsBytes (xs.drop 0)) = true by rw [prs_split]; simp)
  go_region_held3 (fun _ => True) (trivial) (first
    | (go_at_call 20; clear tok1; refine (prPut _ B _ xs (by exact h2.out.l) (by exact hB2) (few_Few HW.out)).mono ?_; rintro e w3 ⟨hb3, v3, rfl, hv3, -⟩; have q3 : Below w2.heap.size w2 w3 := (below_d' w2).trans hb3)
    | (go_at_call 20; clear tok2; refine (prPut _ B _ (xs.take 0) (by exact (h2.out.a.below hB2 q3)) (by exact Nat.le_trans hB2 q3.size) (few_Few (few_take HW.out 0))).mono ?_; rintro e w4 ⟨hb4, v4, rfl, hv4, -⟩; have q4 : Below w2.heap.size w2 w4 := q3.trans (hb4.mono q3.size); have hv34 : BytesAt w4 v3 (prsBytes xs) := hv3.below hb4)
    | (go_at_call 16; refine (cloneBytes _ v4 _ hv4 (by have := HLA.out; omega)).mono ?_; intro e w5 hm; obtain ⟨p5, c5, rfl, s5, hb5⟩ := hm.since (Below.refl _ _); clear hm; have q5 : Below w2.heap.size w2 w5 := q4.trans (hb5.mono q4.size))
    | (go_at_call 20; clear tok3; refine (prPut _ B _ (xs.drop 0) (by exact (h2.out.c.below hB2 q5)) (by exact Nat.le_trans hB2 q5.size) (few_Few (few_drop HW.out 0))).mono ?_; rintro e w6 ⟨hb6, v6, rfl, hv6, -⟩; have s5' := s5.later hb6)
    | (refine step_append_since _ _ (prsBytes (xs.take 0)) (prsBytes (xs.drop 0)) (by rfl) _ _ _ (by rfl) _ (by rfl) s5' _ (by rfl) hv6.srcB (by have := HLA.out; have := HLC.out; omega) ?_; intro p7 c7 w7 s7; have hv37 := hv34.below s7.below; have hv7 : BytesAt w7 (.slice p7 ((prsBytes (xs.take 0)).length + (prsBytes (xs.drop 0)).length) c7) (prsBytes (xs.take 0) ++ prsBytes (xs.drop 0)) := s7.bytes; have q7 : Below w2.heap.size w2 w7 := q4.trans (s7.below.mono q4.size))
    | (go_at_call 13; refine (bytesEqual _ _ _ (prsBytes xs) (prsBytes (xs.take 0) ++ prsBytes (xs.drop 0)) hv37 hv7).mono ?_; rintro e w8 ⟨rfl, rfl⟩; rw [HEQ.out])
    | (go_at_call 21; refine (prAwake _).mono ?_; rintro e w9 ⟨rfl, hb9⟩)
    | fail)
  all_goals
    go_wp2_with fail
    go_ret
    exact ⟨rfl, hb02.trans ((q7.trans (hb9.mono q7.size)).mono hb02.size)⟩

theorem joins (w : World) (B : Nat) (lv : Value) (xs : List Pr) (m : Nat) (h : PrimsAt w B lv xs) (hB : B ≤ w.heap.size) (hn : xs.length ≤ 9223372036854775807) (hm : m < 256) (hcm : ∀ p n c, lv = .slice p n c → c ≤ 9223372036854775807) :
    Calls Try.prog 4 #[lv, .int .u8 m] w fun e w' => e = .returned (.bool true) ∧ Below w.heap.size w w' := by
  by_cases hy : fitsPr xs = true ∧ few xs = true
  · rcases id h with ⟨rfl, rfl⟩ | ⟨b, off, cap, rfl, hc, -⟩
    · exact joins_nil w B m hB hm
    · exact joins_yes w B b off cap xs m _ h hB rfl hy.1 hy.2 hc (hcm _ _ _ rfl) hm
  · exact joins_no w B lv xs m h hB hn hy
end Go.Proofs.Ytlohpmncagfecaa
