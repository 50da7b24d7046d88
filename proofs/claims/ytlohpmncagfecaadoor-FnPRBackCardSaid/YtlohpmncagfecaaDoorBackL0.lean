/- laws.FnPRBack where it looks at nothing. -/
import Derived.Test.YtlohpmncagfecaaDoorAsks0
namespace Go.Proofs.YtlohpmncagfecaaDoor
open Go.RowKit
set_option linter.unnecessarySimpa false
set_option linter.unusedVariables false
set_option linter.unusedSimpArgs false

set_option maxRecDepth 100000 in
theorem back_no (w : World) (B : Nat) (lv : Value) (xs : List Pr) (h : PrimsAt w B lv xs) (hB : B ≤ w.heap.size) (hn : xs.length ≤ 9223372036854775807) (hno : ¬ (fitsPr xs = true ∧ few xs = true ∧ wholes xs = true)) :
    Calls Tryd.prog 4 #[lv] w fun e w' => e = .returned (.bool true) ∧ Below w.heap.size w w' := by
  have HF := Lib.hid (fits23 w B lv xs h hB hn)
  obtain ⟨p, c, rfl⟩ := h.slice
  cases hf : fitsPr xs
  · rw [hf] at HF
    clear hno hf
    go_enter Tryd.func4, Tryd.ntmps4
    go_wp2_with fail
    refine HF.out.mono ?_
    rintro e w1 ⟨rfl, hb1⟩
    go_wp2_with fail
    go_ret
    exact ⟨rfl, hb1⟩
  · rw [hf] at HF
    have HP := Lib.hid h
    cases hw : few xs
    · have HW := Lib.hid hw
      clear hno hf hw h
      go_enter Tryd.func4, Tryd.ntmps4
      go_wp2_with fail
      refine HF.out.mono ?_
      rintro e w1 ⟨rfl, hb1⟩
      have h1 := HP.out.below hB hb1
      have hB1 := Nat.le_trans hB hb1.size
      go_wp2_with fail
      refine (prFew _ B _ xs h1 hB1 hn).mono ?_
      rintro e w2 ⟨rfl, hb2⟩
      rw [HW.out]
      go_wp2_with fail
      go_ret
      exact ⟨rfl, hb1.trans (hb2.mono hb1.size)⟩
    · have HW := Lib.hid hw
      have HL := Lib.hid (few_Few hw).2
      have HN := Lib.hid (show wholes xs = false by simpa [hf, hw] using hno)
      clear hno hf hw h
      go_enter Tryd.func4, Tryd.ntmps4
      go_wp2_with fail
      refine HF.out.mono ?_
      rintro e w1 ⟨rfl, hb1⟩
      have h1 := HP.out.below hB hb1
      have hB1 := Nat.le_trans hB hb1.size
      go_wp2_with fail
      refine (prFew _ B _ xs h1 hB1 hn).mono ?_
      rintro e w2 ⟨rfl, hb2⟩
      rw [HW.out]
      have h2 := h1.below hB1 hb2
      have hB2 := Nat.le_trans hB1 hb2.size
      go_wp2_with fail
      refine (containsFuncPr _ B _ xs h2 hB2 (by have := HL.out; omega)).mono ?_
      rintro e w3 ⟨rfl, hb3⟩
      rw [HN.out]
      go_wp2_with fail
      go_ret
      exact ⟨rfl, (hb1.trans (hb2.mono hb1.size)).trans (hb3.mono (Nat.le_trans hb1.size hb2.size))⟩
end Go.Proofs.YtlohpmncagfecaaDoor
