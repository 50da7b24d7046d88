/- laws.FnPRBack's walk. -/
import Derived.Test.YtlohpmncagfecaaDoorAsks3
namespace Go.Proofs.YtlohpmncagfecaaDoor
open Go.RowKit
set_option linter.unnecessarySimpa false
set_option linter.unusedVariables false
set_option linter.unusedSimpArgs false

theorem PrimsAt.alls {w : World} {B : Nat} {lv : Value} {xs : List Pr} (h : PrimsAt w B lv xs) (hf : few xs = true) : ∀ x ∈ xs, x.u < 18446744073709551616 ∧ x.v < 18446744073709551616 ∧ okPr x = true ∧ x.s.length < 18446744073709551616 := by
  intro x hx
  have hg : okPr x = true := (few_Few hf).1 x hx
  rcases h with ⟨-, rfl⟩ | ⟨b, off, cap, -, -, -, h⟩
  · simp at hx
  · obtain ⟨i, hi⟩ := List.mem_iff_getElem?.1 hx
    obtain ⟨_, _, _, _, _, _, _, h6, h7, h8⟩ := h i x hi
    exact ⟨h6, h7, hg, by omega⟩

set_option maxRecDepth 100000 in
set_option maxHeartbeats 2000000 in
theorem back_yes (w : World) (hW : Wid w) (B : Nat) (lv : Value) (xs : List Pr) (h : PrimsAt w B lv xs) (hB : B ≤ w.heap.size) (hf : fitsPr xs = true) (hw : few xs = true) (hwh : wholes xs = true) :
    Calls Tryd.prog 4 #[lv] w fun e w' => e = .returned (.bool true) ∧ Below w.heap.size w w' := by
  have hlen : xs.length ≤ 30 := by simp [few] at hw; exact hw.2
  have HF := Lib.hid (fits23 w B lv xs h hB (by omega))
  rw [hf] at HF
  have HP := Lib.hid h
  have HFW := Lib.hid hw
  have HWH := Lib.hid hwh
  have HWID := Lib.hid hW
  have HALL := Lib.hid (h.alls hw)
  have HLB := Lib.hid (prsBytes_le xs fun x hx => ⟨(h.alls hw x hx).1, (h.alls hw x hx).2.2.1⟩)
  obtain ⟨p0, c0, rfl⟩ := id h.slice
  clear hf hw hW hwh h
  go_enter Tryd.func4, Tryd.ntmps4
  go_wp2_with fail
  refine HF.out.mono ?_
  rintro e w1 ⟨rfl, hb1⟩
  have h1 := HP.out.below hB hb1
  have hB1 := Nat.le_trans hB hb1.size
  go_wp2_with fail
  refine (prFew _ B _ xs h1 hB1 (by omega)).mono ?_
  rintro e w2 ⟨rfl, hb2⟩
  rw [HFW.out]
  have h2 := h1.below hB1 hb2
  have hB2 := Nat.le_trans hB1 hb2.size
  have HB2 := Lib.hid (hb1.trans (hb2.mono hb1.size))
  clear h1 hb1 hb2
  go_wp2_with fail
  refine (containsFuncPr _ B _ xs h2 hB2 (by omega)).mono ?_
  rintro e w3 ⟨rfl, hb3⟩
  rw [HWH.out]
  have h3 := h2.below hB2 hb3
  have hB3 := Nat.le_trans hB2 hb3.size
  have HB3 := Lib.hid (HB2.out.trans (hb3.mono HB2.out.size))
  have HA := Lib.hid (prAsks w3 (HWID.out.below HB3.out) B _ xs h3 hB3 hlen fun x hx => (HALL.out x hx).2.2.1)
  have HP3 := Lib.hid h3
  clear h2 h3 hb3
  go_wp2_with fail
  refine HA.out.mono ?_
  rintro e w4 ⟨va, vw, rfl, hinv⟩
  obtain ⟨Fa, Fw, svs, hl, hoa, how, hold, hFa, hFw, hb4⟩ := hinv
  rw [List.take_length] at hoa how
  have hB4 := Nat.le_trans hB3 hb4.size
  have h4 := HP3.out.below hB3 hb4
  have hasks := asks_prims hoa fun x hx => (HALL.out x hx).2.2.2
  have hgl : (xs.map gotOf).length = xs.length := by simp
  have hwant : GtsAt w4 vw (xs.map gotOf) := want_gts (svs := svs) (by rw [hgl, hl]) (by rw [hgl]; exact how) fun i g sv hg hs => by
    rw [List.getElem?_map, Option.map_eq_some_iff] at hg
    obtain ⟨x, hx, rfl⟩ := hg
    have hh := hold i x sv hx hs
    exact ⟨hh.1.below hb4, fun k h1 h2 => Nat.lt_of_lt_of_le (hh.2 k h1 h2) hb4.size⟩
  obtain ⟨pa, ca, rfl⟩ := hoa.slice
  obtain ⟨pw, cw, rfl⟩ := how.slice
  have HB4 := Lib.hid (HB3.out.trans (hb4.mono HB3.out.size))
  have HPUT := Lib.hid (prPut w4 B _ xs h4 hB4 (few_Few HFW.out))
  have HASK := Lib.hid hasks
  have HWANT := Lib.hid hwant
  clear hl hoa how hold hFa hFw hb4 h4 hasks hwant hgl hB4
  go_wp2_with fail
  refine HPUT.out.mono ?_
  rintro e w5 ⟨hb5, vb, rfl, hvb, hvg⟩
  have hask5 := HASK.out.below (Nat.le_refl _) hb5
  have hwant5 := HWANT.out.below hb5
  have HG := Lib.hid (prGet w5 w4.heap.size vb _ (prsBytes xs) (xs.map askOf) (xs.map gotOf) hvb (fun g hg => (hvg g hg).2) hask5 hb5.size (by simp; omega) (by have := HLB.out; omega) (run_back xs fun x hx => ⟨(HALL.out x hx).1, (HALL.out x hx).2.1, (HALL.out x hx).2.2.1⟩))
  have HB5 := Lib.hid (HB4.out.trans (hb5.mono HB4.out.size))
  have HW5 := Lib.hid hwant5
  obtain ⟨pb, cb, rfl⟩ := hvb.slice
  clear hb5 hvb hvg hask5 hwant5
  go_wp2_with fail
  refine HG.out.mono ?_
  rintro e w6 ⟨v6, Fo, rfl, hout, hb6⟩
  have HE := Lib.hid (equalFunc w6 v6 _ (xs.map gotOf) hout.gts (HW5.out.below hb6) (by simp; omega))
  have HB6 := Lib.hid (HB5.out.trans (hb6.mono HB5.out.size))
  clear hout hb6
  go_wp2_with fail
  refine HE.out.mono ?_
  rintro e w7 ⟨rfl, hb7⟩
  have HB7 := Lib.hid (HB6.out.trans (hb7.mono HB6.out.size))
  clear hb7
  go_wp2_with fail
  refine (prAwake w7).mono ?_
  rintro e w8 ⟨rfl, hb8⟩
  go_wp2_with fail
  go_ret
  exact ⟨rfl, HB7.out.trans (hb8.mono HB7.out.size)⟩

theorem back (w : World) (hW : Wid w) (B : Nat) (lv : Value) (xs : List Pr) (h : PrimsAt w B lv xs) (hB : B ≤ w.heap.size) (hn : xs.length ≤ 9223372036854775807) :
    Calls Tryd.prog 4 #[lv] w fun e w' => e = .returned (.bool true) ∧ Below w.heap.size w w' := by
  by_cases hh : fitsPr xs = true ∧ few xs = true ∧ wholes xs = true
  · exact back_yes w hW B lv xs h hB hh.1 hh.2.1 hh.2.2
  · exact back_no w B lv xs h hB hn hh
end Go.Proofs.YtlohpmncagfecaaDoor
