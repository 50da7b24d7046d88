/- laws.FnPRPuts. -/
import Derived.Test.YtlohpmncagfecaaDoorSpPr
import Derived.Test.YtlohpmncagfecaaDoorAwake
import Derived.Lib.LaidTab
namespace Go.Proofs.YtlohpmncagfecaaDoor
open Go.RowKit
set_option linter.unnecessarySimpa false
set_option linter.unusedVariables false
set_option linter.unusedSimpArgs false

theorem wid_of {W : World} (h : Lib.TabIs Tryd.prog W "given.example/pub-clapboard/spec.prWidths" .i64 [0, 1, 1, 1, 2, 4, 8, 1, 2, 4, 8, 4, 8, 16, 16, 0, 0, 0, 0, 0]) : Wid W := by
  intro j u hj
  have hg : Tryd.prog.globalNamed "given.example/pub-clapboard/spec.prWidths" = some 0 := by kernel_rfl
  have hlt : j < 20 := by have := (List.getElem?_eq_some_iff.1 hj).1; simpa [ints, widths] using this
  have hc := h.cell hg j (by simpa using hlt)
  rw [hc, ← hj]
  rcases (by omega : j = 0 ∨ j = 1 ∨ j = 2 ∨ j = 3 ∨ j = 4 ∨ j = 5 ∨ j = 6 ∨ j = 7 ∨ j = 8 ∨ j = 9 ∨ j = 10 ∨ j = 11 ∨ j = 12 ∨ j = 13 ∨ j = 14 ∨ j = 15 ∨ j = 16 ∨ j = 17 ∨ j = 18 ∨ j = 19) with rfl | rfl | rfl | rfl | rfl | rfl | rfl | rfl | rfl | rfl | rfl | rfl | rfl | rfl | rfl | rfl | rfl | rfl | rfl | rfl <;> rfl

theorem prWhole (w : World) (x : Pr) (q : Option Addr) (cq : Nat) (hu : x.u < 18446744073709551616) :
    Calls Tryd.prog 7 #[.agg #[.int .i64 x.op, .int .u64 (x.u : Nat), .int .u64 (x.v : Nat), .slice q x.s.length cq]] w fun e w' => e = .returned (.bool (wholePr x)) ∧ Below w.heap.size w w' := by
  have HU := Lib.hid hu
  clear hu
  by_cases h16 : x.op = 16
  · have e1 : (x.op != 16) = false := by simp [h16]
    by_cases hb : x.u < 9223372036854775808
    · have hw : wholePr x = true := by simp [wholePr, hb]
      have HW := Lib.hid hw
      have HB := Lib.hid hb
      have hb' : decide ((x.u : Int) < 9223372036854775808) = true := by simp; omega
      clear hw hb h16
      go_enter Tryd.func7, Tryd.ntmps7
      go_wp2
      go_ret
      exact ⟨by rw [HW.out]; rfl, (Below.refl _ w).alloc (Nat.le_refl _) _⟩
    · have hw : wholePr x = false := by simp [wholePr, hb, h16]
      have HW := Lib.hid hw
      have hb' : decide ((x.u : Int) < 9223372036854775808) = false := by simp; omega
      clear hw hb h16
      go_enter Tryd.func7, Tryd.ntmps7
      go_wp2
      go_ret
      exact ⟨by rw [HW.out]; rfl, (Below.refl _ w).alloc (Nat.le_refl _) _⟩
  · have e1 : (x.op != 16) = true := by simpa using h16
    by_cases h17 : x.op = 17
    · have e2 : (x.op != 17) = false := by simp [h17]
      by_cases hb : x.u < 9223372036854775808
      · have hw : wholePr x = true := by simp [wholePr, hb]
        have HW := Lib.hid hw
        have hb' : decide ((x.u : Int) < 9223372036854775808) = true := by simp; omega
        clear hw hb h16 h17
        go_enter Tryd.func7, Tryd.ntmps7
        go_wp2
        go_ret
        exact ⟨by rw [HW.out]; rfl, (Below.refl _ w).alloc (Nat.le_refl _) _⟩
      · have hw : wholePr x = false := by simp [wholePr, hb, h17]
        have HW := Lib.hid hw
        have hb' : decide ((x.u : Int) < 9223372036854775808) = false := by simp; omega
        clear hw hb h16 h17
        go_enter Tryd.func7, Tryd.ntmps7
        go_wp2
        go_ret
        exact ⟨by rw [HW.out]; rfl, (Below.refl _ w).alloc (Nat.le_refl _) _⟩
    · have e2 : (x.op != 17) = true := by simpa using h17
      have hw : wholePr x = true := by simp [wholePr, h16, h17]
      have HW := Lib.hid hw
      clear hw h16 h17
      go_enter Tryd.func7, Tryd.ntmps7
      go_wp2
      go_ret
      exact ⟨by rw [HW.out]; rfl, (Below.refl _ w).alloc (Nat.le_refl _) _⟩

theorem puts_no (w : World) (B : Nat) (lv : Value) (xs : List Pr) (h : PrimsAt w B lv xs) (hB : B ≤ w.heap.size) (hn : xs.length ≤ 9223372036854775807) (hno : ¬ (fitsPr xs = true ∧ few xs = true)) :
    Calls Tryd.prog 3 #[lv] w fun e w' => e = .returned (.bool true) ∧ Below w.heap.size w w' := by
  have HF := Lib.hid (fits23 w B lv xs h hB hn)
  obtain ⟨p, c, rfl⟩ := h.slice
  cases hf : fitsPr xs
  · rw [hf] at HF
    clear hno hf
    go_enter Tryd.func3, Tryd.ntmps3
    go_wp2_with fail
    refine HF.out.mono ?_
    rintro e w1 ⟨rfl, hb1⟩
    go_wp2_with fail
    go_ret
    exact ⟨rfl, hb1⟩
  · have hw : few xs = false := by simpa [hf] using hno
    have HW := Lib.hid hw
    rw [hf] at HF
    have HP := Lib.hid h
    clear hno hf hw h
    go_enter Tryd.func3, Tryd.ntmps3
    go_wp2_with fail
    refine HF.out.mono ?_
    rintro e w1 ⟨rfl, hb1⟩
    have h1 := HP.out.below hB hb1
    have hB1 := Nat.le_trans hB hb1.size
    go_wp2_with fail
    refine (prFew _ B _ xs h1 hB1 hn).mono ?_
    rintro e w2 ⟨rfl, hb2⟩
    rw [HW.out]
    go_wp2_with fail
    go_ret
    exact ⟨rfl, hb1.trans (hb2.mono hb1.size)⟩

theorem prsBytes_take_le (xs : List Pr) (k : Nat) (h : ∀ x ∈ xs, x.u < 18446744073709551616 ∧ okPr x = true) (hl : xs.length ≤ 30) : (prsBytes (xs.take k)).length ≤ 30300 := by
  have h1 := prsBytes_le (xs.take k) fun x hx => h x (List.mem_of_mem_take hx)
  simp at h1; omega

theorem PrimsAt.oks {w : World} {B : Nat} {lv : Value} {xs : List Pr} (h : PrimsAt w B lv xs) (hf : few xs = true) : ∀ x ∈ xs, x.u < 18446744073709551616 ∧ okPr x = true := by
  intro x hx
  have hg : okPr x = true := (few_Few hf).1 x hx
  rcases h with ⟨-, rfl⟩ | ⟨b, off, cap, -, -, -, h⟩
  · simp at hx
  · obtain ⟨i, hi⟩ := List.mem_iff_getElem?.1 hx
    obtain ⟨_, _, _, _, _, _, _, h6, _⟩ := h i x hi
    exact ⟨h6, hg⟩

set_option maxRecDepth 100000 in
set_option maxHeartbeats 1000000 in
theorem puts_yes (w : World) (hW : Wid w) (B : Nat) (lv : Value) (xs : List Pr) (h : PrimsAt w B lv xs) (hB : B ≤ w.heap.size) (hf : fitsPr xs = true) (hw : few xs = true) :
    Calls Tryd.prog 3 #[lv] w fun e w' => e = .returned (.bool true) ∧ Below w.heap.size w w' := by
  have hlen : xs.length ≤ 30 := by simp [few] at hw; exact hw.2
  have HF := Lib.hid (fits23 w B lv xs h hB (by omega))
  rw [hf] at HF
  have HP := Lib.hid h
  have HW := Lib.hid hw
  have HWID := Lib.hid hW
  have HOK := Lib.hid (h.oks hw)
  have HTL := Lib.hid (fun k => prsBytes_take_le xs k (h.oks hw) hlen)
  obtain ⟨p0, c0, rfl⟩ := id h.slice
  clear hf hw hW
  have hall := h
  clear h
  go_enter Tryd.func3, Tryd.ntmps3
  go_wp2_with fail
  refine HF.out.mono ?_
  rintro e w1 ⟨rfl, hb1⟩
  have h1 := HP.out.below hB hb1
  have hB1 := Nat.le_trans hB hb1.size
  go_wp2_with fail
  refine (prFew _ B _ xs h1 hB1 (by omega)).mono ?_
  rintro e w2 ⟨rfl, hb2⟩
  rw [HW.out]
  have hb02 := hb1.trans (hb2.mono hb1.size)
  have HB02 := Lib.hid hb02
  clear h1 hb1 hb2 hB1 hall
  go_wp2_with fail
  go_loopw [3, 14] (fun vo vi wr => ∃ (k : Nat) (p : Option Addr) (c : Nat), k ≤ xs.length ∧ vi = .int .i64 k ∧ vo = .slice p (prsBytes (xs.take k)).length c ∧ Since w2 wr (.slice p (prsBytes (xs.take k)).length c) (prsBytes (xs.take k))) (fun _ vi _ => xs.length - (intOf vi).toNat)
  case atStart => exact ⟨0, none, 0, Nat.zero_le _, rfl, rfl, sinceNil _⟩
  case round =>
    obtain ⟨k, p, c, hk, rfl, rfl, hs⟩ := hrel
    have HS := Lib.hid hs
    have hbl : Below w.heap.size w wr := HB02.out.trans (hs.below.mono HB02.out.size)
    have HBL := Lib.hid hbl
    clear hs
    by_cases hlt : k < xs.length
    · rcases HP.out with ⟨h1, h2⟩ | ⟨b, off, cap, he, hcap, hbb, hx⟩
      · subst h2; simp at hlt
      · obtain ⟨rfl, rfl⟩ : p0 = some ⟨b, off, none⟩ ∧ c0 = cap := by simpa using he
        obtain ⟨x, hxk⟩ : ∃ x, xs[k]? = some x := ⟨_, List.getElem?_eq_getElem hlt⟩
        obtain ⟨sv, c0, c1, c2, c3, hsv, hg, hu, hv, hsl⟩ := (hx k x hxk).keep hbb (w' := wr) fun j hj => hbl.block j (by omega)
        obtain ⟨q, cq, rfl⟩ := hsv.slice
        have HXK := Lib.hid hxk
        have HUV := Lib.hid (And.intro hu hv)
        have HSV := Lib.hid hsv
        have hgx := HOK.out x (List.mem_of_getElem? hxk)
        have hg100 : 1 ≤ x.op ∧ x.op ≤ 19 ∧ x.s.length ≤ 100 := by
          have := HW.out
          simp [few] at this
          have := this.1 x (List.mem_of_getElem? hxk)
          simpa [goodPr] using this
        have H100 := Lib.hid hg100
        clear hx hxk hu hv hsv hg hgx hg100 he
        go_wp2_with fail
        refine (prWhole _ x q cq HUV.out.1).mono ?_
        rintro e w3 ⟨rfl, hb3⟩
        have hbr3 : Below wr.heap.size wr w3 := ((Below.refl _ wr).alloc (Nat.le_refl _) _).trans (hb3.mono (by simp))
        have hr3 := (rowIs_new wr [.int .i64 x.op, .int .u64 (x.u : Nat), .int .u64 (x.v : Nat), .slice q x.s.length cq] 28).below hb3
        have d0 := hr3 0 _ rfl
        have d1 := hr3 1 _ rfl
        have d2 := hr3 2 _ rfl
        have d3 := hr3 3 _ rfl
        have HBR3 := Lib.hid hbr3
        clear hb3 hr3 hbr3
        cases hwh : wholePr x
        · clear hwh
          go_wp2_with fail
          go_ret
          exact ⟨rfl, HBL.out.trans (HBR3.out.mono HBL.out.size)⟩
        · clear hwh
          obtain ⟨op, hop⟩ := Int.eq_ofNat_of_zero_le (show 0 ≤ x.op by have := H100.out.1; omega)
          have h100 := H100.out
          have hb03 : Below w.heap.size w w3 := HBL.out.trans (HBR3.out.mono HBL.out.size)
          have HC := Lib.hid (spPrim w3 (HWID.out.below hb03) op x.u x.v (.slice q x.s.length cq) x.s (by omega) (by omega) HUV.out.1 HUV.out.2 (HSV.out.below HBR3.out) h100.2.2)
          have HTS := Lib.hid (show prsBytes (xs.take (k + 1)) = prsBytes (xs.take k) ++ primBytes op x.u x.v x.s by rw [prsBytes_take_succ HXK.out]; unfold prBytes; rw [hop]; rfl)
          have hpl := primBytes_le op x.u x.v x.s HUV.out.1 (by omega)
          have hps := HTL.out k
          have HS3 := Lib.hid (HS.out.later HBR3.out)
          rw [hop] at d0
          clear hop h100 hb03
          go_wp2_with fail
          refine HC.out.mono ?_
          rintro e w4 ⟨⟨v4, rfl, hv4⟩, hb4⟩
          have HS4 := Lib.hid (HS3.out.later hb4)
          clear hb4 HS3 HC
          go_wp2_with (at_builtin; refine append_since _ _ (prsBytes (xs.take k)) (primBytes op x.u x.v x.s) rfl _ _ _ rfl _ rfl HS4.out _ rfl hv4.srcB (by omega) ?_; intro p5 c5 w5 s5)
          go_roundw
          case rel => exact ⟨k + 1, p5, c5, by omega, by go_num, by rw [HTS.out, List.length_append], by rw [HTS.out, List.length_append]; exact s5⟩
          case measure => simp [intOf]; omega
    · obtain rfl : k = xs.length := by omega
      have hs := HS.out
      simp only [List.take_length] at hs ⊢
      have hps := HTL.out xs.length
      rw [List.take_length] at hps
      have HS2 := Lib.hid hs
      have hpr := HP.out.below hB hbl
      obtain ⟨A, hA⟩ : ∃ A, A = prsBytes xs := ⟨_, rfl⟩
      have HPUT := Lib.hid (prPut wr B _ xs hpr (Nat.le_trans hB hbl.size) (few_Few HW.out))
      rw [← hA] at HPUT HS2 hps ⊢
      clear hs hpr hA HS
      go_wp2_with fail
      refine HPUT.out.mono ?_
      rintro e w3 ⟨hb3, v3, rfl, hv3, -⟩
      have h3 := HS2.out.bytes.below hb3
      have hB3 := hbl.trans (hb3.mono hbl.size)
      go_wp2_with fail
      refine (bytesEqual _ _ _ A A hv3 h3).mono ?_
      rintro e w4 ⟨rfl, rfl⟩
      rw [show (A == A) = true by simp]
      go_wp2_with fail
      refine (prAwake _).mono ?_
      rintro e w5 ⟨rfl, hb5⟩
      go_wp2_with fail
      go_ret
      exact ⟨rfl, hB3.trans (hb5.mono hB3.size)⟩

theorem puts (w : World) (hW : Wid w) (B : Nat) (lv : Value) (xs : List Pr) (h : PrimsAt w B lv xs) (hB : B ≤ w.heap.size) (hn : xs.length ≤ 9223372036854775807) :
    Calls Tryd.prog 3 #[lv] w fun e w' => e = .returned (.bool true) ∧ Below w.heap.size w w' := by
  by_cases hy : fitsPr xs = true ∧ few xs = true
  · exact puts_yes w hW B lv xs h hB hy.1 hy.2
  · exact puts_no w B lv xs h hB hn hy
end Go.Proofs.YtlohpmncagfecaaDoor
