/- laws.prSame of equal answers; slices.ContainsFunc of FnPRBack's closure. -/
import Derived.Test.YtlohpmncagfecaaDoorBack
import Derived.Test.YtlohpmncagfecaaDoorPutsL
namespace Go.Proofs.YtlohpmncagfecaaDoor
open Go.RowKit
set_option linter.unnecessarySimpa false
set_option linter.unusedVariables false
set_option linter.unusedSimpArgs false

theorem bytesEqualX (w : World) (va vb : Value) (a b : List UInt8) (ha : BytesX w va a) (hb : BytesX w vb b) :
    Calls Tryd.prog 9 #[va, vb] w fun e w' => e = .returned (.bool (a == b)) ∧ w = w' := by
  have h1 := run_convert_x ha
  have h2 := run_convert_x hb
  clear ha hb
  go_enter Tryd.func9, Tryd.ntmps9
  go_wp2
  go_ret
  exact ⟨rfl, rfl⟩

theorem prSame_eq (w : World) (g : Gt) (s1 s2 : Value) (h1 : BytesX w s1 g.s) (h2 : BytesX w s2 g.s) :
    Calls Tryd.prog 17 #[.agg #[.int .u64 (g.u : Nat), .int .u64 (g.v : Nat), s1, .bool g.err], .agg #[.int .u64 (g.u : Nat), .int .u64 (g.v : Nat), s2, .bool g.err]] w fun e w' => e = .returned (.bool true) ∧ Below w.heap.size w w' := by
  have hb := ((Below.refl w.heap.size w).alloc (Nat.le_refl _) (.cells #[.int .u64 (g.u : Nat), .int .u64 (g.v : Nat), s1, .bool g.err] 40)).alloc (by simp) (.cells #[.int .u64 (g.u : Nat), .int .u64 (g.v : Nat), s2, .bool g.err] 40)
  have HB := Lib.hid hb
  have HE := Lib.hid (bytesEqualX _ s1 s2 g.s g.s (h1.below hb) (h2.below hb))
  obtain ⟨p1, c1, rfl⟩ := h1.slice
  obtain ⟨p2, c2, rfl⟩ := h2.slice
  clear h1 h2 hb
  go_enter Tryd.func17, Tryd.ntmps17
  go_wp2_with (first | (go_at_call 9; refine HE.out.mono ?_; rintro e w8 ⟨rfl, rfl⟩; rw [show (g.s == g.s) = true by simp]) | fail)
  go_ret
  exact ⟨by simp, HB.out⟩

theorem back1 (w : World) (x : Pr) (q : Option Addr) (cq : Nat) (hu : x.u < 18446744073709551616) :
    Calls Tryd.prog 13 #[.agg #[.int .i64 x.op, .int .u64 (x.u : Nat), .int .u64 (x.v : Nat), .slice q x.s.length cq]] w fun e w' => e = .returned (.bool (!wholePr x)) ∧ Below w.heap.size w w' := by
  have HU := Lib.hid hu
  clear hu
  go_enter Tryd.func13, Tryd.ntmps13
  go_wp2_with (go_at_call 7; refine (prWhole _ x q cq HU.out).mono ?_; rintro e w1 ⟨rfl, hb⟩)
  go_ret
  exact ⟨by simp, ((Below.refl _ w).alloc (Nat.le_refl _) _).trans (hb.mono (by simp))⟩

def wholes (xs : List Pr) : Bool := xs.all wholePr

set_option maxRecDepth 100000 in
theorem indexFuncPr (w : World) (B : Nat) (lv : Value) (xs : List Pr) (h : PrimsAt w B lv xs) (hB : B ≤ w.heap.size) (hn : xs.length ≤ 1000000) :
    Calls Tryd.prog 26 #[lv, .func (.func 13) #[] #[]] w fun e w' => (∃ n : Int, e = .returned (.int .i64 n) ∧ decide (0 ≤ n) = !wholes xs) ∧ Below w.heap.size w w' := by
  rcases id h with ⟨rfl, rfl⟩ | ⟨b, off, cap, rfl, hcap, hb, hx⟩
  · go_enter Tryd.func26, Tryd.ntmps26
    go_wp2_with fail
    go_rounds 1
    all_goals
      go_wp2_with fail
      go_ret
      exact ⟨⟨-1, rfl, by simp [wholes]⟩, Below.refl _ _⟩
  · have HX := Lib.hid hx
    clear hx h
    go_enter Tryd.func26, Tryd.ntmps26
    go_wp2_with fail
    go_loopw [8] (fun vi wr => ∃ k : Nat, k ≤ xs.length ∧ vi = .int .i64 k ∧ (∀ j x, j < k → xs[j]? = some x → wholePr x = true) ∧ Below w.heap.size w wr) (fun vi _ => xs.length - (intOf vi).toNat)
    case atStart => exact ⟨0, Nat.zero_le _, rfl, fun j x hj => by omega, Below.refl _ _⟩
    case round =>
      obtain ⟨k, hk, rfl, hgood, hbl⟩ := hrel
      have HG := Lib.hid hgood
      clear hgood
      by_cases hlt : k < xs.length
      · obtain ⟨x, hxk⟩ : ∃ x, xs[k]? = some x := ⟨_, List.getElem?_eq_getElem hlt⟩
        obtain ⟨sv, c0, c1, c2, c3, hs, hg, hu, hv, hsl⟩ := (HX.out k x hxk).keep hb (w' := wr) fun j hj => hbl.block j (by omega)
        obtain ⟨q, cq, rfl⟩ := hs.slice
        have HXK := Lib.hid hxk
        have HUV := Lib.hid hu
        obtain ⟨bw, hbw⟩ : ∃ bw, bw = wholePr x := ⟨_, rfl⟩
        have HBW := Lib.hid hbw
        clear hxk hu hv hs hg hbw
        cases bw
        · go_wp2_with (go_at_call 13; refine (back1 _ x q cq HUV.out).mono ?_; rintro e w1 ⟨rfl, hb1⟩; rw [← HBW.out])
          go_ret
          refine ⟨⟨(k : Int), rfl, ?_⟩, hbl.trans (hb1.mono hbl.size)⟩
          have : wholes xs = false := by
            unfold wholes
            rw [List.all_eq_false]; exact ⟨x, List.mem_of_getElem? HXK.out, by simp [← HBW.out]⟩
          rw [this]
          simp
        · go_wp2_with (go_at_call 13; refine (back1 _ x q cq HUV.out).mono ?_; rintro e w1 ⟨rfl, hb1⟩; rw [← HBW.out])
          go_roundw
          case rel =>
            refine ⟨k + 1, by omega, by go_num, fun j y hj hy => ?_, hbl.trans (hb1.mono hbl.size)⟩
            by_cases e : j = k
            · subst e
              rw [HXK.out] at hy
              obtain rfl := Option.some.inj hy
              exact HBW.out.symm
            · exact HG.out j y (by omega) hy
          case measure => simp [intOf]; omega
      · go_wp2_with fail
        go_ret
        refine ⟨⟨-1, rfl, ?_⟩, hbl⟩
        have : wholes xs = true := List.all_eq_true.2 fun y hy => by
          obtain ⟨j, hj⟩ := List.mem_iff_getElem?.1 hy
          exact HG.out j y (by have := (List.getElem?_eq_some_iff.1 hj).1; omega) hj
        rw [this]
        simp

theorem containsFuncPr (w : World) (B : Nat) (lv : Value) (xs : List Pr) (h : PrimsAt w B lv xs) (hB : B ≤ w.heap.size) (hn : xs.length ≤ 1000000) :
    Calls Tryd.prog 12 #[lv, .func (.func 13) #[] #[]] w fun e w' => e = .returned (.bool (!wholes xs)) ∧ Below w.heap.size w w' := by
  obtain ⟨p, c, rfl⟩ := h.slice
  go_enter Tryd.func12, Tryd.ntmps12
  go_wp2_with (go_at_call 26; refine (indexFuncPr _ B _ xs h hB hn).mono ?_; rintro e w1 ⟨⟨n, rfl, hs⟩, hb⟩)
  go_ret
  exact ⟨by rw [← hs]; rfl, hb⟩
end Go.Proofs.YtlohpmncagfecaaDoor
