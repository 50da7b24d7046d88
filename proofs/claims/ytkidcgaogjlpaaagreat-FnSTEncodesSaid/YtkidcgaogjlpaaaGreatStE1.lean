/- laws.FnSTEncodes. -/
import Derived.Test.YtkidcgaogjlpaaaGreatStK
import Derived.Test.YtkidcgaogjlpaaaGreatOpenL
import Derived.Deep.RegionHeld3
namespace Go.Proofs.YtkidcgaogjlpaaaGreat
open Go.RowKit
set_option linter.unusedVariables false
set_option linter.unusedSimpArgs false

/-- What the laws' first steps give. -/
structure Begun (K S : Nat) (N : Option Nat) : Prop where
  n : N = kN K S
  k : K < 12
  le : ∀ n, N = some n → n ≤ 512
  kinds : ∃ t v C, Makes (.agg #[.int .i64 K, .int .i64 S]) t v C ∧ ∀ w, Texts t (v w) (encK N) (goodK N) (C w)
theorem begun (k s : Nat) : Begun (k % 12) (stS k s) (kN (k % 12) (stS k s)) :=
  ⟨rfl, by omega, fun n h => (kN_le _ _ (by omega) (stS_le k s).1 n h).1, kinds _ _ (by omega) (stS_le k s).2⟩
theorem Begun.enc {K S : Nat} {N : Option Nat} (h : Begun K S N) (w : World) (lv : Value) (l : List (List UInt8)) (hl : ListAt w lv l) (hg : ∀ s ∈ l, goodK N s) (hs : Small l) : Calls Tryz.prog 17 #[.agg #[.int .i64 K, .int .i64 S], lv] w (Made w (encK N l)) := by
  obtain ⟨t, v, C, h1, h2⟩ := h.kinds
  exact stEncode w K S t v _ _ C h1 h2 lv l hl hg hs
theorem Begun.dec {K S : Nat} {N : Option Nat} (h : Begun K S N) (w : World) (dv : Value) (bs tail : List UInt8) (l : List (List UInt8)) (ok : Bool) (hd : BytesAt w dv bs) (hD : ∀ g, dv.ownBlock = some g → g < w.heap.size) (hr : RestE (encK N) ok l tail bs) (hg : ∀ s ∈ l, goodK N s) (hs : Small l) (hbig : bs.length ≤ 1000000000) :
    Calls Tryz.prog 19 #[.agg #[.int .i64 K, .int .i64 S], dv, .int .i64 l.length] w (Decoded w ok l tail) := by
  obtain ⟨t, v, C, h1, h2⟩ := h.kinds
  exact stDecode w K S t v _ _ C h1 h2 dv bs tail l ok hd hD hr hg hs hbig
theorem Begun.bytes {K S : Nat} {N : Option Nat} (h : Begun K S N) (w : World) (lv : Value) (l : List (List UInt8)) (hl : ListAt w lv l) (hs : Small l) : Calls Tryz.prog 18 #[.agg #[.int .i64 K, .int .i64 S], lv] w (MadeO w (encK N l)) := by
  rw [h.n]
  exact stBytesV w K S h.k lv l hl hs
theorem Begun.some {K S : Nat} {N : Option Nat} (h : Begun K S N) (w : World) (v : Value) (l : List (List UInt8)) (hv : ListAt w v l) (hl : l.length ≤ 140737488355328) : Calls Tryz.prog 16 #[.agg #[.int .i64 K, .int .i64 S], v] w fun e w' => ∃ x, e = .returned x ∧ ListAt w' x (someK N l) ∧ Below w.heap.size w w' := by
  rw [h.n]
  exact stSomeV w K S h.k (by rw [← h.n]; exact h.le) v l hv hl
theorem madeO_conv {w w' : World} {bs : List UInt8} {e : Ending} (h : MadeO w bs e w') : ∃ p c, e = .returned (.slice p bs.length c) ∧ BytesAt w' (.slice p bs.length c) bs ∧ Below w.heap.size w w' ∧ ∀ g, (Value.slice p bs.length c).ownBlock = some g → w.heap.size ≤ g ∧ g < w'.heap.size := by
  obtain ⟨p, c, F, rfl, h1, h2, h3⟩ := h
  exact ⟨p, c, rfl, h1.bytes, h3, fun g hg => h2 g (h1.2 g hg)⟩
theorem made_conv {w w' : World} {bs : List UInt8} {e : Ending} (h : Made w bs e w') : ∃ p c, e = .returned (.slice p bs.length c) ∧ BytesAt w' (.slice p bs.length c) bs ∧ Below w.heap.size w w' ∧ ∀ g, (Value.slice p bs.length c).ownBlock = some g → w.heap.size ≤ g ∧ g < w'.heap.size := by
  obtain ⟨hb, v, rfl, h1, h2⟩ := h
  obtain ⟨p, c, rfl⟩ := h1.slice
  exact ⟨p, c, rfl, h1, hb, h2⟩

set_option maxRecDepth 100000 in
set_option maxHeartbeats 1000000 in
theorem lawEnc (w : World) (k s : Nat) (hk : k < 256) (hs : s < 256) (v : Value) (l : List (List UInt8)) (h : ListAt w v l) (hl : l.length ≤ 9223372036854775807) (hb : ∀ s ∈ l, s.length ≤ 9223372036854775807) :
    Calls Tryz.prog 4 #[.int .u8 k, .int .u8 s, v] w fun e w' => e = .returned (.bool true) ∧ Below w.heap.size w w' := by
  obtain ⟨p, c, rfl, hlc⟩ := h.slice
  have HL := Lib.hid h
  have HFIT := Lib.hid (fits13V w _ l h hl hb)
  have HK := Lib.hid (stKindV w k s hk hs)
  have HBG := Lib.hid (begun k s)
  generalize kN (k % 12) (stS k s) = N at HBG
  generalize k % 12 = K at HBG HK
  generalize stS k s = S at HBG HK
  have HSM := Lib.hid (someK_small N HBG.out.le l)
  clear h hb
  go_enter Tryz.func4, Tryz.ntmps4
  go_wp2_with fail
  refine HFIT.out.mono ?_
  rintro e w1 ⟨rfl, b, rfl, hfit⟩
  cases b
  · clear hfit
    go_wp2_with fail
    go_ret
    exact ⟨rfl, Below.refl _ _⟩
  · have hl2 : l.length ≤ 140737488355328 := by have := (hfit rfl).1; omega
    clear hfit HFIT
    go_wp2_with fail
    refine HK.out.mono ?_
    rintro e w1 ⟨rfl, hb1⟩
    have HB1 := Lib.hid hb1
    clear hb1
    go_wp2_with fail
    refine Calls.mono (HBG.out.some _ _ l ?hL hl2) ?_
    case hL => exact (HL.out.below HB1.out).below (by first | exact Chg.below (F := fun k => k = w1.heap.size) (((((Chg.refl _ w1).alloc _).setCell (.inr (Nat.le_refl _)) _)).setCell (.inr (Nat.le_refl _)) _) (Nat.le_refl _) (fun k hk => by omega) | exact (Below.refl _ w1).alloc (Nat.le_refl _) _)
    rintro e w2 ⟨x, rfl, hx, hb2⟩
    obtain ⟨px, cx, rfl, hcx⟩ := hx.slice
    obtain ⟨L, hLe⟩ : ∃ L, L = someK N l := ⟨_, rfl⟩
    have HLE := Lib.hid hLe
    have k0 : w2.cell? ⟨w1.heap.size, 0, none⟩ = some (.int .i64 K) := by rw [hb2.cell (by simp)]; go_simp
    have k1 : w2.cell? ⟨w1.heap.size, 1, none⟩ = some (.int .i64 S) := by rw [hb2.cell (by simp)]; go_simp
    have hlt : w1.heap.size < w2.heap.size := by have := hb2.size; simp at this; omega
    have hbw : Below w1.heap.size w1 w2 := Below.trans (by first | exact (Below.refl _ w1).alloc (Nat.le_refl _) _ | exact Chg.below (F := fun k => k = w1.heap.size) (((((Chg.refl _ w1).alloc _).setCell (.inr (Nat.le_refl _)) _)).setCell (.inr (Nat.le_refl _)) _) (Nat.le_refl _) (fun k hk => by omega)) (hb2.mono (by simp))
    have HBW := Lib.hid (HB1.out.trans (hbw.mono HB1.out.size))
    have HSM2 := HSM.out
    rw [← hLe] at hx HSM2 hcx ⊢
    have HX := Lib.hid hx
    have hltd : w1.heap.size < w2.drew.heap.size := hlt
    have HENC := Lib.hid (HBG.out.enc w2.drew _ L (hx.below (drewBelow w2)) HSM2.2.1 HSM2.1)
    have HBY := Lib.hid (fun W (hW : Below w2.drew.heap.size w2.drew W) => HBG.out.bytes W _ L ((hx.below (drewBelow w2)).below hW) HSM2.1)
    generalize encK N L = E at HENC HBY
    clear hb2 hbw hx HSM2 hLe HL HBG HSM
    have HKK : Hid (∀ w3, Below w2.drew.heap.size w2.drew w3 → w3.cell? ⟨w1.heap.size, 0, none⟩ = some (.int .i64 K) ∧ w3.cell? ⟨w1.heap.size, 1, none⟩ = some (.int .i64 S)) := Lib.hid fun w3 hb3 => ⟨by rw [hb3.cell hltd]; exact k0, by rw [hb3.cell hltd]; exact k1⟩
    go_wp2_with fail
    go_region_with
      (first
        | (go_at_call 17; with_reducible refine Calls.mono HENC.out ?_; intro e w3 hm; obtain ⟨p3, c3, rfl, hB3, hb3, ho3⟩ := made_conv hm; have hcv3 := run_convert_at hB3; obtain ⟨j0, j1⟩ := HKK.out w3 hb3)
        | (go_at_call 18; with_reducible refine Calls.mono (HBY.out w3 hb3) ?_; intro e w4 hm; obtain ⟨p4, c4, rfl, hB4, hb4, ho4⟩ := madeO_conv hm; have hcv4 := run_convert_at hB4; have hcv34 := run_convert_at (hB3.below hb4); obtain ⟨i0, i1⟩ := HKK.out w4 (hb3.trans (hb4.mono hb3.size))))
    all_goals
      go_wp2_with fail
      go_ret
      exact ⟨rfl, HBW.out.trans (((drewBelow w2).mono HBW.out.size).trans ((hb3.mono HBW.out.size).trans (hb4.mono (Nat.le_trans HBW.out.size hb3.size))))⟩
end Go.Proofs.YtkidcgaogjlpaaaGreat
