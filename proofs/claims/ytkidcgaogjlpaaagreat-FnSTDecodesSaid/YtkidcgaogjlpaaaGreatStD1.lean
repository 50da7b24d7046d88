/- laws.FnSTDecodes. -/
import Derived.Test.YtkidcgaogjlpaaaGreatStB
namespace Go.Proofs.YtkidcgaogjlpaaaGreat
open Go.RowKit
set_option linter.unusedVariables false
set_option linter.unusedSimpArgs false

theorem rowsI_below {w wr : World} {l : List (List UInt8)} {v : Value} (h : RowsI w l v wr) : Below w.heap.size w wr := by obtain ⟨_, _, _, _, _, h⟩ := h; exact h
theorem newer {w1 W : World} (h : ∃ a b c d T, W = ((w1.alloc (.cells #[a, b] T)).setCell ⟨w1.heap.size, 0, none⟩ c).setCell ⟨w1.heap.size, 1, none⟩ d) : Below w1.heap.size w1 W := by
  obtain ⟨a, b, c, d, T, rfl⟩ := h
  exact filled_below _ _ _ _ _ _

set_option maxRecDepth 100000 in
set_option maxHeartbeats 1000000 in
theorem lawDec (w : World) (k s : Nat) (hk : k < 256) (hs : s < 256) (v tv : Value) (l : List (List UInt8)) (t : List UInt8) (h : ListAt w v l) (hl : l.length ≤ 9223372036854775807) (hb : ∀ s ∈ l, s.length ≤ 9223372036854775807) (ht : BytesAt w tv t) (htl : t.length ≤ 9223372036854775807) :
    Calls Tryz.prog 6 #[.int .u8 k, .int .u8 s, v, tv] w fun e w' => e = .returned (.bool true) ∧ Below w.heap.size w w' := by
  obtain ⟨p, c, rfl, hlc⟩ := h.slice
  obtain ⟨pt, ct, rfl⟩ := ht.slice
  have HL := Lib.hid h
  have HT := Lib.hid ht
  have HFIT := Lib.hid (fits13V w _ l h hl hb)
  have HK := Lib.hid (stKindV w k s hk hs)
  have HBG := Lib.hid (begun k s)
  generalize kN (k % 12) (stS k s) = N at HBG
  generalize k % 12 = K at HBG HK
  generalize stS k s = S at HBG HK
  have HSM := Lib.hid (someK_small N HBG.out.le l)
  by_cases htb : 2147483647 < t.length
  · have htI : (2147483647 : Int) < (t.length : Int) := by omega
    clear h hb ht
    go_enter Tryz.func6, Tryz.ntmps6
    go_wp2_with fail
    refine HFIT.out.mono ?_
    rintro e w1 ⟨rfl, b, rfl, hfit⟩
    clear hfit
    cases b <;>
    · go_wp2_with fail
      go_ret
      exact ⟨rfl, Below.refl _ _⟩
  · have htI : ¬ (2147483647 : Int) < (t.length : Int) := by omega
    clear h hb ht
    go_enter Tryz.func6, Tryz.ntmps6
    go_wp2_with fail
    refine HFIT.out.mono ?_
    rintro e w1 ⟨rfl, b, rfl, hfit⟩
    cases b
    · clear hfit
      go_wp2_with fail
      go_ret
      exact ⟨rfl, Below.refl _ _⟩
    · have hl2 : l.length ≤ 140737488355328 := by have := (hfit rfl).1; omega
      clear hfit HFIT
      go_wp2_with fail
      refine HK.out.mono ?_
      rintro e w1 ⟨rfl, hb1⟩
      have HB1 := Lib.hid hb1
      clear hb1
      go_wp2_with fail
      refine Calls.mono (HBG.out.some _ _ l ?hL hl2) ?_
      case hL => exact (HL.out.below HB1.out).below (by first | exact (Below.refl _ w1).alloc (Nat.le_refl _) _ | exact filled_below _ _ _ _ _ _)
      rintro e w2 ⟨x, rfl, hx, hb2⟩
      obtain ⟨px, cx, rfl, hcx⟩ := hx.slice
      have k0 : w2.cell? ⟨w1.heap.size, 0, none⟩ = some (.int .i64 K) := by rw [hb2.cell (by simp)]; go_simp
      have k1 : w2.cell? ⟨w1.heap.size, 1, none⟩ = some (.int .i64 S) := by rw [hb2.cell (by simp)]; go_simp
      have hlt : w1.heap.size < w2.heap.size := by have := hb2.size; simp at this; omega
      have hbw : Below w1.heap.size w1 w2 := Below.trans (by first | exact (Below.refl _ w1).alloc (Nat.le_refl _) _ | exact filled_below _ _ _ _ _ _) (hb2.mono (by simp))
      have HBW := Lib.hid (HB1.out.trans (hbw.mono HB1.out.size))
      have HTT := Lib.hid (stTailV w2 _ t (HT.out.below HBW.out) (by omega))
      have HX := Lib.hid hx
      clear hb2 hbw hx
      go_wp2_with fail
      refine HTT.out.mono ?_
      rintro e w3 ⟨rfl, xt, rfl, hxt⟩
      obtain ⟨T, hTe⟩ : ∃ T, T = t.take 40 := ⟨_, rfl⟩
      have hTl : T.length ≤ 40 := by rw [hTe]; simp; omega
      rw [← hTe] at hxt
      obtain ⟨L, hLe⟩ : ∃ L, L = someK N l := ⟨_, rfl⟩
      have HSM2 := HSM.out
      have hx := HX.out
      rw [← hLe] at hx HSM2 hcx ⊢
      obtain ⟨pq, cq, rfl⟩ := hxt.slice
      have HXT := Lib.hid hxt
      have HX2 := Lib.hid hx
      have HLG := Lib.hid HSM2
      have hltd : w1.heap.size < w2.drew.heap.size := hlt
      have HKK : Hid (∀ w3, Below w2.drew.heap.size w2.drew w3 → w3.cell? ⟨w1.heap.size, 0, none⟩ = some (.int .i64 K) ∧ w3.cell? ⟨w1.heap.size, 1, none⟩ = some (.int .i64 S)) := Lib.hid fun w3 hb3 => ⟨by rw [hb3.cell hltd]; exact k0, by rw [hb3.cell hltd]; exact k1⟩
      obtain ⟨E, hE⟩ : ∃ E, E = encK N L := ⟨_, rfl⟩
      have hEl : E.length ≤ 1000000 := by
        have h1 := encK_le N L
        have h2 := HSM2.1.1
        have h3 := HSM2.2.2.1
        have h4 := flat_le L 512 (fun s hs => by
          have hh := hs
          rw [hLe] at hh
          rcases List.mem_append.1 hh with hh | hh
          · exact (rowsK_small N HBG.out.le _).1 s hh
          · exact (rowsK_small N HBG.out.le _).1 s hh)
        have h5 : L.length * 512 ≤ 41 * 512 := Nat.mul_le_mul_right _ h3
        rw [hE]; omega
      have HBY := Lib.hid (HBG.out.bytes w2.drew _ L (hx.below (drewBelow w2)) HSM2.1)
      rw [← hE] at HBY
      have HDEC := Lib.hid (fun W dv (hd : BytesAt W dv (E ++ T)) (hD : ∀ g, dv.ownBlock = some g → g < W.heap.size) => HBG.out.dec W dv (E ++ T) T L true hd hD (.inl ⟨rfl, by rw [hE]⟩) HSM2.2.1 HSM2.1 (by rw [List.length_append]; omega) |>.mono fun e w' h => h.1 rfl)
      have HJ : Hid (E.length + T.length ≤ 1000000000) := Lib.hid (by omega)
      clear hx hxt HSM2 hLe HL HBG HSM HX HTT HT hE hTe
      go_wp2_with fail
      go_region_with
        (first
          | (go_at_call 18; with_reducible refine Calls.mono HBY.out ?_; intro e w3 hm; obtain ⟨p3, c3, rfl, hB3, hb3, ho3⟩ := madeO_conv hm; obtain ⟨j0, j1⟩ := HKK.out w3 hb3; obtain ⟨m0, m1⟩ := HKK.out (w3.alloc (.cells #[.slice p3 E.length c3, .slice pq T.length cq] 34)) (hb3.trans (((Below.refl _ w3).alloc (Nat.le_refl _) _).mono hb3.size)))
          | (go_at_call 21; with_reducible refine Calls.mono (join_two w3 _ _ E T hB3 ((HXT.out.below (drewBelow w2)).below hb3) HJ.out) ?_; intro e w4 hm4; obtain ⟨p4, c4, rfl, hB4, hb4, ho4⟩ := madeO_conv hm4; rw [List.length_append] at hB4 ho4; have hb34 := ((Below.refl _ w3).alloc (Nat.le_refl _) _).trans (hb4.mono (by simp)); obtain ⟨i0, i1⟩ := HKK.out w4 (hb3.trans (hb34.mono hb3.size)))
          | (go_at_call 19; with_reducible refine Calls.mono (HDEC.out w4 _ hB4 (fun g hg => (ho4 g hg).2)) ?_; rintro e w5 ⟨x5, rfl, hR5⟩; have hb5 := rowsI_below hR5; obtain ⟨p5, c5, rfl⟩ := hR5.slice))
      all_goals
        have hbb := hb3.trans ((hb34.trans (hb5.mono hb34.size)).mono hb3.size)
        have HSAME := Lib.hid (stSameV w5 _ _ L hR5.list ((HX2.out.below (drewBelow w2)).below hbb) (by have := HLG.out.2.2.1; omega))
        have HBB := Lib.hid (HBW.out.trans (((drewBelow w2).mono HBW.out.size).trans (hbb.mono HBW.out.size)))
        clear hbb hR5 hb5 hb34 hb3 hb4
        go_wp2_with fail
        refine HSAME.out.mono ?_
        rintro e w6 ⟨rfl, m, rfl⟩
        go_wp2_with fail
        go_ret
        exact ⟨rfl, HBB.out.trans ((drewN_below w5 m).mono HBB.out.size)⟩
end Go.Proofs.YtkidcgaogjlpaaaGreat
