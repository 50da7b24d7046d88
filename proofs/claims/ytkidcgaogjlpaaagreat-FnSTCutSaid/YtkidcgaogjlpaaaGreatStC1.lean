/- laws.FnSTCut. -/
import Derived.Test.YtkidcgaogjlpaaaGreatStB
namespace Go.Proofs.YtkidcgaogjlpaaaGreat
open Go.RowKit
set_option linter.unusedVariables false
set_option linter.unusedSimpArgs false

/-- Rows read, or refused. -/
def CutPost (w : World) (ok : Bool) (e : Ending) (w' : World) : Prop := ∃ x n, e = .returned (.tuple #[x, .int .i64 n, .bool ok]) ∧ (∃ p k c, x = .slice p k c) ∧ Below w.heap.size w w'
theorem decoded_cut {w : World} {ok : Bool} {l : List (List UInt8)} {tail : List UInt8} {e : Ending} {w' : World} (h : Decoded w ok l tail e w') : CutPost w ok e w' := by
  cases ok with
  | true =>
    obtain ⟨x, he, hR⟩ := h.1 rfl
    obtain ⟨p, c, hx⟩ := hR.slice
    obtain ⟨_, _, _, _, _, hb⟩ := hR
    exact ⟨x, _, he, ⟨_, _, _, hx⟩, hb⟩
  | false =>
    obtain ⟨he, hb⟩ := h.2 rfl
    exact ⟨_, 0, he, ⟨_, _, _, rfl⟩, hb⟩

theorem cutPost_parts {w : World} {ok : Bool} {e : Ending} {w' : World} (h : CutPost w ok e w') : ∃ x n, e = .returned (.tuple #[x, .int .i64 n, .bool ok]) ∧ (∃ p k c, x = .slice p k c) ∧ Below w.heap.size w w' := h
set_option maxRecDepth 100000 in
set_option maxHeartbeats 1000000 in
theorem lawCut (w : World) (k s a : Nat) (hk : k < 256) (hs : s < 256) (ha : a < 65536) (v : Value) (l : List (List UInt8)) (h : ListAt w v l) (hl : l.length ≤ 9223372036854775807) (hb : ∀ s ∈ l, s.length ≤ 9223372036854775807) :
    Calls Tryz.prog 5 #[.int .u8 k, .int .u8 s, v, .int .u16 a] w fun e w' => e = .returned (.bool true) ∧ Below w.heap.size w w' := by
  obtain ⟨p, c, rfl, hlc⟩ := h.slice
  have HL := Lib.hid h
  have HFIT := Lib.hid (fits13V w _ l h hl hb)
  have HK := Lib.hid (stKindV w k s hk hs)
  have HBG := Lib.hid (begun k s)
  have hpos := stKN_pos k s
  generalize kN (k % 12) (stS k s) = N at HBG hpos
  generalize k % 12 = K at HBG HK
  generalize stS k s = S at HBG HK
  have HPOS := Lib.hid hpos
  have HSM := Lib.hid (someK_small N HBG.out.le l)
  clear h hb hpos
  go_enter Tryz.func5, Tryz.ntmps5
  go_wp2_with fail
  refine HFIT.out.mono ?_
  rintro e w1 ⟨rfl, b, rfl, hfit⟩
  cases b
  · clear hfit
    go_wp2_with fail
    go_ret
    exact ⟨rfl, Below.refl _ _⟩
  · have hl2 : l.length ≤ 140737488355328 := by have := (hfit rfl).1; omega
    clear hfit HFIT
    go_wp2_with fail
    refine HK.out.mono ?_
    rintro e w1 ⟨rfl, hb1⟩
    have HB1 := Lib.hid hb1
    clear hb1
    go_wp2_with fail
    refine Calls.mono (HBG.out.some _ _ l ?hL hl2) ?_
    case hL => exact (HL.out.below HB1.out).below (by first | exact (Below.refl _ w1).alloc (Nat.le_refl _) _ | exact filled_below _ _ _ _ _ _)
    rintro e w2 ⟨x, rfl, hx, hb2⟩
    obtain ⟨px, cx, rfl, hcx⟩ := hx.slice
    have k0 : w2.cell? ⟨w1.heap.size, 0, none⟩ = some (.int .i64 K) := by rw [hb2.cell (by simp)]; go_simp
    have k1 : w2.cell? ⟨w1.heap.size, 1, none⟩ = some (.int .i64 S) := by rw [hb2.cell (by simp)]; go_simp
    have hlt : w1.heap.size < w2.heap.size := by have := hb2.size; simp at this; omega
    have hbw : Below w1.heap.size w1 w2 := Below.trans (by first | exact (Below.refl _ w1).alloc (Nat.le_refl _) _ | exact filled_below _ _ _ _ _ _) (hb2.mono (by simp))
    have HBW := Lib.hid (HB1.out.trans (hbw.mono HB1.out.size))
    obtain ⟨L, hLe⟩ : ∃ L, L = someK N l := ⟨_, rfl⟩
    have HSM2 := HSM.out
    rw [← hLe] at hx HSM2 hcx ⊢
    have HLG := Lib.hid HSM2
    obtain ⟨E, hE⟩ : ∃ E, E = encK N L := ⟨_, rfl⟩
    have hEl : E.length ≤ 1000000 := by
      have h1 := encK_le N L
      have h3 := HSM2.2.2.1
      have h4 := flat_le L 512 (fun s hs => by
        have hh := hs
        rw [hLe] at hh
        rcases List.mem_append.1 hh with hh | hh
        · exact (rowsK_small N HBG.out.le _).1 s hh
        · exact (rowsK_small N HBG.out.le _).1 s hh)
      have h5 : L.length * 512 ≤ 41 * 512 := Nat.mul_le_mul_right _ h3
      rw [hE]; omega
    have hE0 : 0 < E.length := by rw [hE]; exact encK_pos N HPOS.out L HSM2.2.1 HSM2.2.2.2
    have HBY := Lib.hid (HBG.out.bytes w2 _ L hx HSM2.1)
    rw [← hE] at HBY
    obtain ⟨m, hm⟩ : ∃ m, m = a % E.length := ⟨_, rfl⟩
    have hml : m < E.length := by rw [hm]; exact Nat.mod_lt _ hE0
    have HCUT := Lib.hid (fun W dv (hd : BytesAt W dv (E.take m)) (hD : ∀ g, dv.ownBlock = some g → g < W.heap.size) => HBG.out.dec W dv (E.take m) [] L false hd hD (.inr ⟨rfl, by rw [← hE]; exact short_cut hml⟩) HSM2.2.1 HSM2.1 (by rw [List.length_take]; omega) |>.mono fun e w' h => decoded_cut h)
    have HALL := Lib.hid (fun W dv (hd : BytesAt W dv E) (hD : ∀ g, dv.ownBlock = some g → g < W.heap.size) => HBG.out.dec W dv E [] L true hd hD (.inl ⟨rfl, by rw [← hE]; simp⟩) HSM2.2.1 HSM2.1 (by omega) |>.mono fun e w' h => decoded_cut h)
    have hmI : (a : Int).tmod (E.length : Int) = (m : Int) := by
      rw [hm]
      have h := Int.ofNat_tmod a E.length
      simpa using h.symm
    have hmE : (a : Int) % (E.length : Int) = (m : Int) := by rw [hm]; simp
    have hmw : IntKind.i64.wrap (m : Int) = (m : Int) := by rw [IntKind.wrap_i64]; omega
    have hE0I : ¬ (E.length : Int) = 0 := by omega
    have hEne : ¬ E = [] := by rintro rfl; simp at hE0
    have haw : IntKind.i64.wrap (a : Int) = (a : Int) := by rw [IntKind.wrap_i64]; omega
    clear hb2 hbw hx HSM2 hLe HL HBG HSM hE hm HPOS
    go_wp2_with fail
    refine Calls.mono HBY.out ?_
    intro e w3 hm3
    obtain ⟨p3, c3, rfl, hB3, hb3, ho3⟩ := madeO_conv hm3
    have hcap := bytes_cap hB3
    have j0 : w3.cell? ⟨w1.heap.size, 0, none⟩ = some (.int .i64 K) := by rw [hb3.cell hlt]; exact k0
    have j1 : w3.cell? ⟨w1.heap.size, 1, none⟩ = some (.int .i64 S) := by rw [hb3.cell hlt]; exact k1
    have hmc : (m : Int) ≤ (c3 : Int) := by omega
    have HB3 := Lib.hid (And.intro hB3 (And.intro hb3 ho3))
    have hlt3 : w1.heap.size < w3.heap.size := Nat.lt_of_lt_of_le hlt hb3.size
    have hltd : w1.heap.size < w3.drew.heap.size := hlt3
    have HKK : Hid (∀ w4, Below w3.drew.heap.size w3.drew w4 → w4.cell? ⟨w1.heap.size, 0, none⟩ = some (.int .i64 K) ∧ w4.cell? ⟨w1.heap.size, 1, none⟩ = some (.int .i64 S)) := Lib.hid fun w4 hb4 => ⟨by rw [hb4.cell hltd]; exact j0, by rw [hb4.cell hltd]; exact j1⟩
    have HC3 := Lib.hid (HCUT.out w3.drew _ (((bytes_cut hB3 m (Nat.le_of_lt hml))).below (drewBelow w3)) (fun g hg => (ho3 g (by cases p3 <;> exact hg)).2))
    clear hB3 hb3 ho3 hm3 k0 k1 HCUT HBY
    go_wp2_with fail
    go_region_with
      (first
        | (go_at_call 19; with_reducible refine Calls.mono HC3.out ?_; intro e w4 hd4; obtain ⟨x4, n4, rfl, ⟨q4, l4, c4, rfl⟩, hb4⟩ := cutPost_parts hd4))
    all_goals
      obtain ⟨hB3, hb3, ho3⟩ := HB3.out
      obtain ⟨i0, i1⟩ := HKK.out w4 hb4
      have HA4 := Lib.hid (HALL.out w4 _ ((hB3.below (drewBelow w3)).below hb4) (fun g hg => by have h1 := (ho3 g hg).2; have h2 := hb4.size; simp at h2; omega))
      have hbb := (drewBelow w3).trans hb4
      have HBB := Lib.hid (HBW.out.trans ((hb3.mono HBW.out.size).trans (hbb.mono (Nat.le_trans HBW.out.size hb3.size))))
      clear hB3 hb3 ho3 hb4 hbb
      go_wp2_with fail
      refine Calls.mono HA4.out ?_
      intro e w5 hd5
      obtain ⟨x5, n5, rfl, ⟨q5, l5, c5, rfl⟩, hb5⟩ := cutPost_parts hd5
      go_wp2_with fail
      go_ret
      exact ⟨rfl, HBB.out.trans (hb5.mono HBB.out.size)⟩
end Go.Proofs.YtkidcgaogjlpaaaGreat
