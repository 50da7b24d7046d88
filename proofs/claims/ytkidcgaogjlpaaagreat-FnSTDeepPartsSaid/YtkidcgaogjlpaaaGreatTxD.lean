/- impl.STDecode over a column behind the interface. -/
import Derived.Test.YtkidcgaogjlpaaaGreatTxR
namespace Go.Proofs.YtkidcgaogjlpaaaGreat
open Go.RowKit
set_option linter.unusedVariables false
set_option linter.unusedSimpArgs false

def Decoded (w : World) (ok : Bool) (l : List (List UInt8)) (tail : List UInt8) (e : Ending) (w' : World) : Prop :=
  (ok = true → ∃ x, e = .returned (.tuple #[x, .int .i64 tail.length, .bool true]) ∧ RowsI w l x w') ∧
  (ok = false → e = .returned (.tuple #[.slice none 0 0, .int .i64 0, .bool false]) ∧ Below w.heap.size w w')

set_option maxRecDepth 100000 in
theorem stDecode (w : World) (kd sz : Int) (t : TypeId) (v : World → Value) (enc : List (List UInt8) → List UInt8) (good : List UInt8 → Prop) (C : World → Rep) (hm : Makes (.agg #[.int .i64 kd, .int .i64 sz]) t v C) (hT : ∀ w, Texts t (v w) enc good (C w)) (dv : Value) (bs tail : List UInt8) (l : List (List UInt8)) (ok : Bool)
    (hd : BytesAt w dv bs) (hD : ∀ g, dv.ownBlock = some g → g < w.heap.size) (hr : RestE enc ok l tail bs) (hg : ∀ s ∈ l, good s) (hs : Small l) (hbig : bs.length ≤ 1000000000) :
    Calls Tryz.prog 19 #[.agg #[.int .i64 kd, .int .i64 sz], dv, .int .i64 l.length] w (Decoded w ok l tail) := by
  obtain ⟨W0, hW0⟩ : ∃ W0, W0 = (w.alloc (.cells #[.int .i64 kd, .int .i64 sz] 23)).alloc (.cells #[.bool false] 4) := ⟨_, rfl⟩
  have hb0 : Below w.heap.size w W0 := by rw [hW0]; exact ((Below.refl _ w).alloc (Nat.le_refl _) _).alloc (by simp) _
  have hs0 : W0.heap.size = w.heap.size + 2 := by rw [hW0]; simp
  have ht0 : W0.cell? ⟨w.heap.size + 1, 0, none⟩ = some (.bool false) ∧ W0.frozen? ⟨w.heap.size + 1, 0, none⟩ = false := by rw [hW0]; constructor <;> go_simp
  obtain ⟨vv, hvv⟩ : ∃ vv, vv = v W0 := ⟨_, rfl⟩
  have hTT := hT W0
  rw [← hvv] at hTT
  have HTT := Lib.hid hTT
  have HMM := Lib.hid (hm W0)
  rw [← hvv] at HMM
  obtain ⟨pd, cd, rfl⟩ := hd.slice
  have HD := Lib.hid (And.intro hd (And.intro hD (And.intro hr (And.intro hg hs))))
  have HW0 := Lib.hid (And.intro hb0 (And.intro hs0 ht0))
  rw [hW0] at HMM
  clear hm hT hTT hd hD hr hg hs hvv hb0 hs0 ht0
  go_enter_defers Tryz.func19, Tryz.ntmps19
  go_wp2_with fail
  refine HMM.out.mono ?_
  rintro e w1 ⟨rfl, hb1, F1, hC1, hF1⟩
  rw [← hW0] at hC1 hb1 hF1
  clear HMM hW0
  obtain ⟨hb0, hs0, ht0⟩ := HW0.out
  have hbw1 : Below w.heap.size w w1 := hb0.trans (hb1.mono hb0.size)
  have HN := Lib.hid (newReader w1 _ bs (HD.out.1.below hbw1) fun g hg => by have := HD.out.2.1 g hg; have := hbw1.size; omega)
  have HC1 := Lib.hid (And.intro hb1 (And.intro hC1 (And.intro hF1 hbw1)))
  clear hb1 hC1 hF1 hbw1 hb0 hs0 ht0
  go_wp2_with fail
  refine HN.out.mono ?_
  rintro e w2 ⟨rfl, hb2, hs2, hr2⟩
  obtain ⟨hb1, hC1, hF1, hbw1⟩ := HC1.out
  obtain ⟨hb0, hs0, ht0⟩ := HW0.out
  obtain ⟨hd, hD, hr, hg, hs⟩ := HD.out
  have hI1 := HTT.out.inn hC1
  have hC2 := HTT.out.chg hC1 (Chg.of_below (F := fun _ => False) hb2) fun _ _ h => h
  obtain ⟨fd, yd, ⟨hod, hmd⟩, hdec⟩ := HTT.out.decode w2 _ _ F1 _ l tail bs [] ok hr2 hC2 (fun k hk => ⟨fun e => by
      have := hI1 k hk
      rcases e with e | e <;> omega, fun e => by have := hD k e; have := hF1 k hk; omega⟩) hr hg hs hbig
  have hoD := fun W => hod #[yd, .pointer (some ⟨w1.heap.size + 1, 0, none⟩), .int .i64 l.length] W
  have k1 : w2.cell? ⟨w.heap.size + 1, 0, none⟩ = some (.bool false) := by
    have s1 := hb1.size
    rw [hb2.cell (by simp; omega), hb1.cell (by simp; omega)]; exact ht0.1
  have k2 : w2.frozen? ⟨w.heap.size + 1, 0, none⟩ = false := by
    have s1 := hb1.size
    rw [hb2.frozen (by simp; omega), hb1.frozen (by simp; omega)]; exact ht0.2
  have HDEC := Lib.hid hdec
  have HX := Lib.hid (And.intro hb2 (And.intro hs2 (And.intro hI1 hC2)))
  clear hdec hod hb1 hC1 hF1 hbw1 hb0 hs0 ht0 hd hD hr hg hs hb2 hs2 hr2 hI1 hC2 HN
  have hch2 : Chg (fun k => w.heap.size ≤ k) w w2 := by
    obtain ⟨hb1, hC1, hF1, hbw1⟩ := HC1.out
    exact Chg.of_below (hbw1.trans (HX.out.1.mono hbw1.size))
  have hnk : ¬ ((w.heap.size + 1 = w1.heap.size ∨ w.heap.size + 1 = w1.heap.size + 1) ∨ F1 (w.heap.size + 1)) := fun h => by
    obtain ⟨hb1, hC1, hF1, hbw1⟩ := HC1.out
    have s0 := HW0.out.2.1
    have s1 := hb1.size
    rcases h with (h | h) | h
    · omega
    · omega
    · have := hF1 _ h; omega
  have hge : ∀ k, (k = w1.heap.size ∨ k = w1.heap.size + 1) ∨ F1 k → w.heap.size ≤ k := fun k h => by
    obtain ⟨hb1, hC1, hF1, hbw1⟩ := HC1.out
    have s0 := HW0.out.2.1
    have s1 := hb1.size
    rcases h with (h | h) | h
    · omega
    · omega
    · have := hF1 _ h; omega
  have hlt2 : w.heap.size + 1 < w2.heap.size := by
    obtain ⟨hb1, hC1, hF1, hbw1⟩ := HC1.out
    have s0 := HW0.out.2.1
    have s1 := hb1.size
    have := HX.out.1.size
    omega
  have HCH := Lib.hid (And.intro hch2 (And.intro hnk (And.intro hge hlt2)))
  clear hch2 hnk hge hlt2
  cases ok
  · go_wp2_with fail
    refine HDEC.out.mono ?_
    rintro e w3 ⟨-, h3⟩
    obtain ⟨⟨a, rfl⟩, hc3⟩ := h3 rfl
    clear h3
    obtain ⟨hch2, hnk, hge, hlt2⟩ := HCH.out
    have j1 : w3.cell? ⟨w.heap.size + 1, 0, none⟩ = some (.bool false) := by rw [hc3.cell (p := ⟨w.heap.size + 1, 0, none⟩) hlt2 hnk]; exact k1
    have j2 : w3.frozen? ⟨w.heap.size + 1, 0, none⟩ = false := by rw [hc3.frozen (p := ⟨w.heap.size + 1, 0, none⟩) hlt2 hnk]; exact k2
    have HC3 := Lib.hid (hch2.trans hc3 fun k _ h => hge k h)
    clear hc3 hch2 hnk hge hlt2 k1 k2
    go_wp2_with fail
    refine leaves_cons (f := 30) (args := #[.pointer (some ⟨w.heap.size + 1, 0, none⟩)]) (by simp) (by simp [go_sem]) ?_
    refine (caught_idle _ _).mono ?_
    rintro e u' w4 ⟨rfl, rfl, rfl⟩
    have hcell : (w3.setCell ⟨w.heap.size + 1, 0, none⟩ (.bool false)).cell? ⟨w.heap.size + 1, 0, none⟩ = some (.bool false) := by go_simp
    exact ⟨.tuple #[.slice none 0 0, .int .i64 0, .bool false], by simp [results, Tryz.results19, go_sem, hcell], fun h => by simp at h, fun _ => ⟨rfl, (HC3.out.setCell (p := ⟨w.heap.size + 1, 0, none⟩) (.inl (Nat.le_succ _)) _).below (Nat.le_refl _) fun _ h => h⟩⟩
  · go_wp2_with fail
    refine HDEC.out.mono ?_
    rintro e w3 ⟨h3, -⟩
    obtain ⟨rfl, Fr', cur, F', hr3, hC3, hu3, hd3⟩ := h3 rfl
    clear h3
    obtain ⟨hch2, hnk, hge, hlt2⟩ := HCH.out
    have j1 : w3.cell? ⟨w.heap.size + 1, 0, none⟩ = some (.bool false) := by rw [hu3.chg.cell (p := ⟨w.heap.size + 1, 0, none⟩) hlt2 hnk]; exact k1
    have j2 : w3.frozen? ⟨w.heap.size + 1, 0, none⟩ = false := by rw [hu3.chg.frozen (p := ⟨w.heap.size + 1, 0, none⟩) hlt2 hnk]; exact k2
    have hlt3 : w.heap.size + 1 < w3.heap.size := by have := hu3.chg.size; omega
    have HC3 := Lib.hid (And.intro (hch2.trans hu3.chg fun k _ h => hge k h) hlt3)
    have HRO := Lib.hid (rowsOfT w3 t vv enc good _ HTT.out F' l hC3 HD.out.2.2.2.2)
    have HR3 := Lib.hid hr3
    clear hch2 hnk hge hlt2 k1 k2 hr3 hC3 hu3 hd3 hlt3
    go_wp2_with fail
    refine HRO.out.mono ?_
    rintro e w4 ⟨x, rfl, hx⟩
    have hb4 : Below w3.heap.size w3 w4 := by obtain ⟨_, _, _, _, _, h⟩ := hx; exact h
    have i1 : w4.cell? ⟨w.heap.size + 1, 0, none⟩ = some (.bool false) := by rw [hb4.cell HC3.out.2]; exact j1
    have i2 : w4.frozen? ⟨w.heap.size + 1, 0, none⟩ = false := by rw [hb4.frozen HC3.out.2]; exact j2
    have HLF := Lib.hid (rdLeft w4 _ _ _ tail cur (HR3.out.below hb4))
    have HXX := Lib.hid (And.intro hx hb4)
    obtain ⟨px, cx, rfl⟩ := hx.slice
    clear hx hb4 j1 j2
    go_wp2_with fail
    refine HLF.out.mono ?_
    rintro e w5 ⟨rfl, rfl⟩
    go_wp2_with fail
    refine leaves_cons (f := 30) (args := #[.pointer (some ⟨w.heap.size + 1, 0, none⟩)]) (by simp) (by simp [go_sem]) ?_
    refine (caught_idle _ _).mono ?_
    rintro e u' w6 ⟨rfl, rfl, rfl⟩
    have hcell : (w4.setCell ⟨w.heap.size + 1, 0, none⟩ (.bool true)).cell? ⟨w.heap.size + 1, 0, none⟩ = some (.bool true) := by go_simp
    obtain ⟨hx, hb4⟩ := HXX.out
    obtain ⟨hc3, hl3⟩ := HC3.out
    exact ⟨.tuple #[.slice px l.length cx, .int .i64 tail.length, .bool true], by simp [results, Tryz.results19, go_sem, hcell], fun _ => ⟨_, rfl, hx.setLow (p := ⟨w.heap.size + 1, 0, none⟩) (Nat.le_succ _) hl3 hc3.size (hc3.trans (Chg.of_below (F := fun _ => False) hb4) fun _ _ h => h.elim)⟩, fun h => by simp at h⟩
end Go.Proofs.YtkidcgaogjlpaaaGreat
