/- laws.FnSTDeepParts. -/
import Derived.Test.YtkidcgaogjlpaaaGreatStB
namespace Go.Proofs.YtkidcgaogjlpaaaGreat
open Go.RowKit
set_option linter.unusedVariables false
set_option linter.unusedSimpArgs false

theorem encK_append (N : Option Nat) (a b : List (List UInt8)) : encK N (a ++ b) = encK N a ++ encK N b := by
  cases N with
  | none => simp [encK, encS]
  | some n => simp [encK]
/-- A list's cells, as the source of an append. -/
theorem ListAt.src {w W : World} {v : Value} {l : List (List UInt8)} (h : ListAt w v l) (hW : Below w.heap.size w W) :
    ∃ ys, ys.length = l.length ∧ Src Tryz.prog 1 31 v l.length ys W ∧ ∀ (j : Nat) (x : Value) (s : List UInt8), ys[j]? = some x → l[j]? = some s → BytesX W x s ∧ ∀ g, s ≠ [] → x.ownBlock = some g → g < w.heap.size := by
  obtain ⟨p, c, xs, rfl, hc, hr, hx⟩ := h
  have hb : ∀ (j : Nat) (x : Value) (s : List UInt8), xs[j]? = some x → l[j]? = some s → BytesX w x s ∧ ∀ g, s ≠ [] → x.ownBlock = some g → g < w.heap.size := fun j x s hj hs => ⟨hr.2 j x s hj hs, fun g hn hg => by
    rcases hr.2 j x s hj hs with h | ⟨rfl, -⟩
    · exact h.lt hn g hg
    · exact absurd rfl hn⟩
  refine ⟨xs, hr.1, ?_, fun j x s hj hs => ⟨(hb j x s hj hs).1.below hW, (hb j x s hj hs).2⟩⟩
  by_cases hl : l = []
  · subst hl
    obtain rfl : xs = [] := List.length_eq_zero_iff.1 hr.1
    cases p with
    | none => exact Src.ofNil W elemL.under c
    | some a => exact Src.ofSlice W elemL.under a 0 c [] rfl (fun j u h => by simp at h) (fun u h => by simp at h)
  · obtain ⟨g, o, rfl, hx2⟩ := hx hl
    refine Src.ofSlice W elemL.under ⟨g, o, none⟩ l.length c xs (by rw [hr.1]; omega) (fun j u hu => by rw [Addr.add_mid]; have h9 := hx2 j u hu; rw [hW.cell (World.block_lt_of_cell? _ _ h9)]; exact h9) fun u hu => ?_
    obtain ⟨j, hj, rfl⟩ := List.getElem_of_mem hu
    obtain ⟨t, ht⟩ : ∃ t, l[j]? = some t := ⟨_, List.getElem?_eq_getElem (by have := hr.1; omega)⟩
    obtain ⟨p, c, he⟩ := ((hb j xs[j] t (List.getElem?_eq_getElem hj) ht).1).slice
    rw [he]; rfl
theorem drew_trans {w w' : World} (h : Below w.drew.heap.size w.drew w') : Below w.heap.size w w' := (drewBelow w).trans h
/-- An empty list of the call's own. -/
theorem rowsO_empty (w : World) : RowsO w (fun _ => True) [] (.slice (some ⟨w.heap.size, 0, none⟩) 0 0) (w.alloc (.cells #[] 34)) := by
  refine ⟨(· = w.heap.size), [], ⟨⟨rfl, .inr ⟨w.heap.size, 0, #[], rfl, Nat.zero_le _, heap_alloc_new _ _, Nat.le_refl _, Nat.zero_le _, rfl, rfl⟩⟩, by simp [Value.ownBlock]⟩, fun j x s h => by simp at h, fun k hk => by subst hk; simp, (Below.refl _ w).alloc (Nat.le_refl _) _⟩

set_option maxRecDepth 100000 in
set_option maxHeartbeats 20000000 in
theorem lawParts (w : World) (k s : Nat) (hk : k < 256) (hs : s < 256) (v v2 : Value) (l l2 : List (List UInt8)) (h : ListAt w v l) (hl : l.length ≤ 9223372036854775807) (hb : ∀ s ∈ l, s.length ≤ 9223372036854775807) (h2 : ListAt w v2 l2) (hl2 : l2.length ≤ 9223372036854775807) (hb2 : ∀ s ∈ l2, s.length ≤ 9223372036854775807) :
    Calls Tryz.prog 8 #[.int .u8 k, .int .u8 s, v, v2] w fun e w' => e = .returned (.bool true) ∧ Below w.heap.size w w' := by
  obtain ⟨p, c, rfl, hlc⟩ := h.slice
  obtain ⟨p2, c2, rfl, hlc2⟩ := h2.slice
  have HL := Lib.hid (And.intro h h2)
  have HFIT := Lib.hid (fits13V w _ l h hl hb)
  have HFIT2 := Lib.hid (fits13V w _ l2 h2 hl2 hb2)
  have HK := Lib.hid (stKindV w k s hk hs)
  have HBG := Lib.hid (begun k s)
  generalize kN (k % 12) (stS k s) = N at HBG
  generalize k % 12 = K at HBG HK
  generalize stS k s = S at HBG HK
  have HSM := Lib.hid (And.intro (someK_small N HBG.out.le l) (someK_small N HBG.out.le l2))
  clear h hb h2 hb2
  go_enter Tryz.func8, Tryz.ntmps8
  go_wp2_with fail
  refine HFIT.out.mono ?_
  rintro e w1 ⟨rfl, b, rfl, hfit⟩
  cases b
  · clear hfit
    go_wp2_with fail
    go_ret
    exact ⟨rfl, Below.refl _ _⟩
  · have hlA : l.length ≤ 140737488355328 := by have := (hfit rfl).1; omega
    clear hfit HFIT
    go_wp2_with fail
    refine HFIT2.out.mono ?_
    rintro e w1 ⟨rfl, b, rfl, hfit⟩
    cases b
    · clear hfit
      go_wp2_with fail
      go_ret
      exact ⟨rfl, Below.refl _ _⟩
    · have hlB : l2.length ≤ 140737488355328 := by have := (hfit rfl).1; omega
      clear hfit HFIT2
      go_wp2_with fail
      refine HK.out.mono ?_
      rintro e w1 ⟨rfl, hb1⟩
      have HB1 := Lib.hid hb1
      clear hb1
      go_wp2_with fail
      generalize hW2 : World.alloc w1 (Obj.cells #[.int .i64 K, .int .i64 S] 23) = W2
      have k0 : W2.cell? ⟨w1.heap.size, 0, none⟩ = some (.int .i64 K) := by rw [← hW2]; clear hW2; go_simp
      have k1 : W2.cell? ⟨w1.heap.size, 1, none⟩ = some (.int .i64 S) := by rw [← hW2]; clear hW2; go_simp
      have hlt : w1.heap.size < W2.heap.size := by rw [← hW2]; simp
      have hbW : Below w.heap.size w W2 := by rw [← hW2]; exact HB1.out.trans (((Below.refl _ w1).alloc (Nat.le_refl _) _).mono HB1.out.size)
      have HKK : Hid (∀ W, Below W2.heap.size W2 W → W.cell? ⟨w1.heap.size, 0, none⟩ = some (.int .i64 K) ∧ W.cell? ⟨w1.heap.size, 1, none⟩ = some (.int .i64 S)) := Lib.hid fun W hb3 => ⟨by rw [hb3.cell hlt]; exact k0, by rw [hb3.cell hlt]; exact k1⟩
      obtain ⟨LA, hLA⟩ : ∃ LA, LA = someK N l := ⟨_, rfl⟩
      obtain ⟨LB, hLB⟩ : ∃ LB, LB = someK N l2 := ⟨_, rfl⟩
      have hsm := HSM.out
      rw [← hLA, ← hLB] at hsm
      have HSB : Hid (∀ W, Below W2.heap.size W2 W → Calls Tryz.prog 16 #[.agg #[.int .i64 K, .int .i64 S], .slice p2 l2.length c2] W fun e w' => ∃ x, e = .returned x ∧ ListAt w' x LB ∧ Below W.heap.size W w') := Lib.hid fun W hb => by rw [hLB]; exact HBG.out.some W _ l2 ((HL.out.2.below hbW).below hb) hlB
      have HSA : Hid (Calls Tryz.prog 16 #[.agg #[.int .i64 K, .int .i64 S], .slice p l.length c] W2.drew fun e w' => ∃ x, e = .returned x ∧ ListAt w' x LA ∧ Below W2.heap.size W2 w') := Lib.hid (by rw [hLA]; exact (HBG.out.some W2.drew _ l ((HL.out.1.below hbW).below (drewBelow W2)) hlA).mono fun e w' ⟨x, h1, h2, h3⟩ => ⟨x, h1, h2, (drewBelow W2).trans h3⟩)
      have HBW := Lib.hid hbW
      have HLG := Lib.hid (And.intro hLA hLB)
      have HSG := Lib.hid hsm
      clear hW2 hbW hsm hLA hLB HL HSM
      go_region_held3 (fun w' => w'.cell? ⟨w1.heap.size, 0, none⟩ = some (.int .i64 K) ∧ w'.cell? ⟨w1.heap.size, 1, none⟩ = some (.int .i64 S)) (first | exact ⟨j0, j1⟩ | exact ⟨i0, i1⟩ | go_keep)
        (first
          | (go_at_call 16; with_reducible refine Calls.mono HSA.out ?_; rintro e w3 ⟨xa, rfl, hxa, hb3'⟩; obtain ⟨pa, ca, rfl, hca⟩ := hxa.slice; obtain ⟨i0, i1⟩ := HKK.out w3 hb3')
          | (go_at_call 16; with_reducible refine Calls.mono (HSB.out w3 hb3') ?_; rintro e w4 ⟨xb, rfl, hxb, hb4⟩; obtain ⟨pb, cb, rfl, hcb⟩ := hxb.slice; have hb4' := hb3'.trans (hb4.mono hb3'.size); obtain ⟨j0, j1⟩ := HKK.out w4 hb4'))
      all_goals
        have HA := Lib.hid (hxa.below hb4)
        have HB := Lib.hid hxb
        have HB4 := Lib.hid hb4'
        clear hxa hxb hb3' hb4 hb4' k0 k1 i0 i1 HSA HSB
        obtain ⟨ysa, hyla, hsrca, hya⟩ := HA.out.src ((Below.refl _ w4).alloc (Nat.le_refl _) (.cells #[] 34))
        obtain ⟨Fo, xs, hFo, hown, hmore⟩ := (rowsO_empty w4).more (m := LA) (ys := ysa) (Below.refl _ _) hyla (fun j x s hx hs => ⟨(hya j x s hx hs).1, fun g hn hg => ⟨.inl ⟨trivial, (hya j x s hx hs).2 g hn hg⟩, by have := (hya j x s hx hs).2 g hn hg; simp; omega⟩⟩)
        have HSRCA := Lib.hid hsrca
        have HOWNA := Lib.hid hown
        have HMOREA := Lib.hid (fun p c w5 F5 h1 h2 => hmore (w4.alloc (.cells #[] 34)) p c w5 F5 (Below.refl _ _) h1 h2)
        have HSB2 : Hid (∀ (p5 : Option Addr) (c5 : Nat) (w5 : World), RowsO w4 (fun _ => True) LA (.slice p5 LA.length c5) w5 → ∃ (Fo : Nat → Prop) (xs ys : List Value), OwnR w5 Fo 34 1 (.slice p5 LA.length c5) LA.length xs ∧ Src Tryz.prog 1 31 (.slice pb LB.length cb) LB.length ys w5 ∧ ∀ p c w6 F6, OwnR w6 F6 34 1 (.slice p (LA.length + LB.length) c) (LA.length + LB.length) (xs ++ ys) → Upd w5 w6 Fo F6 → RowsO w4 (fun _ => True) (LA ++ LB) (.slice p (LA.length + LB.length) c) w6) := Lib.hid fun p5 c5 w5 hR => by
          obtain ⟨ysb, hylb, hsrcb, hyb⟩ := HB.out.src hR.below
          obtain ⟨Fo, xs, -, hown, hmore⟩ := hR.more (m := LB) (ys := ysb) (Below.refl _ _) hylb (fun j x s hx hs => ⟨(hyb j x s hx hs).1, fun g hn hg => ⟨.inl ⟨trivial, (hyb j x s hx hs).2 g hn hg⟩, by have := (hyb j x s hx hs).2 g hn hg; have := hR.below.size; omega⟩⟩)
          exact ⟨Fo, xs, ysb, hown, hsrcb, fun p c w6 F6 h1 h2 => hmore w5 p c w6 F6 (Below.refl _ _) h1 h2⟩
        have hla : LA.length ≤ 41 := HSG.out.1.2.2.1
        have hlb : LB.length ≤ 41 := HSG.out.2.2.2.1
        have hgood : ∀ s ∈ LA ++ LB, goodK N s := fun s hs => by
          rcases List.mem_append.1 hs with hs | hs
          · exact HSG.out.1.2.1 s hs
          · exact HSG.out.2.2.1 s hs
        have hsmall : Small (LA ++ LB) := ⟨by
          have h1 := HSG.out.1.1.1
          have h2 := HSG.out.2.1.1
          have h3 := flat_le LA 512 (fun s hs => by
            have hh := hs
            rw [HLG.out.1] at hh
            rcases List.mem_append.1 hh with hh | hh
            · exact (rowsK_small N HBG.out.le _).1 s hh
            · exact (rowsK_small N HBG.out.le _).1 s hh)
          have h4 := flat_le LB 512 (fun s hs => by
            have hh := hs
            rw [HLG.out.2] at hh
            rcases List.mem_append.1 hh with hh | hh
            · exact (rowsK_small N HBG.out.le _).1 s hh
            · exact (rowsK_small N HBG.out.le _).1 s hh)
          have h5 : LA.length * 512 ≤ 41 * 512 := Nat.mul_le_mul_right _ hla
          have h6 : LB.length * 512 ≤ 41 * 512 := Nat.mul_le_mul_right _ hlb
          rw [List.flatten_append, List.length_append]; omega, by rw [List.length_append]; omega⟩
        have hel := encK_le N (LA ++ LB)
        have helen : (encK N LA).length + (encK N LB).length ≤ 1000000000 := by
          rw [encK_append, List.length_append] at hel
          obtain ⟨m1, m2⟩ := hsmall
          omega
        have HE6 : Hid (∀ (W : World) (p : Option Addr) (c : Nat), RowsO w4 (fun _ => True) (LA ++ LB) (.slice p (LA.length + LB.length) c) W → Calls Tryz.prog 17 #[.agg #[.int .i64 K, .int .i64 S], .slice p (LA.length + LB.length) c] W (Made W (encK N LA ++ encK N LB))) := Lib.hid fun W p c hR => by
          have h := HBG.out.enc W _ (LA ++ LB) hR.list hgood hsmall
          rw [encK_append] at h
          exact h
        have HEA : Hid (∀ W, Below w4.heap.size w4 W → Calls Tryz.prog 17 #[.agg #[.int .i64 K, .int .i64 S], .slice pa LA.length ca] W (Made W (encK N LA))) := Lib.hid fun W hb => HBG.out.enc W _ LA (HA.out.below hb) HSG.out.1.2.1 HSG.out.1.1
        have HEB : Hid (∀ W, Below w4.heap.size w4 W → Calls Tryz.prog 17 #[.agg #[.int .i64 K, .int .i64 S], .slice pb LB.length cb] W (Made W (encK N LB))) := Lib.hid fun W hb => HBG.out.enc W _ LB (HB.out.below hb) HSG.out.2.2.1 HSG.out.2.1
        have HDC : Hid (∀ (W : World) (q : Option Addr) (d : Nat), BytesAt W (.slice q ((encK N LA).length + (encK N LB).length) d) (encK N LA ++ encK N LB) → (∀ g, (Value.slice q ((encK N LA).length + (encK N LB).length) d).ownBlock = some g → g < W.heap.size) → Calls Tryz.prog 19 #[.agg #[.int .i64 K, .int .i64 S], .slice q ((encK N LA).length + (encK N LB).length) d, .int .i64 ((LA.length : Int) + (LB.length : Int))] W fun e w' => ∃ x, e = .returned (.tuple #[x, .int .i64 0, .bool true]) ∧ ListAt w' x (LA ++ LB) ∧ (∃ p c, x = .slice p (LA.length + LB.length) c) ∧ Below W.heap.size W w') := Lib.hid fun W q d hB hD => by
          have h := HBG.out.dec W _ (encK N LA ++ encK N LB) [] (LA ++ LB) true hB hD (.inl ⟨rfl, by rw [encK_append]; simp⟩) hgood hsmall (by rw [List.length_append]; omega)
          rw [List.length_append] at h
          refine (by simpa using h : Calls _ _ _ W (Decoded W true (LA ++ LB) [])).mono fun e w' h => ?_
          obtain ⟨x, he, hR⟩ := h.1 rfl
          obtain ⟨p, c, hx⟩ := hR.slice
          rw [List.length_append] at hx
          have hl := hR.list
          obtain ⟨_, _, _, _, _, hb⟩ := hR
          exact ⟨x, he, hl, ⟨p, c, hx⟩, hb⟩
        have hlen100 : (LA ++ LB).length ≤ 100000 := hsmall.2
        have HL100 := Lib.hid hlen100
        generalize encK N LA = EA at HE6 HEA HDC helen
        generalize encK N LB = EB at HE6 HEB HDC helen
        have HELEN := Lib.hid helen
        clear hsrca hya hyla hown hmore hFo hgood hsmall hel helen hlen100
        go_wp2_with (first
          | (at_builtin; refine append_rows elemL _ Fo 0 LA.length xs ysa rfl _ _ _ rfl _ rfl HOWNA.out _ rfl HSRCA.out (by omega) (by omega) ?_; intro p5 c5 w5 F5 h5 hu5; have hR5 := HMOREA.out p5 c5 w5 F5 h5 hu5; rw [List.nil_append] at hR5)
          | (at_builtin; obtain ⟨Fo6, xs6, ys6, hown6, hsrc6, hmore6⟩ := HSB2.out p5 c5 w5 (by simpa using hR5); refine append_rows elemL _ Fo6 LA.length LB.length xs6 ys6 rfl _ _ _ rfl _ rfl hown6 _ rfl hsrc6 (by omega) (by omega) ?_; intro p6 c6 w6 F6 h6 hu6; have hR6 := hmore6 p6 c6 w6 F6 h6 hu6; have hb46 := hR6.below; have hb6 := HB4.out.trans (hb46.mono HB4.out.size); obtain ⟨n0, n1⟩ := HKK.out w6 hb6)
          | (go_at_call 17; with_reducible refine Calls.mono (HE6.out w6 p6 c6 hR6) ?_; intro e w7 hm7; obtain ⟨p7, c7, rfl, hB7, hb7, ho7⟩ := made_conv hm7))
        have hb67 := hb6.trans (hb7.mono hb6.size)
        obtain ⟨a0, a1⟩ := HKK.out w7 hb67
        have hkl : w1.heap.size < w7.heap.size := World.block_lt_of_cell? _ _ a0
        have HK7 : Hid (∀ W, Below w7.heap.size w7 W → W.cell? ⟨w1.heap.size, 0, none⟩ = some (.int .i64 K) ∧ W.cell? ⟨w1.heap.size, 1, none⟩ = some (.int .i64 S)) := Lib.hid fun W hb => HKK.out W (hb67.trans (hb.mono hb67.size))
        have hb47 := hb46.trans (hb7.mono hb46.size)
        have HEA7 : Hid (∀ W, Below w7.heap.size w7 W → Calls Tryz.prog 17 #[.agg #[.int .i64 K, .int .i64 S], .slice pa LA.length ca] W (Made W EA)) := Lib.hid fun W hb => HEA.out W (hb47.trans (hb.mono hb47.size))
        have HEB7 : Hid (∀ W, Below w7.heap.size w7 W → Calls Tryz.prog 17 #[.agg #[.int .i64 K, .int .i64 S], .slice pb LB.length cb] W (Made W EB)) := Lib.hid fun W hb => HEB.out W (hb47.trans (hb.mono hb47.size))
        have HALL := Lib.hid (hR6.list.below hb7)
        have HB7 := Lib.hid hB7
        have HBW7 := Lib.hid (HBW.out.trans (hb67.mono HBW.out.size))
        have hd7 : Below w7.heap.size w7 w7.drew := drewBelow w7
        clear hR6 hR5 hb46 hb6 hb7 ho7 hB7 hm7 n0 n1 hb67 hb47 h5 hu5 h6 hu6 hown6 hsrc6 hmore6 HOWNA HSRCA HMOREA HSB2 HE6 HEA HEB HKK HB4 HA HB
        go_region_held3 (fun w' => w'.cell? ⟨w1.heap.size, 0, none⟩ = some (.int .i64 K) ∧ w'.cell? ⟨w1.heap.size, 1, none⟩ = some (.int .i64 S)) (first | exact ⟨m0, m1⟩ | exact ⟨c0', c1'⟩ | exact ⟨b0, b1⟩ | exact ⟨a0, a1⟩ | go_keep)
          (first
            | (go_at_call 17; with_reducible refine Calls.mono (HEA7.out w7.drew hd7) ?_; intro e w8 hm8; obtain ⟨p8, c8, rfl, hB8, hb8, ho8⟩ := made_conv hm8; have hb8' := drew_trans hb8; obtain ⟨b0, b1⟩ := HK7.out w8 hb8')
            | (go_at_call 17; with_reducible refine Calls.mono (HEB7.out w8 hb8') ?_; intro e w9 hm9; obtain ⟨p9, c9, rfl, hB9, hb9, ho9⟩ := made_conv hm9; have hb9' := hb8'.trans (hb9.mono hb8'.size); obtain ⟨c0', c1'⟩ := HK7.out w9 hb9'; obtain ⟨m0, m1⟩ := HK7.out (w9.alloc (.cells #[.slice p8 EA.length c8, .slice p9 EB.length c9] 34)) (hb9'.trans (((Below.refl _ w9).alloc (Nat.le_refl _) _).mono hb9'.size)))
            | (go_at_call 21; with_reducible refine Calls.mono (join_two w9 _ _ EA EB (hB8.below hb9) hB9 HELEN.out) ?_; intro e w10 hm10; obtain ⟨p10, c10, rfl, hB10, hb10, ho10⟩ := madeO_conv hm10; rw [List.length_append] at hB10 ho10; have hb10' := hb9'.trans ((((Below.refl _ w9).alloc (Nat.le_refl _) _).trans (hb10.mono (by simp))).mono hb9'.size); obtain ⟨m0, m1⟩ := HK7.out w10 hb10')
            | (go_at_call 19; with_reducible refine Calls.mono (HDC.out w10 _ _ hB10 (fun g hg => (ho10 g hg).2)) ?_; rintro e w11 ⟨x11, rfl, hl11, ⟨q11, d11, rfl⟩, hb11⟩; have hb11' := hb10'.trans (hb11.mono hb10'.size); obtain ⟨m0, m1⟩ := HK7.out w11 hb11'))
        obtain ⟨r0, r1⟩ := HK7.out w11 hb11'
        have hd11 : Below w11.heap.size w11 w11.drew := drewBelow w11
        have HK11 : Hid (∀ W, Below w11.heap.size w11 W → W.cell? ⟨w1.heap.size, 0, none⟩ = some (.int .i64 K) ∧ W.cell? ⟨w1.heap.size, 1, none⟩ = some (.int .i64 S)) := Lib.hid fun W hb => HK7.out W (hb11'.trans (hb.mono hb11'.size))
        have HEA11 : Hid (∀ W, Below w11.heap.size w11 W → Calls Tryz.prog 17 #[.agg #[.int .i64 K, .int .i64 S], .slice pa LA.length ca] W (Made W EA)) := Lib.hid fun W hb => HEA7.out W (hb11'.trans (hb.mono hb11'.size))
        have HEB11 : Hid (∀ W, Below w11.heap.size w11 W → Calls Tryz.prog 17 #[.agg #[.int .i64 K, .int .i64 S], .slice pb LB.length cb] W (Made W EB)) := Lib.hid fun W hb => HEB7.out W (hb11'.trans (hb.mono hb11'.size))
        have HCV : Hid (∀ W, Below w11.heap.size w11 W → (Go.convert 34 9 (.slice p7 (EA.length + EB.length) c7)).run Tryz.prog W = .ok (.string ⟨(EA ++ EB).toArray⟩) W) := Lib.hid fun W hb => by
          have h := run_convert_at ((HB7.out.below hb11').below hb)
          rw [List.length_append] at h
          exact h
        have HSAME : Hid (∀ W, Below w11.heap.size w11 W → Calls Tryz.prog 22 #[.slice q11 (LA.length + LB.length) d11, .slice p6 (LA.length + LB.length) c6] W fun e w' => e = .returned (.bool true) ∧ ∃ m, w' = W.drewN m) := Lib.hid fun W hb => stSameV W _ _ (LA ++ LB) (hl11.below hb) ((HALL.out.below hb11').below hb) HL100.out
        have HBW11 := Lib.hid (HBW7.out.trans (hb11'.mono HBW7.out.size))
        have cv11 := HCV.out w11.drew hd11
        clear hB8 hb8 ho8 hb8' hB9 hb9 ho9 hb9' hB10 hb10 ho10 hb10' hl11 hb11 hb11' hm8 hm9 hm10 HALL HB7 HEA7 HEB7 HDC m0 m1 c0' c1' b0 b1 a0 a1
        go_wp2_with fail
        clear HBG HSG HLG HBW HBW7 HK7 hlc hlc2 hl hl2 hlA hlB hla hlb hca hcb hkl hd7 HK hk hs HB1 HL100
        refine wp_region_noPanic ?_
        refine wp_region_held_drew (S := fun w' => w'.cell? ⟨w1.heap.size, 0, none⟩ = some (.int .i64 K) ∧ w'.cell? ⟨w1.heap.size, 1, none⟩ = some (.int .i64 S) ∧ (Go.convert 34 9 (.slice p7 (EA.length + EB.length) c7)).run Tryz.prog w' = .ok (.string ⟨(EA ++ EB).toArray⟩) w') (by kernel_rfl) ⟨r0, r1, cv11⟩ (fun hHeld => ?_)
        refine wpAnyH_take (i := 0) (oi := ?o0) (v := ?v0) ?hi0 (by kernel_rfl) (by kernel_rfl) (by kernel_rfl) (fun _ _ _ h => h) (Or.inl ⟨?hc0, ?hy0⟩) (by assumption) ?_
        case hi0 => (simp only [List.getElem?_toArray, List.getElem?_cons_zero, List.getElem?_cons_succ]; exact rfl)
        case hc0 => rfl
        case hy0 => ((intro w hSw; (try dsimp only at hSw); go_simp) <;> with_reducible rfl)
        try simp only [Act.put, List.setIfInBounds_toArray, List.set_cons_zero, List.set_cons_succ]
        refine wpAnyH_take (i := 1) (oi := ?o1) (v := ?v1) ?hi1 (by kernel_rfl) (by kernel_rfl) (by kernel_rfl) (fun _ _ _ h => h) (Or.inl ⟨?hc1, ?hy1⟩) (by assumption) ?_
        case hi1 => (simp only [List.getElem?_toArray, List.getElem?_cons_zero, List.getElem?_cons_succ]; exact rfl)
        case hc1 => rfl
        case hy1 => ((intro w hSw; (try dsimp only at hSw); go_simp) <;> with_reducible rfl)
        try simp only [Act.put, List.setIfInBounds_toArray, List.set_cons_zero, List.set_cons_succ]
        refine wpAnyH_take (i := 2) (oi := ?o2) (v := ?v2) ?hi2 (by kernel_rfl) (by kernel_rfl) (by kernel_rfl) (fun _ _ _ h => h) (Or.inl ⟨?hc2, ?hy2⟩) (by assumption) ?_
        case hi2 => (simp only [List.getElem?_toArray, List.getElem?_cons_zero, List.getElem?_cons_succ]; exact rfl)
        case hc2 => rfl
        case hy2 => ((intro w hSw; (try dsimp only at hSw); go_simp) <;> with_reducible rfl)
        try simp only [Act.put, List.setIfInBounds_toArray, List.set_cons_zero, List.set_cons_succ]
        refine wpAnyH_take (i := 3) (oi := ?o3) (v := ?v3) ?hi3 (by kernel_rfl) (by kernel_rfl) (by kernel_rfl) (fun _ _ _ h => h) (Or.inl ⟨?hc3, ?hy3⟩) (by assumption) ?_
        case hi3 => (simp only [List.getElem?_toArray, List.getElem?_cons_zero, List.getElem?_cons_succ]; exact rfl)
        case hc3 => rfl
        case hy3 => ((intro w hSw; (try dsimp only at hSw); go_simp) <;> with_reducible rfl)
        try simp only [Act.put, List.setIfInBounds_toArray, List.set_cons_zero, List.set_cons_succ]
        refine wpAnyH_take (i := 5) (oi := ?o5) (v := ?v5) ?hi5 (by kernel_rfl) (by kernel_rfl) (by kernel_rfl) (fun _ _ _ h => h) (Or.inl ⟨?hc5, ?hy5⟩) (by assumption) ?_
        case hi5 => (simp only [List.getElem?_toArray, List.getElem?_cons_zero, List.getElem?_cons_succ]; exact rfl)
        case hc5 => rfl
        case hy5 => ((intro w hSw; (try dsimp only at hSw); go_simp) <;> with_reducible rfl)
        try simp only [Act.put, List.setIfInBounds_toArray, List.set_cons_zero, List.set_cons_succ]
        refine wpAnyH_take (i := 6) (oi := ?o6) (v := ?v6) ?hi6 (by kernel_rfl) (by kernel_rfl) (by kernel_rfl) (fun _ _ _ h => h) (Or.inl ⟨?hc6, ?hy6⟩) (by assumption) ?_
        case hi6 => (simp only [List.getElem?_toArray, List.getElem?_cons_zero, List.getElem?_cons_succ]; exact rfl)
        case hc6 => rfl
        case hy6 => ((intro w hSw; (try dsimp only at hSw); go_simp) <;> with_reducible rfl)
        try simp only [Act.put, List.setIfInBounds_toArray, List.set_cons_zero, List.set_cons_succ]
        refine wpAnyH_ready (rs := [4]) (by kernel_rfl) (by simp) ?_
        refine AllReadyH.cons (o := ?o4) ?hi4 ?st4 AllReadyH.nil
        case hi4 => (simp only [List.getElem?_toArray, List.getElem?_cons_zero, List.getElem?_cons_succ]; exact rfl)
        intro KK hKK
        go_simp
        with_reducible refine Calls.mono (HEA11.out w11.drew hd11) ?_
        intro e w12 hm12
        obtain ⟨p12, c12, rfl, hB12, hb12, ho12⟩ := made_conv hm12
        have hb12' := drew_trans hb12
        obtain ⟨b0, b1⟩ := HK11.out w12 hb12'
        have cv12 := HCV.out w12 hb12'
        refine hKK.out _ _ ⟨b0, b1, cv12⟩ (fun hHeld => ?_)
        clear hKK
        try simp only [Act.put, List.setIfInBounds_toArray, List.set_cons_zero, List.set_cons_succ]
        refine wpAnyH_ready (rs := [7]) (by kernel_rfl) (by simp) ?_
        refine AllReadyH.cons (o := ?o7) ?hi7 ?st7 AllReadyH.nil
        case hi7 => (simp only [List.getElem?_toArray, List.getElem?_cons_zero, List.getElem?_cons_succ]; exact rfl)
        intro KK hKK
        go_simp
        with_reducible refine Calls.mono (HEB11.out w12 hb12') ?_
        intro e w13 hm13
        obtain ⟨p13, c13, rfl, hB13, hb13, ho13⟩ := made_conv hm13
        have hb13' := hb12'.trans (hb13.mono hb12'.size)
        have cv13 := HCV.out w13 hb13'
        obtain ⟨d0, d1⟩ := HK11.out w13 hb13'
        have hba13 := (hb13'.trans (((Below.refl _ w13).alloc (Nat.le_refl _) (.cells #[.slice p12 EA.length c12, .slice p13 EB.length c13] 34)).mono hb13'.size))
        obtain ⟨f0, f1⟩ := HK11.out _ hba13
        have cv13a := HCV.out _ hba13
        refine hKK.out _ _ ⟨d0, d1, cv13⟩ (fun hHeld => ?_)
        clear hKK
        try simp only [Act.put, List.setIfInBounds_toArray, List.set_cons_zero, List.set_cons_succ]
        refine wpAnyH_ready (rs := [8]) (by kernel_rfl) (by simp) ?_
        refine AllReadyH.cons (o := ?o8) ?hi8 ?st8 AllReadyH.nil
        case hi8 => (simp only [List.getElem?_toArray, List.getElem?_cons_zero, List.getElem?_cons_succ]; exact rfl)
        intro KK hKK
        go_simp
        refine hKK.out _ _ ⟨f0, f1, cv13a⟩ (fun hHeld => ?_)
        clear hKK
        try simp only [Act.put, List.setIfInBounds_toArray, List.set_cons_zero, List.set_cons_succ]
        refine wpAnyH_ready (rs := [9]) (by kernel_rfl) (by simp) ?_
        refine AllReadyH.cons (o := ?o9) ?hi9 ?st9 AllReadyH.nil
        case hi9 => (simp only [List.getElem?_toArray, List.getElem?_cons_zero, List.getElem?_cons_succ]; exact rfl)
        intro KK hKK
        go_simp
        with_reducible refine Calls.mono (join_two w13 _ _ EA EB (hB12.below hb13) hB13 HELEN.out) ?_
        intro e w14 hm14
        obtain ⟨p14, c14, rfl, hB14, hb14, ho14⟩ := madeO_conv hm14
        have hcv14 := run_convert_at hB14
        rw [List.length_append] at hB14 ho14 hcv14
        have hb14' := hb13'.trans ((((Below.refl _ w13).alloc (Nat.le_refl _) _).trans (hb14.mono (by simp))).mono hb13'.size)
        have cv14 := HCV.out w14 hb14'
        obtain ⟨g0, g1⟩ := HK11.out w14 hb14'
        refine hKK.out _ _ ⟨g0, g1, cv14⟩ (fun hHeld => ?_)
        clear hKK
        try simp only [Act.put, List.setIfInBounds_toArray, List.set_cons_zero, List.set_cons_succ]
        refine wpAnyH_ready (rs := [10]) (by kernel_rfl) (by simp) ?_
        refine AllReadyH.cons (o := ?o10) ?hi10 ?st10 AllReadyH.nil
        case hi10 => (simp only [List.getElem?_toArray, List.getElem?_cons_zero, List.getElem?_cons_succ]; exact rfl)
        intro KK hKK
        go_simp
        refine hKK.out _ _ ⟨g0, g1, cv14⟩ (fun hHeld => ?_)
        clear hKK
        try simp only [Act.put, List.setIfInBounds_toArray, List.set_cons_zero, List.set_cons_succ]
        refine wpAnyH_take (i := 11) (oi := ?o11) (v := ?v11) ?hi11 (by kernel_rfl) (by kernel_rfl) (by kernel_rfl) (fun _ _ _ h => h) (Or.inl ⟨?hc11, ?hy11⟩) (by assumption) ?_
        case hi11 => (simp only [List.getElem?_toArray, List.getElem?_cons_zero, List.getElem?_cons_succ]; exact rfl)
        case hc11 => rfl
        case hy11 => ((intro w hSw; (try dsimp only at hSw); go_simp) <;> with_reducible rfl)
        try simp only [Act.put, List.setIfInBounds_toArray, List.set_cons_zero, List.set_cons_succ]
        refine wpAnyH_take (i := 12) (oi := ?o12) (v := ?v12) ?hi12 (by kernel_rfl) (by kernel_rfl) (by kernel_rfl) (fun _ _ _ h => h) (Or.inl ⟨?hc12, ?hy12⟩) (by assumption) ?_
        case hi12 => (simp only [List.getElem?_toArray, List.getElem?_cons_zero, List.getElem?_cons_succ]; exact rfl)
        case hc12 => rfl
        case hy12 => ((intro w hSw; (try dsimp only at hSw); go_simp) <;> with_reducible rfl)
        try simp only [Act.put, List.setIfInBounds_toArray, List.set_cons_zero, List.set_cons_succ]
        refine wpAnyH_take (i := 13) (oi := ?o13) (v := ?v13) ?hi13 (by kernel_rfl) (by kernel_rfl) (by kernel_rfl) (fun _ _ _ h => h) (Or.inl ⟨?hc13, ?hy13⟩) (by assumption) ?_
        case hi13 => (simp only [List.getElem?_toArray, List.getElem?_cons_zero, List.getElem?_cons_succ]; exact rfl)
        case hc13 => rfl
        case hy13 => ((intro w hSw; (try dsimp only at hSw); go_simp) <;> with_reducible rfl)
        try simp only [Act.put, List.setIfInBounds_toArray, List.set_cons_zero, List.set_cons_succ]
        refine wpAnyH_take (i := 14) (oi := ?o14) (v := ?v14) ?hi14 (by kernel_rfl) (by kernel_rfl) (by kernel_rfl) (fun _ _ _ h => h) (Or.inl ⟨?hc14, ?hy14⟩) (by assumption) ?_
        case hi14 => (simp only [List.getElem?_toArray, List.getElem?_cons_zero, List.getElem?_cons_succ]; exact rfl)
        case hc14 => rfl
        case hy14 => ((intro w hSw; (try dsimp only at hSw); go_simp) <;> with_reducible rfl)
        try simp only [Act.put, List.setIfInBounds_toArray, List.set_cons_zero, List.set_cons_succ]
        refine wpAnyH_take (i := 15) (oi := ?o15) (v := ?v15) ?hi15 (by kernel_rfl) (by kernel_rfl) (by kernel_rfl) (fun _ _ _ h => h) (Or.inl ⟨?hc15, ?hy15⟩) (by assumption) ?_
        case hi15 => (simp only [List.getElem?_toArray, List.getElem?_cons_zero, List.getElem?_cons_succ]; exact rfl)
        case hc15 => rfl
        case hy15 => ((intro w hSw; (try dsimp only at hSw); go_simp) <;> with_reducible rfl)
        try simp only [Act.put, List.setIfInBounds_toArray, List.set_cons_zero, List.set_cons_succ]
        refine wpAnyH_take (i := 16) (oi := ?o16) (v := ?v16) ?hi16 (by kernel_rfl) (by kernel_rfl) (by kernel_rfl) (fun _ _ _ h => h) (Or.inl ⟨?hc16, ?hy16⟩) (by assumption) ?_
        case hi16 => (simp only [List.getElem?_toArray, List.getElem?_cons_zero, List.getElem?_cons_succ]; exact rfl)
        case hc16 => rfl
        case hy16 => ((intro w hSw; (try dsimp only at hSw); go_simp) <;> with_reducible rfl)
        try simp only [Act.put, List.setIfInBounds_toArray, List.set_cons_zero, List.set_cons_succ]
        refine wpAnyH_take (i := 17) (oi := ?o17) (v := ?v17) ?hi17 (by kernel_rfl) (by kernel_rfl) (by kernel_rfl) (fun _ _ _ h => h) (Or.inl ⟨?hc17, ?hy17⟩) (by assumption) ?_
        case hi17 => (simp only [List.getElem?_toArray, List.getElem?_cons_zero, List.getElem?_cons_succ]; exact rfl)
        case hc17 => rfl
        case hy17 => ((intro w hSw; (try dsimp only at hSw); go_simp) <;> with_reducible rfl)
        try simp only [Act.put, List.setIfInBounds_toArray, List.set_cons_zero, List.set_cons_succ]
        refine wpAnyH_take (i := 18) (oi := ?o18) (v := ?v18) ?hi18 (by kernel_rfl) (by kernel_rfl) (by kernel_rfl) (fun _ _ _ h => h) (Or.inl ⟨?hc18, ?hy18⟩) (by assumption) ?_
        case hi18 => (simp only [List.getElem?_toArray, List.getElem?_cons_zero, List.getElem?_cons_succ]; exact rfl)
        case hc18 => rfl
        case hy18 => ((intro w hSw; (try dsimp only at hSw); go_simp) <;> with_reducible rfl)
        try simp only [Act.put, List.setIfInBounds_toArray, List.set_cons_zero, List.set_cons_succ]
        refine wpAnyH_take (i := 19) (oi := ?o19) (v := ?v19) ?hi19 (by kernel_rfl) (by kernel_rfl) (by kernel_rfl) (fun _ _ _ h => h) (Or.inl ⟨?hc19, ?hy19⟩) (by assumption) ?_
        case hi19 => (simp only [List.getElem?_toArray, List.getElem?_cons_zero, List.getElem?_cons_succ]; exact rfl)
        case hc19 => rfl
        case hy19 => ((intro w hSw; (try dsimp only at hSw); go_simp) <;> with_reducible rfl)
        try simp only [Act.put, List.setIfInBounds_toArray, List.set_cons_zero, List.set_cons_succ]
        refine wpAnyH_take (i := 20) (oi := ?o20) (v := ?v20) ?hi20 (by kernel_rfl) (by kernel_rfl) (by kernel_rfl) (fun _ _ _ h => h) (Or.inl ⟨?hc20, ?hy20⟩) (by assumption) ?_
        case hi20 => (simp only [List.getElem?_toArray, List.getElem?_cons_zero, List.getElem?_cons_succ]; exact rfl)
        case hc20 => rfl
        case hy20 => ((intro w hSw; (try dsimp only at hSw); go_simp) <;> with_reducible rfl)
        try simp only [Act.put, List.setIfInBounds_toArray, List.set_cons_zero, List.set_cons_succ]
        refine wpAnyH_take (i := 21) (oi := ?o21) (v := ?v21) ?hi21 (by kernel_rfl) (by kernel_rfl) (by kernel_rfl) (fun _ _ _ h => h) (Or.inl ⟨?hc21, ?hy21⟩) (by assumption) ?_
        case hi21 => (simp only [List.getElem?_toArray, List.getElem?_cons_zero, List.getElem?_cons_succ]; exact rfl)
        case hc21 => rfl
        case hy21 => ((intro w hSw; (try dsimp only at hSw); go_simp) <;> with_reducible rfl)
        try simp only [Act.put, List.setIfInBounds_toArray, List.set_cons_zero, List.set_cons_succ]
        refine wpAnyH_ready (rs := [22]) (by kernel_rfl) (by simp) ?_
        refine AllReadyH.cons (o := ?o22) ?hi22 ?st22 AllReadyH.nil
        case hi22 => (simp only [List.getElem?_toArray, List.getElem?_cons_zero, List.getElem?_cons_succ]; exact rfl)
        intro KK hKK
        go_simp
        with_reducible refine Calls.mono (HSAME.out w14 hb14') ?_
        rintro e w15 ⟨rfl, m15, rfl⟩
        have hb15' := hb14'.trans ((drewN_below w14 m15).mono hb14'.size)
        obtain ⟨h0, h1⟩ := HK11.out _ hb15'
        have cv15 := HCV.out _ hb15'
        refine hKK.out _ _ ⟨h0, h1, cv15⟩ (fun hHeld => ?_)
        clear hKK
        try simp only [Act.put, List.setIfInBounds_toArray, List.set_cons_zero, List.set_cons_succ]
        refine wpAnyH_take (i := 23) (oi := ?o23) (v := ?v23) ?hi23 (by kernel_rfl) (by kernel_rfl) (by kernel_rfl) (fun _ _ _ h => h) (Or.inl ⟨?hc23, ?hy23⟩) (by assumption) ?_
        case hi23 => (simp only [List.getElem?_toArray, List.getElem?_cons_zero, List.getElem?_cons_succ]; exact rfl)
        case hc23 => rfl
        case hy23 => ((intro w hSw; (try dsimp only at hSw); go_simp) <;> with_reducible rfl)
        try simp only [Act.put, List.setIfInBounds_toArray, List.set_cons_zero, List.set_cons_succ]
        refine wpAnyH_take (i := 24) (oi := ?o24) (v := ?v24) ?hi24 (by kernel_rfl) (by kernel_rfl) (by kernel_rfl) (fun _ _ _ h => h) (Or.inl ⟨?hc24, ?hy24⟩) (by assumption) ?_
        case hi24 => (simp only [List.getElem?_toArray, List.getElem?_cons_zero, List.getElem?_cons_succ]; exact rfl)
        case hc24 => rfl
        case hy24 => ((intro w hSw; (try dsimp only at hSw); go_simp) <;> with_reducible rfl)
        try simp only [Act.put, List.setIfInBounds_toArray, List.set_cons_zero, List.set_cons_succ]
        refine wpAnyH_done (by kernel_rfl) ?_ _
        refine NoPanic.normal ?_
        all_goals
          go_wp2_with fail
          go_ret
          exact ⟨rfl, HBW11.out.trans ((hb14'.trans ((drewN_below w14 m15).mono hb14'.size)).mono HBW11.out.size)⟩
end Go.Proofs.YtkidcgaogjlpaaaGreat
