/- proto.ColMap[string, string].RowKV; impl.ARReadMap. -/
import Derived.Test.YtemmhlibbihjmaaGreatMap
import Derived.Laws.MakeOwn
namespace Go.Proofs.YtemmhlibbihjmaaGreat
open Go.RowKit
set_option linter.unusedVariables false
set_option linter.unusedSimpArgs false

theorem run_makeKV (w : World) : ∃ w', (Instr.makeSlice 93 (.int .i64 0) (.int .i64 0)).run Tryz.prog w = .ok (.slice (some ⟨w.heap.size, 0, none⟩) 0 0) w' ∧ Acc w (fun k => k = w.heap.size) 92 2 (.slice (some ⟨w.heap.size, 0, none⟩) 0 0) 0 [] w' := by
  obtain ⟨i0, z, hi, hz0, hz1, hz2, hz3⟩ := elemKV.info
  obtain ⟨w', h1, h2, h3⟩ := run_make_own (P := Tryz.prog) w 0 93 92 i0 z 2 elemKV.under hi hz0 hz1 .i64 .i64 0 (by omega) (by unfold maxLen; omega) (Nat.zero_le _)
  have hc := (Chg.refl (fun _ => False) w).grown h3 fun k h => by simp at h
  refine ⟨w', h1, ⟨h2, fun g hg => (own_new hg).symm⟩, fun k hk => by omega, fun k hk => ?_, hc.below (Nat.le_refl _) fun _ h => h.elim⟩
  have := (h2.lt w.heap.size rfl).2
  omega

set_option maxRecDepth 100000 in
set_option maxHeartbeats 2000000 in
theorem mapRowKV (w : World) (v : Value) (d e : Nat) (Fd Fe : Nat → Prop) (ll : List (List Pr)) (hv : FlatAt w v ll.length (u64s (offsOf (kk ll)))) (hd : StrCol w Fd 77 d (bytesOf (kk ll).flatten)) (he : StrCol w Fe 77 e (bytesOf (vv ll).flatten)) (hl : ll.length ≤ 100000000) (hf : ll.flatten.length ≤ 100000000) (i : Nat) (ps : List Pr) (hi : ll[i]? = some ps) :
    Calls Tryz.prog 40 #[.agg #[v, .iface 74 (.pointer (some ⟨d, 0, none⟩)), .iface 74 (.pointer (some ⟨e, 0, none⟩))], .int .i64 i] w (MadeF w ps.length (pcells ps)) := by
  obtain ⟨p, c, rfl, hc⟩ := hv.slice
  obtain ⟨hil, -⟩ := List.getElem?_eq_some_iff.1 hi
  have hkf : (kk ll).flatten.length = ll.flatten.length := by rw [kk_flat, List.length_map]
  have hvf : (vv ll).flatten.length = ll.flatten.length := by rw [vv_flat, List.length_map]
  have hsum := lens_succ (kk_get hi)
  rw [List.length_map] at hsum
  have hle1 := lens_le (kk ll) (i + 1)
  rw [hkf] at hle1
  obtain ⟨S, hS⟩ : ∃ S, S = (lensOf ((kk ll).take i)).sum := ⟨_, rfl⟩
  rw [hsum, ← hS] at hle1
  obtain ⟨g, o, rfl, -, hend⟩ := hv.get (j := i) (x := .int .u64 ((S + ps.length : Nat) : Int)) (by unfold u64s; rw [List.getElem?_map, offsOf_get (kk ll) i (by rw [kk_length]; exact hil), hsum, ← hS]; rfl)
  have HSTART : Hid (∀ m, i = m + 1 → w.cell? ⟨g, o + m, none⟩ = some (.int .u64 (S : Int))) := Lib.hid fun m hm => by
    obtain ⟨g', o', he, -, h⟩ := hv.get (j := m) (x := .int .u64 (S : Int)) (by unfold u64s; rw [List.getElem?_map, offsOf_get (kk ll) m (by rw [kk_length]; omega), ← hm, ← hS]; rfl)
    obtain ⟨rfl, rfl⟩ : g = g' ∧ o = o' := by simpa using he
    exact h
  obtain ⟨vd, ud, hdh, -, -, hdl, hsv, -⟩ := hd.view
  obtain ⟨ve, ue, heh, -, -, hel, hse, -⟩ := he.view
  have hgl : g < w.heap.size := World.block_lt_of_cell? _ _ hend
  have HGET : Hid (∀ j x, ps[j]? = some x → (bytesOf (kk ll).flatten)[S + j]? = some x.1.data.toList ∧ (bytesOf (vv ll).flatten)[S + j]? = some x.2.data.toList) := Lib.hid fun j x hj => by
    have h1 := flat_get (kk ll) i j _ x.1 (kk_get hi) (by simp [hj])
    have h2 := flat_get (vv ll) i j _ x.2 (vv_get hi) (by simp [hj])
    have e1 : ((kk ll).take i).map (·.length) = lensOf ((kk ll).take i) := rfl
    have e2 : ((vv ll).take i).map (·.length) = lensOf ((kk ll).take i) := by
      show lensOf ((vv ll).take i) = lensOf ((kk ll).take i)
      rw [← lensOf_take, ← lensOf_take, lensOf_vv, lensOf_kk]
    rw [e1, ← hS] at h1
    rw [e2, ← hS] at h2
    unfold bytesOf
    rw [List.getElem?_map, List.getElem?_map, h1, h2]
    exact ⟨rfl, rfl⟩
  have HS0 : Hid (i = 0 → S = 0) := Lib.hid fun e => by rw [hS, e]; rfl
  have HV := Lib.hid (And.intro hdh (And.intro hsv (And.intro hdl (And.intro heh (And.intro hse hel)))))
  have HBL : Hid ((bytesOf (kk ll).flatten).length ≤ 8796093022208 ∧ (bytesOf (vv ll).flatten).length ≤ 8796093022208) := Lib.hid (by unfold bytesOf; rw [List.length_map, List.length_map]; omega)
  obtain ⟨W, hW⟩ : ∃ W, W = w.alloc (.cells #[.slice (some ⟨g, o, none⟩) ll.length c, .iface 74 (.pointer (some ⟨d, 0, none⟩)), .iface 74 (.pointer (some ⟨e, 0, none⟩))] 119) := ⟨_, rfl⟩
  have hbW : Below w.heap.size w W := by rw [hW]; exact (Below.refl _ w).alloc (Nat.le_refl _) _
  have hsW : W.heap.size = w.heap.size + 1 := by rw [hW]; simp
  have k1 : W.cell? ⟨w.heap.size, 1, none⟩ = some (.iface 74 (.pointer (some ⟨d, 0, none⟩))) := by rw [hW]; go_simp
  have k2 : W.cell? ⟨w.heap.size, 2, none⟩ = some (.iface 74 (.pointer (some ⟨e, 0, none⟩))) := by rw [hW]; go_simp
  obtain ⟨WM, hmk, hAM⟩ := run_makeKV W
  have HB := Lib.hid (And.intro hbW (And.intro hsW (And.intro k1 k2)))
  have HCW : Hid (∀ W5, Below W.heap.size W W5 → W5.cell? ⟨w.heap.size, 1, none⟩ = some (.iface 74 (.pointer (some ⟨d, 0, none⟩))) ∧ W5.cell? ⟨w.heap.size, 2, none⟩ = some (.iface 74 (.pointer (some ⟨e, 0, none⟩)))) := Lib.hid fun W5 hb => by
    have hlt : w.heap.size < W.heap.size := by omega
    rw [hb.cell (p := ⟨w.heap.size, 1, none⟩) hlt, hb.cell (p := ⟨w.heap.size, 2, none⟩) hlt]
    exact ⟨k1, k2⟩
  have HAM := Lib.hid hAM
  have HW := Lib.hid hW
  rw [hW] at hmk
  have hw1 : IntKind.i64.wrap ((S + ps.length : Nat) : Int) = ((S + ps.length : Nat) : Int) := by rw [IntKind.wrap_i64]; omega
  have hw2 : IntKind.i64.wrap (S : Int) = (S : Int) := by rw [IntKind.wrap_i64]; omega
  have hSb : S + ps.length ≤ 100000000 := by omega
  rw [World.size_alloc] at hmk
  clear hv hd he hdh hsv heh hse hi hsum hle1 hS hW hbW hsW k1 k2 hAM hkf hvf
  by_cases h0 : i = 0
  · subst h0
    have HS00 := Lib.hid (HS0.out rfl)
    rw [Nat.add_zero] at hend
    go_enter Tryz.func40, Tryz.ntmps40
    go_wp2_with fail
    go_loopw [7, 8] (fun vo vi wr => ∃ (j : Nat) (F : Nat → Prop), j ≤ ps.length ∧ vi = .int .i64 ((S + j : Nat) : Int) ∧ Acc W F 92 2 vo j (pcells (ps.take j)) wr) (fun _ vi _ => S + ps.length - (intOf vi).toNat)
    case atStart => exact ⟨0, _, Nat.zero_le _, by rw [HS00.out]; rfl, by have h := HAM.out; rw [HB.out.2.1] at h; exact h⟩
    case round =>
      obtain ⟨j, F, hj, rfl, hA⟩ := hrel
      obtain ⟨po, co, rfl⟩ := hA.slice
      by_cases hlt : j < ps.length
      · obtain ⟨x, hsi⟩ : ∃ x, ps[j]? = some x := ⟨_, List.getElem?_eq_getElem hlt⟩
        obtain ⟨hdh, hsv, hdl, heh, hse, hel⟩ := HV.out
        obtain ⟨hbW, hsW, k1, k2⟩ := HB.out
        have hbr := hbW.trans (hA.below.mono (by omega : w.heap.size ≤ W.heap.size))
        have hbd : Below w.heap.size w wr.drew := hbr.trans ((drewBelow wr).mono hbr.size)
        have hld := load_twoA (w := wr.drew) (T := 77) (by rw [hbd.block d hdl]; exact hdh) Tryz.underlying77 (by kernel_rfl)
        have hmm := meth_val 292 mStrRow Tryz.underlying74 ⟨d, 0, none⟩ wr.drew (.agg #[vd, ud]) hld
        have HM2 : Hid (∀ W3, Below w.heap.size w W3 → (method 293 74 (.pointer (some ⟨e, 0, none⟩)) "Row").run Tryz.prog W3 = .ok (90, .agg #[ve, ue]) W3) := Lib.hid fun W3 hb => meth_val 292 mStrRow Tryz.underlying74 ⟨e, 0, none⟩ W3 (.agg #[ve, ue]) (load_twoA (w := W3) (T := 77) (by rw [hb.block e hel]; exact heh) Tryz.underlying77 (by kernel_rfl))
        have hoo := fun a W => oStr.1 #[.agg #[vd, ud], a] W
        have hoo2 := fun a W => oStr.1 #[.agg #[ve, ue], a] W
        have k1r : wr.cell? ⟨w.heap.size, 1, none⟩ = some (.iface 74 (.pointer (some ⟨d, 0, none⟩))) := by rw [hA.below.cell (show w.heap.size < W.heap.size by omega)]; exact k1
        have k2r : wr.cell? ⟨w.heap.size, 2, none⟩ = some (.iface 74 (.pointer (some ⟨e, 0, none⟩))) := by rw [hA.below.cell (show w.heap.size < W.heap.size by omega)]; exact k2
        have hqr : w.heap.size < wr.heap.size := World.block_lt_of_cell? _ _ k1r
        have HRD := Lib.hid (strRow wr.drew vd ud _ (hsv.below hbd) (S + j) x.1.data.toList (HGET.out j x hsi).1 HBL.out.1)
        have HRE : Hid (∀ W3, Below w.heap.size w W3 → Calls Tryz.prog 90 #[.agg #[ve, ue], .int .i64 ((S : Int) + (j : Int))] W3 fun e w' => e = .returned (.string ⟨x.2.data.toList.toArray⟩) ∧ Below W3.heap.size W3 w') := Lib.hid fun W3 hb => strRow W3 ve ue _ (hse.below hb) (S + j) x.2.data.toList (HGET.out j x hsi).2 HBL.out.2
        rw [show (⟨x.1.data.toList.toArray⟩ : ByteArray) = x.1 from ofS1_to _, show ((S + j : Nat) : Int) = (S : Int) + (j : Int) from rfl] at HRD
        rw [show (⟨x.2.data.toList.toArray⟩ : ByteArray) = x.2 from ofS1_to _] at HRE
        have HS : Hid (pcells (ps.take (j + 1)) = pcells (ps.take j) ++ [.string x.1, .string x.2]) := Lib.hid (by rw [takeSnoc hsi, pcells_snoc]; rfl)
        have HA := Lib.hid hA
        have HBR := Lib.hid hbr
        have hjl : S + j < S + ps.length := by omega
        have hjI : ((S + j : Nat) : Int) < ((S + ps.length : Nat) : Int) := by omega
        obtain ⟨kx, vx⟩ := x
        simp only at HRD HRE HS
        have HOWN : Hid (∀ W2, Below wr.heap.size wr W2 → OwnR (W2.alloc (.cells #[.string kx, .string vx] 92)) F 92 2 (.slice po j co) j (pcells (ps.take j))) := Lib.hid fun W2 hb => (hA.own.keep hb).keep ((Below.refl _ _).alloc (Nat.le_refl _) _)
        have HSR : Hid (∀ W2 : World, Src Tryz.prog 2 93 (.slice (some ⟨W2.heap.size, 0, none⟩) 1 1) 1 [.string kx, .string vx] (W2.alloc (.cells #[.string kx, .string vx] 92))) := Lib.hid fun W2 => src_new elemKV W2.heap.size [.string kx, .string vx] _ (heap_alloc_new W2 _) rfl (by simp [Value.oneCell']) 1
        have HBD : Hid (j + 1 ≤ 140737488355328 ∧ (j + 1) * 32 ≤ 140737488355328) := Lib.hid (by omega)
        clear hA hsi hld hdh hsv hdl heh hse hel hbW hsW k1 k2 hbr hbd
        go_wp2_with fail
        go_region_held3 (fun w' => w'.cell? ⟨w.heap.size, 1, none⟩ = some (.iface 74 (.pointer (some ⟨d, 0, none⟩))) ∧ w'.cell? ⟨w.heap.size, 2, none⟩ = some (.iface 74 (.pointer (some ⟨e, 0, none⟩)))) (first | exact ⟨x0, x1⟩ | exact ⟨z0, z1⟩ | exact ⟨y0, y1⟩ | exact ⟨k1r, k2r⟩ | go_keep)
          (first
            | (go_at_call 90; with_reducible refine Calls.mono HRD.out ?_; rintro e3 w3 ⟨rfl, hb3⟩; have hb3r := drewTrans hb3; have hb3w := HBR.out.trans (hb3r.mono HBR.out.size); have hmm2 := HM2.out w3 hb3w; have hq3 : w.heap.size < w3.heap.size := Nat.lt_of_lt_of_le hqr hb3r.size; obtain ⟨y0, y1⟩ := HCW.out w3 (HA.out.below.trans (hb3r.mono HA.out.below.size)))
            | (go_at_call 90; with_reducible refine Calls.mono (HRE.out w3 hb3w) ?_; rintro e4 w4 ⟨rfl, hb4⟩; have hb4r := hb3r.trans (hb4.mono hb3r.size); have hq4 : w.heap.size < w4.heap.size := Nat.lt_of_lt_of_le hqr hb4r.size; obtain ⟨z0, z1⟩ := HCW.out w4 (HA.out.below.trans (hb4r.mono HA.out.below.size)))
            | (refine step_append_rows elemKV _ F j 1 _ _ (by rfl) _ _ _ (by rfl) _ (by rfl) (HOWN.out w4 hb4r) _ (by rfl) (HSR.out w4) HBD.out.1 HBD.out.2 ?_; intro p5 c5 w5 F5 hown5 hu5; have hA5 := Acc.next (HA.out.keep (below_alloc hb4r (Nat.le_refl _) (.cells #[.string kx, .string vx] 92))) hown5 hu5; obtain ⟨x0, x1⟩ := HCW.out w5 hA5.below))
        all_goals
          go_wp2_with fail
          go_roundw
          case rel => exact ⟨j + 1, F5, hlt, by go_num, by rw [HS.out]; exact hA5⟩
          case measure => simp [intOf]; omega
      · obtain rfl : j = ps.length := by omega
        have HA := Lib.hid hA
        clear hA
        go_wp2_with fail
        go_ret
        have h := HA.out
        rw [List.take_length] at h
        obtain ⟨x, h1, h2, h3, h4⟩ := h.made
        obtain ⟨hbW, hsW, k1, k2⟩ := HB.out
        exact ⟨x, h1, h2, hbW.trans (h3.mono (by omega)), fun g hg => by have := h4 g hg; omega⟩
  · have h0I : (0 : Int) < (i : Int) := by omega
    obtain ⟨m, hm⟩ : ∃ m, i = m + 1 := ⟨i - 1, by omega⟩
    have hst := HSTART.out m hm
    have hmI : IntKind.i64.wrap ((i : Int) - 1) = (m : Int) := by rw [IntKind.wrap_i64]; omega
    have hmJ : ((i : Int) - 1) = (m : Int) := by omega
    have hml : m < ll.length := by omega
    have h0N : 0 < i := by omega
    have h0D : decide (0 < i) = true := decide_eq_true h0N
    clear hm
    go_enter Tryz.func40, Tryz.ntmps40
    go_wp2_with fail
    go_loopw [7, 8] (fun vo vi wr => ∃ (j : Nat) (F : Nat → Prop), j ≤ ps.length ∧ vi = .int .i64 ((S + j : Nat) : Int) ∧ Acc W F 92 2 vo j (pcells (ps.take j)) wr) (fun _ vi _ => S + ps.length - (intOf vi).toNat)
    case atStart => exact ⟨0, _, Nat.zero_le _, by simp, by have h := HAM.out; rw [HB.out.2.1] at h; exact h⟩
    case round =>
      obtain ⟨j, F, hj, rfl, hA⟩ := hrel
      obtain ⟨po, co, rfl⟩ := hA.slice
      by_cases hlt : j < ps.length
      · obtain ⟨x, hsi⟩ : ∃ x, ps[j]? = some x := ⟨_, List.getElem?_eq_getElem hlt⟩
        obtain ⟨hdh, hsv, hdl, heh, hse, hel⟩ := HV.out
        obtain ⟨hbW, hsW, k1, k2⟩ := HB.out
        have hbr := hbW.trans (hA.below.mono (by omega : w.heap.size ≤ W.heap.size))
        have hbd : Below w.heap.size w wr.drew := hbr.trans ((drewBelow wr).mono hbr.size)
        have hld := load_twoA (w := wr.drew) (T := 77) (by rw [hbd.block d hdl]; exact hdh) Tryz.underlying77 (by kernel_rfl)
        have hmm := meth_val 292 mStrRow Tryz.underlying74 ⟨d, 0, none⟩ wr.drew (.agg #[vd, ud]) hld
        have HM2 : Hid (∀ W3, Below w.heap.size w W3 → (method 293 74 (.pointer (some ⟨e, 0, none⟩)) "Row").run Tryz.prog W3 = .ok (90, .agg #[ve, ue]) W3) := Lib.hid fun W3 hb => meth_val 292 mStrRow Tryz.underlying74 ⟨e, 0, none⟩ W3 (.agg #[ve, ue]) (load_twoA (w := W3) (T := 77) (by rw [hb.block e hel]; exact heh) Tryz.underlying77 (by kernel_rfl))
        have hoo := fun a W => oStr.1 #[.agg #[vd, ud], a] W
        have hoo2 := fun a W => oStr.1 #[.agg #[ve, ue], a] W
        have k1r : wr.cell? ⟨w.heap.size, 1, none⟩ = some (.iface 74 (.pointer (some ⟨d, 0, none⟩))) := by rw [hA.below.cell (show w.heap.size < W.heap.size by omega)]; exact k1
        have k2r : wr.cell? ⟨w.heap.size, 2, none⟩ = some (.iface 74 (.pointer (some ⟨e, 0, none⟩))) := by rw [hA.below.cell (show w.heap.size < W.heap.size by omega)]; exact k2
        have hqr : w.heap.size < wr.heap.size := World.block_lt_of_cell? _ _ k1r
        have HRD := Lib.hid (strRow wr.drew vd ud _ (hsv.below hbd) (S + j) x.1.data.toList (HGET.out j x hsi).1 HBL.out.1)
        have HRE : Hid (∀ W3, Below w.heap.size w W3 → Calls Tryz.prog 90 #[.agg #[ve, ue], .int .i64 ((S : Int) + (j : Int))] W3 fun e w' => e = .returned (.string ⟨x.2.data.toList.toArray⟩) ∧ Below W3.heap.size W3 w') := Lib.hid fun W3 hb => strRow W3 ve ue _ (hse.below hb) (S + j) x.2.data.toList (HGET.out j x hsi).2 HBL.out.2
        rw [show (⟨x.1.data.toList.toArray⟩ : ByteArray) = x.1 from ofS1_to _, show ((S + j : Nat) : Int) = (S : Int) + (j : Int) from rfl] at HRD
        rw [show (⟨x.2.data.toList.toArray⟩ : ByteArray) = x.2 from ofS1_to _] at HRE
        have HS : Hid (pcells (ps.take (j + 1)) = pcells (ps.take j) ++ [.string x.1, .string x.2]) := Lib.hid (by rw [takeSnoc hsi, pcells_snoc]; rfl)
        have HA := Lib.hid hA
        have HBR := Lib.hid hbr
        have hjl : S + j < S + ps.length := by omega
        have hjI : ((S + j : Nat) : Int) < ((S + ps.length : Nat) : Int) := by omega
        obtain ⟨kx, vx⟩ := x
        simp only at HRD HRE HS
        have HOWN : Hid (∀ W2, Below wr.heap.size wr W2 → OwnR (W2.alloc (.cells #[.string kx, .string vx] 92)) F 92 2 (.slice po j co) j (pcells (ps.take j))) := Lib.hid fun W2 hb => (hA.own.keep hb).keep ((Below.refl _ _).alloc (Nat.le_refl _) _)
        have HSR : Hid (∀ W2 : World, Src Tryz.prog 2 93 (.slice (some ⟨W2.heap.size, 0, none⟩) 1 1) 1 [.string kx, .string vx] (W2.alloc (.cells #[.string kx, .string vx] 92))) := Lib.hid fun W2 => src_new elemKV W2.heap.size [.string kx, .string vx] _ (heap_alloc_new W2 _) rfl (by simp [Value.oneCell']) 1
        have HBD : Hid (j + 1 ≤ 140737488355328 ∧ (j + 1) * 32 ≤ 140737488355328) := Lib.hid (by omega)
        clear hA hsi hld hdh hsv hdl heh hse hel hbW hsW k1 k2 hbr hbd
        go_wp2_with fail
        go_region_held3 (fun w' => w'.cell? ⟨w.heap.size, 1, none⟩ = some (.iface 74 (.pointer (some ⟨d, 0, none⟩))) ∧ w'.cell? ⟨w.heap.size, 2, none⟩ = some (.iface 74 (.pointer (some ⟨e, 0, none⟩)))) (first | exact ⟨x0, x1⟩ | exact ⟨z0, z1⟩ | exact ⟨y0, y1⟩ | exact ⟨k1r, k2r⟩ | go_keep)
          (first
            | (go_at_call 90; with_reducible refine Calls.mono HRD.out ?_; rintro e3 w3 ⟨rfl, hb3⟩; have hb3r := drewTrans hb3; have hb3w := HBR.out.trans (hb3r.mono HBR.out.size); have hmm2 := HM2.out w3 hb3w; have hq3 : w.heap.size < w3.heap.size := Nat.lt_of_lt_of_le hqr hb3r.size; obtain ⟨y0, y1⟩ := HCW.out w3 (HA.out.below.trans (hb3r.mono HA.out.below.size)))
            | (go_at_call 90; with_reducible refine Calls.mono (HRE.out w3 hb3w) ?_; rintro e4 w4 ⟨rfl, hb4⟩; have hb4r := hb3r.trans (hb4.mono hb3r.size); have hq4 : w.heap.size < w4.heap.size := Nat.lt_of_lt_of_le hqr hb4r.size; obtain ⟨z0, z1⟩ := HCW.out w4 (HA.out.below.trans (hb4r.mono HA.out.below.size)))
            | (refine step_append_rows elemKV _ F j 1 _ _ (by rfl) _ _ _ (by rfl) _ (by rfl) (HOWN.out w4 hb4r) _ (by rfl) (HSR.out w4) HBD.out.1 HBD.out.2 ?_; intro p5 c5 w5 F5 hown5 hu5; have hA5 := Acc.next (HA.out.keep (below_alloc hb4r (Nat.le_refl _) (.cells #[.string kx, .string vx] 92))) hown5 hu5; obtain ⟨x0, x1⟩ := HCW.out w5 hA5.below))
        all_goals
          go_wp2_with fail
          go_roundw
          case rel => exact ⟨j + 1, F5, hlt, by go_num, by rw [HS.out]; exact hA5⟩
          case measure => simp [intOf]; omega
      · obtain rfl : j = ps.length := by omega
        have HA := Lib.hid hA
        clear hA
        go_wp2_with fail
        go_ret
        have h := HA.out
        rw [List.take_length] at h
        obtain ⟨x, h1, h2, h3, h4⟩ := h.made
        obtain ⟨hbW, hsW, k1, k2⟩ := HB.out
        exact ⟨x, h1, h2, hbW.trans (h3.mono (by omega)), fun g hg => by have := h4 g hg; omega⟩

def RestM (ll : List (List Pr)) (tail rest : List UInt8) : Prop := rest = (offsOf (kk ll)).flatMap le8 ++ (encS (bytesOf (kk ll).flatten) ++ (encS (bytesOf (vv ll).flatten) ++ tail))
def ReadM (w : World) (ll : List (List Pr)) (tail : List UInt8) (e : Ending) (w' : World) : Prop := ∃ x, e = .returned (.tuple #[x, .int .i64 tail.length, .bool true]) ∧ LstP w' x ll ∧ Below w.heap.size w w'

set_option maxRecDepth 100000 in
set_option maxHeartbeats 1000000 in
theorem arReadMap (w : World) (ll : List (List Pr)) (dv : Value) (bs tail : List UInt8) (hd : BytesAt w dv bs) (hD : ∀ g, dv.ownBlock = some g → g < w.heap.size)
    (hrest : RestM ll tail bs) (hbig : bs.length ≤ 1000000000) (hn : 0 < ll.length) (hl : ll.length ≤ 100000) (hf : ll.flatten.length ≤ 100000) (hE1 : (encS (bytesOf (kk ll).flatten)).length ≤ 1000000000) (hE2 : (encS (bytesOf (vv ll).flatten)).length ≤ 1000000000) (hps : ∀ ps ∈ ll, ps.length ≤ 1000000) :
    Calls Tryz.prog 17 #[dv, .int .i64 ll.length] w (ReadM w ll tail) := by
  obtain ⟨W0, hW0⟩ : ∃ W0, W0 = w.alloc (.cells #[.bool false] 4) := ⟨_, rfl⟩
  have hb0 : Below w.heap.size w W0 := by rw [hW0]; exact (Below.refl _ w).alloc (Nat.le_refl _) _
  have hs0 : W0.heap.size = w.heap.size + 1 := by rw [hW0]; simp
  have ht0 : W0.cell? ⟨w.heap.size, 0, none⟩ = some (.bool false) ∧ W0.frozen? ⟨w.heap.size, 0, none⟩ = false := by rw [hW0]; constructor <;> go_simp
  obtain ⟨pd, cd, rfl⟩ := hd.slice
  have HM := Lib.hid (mapsNew W0)
  have HX := Lib.hid (And.intro hd (And.intro hD (And.intro hrest (And.intro hE1 (And.intro hE2 hps)))))
  have HW := Lib.hid (And.intro hb0 (And.intro hs0 ht0))
  have HWW := Lib.hid hW0
  rw [hW0] at HM
  clear hd hD hrest hE1 hE2 hps hb0 hs0 ht0 hW0
  go_enter_defers Tryz.func17, Tryz.ntmps17
  go_wp2_with fail
  refine HM.out.mono ?_
  rw [← HWW.out]
  rintro e w1 ⟨rfl, hb1, hs1, hX1⟩
  obtain ⟨hb0, hs0, ht0⟩ := HW.out
  obtain ⟨hd, hD, hrest, hE1, hE2, hps⟩ := HX.out
  have hbw1 : Below w.heap.size w w1 := hb0.trans (hb1.mono hb0.size)
  have HN := Lib.hid (newReader w1 _ bs (hd.below hbw1) fun g hg => by have := hD g hg; omega)
  have H1 := Lib.hid (And.intro hbw1 (And.intro hb1 (And.intro hs1 hX1)))
  clear hb1 hs1 hX1 hb0 hs0 ht0 hd hD hrest hE1 hE2 hps hbw1 HM
  go_wp2_with fail
  refine HN.out.mono ?_
  rintro e w2 ⟨rfl, hb2, hs2, hr2⟩
  obtain ⟨hb0, hs0, ht0⟩ := HW.out
  obtain ⟨hd, hD, hrest, hE1, hE2, hps⟩ := HX.out
  obtain ⟨hbw1, hb1, hs1, hX1⟩ := H1.out
  have hbw2 : Below w.heap.size w w2 := hbw1.trans (hb2.mono hbw1.size)
  have HDEC := Lib.hid (mapDecode w2 _ _ _ _ _ (w1.heap.size + 1) (W0.heap.size + 2) W0.heap.size (W0.heap.size + 1) ll tail bs [] hr2 (hX1.keep hb2) (fun k hk => ⟨fun e => by omega, fun e => by have := hD k e; omega⟩) (fun k hk => ⟨fun e => by omega, fun e => by have := hD k e; omega⟩) (fun k hk => ⟨fun e => by omega, fun e => by have := hD k e; omega⟩) hrest hbig hn hl (by omega) hE1 hE2)
  have k1 : w2.cell? ⟨w.heap.size, 0, none⟩ = some (.bool false) := by rw [hb2.cell (p := ⟨w.heap.size, 0, none⟩) (show w.heap.size < w1.heap.size by omega), hb1.cell (p := ⟨w.heap.size, 0, none⟩) (show w.heap.size < W0.heap.size by omega)]; exact ht0.1
  have k2 : w2.frozen? ⟨w.heap.size, 0, none⟩ = false := by rw [hb2.frozen (p := ⟨w.heap.size, 0, none⟩) (show w.heap.size < w1.heap.size by omega), hb1.frozen (p := ⟨w.heap.size, 0, none⟩) (show w.heap.size < W0.heap.size by omega)]; exact ht0.2
  have HC := Lib.hid (And.intro hbw2 (And.intro (show w.heap.size < w2.heap.size by omega) (show w.heap.size < W0.heap.size ∧ W0.heap.size + 2 < w1.heap.size by omega)))
  obtain ⟨q, hq⟩ : ∃ q, q = W0.heap.size + 2 := ⟨_, rfl⟩
  obtain ⟨d, hdd⟩ : ∃ d, d = W0.heap.size := ⟨_, rfl⟩
  obtain ⟨e1, hee⟩ : ∃ e1, e1 = W0.heap.size + 1 := ⟨_, rfl⟩
  rw [← hq, ← hee, ← hdd] at HDEC
  rw [← hq]
  have HQ := Lib.hid (And.intro hq (And.intro hdd hee))
  clear hb0 hs0 ht0 hd hD hrest hE1 hE2 hps hbw1 hb1 hs1 hX1 hbw2 hb2 hs2 hr2 HN hq hdd hee
  go_wp2_with fail
  refine HDEC.out.mono ?_
  rintro e w3 ⟨rfl, Fr3, cur3, Fq3, Fd3, Fe3, hR3, hX3, hc3⟩
  obtain ⟨hbw2, hlt2, hlt0⟩ := HC.out
  obtain ⟨hq, hdd, hee⟩ := HQ.out
  have hnk : ¬ ((w.heap.size = w1.heap.size ∨ w.heap.size = w1.heap.size + 1) ∨ ((w.heap.size = q ∨ w.heap.size = d) ∨ w.heap.size = e1)) := fun h => by omega
  have j1 : w3.cell? ⟨w.heap.size, 0, none⟩ = some (.bool false) := by rw [hc3.cell (p := ⟨w.heap.size, 0, none⟩) hlt2 hnk]; exact k1
  have j2 : w3.frozen? ⟨w.heap.size, 0, none⟩ = false := by rw [hc3.frozen (p := ⟨w.heap.size, 0, none⟩) hlt2 hnk]; exact k2
  have hlt3 : w.heap.size < w3.heap.size := by have := hc3.size; omega
  have hb3 : Below w.heap.size w w3 := hbw2.trans (hc3.below (by omega) fun k hk => by omega)
  obtain ⟨v3, hXX, -⟩ := hX3.off
  obtain ⟨p3, c3, rfl⟩ := hXX.slice
  have hol : (offsOf (kk ll)).length = ll.length := by rw [offsOf_length, kk_length]
  have hflat : FlatAt w3 (.slice p3 (offsOf (kk ll)).length c3) (offsOf (kk ll)).length (u64s (offsOf (kk ll))) := OwnR.flat (F := fun _ => True) ⟨hXX.own, fun _ _ => trivial⟩
  rw [hol] at hflat hXX
  obtain ⟨z0, zs, -, hq3⟩ := hXX.cell
  have HCELL : Hid (∀ W, Below w3.heap.size w3 W → W.cell? ⟨q, 0, none⟩ = some (.slice p3 ll.length c3) ∧ W.cell? ⟨q, 1, none⟩ = some (.iface 74 (.pointer (some ⟨d, 0, none⟩))) ∧ W.cell? ⟨q, 2, none⟩ = some (.iface 74 (.pointer (some ⟨e1, 0, none⟩)))) := Lib.hid fun W hb => by
    rw [hb.cell (p := ⟨q, 0, none⟩) hq3, hb.cell (p := ⟨q, 1, none⟩) hq3, hb.cell (p := ⟨q, 2, none⟩) hq3]
    exact ⟨z0, zs 0 _ rfl, zs 1 _ rfl⟩
  have HX3 := Lib.hid (And.intro hflat (And.intro hX3.key (And.intro hX3.val hR3)))
  have HC3 := Lib.hid (And.intro hb3 (And.intro hlt3 (And.intro j1 j2)))
  clear hnk hbw2 hlt2 hlt0 hq hdd hee hc3 hX3 hR3 hXX hflat hol z0 zs j1 j2 hlt3 hb3 k1 k2 HDEC
  go_wp2_with fail
  go_loopw [4, 9] (fun vo vi wr => ∃ (i : Nat) (F : Nat → Prop), i ≤ ll.length ∧ vi = .int .i64 i ∧ AccL (LowP PairL w3.heap.size) w3 F 40 vo (ll.take i) wr) (fun _ vi _ => ll.length - (intOf vi).toNat)
  case atStart => exact ⟨0, _, Nat.zero_le _, rfl, AccL.start _ w3 40⟩
  case round =>
    obtain ⟨i, F, hi, rfl, hA⟩ := hrel
    have hlen : (ll.take i).length = i := by simp; omega
    obtain ⟨po, co, rfl⟩ := hA.slice
    rw [hlen] at hA ⊢
    have HLEN := Lib.hid hlen
    have HA := Lib.hid hA
    obtain ⟨y0, y1, y2⟩ := HCELL.out wr hA.below
    have HRW := Lib.hid (mapRows wr p3 ll.length c3 (.iface 74 (.pointer (some ⟨d, 0, none⟩))) (.iface 74 (.pointer (some ⟨e1, 0, none⟩))))
    clear hA hlen
    go_wp2_with fail
    refine HRW.out.mono ?_
    rintro e w4 ⟨rfl, hb4⟩
    have hbw4 : Below w3.heap.size w3 w4 := HA.out.below.trans (hb4.mono HA.out.below.size)
    have HB4 := Lib.hid (And.intro hb4 hbw4)
    obtain ⟨x0, x1, x2⟩ := HCELL.out w4 hbw4
    by_cases hlt : i < ll.length
    · have hltI : (i : Int) < (ll.length : Int) := by omega
      obtain ⟨ps, hsi⟩ : ∃ ps, ll[i]? = some ps := ⟨_, List.getElem?_eq_getElem hlt⟩
      have HRR := Lib.hid (mapRowKV w4 (.slice p3 ll.length c3) d e1 Fd3 Fe3 ll (HX3.out.1.below hbw4) (HX3.out.2.1.keep hbw4) (HX3.out.2.2.1.keep hbw4) (by omega) (by omega) i ps hsi)
      have HPS := Lib.hid (HX.out.2.2.2.2.2 ps (List.mem_of_getElem? hsi))
      have HS := Lib.hid (takeSnoc hsi)
      clear hb4 hbw4 hsi y0 y1 y2
      go_wp2_with fail
      refine HRR.out.mono ?_
      rintro e w5 ⟨x5, rfl, hx5, hb5, ho5⟩
      have HT := Lib.hid (turnedP w5 x5 ps hx5 HPS.out)
      obtain ⟨p5, c5, rfl, -⟩ := hx5.slice
      have HB5 := Lib.hid hb5
      clear hx5 hb5 ho5
      go_wp2_with fail
      refine HT.out.mono ?_
      rintro e w6 ⟨x6, rfl, hx6, hb6, ho6⟩
      obtain ⟨p6, c6, rfl, -⟩ := hx6.slice
      obtain ⟨hb4, hbw4⟩ := HB4.out
      have hb5 := HB5.out
      have hb46 := hb4.trans ((hb5.trans (hb6.mono hb5.size)).mono hb4.size)
      have s4 := hb4.size
      have s5 := hb5.size
      have s6 := hb6.size
      have s34 := hbw4.size
      obtain ⟨xs, hown, hmore⟩ := HA.out.more (lowP_stable pairL_stable _) hb46 (x := .slice p6 ps.length c6) (a := ps) ⟨hx6, fun g hg => by have := ho6 g hg; omega⟩ (fun g hg => ⟨(ho6 g hg).2, fun e => by have h1 := HA.out.inn.1 g e; have := ho6 g hg; omega⟩) (.cells #[.slice p6 ps.length c6] 40)
      rw [HLEN.out] at hown hmore
      have HOWN := Lib.hid hown
      have HMORE := Lib.hid hmore
      have HSR := Lib.hid (src_new elemPairs w6.heap.size [.slice p6 ps.length c6] _ (heap_alloc_new w6 (.cells #[.slice p6 ps.length c6] 40)) rfl (by simp [Value.oneCell']) 1)
      clear hown hmore hx6 ho6 hb6 hb46 hb5 hb4 hbw4 s4 s5 s6 s34
      go_wp2_with (at_builtin; refine append_rows elemPairs _ F i 1 xs _ rfl _ _ _ rfl _ rfl HOWN.out _ rfl HSR.out (by omega) (by omega) ?_; intro p7 c7 w7 F7 hown7 hu7)
      go_roundw
      case rel => exact ⟨i + 1, F7, hlt, by go_num, by rw [HS.out]; exact HMORE.out p7 c7 w7 F7 hown7 hu7⟩
      case measure => simp [intOf]; omega
    · obtain rfl : i = ll.length := by omega
      have hltI : ¬ (ll.length : Int) < (ll.length : Int) := by omega
      have HA4 := Lib.hid (HA.out.keep (lowP_stable pairL_stable _) hb4)
      have HLF := Lib.hid (rdLeft w4 _ _ _ tail cur3 (HX3.out.2.2.2.below hbw4))
      have i1 : w4.cell? ⟨w.heap.size, 0, none⟩ = some (.bool false) := by rw [hbw4.cell (p := ⟨w.heap.size, 0, none⟩) HC3.out.2.1]; exact HC3.out.2.2.1
      have i2 : w4.frozen? ⟨w.heap.size, 0, none⟩ = false := by rw [hbw4.frozen (p := ⟨w.heap.size, 0, none⟩) HC3.out.2.1]; exact HC3.out.2.2.2
      clear hb4 hbw4 HRW y0 y1 y2
      go_wp2_with fail
      refine HLF.out.mono ?_
      rintro e w5 ⟨rfl, rfl⟩
      go_wp2_with fail
      refine leaves_cons (f := 34) (args := #[.pointer (some ⟨w.heap.size, 0, none⟩)]) (by simp) (by simp [go_sem]) ?_
      refine (caught_idle _ _).mono ?_
      rintro e u' w6 ⟨rfl, rfl, rfl⟩
      have hcell : (w4.setCell ⟨w.heap.size, 0, none⟩ (.bool true)).cell? ⟨w.heap.size, 0, none⟩ = some (.bool true) := by go_simp
      have h := HA4.out.setLow (p := ⟨w.heap.size, 0, none⟩) (y := .bool true) pairL_stable HC3.out.2.1
      rw [List.take_length] at h
      have hb34 := HC3.out.1.trans (HB4.out.2.mono HC3.out.1.size)
      exact ⟨.tuple #[.slice po ll.length co, .int .i64 tail.length, .bool true], by simp [results, Tryz.results17, go_sem, hcell], _, rfl, h, ((Chg.of_below (F := fun k => w.heap.size ≤ k) hb34).setCell (p := ⟨w.heap.size, 0, none⟩) (.inl (Nat.le_refl _)) _).below (Nat.le_refl _) fun _ h => h⟩
end Go.Proofs.YtemmhlibbihjmaaGreat
