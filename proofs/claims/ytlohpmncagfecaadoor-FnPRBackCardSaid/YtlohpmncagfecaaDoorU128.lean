/- Numbers of 16 bytes, read. -/
import Derived.Test.YtlohpmncagfecaaDoorGk2
namespace Go.Proofs.YtlohpmncagfecaaDoor
open Go.RowKit Go.Shelf
set_option linter.unnecessarySimpa false
set_option linter.unusedVariables false
set_option linter.unusedSimpArgs false

theorem leUint64At (g o n cap x : Nat) (hx : x < 18446744073709551616) (w : World) (hg : ∀ (j : Nat) (u : UInt8), (leB 8 x)[j]? = some u → w.cell? ⟨g, o + j, none⟩ = some (.int .u8 u.toNat)) (hn : 8 ≤ n) :
    Calls Tryd.prog 73 #[.agg #[], .slice (some ⟨g, o, none⟩) n cap] w fun e w' => e = .returned (.int .u64 x) ∧ Below w.heap.size w w' :=
  (Any.binary_LE_Uint64 lays33 g o n cap _ _ _ _ _ _ _ _ w hn (hg 0 _ rfl) (hg 1 _ rfl) (hg 2 _ rfl) (hg 3 _ rfl) (hg 4 _ rfl) (hg 5 _ rfl) (hg 6 _ rfl) (hg 7 _ rfl)).mono fun _ _ h => ⟨h.1.trans (congrArg (fun n : Nat => Ending.returned (.int .u64 n)) (Lib.leNat_leBytes 8 x hx)), h.2⟩

theorem row2 {w : World} {b : Nat} {a0 a1 : Value} {T : TypeId} (h : w.heap[b]? = some (.cells #[a0, a1] T (0, 0))) :
    w.cell? ⟨b, 0, none⟩ = some a0 ∧ w.cell? ⟨b, 1, none⟩ = some a1 ∧ w.frozen? ⟨b, 0, none⟩ = false ∧ w.frozen? ⟨b, 1, none⟩ = false := by
  simp [World.cell?, World.frozen?, h]

set_option maxRecDepth 100000 in
set_option maxHeartbeats 1000000 in
theorem binU128 (w : World) (g cap lo hi : Nat) (hlo : lo < 18446744073709551616) (hhi : hi < 18446744073709551616) (hc : 16 ≤ cap) (hg : ∀ (j : Nat) (u : UInt8), (leB 8 lo ++ leB 8 hi)[j]? = some u → w.cell? ⟨g, j, none⟩ = some (.int .u8 u.toNat)) :
    Calls Tryd.prog 90 #[.slice (some ⟨g, 0, none⟩) 16 cap] w fun e w' => e = .returned (.agg #[.int .u64 lo, .int .u64 hi]) ∧ Below w.heap.size w w' := by
  have hgl : g < w.heap.size := World.block_lt_of_cell? _ _ (hg 0 _ rfl)
  obtain ⟨W, hW⟩ : ∃ W : World, W = (w.alloc (.cells #[.int .u64 0, .int .u64 0] 81)) := ⟨_, rfl⟩
  have hbW : Below w.heap.size w W.drew := by
    rw [hW]
    have h1 := (Below.refl w.heap.size w).alloc (Nat.le_refl _) (.cells #[.int .u64 0, .int .u64 0] 81)
    exact h1.trans ⟨rfl, rfl, rfl, Nat.le_refl _, fun _ _ => rfl⟩
  have H0 : ∀ w', Below W.drew.heap.size W.drew w' → ∀ c, Calls Tryd.prog 73 #[.agg #[], .slice (some ⟨g, 0, none⟩) 8 c] w' fun e w'' => e = .returned (.int .u64 lo) ∧ Below w'.heap.size w' w'' := fun w' hb c =>
    leUint64At g 0 8 c lo hlo w' (fun j u hj => by
      rw [hb.cell (show g < _ by have := hbW.size; omega), hbW.cell hgl, Nat.zero_add]
      exact hg j u (by rw [List.getElem?_append_left (by have := (List.getElem?_eq_some_iff.1 hj).1; exact this)]; exact hj)) (Nat.le_refl _)
  have H8 : ∀ w', Below W.drew.heap.size W.drew w' → ∀ c, Calls Tryd.prog 73 #[.agg #[], .slice (some ⟨g, 8, none⟩) 8 c] w' fun e w'' => e = .returned (.int .u64 hi) ∧ Below w'.heap.size w' w'' := fun w' hb c =>
    leUint64At g 8 8 c hi hhi w' (fun j u hj => by
      rw [hb.cell (show g < _ by have := hbW.size; omega), hbW.cell hgl]
      refine hg (8 + j) u ?_
      rw [List.getElem?_append_right (by simp)]
      simpa using hj) (Nat.le_refl _)
  have HP0 := Lib.hid H0
  have HP8 := Lib.hid H8
  have HW := Lib.hid hW
  have HB := Lib.hid hbW
  have HC := Lib.hid hc
  have hsz : W.heap.size = w.heap.size + 1 := by rw [hW]; simp
  have HS := Lib.hid hsz
  have hrow : W.heap[w.heap.size]? = some (.cells #[.int .u64 0, .int .u64 0] 81 (0, 0)) := by rw [hW]; exact heap_alloc_new _ _
  have HROW := Lib.hid hrow
  have i16 : (16 : Int) ≤ (cap : Int) := by omega
  have i8 : (8 : Int) ≤ (cap : Int) := by omega
  have n16 : 16 ≤ cap := hc
  have n8 : 8 ≤ cap := by omega
  have HK := Lib.hid (fun (w' : World) (hb : Below W.drew.heap.size W.drew w') => show w'.heap[w.heap.size]? = some (.cells #[.int .u64 0, .int .u64 0] 81 (0, 0)) from by rw [hb.block _ (by show _ < W.heap.size; omega)]; exact hrow)
  clear H0 H8 hbW hg hlo hhi hsz hrow hW hgl
  go_enter Tryd.func90, Tryd.ntmps90
  go_wp2_with fail
  rw [← HW.out]
  obtain ⟨k0, k1, k2, k3⟩ := row2 (HK.out W.drew (Below.refl _ _))
  go_region_held3 (fun _ => True) (trivial) (first | (go_at_call_of 73 (⟨g, 0, none⟩ : Addr); first | (refine (HP0.out _ hbA _).mono ?_; rintro e w3 ⟨rfl, hbB⟩; obtain ⟨b0, b1, b2, b3⟩ := row2 (HK.out w3 (hbA.trans (hbB.mono hbA.size))); have HB3 := Lib.hid (hbA.trans (hbB.mono hbA.size))) | (refine (HP0.out _ (Below.refl _ _) _).mono ?_; rintro e w2 ⟨rfl, hbA⟩; obtain ⟨a0, a1, a2, a3⟩ := row2 (HK.out w2 hbA))) | (go_at_call_of 73 (⟨g, 8, none⟩ : Addr); first | (refine (HP8.out _ hbA _).mono ?_; rintro e w3 ⟨rfl, hbB⟩; obtain ⟨b0, b1, b2, b3⟩ := row2 (HK.out w3 (hbA.trans (hbB.mono hbA.size))); have HB3 := Lib.hid (hbA.trans (hbB.mono hbA.size))) | (refine (HP8.out _ (Below.refl _ _) _).mono ?_; rintro e w2 ⟨rfl, hbA⟩; obtain ⟨a0, a1, a2, a3⟩ := row2 (HK.out w2 hbA))) | fail)
  all_goals
    have HB3 := Lib.hid (HB.out.trans ((hbA.trans (hbB.mono hbA.size)).mono HB.out.size))
    have hrow3 : w3.heap[w.heap.size]? = some (.cells ([.int .u64 0, .int .u64 0] : List Value).toArray 81 (0, 0)) := HK.out w3 (hbA.trans (hbB.mono hbA.size))
    obtain ⟨g0, g1, -, -⟩ := row2 (row_set (row_set hrow3 0 (.int .u64 (lo : Nat))) 1 (.int .u64 (hi : Nat)))
    clear hbA hbB
    go_wp2_with fail
    refine bodyPost_ret (v := .agg #[.int .u64 (lo : Nat), .int .u64 (hi : Nat)]) (by simp [results, Tryd.results90, go_sem, g0, g1]) rfl ?_
    exact ⟨rfl, (HB3.out.setCell (Nat.le_refl _) _).setCell (Nat.le_refl _) _⟩

set_option maxRecDepth 100000 in
theorem rdU128 (w : World) (F D : Nat → Prop) (r lo hi : Nat) (hlo : lo < 18446744073709551616) (hhi : hi < 18446744073709551616) (rest cur : List UInt8) (h : RdAt w F D r ((leB 8 lo ++ leB 8 hi) ++ rest) cur) (hm : ((leB 8 lo ++ leB 8 hi) ++ rest).length ≤ 140737488355328) :
    Calls Tryd.prog 77 #[.pointer (some ⟨r, 0, none⟩)] w (GotE w F D r (.tuple #[.agg #[.int .u64 lo, .int .u64 hi], .nilIface]) rest) := by
  obtain ⟨b0, v0, hbr0, hx0⟩ := id h
  have hnF : ¬ F w.heap.size := fun e => by have := hx0.inF _ e; omega
  have hnD : ¬ D w.heap.size := fun e => by have := hx0.inD _ e; omega
  obtain ⟨W, hW⟩ : ∃ W : World, W = (w.alloc (.cells #[.int .u64 0, .int .u64 0] 81)) := ⟨_, rfl⟩
  have hbW : Below w.heap.size w W := by rw [hW]; exact (Below.refl _ w).alloc (Nat.le_refl _) _
  have hszW : W.heap.size = w.heap.size + 1 := by rw [hW]; simp
  have hrow0 : W.heap[w.heap.size]? = some (.cells #[.int .u64 0, .int .u64 0] 81 (0, 0)) := by rw [hW]; exact heap_alloc_new _ _
  have hl : (leB 8 lo ++ leB 8 hi).length = 16 := by simp
  have HA := Lib.hid (h.below hbW)
  have HUW := Lib.hid ((Upd.refl F w).below hbW)
  have HX := Lib.hid (And.intro hlo hhi)
  have HN := Lib.hid (And.intro hnF hnD)
  have HR := Lib.hid (And.intro hrow0 hszW)
  have HM := Lib.hid hm
  have HL := Lib.hid hl
  have HW := Lib.hid hW
  clear hbr0 hx0 hnF hnD hbW hszW hrow0 hlo hhi h hm hl hW
  go_enter Tryd.func77, Tryd.ntmps77
  go_wp2_with fail
  rw [← HW.out]
  refine (readFull _ F D r ((leB 8 lo ++ leB 8 hi) ++ rest) cur HA.out 16 (by have := HL.out; rw [List.length_append]; omega) HM.out).mono ?_
  rintro e w1 ⟨rfl, F1, h1, hu⟩
  rw [List.drop_left' HL.out, List.take_left' HL.out] at h1
  obtain ⟨b, g, cap, hc1, hc2, hcap, hg⟩ := h1.view (by intro e; have := congrArg List.length e; rw [HL.out] at this; simp at this)
  rw [HL.out] at hc2 hcap
  have hrow1 : w1.heap[w.heap.size]? = some (.cells ([.int .u64 0, .int .u64 0] : List Value).toArray 81 (0, 0)) := by
    rw [hu.chg.block _ (by have := HR.out.2; omega) HN.out.1]; exact HR.out.1
  have hnF1 : ¬ F1 w.heap.size := fun e => by
    rcases hu.new _ e with h2 | h2
    · exact HN.out.1 h2
    · have := HR.out.2; omega
  have HG := Lib.hid (binU128 w1 g cap lo hi HX.out.1 HX.out.2 hcap hg)
  have H1 := Lib.hid h1
  have HU := Lib.hid (HUW.out.trans hu)
  have HR1 := Lib.hid hrow1
  have HN1 := Lib.hid hnF1
  clear hg h1 hu hrow1 hnF1
  go_wp2_with (go_at_call 90; refine HG.out.mono ?_; rintro e w2 ⟨rfl, hb2⟩; have hrow2 : w2.heap[w.heap.size]? = some (.cells ([.int .u64 0, .int .u64 0] : List Value).toArray 81 (0, 0)) := (by rw [hb2.block _ (Array.getElem?_eq_some_iff.1 HR1.out).1]; exact HR1.out); obtain ⟨c0, c1, z0, z1⟩ := row2 hrow2; obtain ⟨g0, g1, -, -⟩ := row2 (row_set (row_set hrow2 0 (.int .u64 (lo : Nat))) 1 (.int .u64 (hi : Nat))); have HB2 := Lib.hid hb2; clear hb2 hrow2)
  refine bodyPost_ret (v := .tuple #[.agg #[.int .u64 (lo : Nat), .int .u64 (hi : Nat)], .nilIface]) (by simp [results, Tryd.results77, go_sem, g0, g1]) rfl ?_
  have hC : Chg (· = w.heap.size) w2 ((w2.setCell ⟨w.heap.size, 0, none⟩ (.int .u64 (lo : Nat))).setCell ⟨w.heap.size, 1, none⟩ (.int .u64 (hi : Nat))) := ((Chg.refl (· = w.heap.size) w2).setCell (.inl rfl) _).setCell (.inl rfl) _
  have hu2 := HU.out.below HB2.out
  exact ⟨rfl, F1, _, (H1.out.below HB2.out).upd hC (fun k hk e => HN1.out (e ▸ hk)) (fun k hk e => HN.out.2 (e ▸ hk)), hu2.chg.trans hC (fun i hi e => by omega), hu2.new_grow hC.size⟩
end Go.Proofs.YtlohpmncagfecaaDoor
