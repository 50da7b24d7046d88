/- spec.ARPairs; laws.FnARReadMap. -/
import Derived.Test.YtemmhlibbihjmaaGreatMapR
import Derived.Test.YtemmhlibbihjmaaGreatMapA
import Derived.Test.YtemmhlibbihjmaaGreatNulL
namespace Go.Proofs.YtemmhlibbihjmaaGreat
open Go.RowKit
set_option linter.unusedVariables false
set_option linter.unusedSimpArgs false

/-- Of two slices of the call's own one has grown. -/
theorem both_step {w wr X w5 : World} {F1 F2 F5 : Nat → Prop} {E2 : TypeId} {s2 n2 : Nat} {v2 : Value} {xs2 : List Value} (hb : Below w.heap.size w wr) (h2 : OwnR wr F2 E2 s2 v2 n2 xs2) (i1 : In F1 wr) (i2 : In F2 wr) (hd : Disj F1 F2) (hlow : ∀ k, F1 k ∨ F2 k → w.heap.size ≤ k)
    (hX : Below wr.heap.size wr X) (hu : Upd X w5 F1 F5) : OwnR w5 F2 E2 s2 v2 n2 xs2 ∧ In F5 w5 ∧ In F2 w5 ∧ Disj F5 F2 ∧ (∀ k, F5 k ∨ F2 k → w.heap.size ≤ k) ∧ Below w.heap.size w w5 := by
  have hs1 := hX.size
  have hs5 := hu.chg.size
  have hbw := hb.size
  refine ⟨(h2.keep hX).upd hu.chg hd.symm, hu.inn (i1.mono hs1), i2.mono (by omega), fun k hk h => ?_, fun k hk => ?_, (hb.trans (hX.mono hbw)).trans (hu.chg.below (by omega) fun k hk => hlow k (.inl hk))⟩
  · rcases hu.new k hk with h5 | h5
    · exact hd k h5 h
    · have := i2 k h; omega
  · rcases hk with h | h
    · rcases hu.new k h with h5 | h5
      · exact hlow k (.inl h5)
      · omega
    · exact hlow k (.inr h)
theorem src_str {w : World} (g : Nat) (s : ByteArray) (h : w.heap[g]? = some (.cells #[.string s] 9 (0, 0))) : Src Tryz.prog 1 35 (.slice (some ⟨g, 0, none⟩) 1 1) 1 [.string s] w := src_new elemStrs g [.string s] _ h rfl (by simp [Value.oneCell']) 1

abbrev oS (s : ByteArray) : Obj := .cells #[.string s] 9
theorem new_oS (W : World) (s : ByteArray) : (W.alloc (oS s)).heap[W.heap.size]? = some (.cells #[.string s] 9 (0, 0)) := heap_alloc_new W _

set_option maxRecDepth 100000 in
set_option maxHeartbeats 2000000 in
theorem arPairsB (w : World) (v : Value) (ll : List (List Pr)) (h : LstP w v ll) (hl : ll.length ≤ 1000) (hf : ll.flatten.length ≤ 100000) (hs1 : Small (bytesOf (kk ll).flatten)) (hs2 : Small (bytesOf (vv ll).flatten)) :
    Calls Tryz.prog 14 #[v] w (MadeO w ((offsOf (kk ll)).flatMap le8 ++ (encS (bytesOf (kk ll).flatten) ++ encS (bytesOf (vv ll).flatten)))) := by
  obtain ⟨p, c, rfl, hc⟩ := h.slice
  have HL := Lib.hid h
  have HSM := Lib.hid (And.intro hs1 hs2)
  have HF := Lib.hid (arFlatP w _ ll h (by omega) (by omega))
  clear h hs1 hs2
  go_enter Tryz.func14, Tryz.ntmps14
  go_wp2_with fail
  refine HF.out.mono ?_
  rintro e w1 ⟨x1, rfl, hx1, hb1, ho1⟩
  have hx1' : PairL w1 x1 ll.flatten := hx1
  obtain ⟨A, hA⟩ : ∃ A, A = ll.flatten := ⟨_, rfl⟩
  rw [← hA] at hx1' hf
  obtain ⟨px, cx, rfl, hcx⟩ := hx1'.slice
  have HX1 := Lib.hid (And.intro hx1' (And.intro hb1 ho1))
  have HAE := Lib.hid hA
  clear hx1 hx1' hb1 ho1 HF hA
  go_wp2_with fail
  go_loopw [4, 5, 6] (fun vk vx vi wr => ∃ (i : Nat) (F1 F2 : Nat → Prop), i ≤ A.length ∧ vi = .int .i64 i ∧ OwnR wr F1 9 1 vk i (((A.take i).map Prod.fst).map Value.string) ∧ OwnR wr F2 9 1 vx i (((A.take i).map Prod.snd).map Value.string) ∧ In F1 wr ∧ In F2 wr ∧ Disj F1 F2 ∧ (∀ k, F1 k ∨ F2 k → w1.heap.size ≤ k) ∧ Below w1.heap.size w1 wr) (fun _ _ vi _ => A.length - (intOf vi).toNat)
  case atStart => exact ⟨0, fun _ => False, fun _ => False, Nat.zero_le _, rfl, OwnR.nil _ _ _ _, OwnR.nil _ _ _ _, fun _ h => h.elim, fun _ h => h.elim, fun _ h => h.elim, fun _ h => (h.elim id id).elim, Below.refl _ _⟩
  case round =>
    obtain ⟨i, F1, F2, hi, rfl, h1, h2, i1, i2, hd, hlow, hb⟩ := hrel
    obtain ⟨pm, cm, rfl⟩ := h1.slice
    obtain ⟨pv, cv, rfl⟩ := h2.slice
    by_cases hlt : i < A.length
    · obtain ⟨m, hsi⟩ : ∃ m, A[i]? = some m := ⟨_, List.getElem?_eq_getElem hlt⟩
      obtain ⟨gp, op, rfl, -, -, -, hck0, hcv0⟩ := PairL.row HX1.out.1 hsi
      have hgp : gp < w1.heap.size := World.block_lt_of_cell? _ _ hck0
      have HS : Hid (((A.take (i + 1)).map Prod.fst).map Value.string = ((A.take i).map Prod.fst).map Value.string ++ [.string m.1] ∧ ((A.take (i + 1)).map Prod.snd).map Value.string = ((A.take i).map Prod.snd).map Value.string ++ [.string m.2]) := Lib.hid (by rw [takeSnoc hsi]; simp)
      obtain ⟨kx, vx⟩ := m
      simp only at hck0 hcv0 HS
      have HCELL : Hid (∀ W, Below w1.heap.size w1 W → W.cell? ⟨gp, op + i * 2, none⟩ = some (.string kx) ∧ W.cell? ⟨gp, op + i * 2 + 1, none⟩ = some (.string vx)) := Lib.hid fun W hbW => by
        rw [hbW.cell (p := ⟨gp, op + i * 2, none⟩) hgp, hbW.cell (p := ⟨gp, op + i * 2 + 1, none⟩) hgp]
        exact ⟨hck0, hcv0⟩
      obtain ⟨hck, hcv⟩ := HCELL.out wr hb
      have hbd : Below wr.heap.size wr wr.drew := drewBelow wr
      have hX1 : Below wr.heap.size wr (wr.drew.alloc (oS kx)) := below_alloc hbd (Nat.le_refl _) _
      have hX2 : Below wr.heap.size wr ((wr.drew.alloc (oS kx)).alloc (oS vx)) := below_alloc hX1 (Nat.le_refl _) _
      have hY1 : Below wr.heap.size wr (wr.drew.alloc (oS vx)) := below_alloc hbd (Nat.le_refl _) _
      have hX3 : Below wr.heap.size wr ((wr.drew.alloc (oS vx)).alloc (oS kx)) := below_alloc hY1 (Nat.le_refl _) _
      have n1 := new_oS wr.drew kx
      have n1b : ((wr.drew.alloc (oS kx)).alloc (oS vx)).heap[wr.heap.size]? = some (.cells #[.string kx] 9 (0, 0)) := by rw [Below.heap_alloc _ _ _ (by rw [World.size_alloc]; show wr.heap.size < wr.heap.size + 1; omega)]; exact n1
      have n2b : ((wr.drew.alloc (oS kx)).alloc (oS vx)).heap[wr.heap.size + 1]? = some (.cells #[.string vx] 9 (0, 0)) := by have h := new_oS (wr.drew.alloc (oS kx)) vx; rw [World.size_alloc] at h; exact h
      have n1c : ((wr.drew.alloc (oS vx)).alloc (oS kx)).heap[wr.heap.size + 1]? = some (.cells #[.string kx] 9 (0, 0)) := by have h := new_oS (wr.drew.alloc (oS vx)) kx; rw [World.size_alloc] at h; exact h
      have n2c : ((wr.drew.alloc (oS vx)).alloc (oS kx)).heap[wr.heap.size]? = some (.cells #[.string vx] 9 (0, 0)) := by rw [Below.heap_alloc _ _ _ (by rw [World.size_alloc]; show wr.heap.size < wr.heap.size + 1; omega)]; exact new_oS wr.drew vx
      have T1a := Lib.hid (And.intro (h1.keep hX1) (src_str (w := wr.drew.alloc (oS kx)) wr.heap.size kx n1))
      have T1b := Lib.hid (And.intro (h1.keep hX2) (src_str (w := (wr.drew.alloc (oS kx)).alloc (oS vx)) wr.heap.size kx n1b))
      have T1c := Lib.hid (And.intro (h1.keep hX3) (src_str (w := (wr.drew.alloc (oS vx)).alloc (oS kx)) (wr.heap.size + 1) kx n1c))
      have T2 : Hid (∀ X w5 F5, Below wr.heap.size wr X → Upd X w5 F1 F5 → OwnR w5 F2 9 1 (.slice pv i cv) i (((A.take i).map Prod.snd).map Value.string) ∧ In F5 w5 ∧ In F2 w5 ∧ Disj F5 F2 ∧ (∀ k, F5 k ∨ F2 k → w1.heap.size ≤ k) ∧ Below w1.heap.size w1 w5) := Lib.hid fun X w5 F5 hX hu => both_step hb h2 i1 i2 hd hlow hX hu
      have T2b : Hid (∀ w5 F5, Upd ((wr.drew.alloc (oS kx)).alloc (oS vx)) w5 F1 F5 → Src Tryz.prog 1 35 (.slice (some ⟨wr.heap.size + 1, 0, none⟩) 1 1) 1 [.string vx] w5) := Lib.hid fun w5 F5 hu => src_str _ vx (by rw [hu.chg.block (wr.heap.size + 1) (Array.getElem?_eq_some_iff.1 n2b).1 (fun e => by have := i1 _ e; omega)]; exact n2b)
      have T2c : Hid (∀ w5 F5, Upd ((wr.drew.alloc (oS vx)).alloc (oS kx)) w5 F1 F5 → Src Tryz.prog 1 35 (.slice (some ⟨wr.heap.size, 0, none⟩) 1 1) 1 [.string vx] w5) := Lib.hid fun w5 F5 hu => src_str _ vx (by rw [hu.chg.block wr.heap.size (Array.getElem?_eq_some_iff.1 n2c).1 (fun e => by have := i1 _ e; omega)]; exact n2c)
      have T3 : Hid (∀ W : World, Src Tryz.prog 1 35 (.slice (some ⟨W.heap.size, 0, none⟩) 1 1) 1 [.string vx] (W.alloc (oS vx))) := Lib.hid fun W => src_str W.heap.size vx (new_oS W vx)
      have HBX := Lib.hid (And.intro hX1 (And.intro hX2 hX3))
      have HBD : Hid (i + 1 ≤ 140737488355328 ∧ (i + 1) * 16 ≤ 140737488355328) := Lib.hid (by omega)
      clear h1 h2 i1 i2 hd hlow hb hsi hck0 hcv0 hbd hX1 hX2 hY1 hX3 n1 n1b n2b n1c n2c
      go_wp2_with fail
      go_region_held3 (fun w' => w'.cell? ⟨gp, op + i * 2, none⟩ = some (.string kx) ∧ w'.cell? ⟨gp, op + i * 2 + 1, none⟩ = some (.string vx)) (first | exact ⟨q0, q1⟩ | exact ⟨r0, r1⟩ | exact ⟨hck, hcv⟩ | go_keep)
        (first
          | (refine step_append_rows elemStrs _ F1 i 1 _ _ (by rfl) _ _ _ (by rfl) _ (by rfl) T1a.out.1 _ (by rfl) T1a.out.2 HBD.out.1 HBD.out.2 ?_; intro p5 c5 w5 F5 hown5 hu5; have hA5 := T2.out _ w5 F5 HBX.out.1 hu5; obtain ⟨r0, r1⟩ := HCELL.out w5 hA5.2.2.2.2.2)
          | (refine step_append_rows elemStrs _ F1 i 1 _ _ (by rfl) _ _ _ (by rfl) _ (by rfl) T1b.out.1 _ (by rfl) T1b.out.2 HBD.out.1 HBD.out.2 ?_; intro p5 c5 w5 F5 hown5 hu5; have hA5 := T2.out _ w5 F5 HBX.out.2.1 hu5; obtain ⟨r0, r1⟩ := HCELL.out w5 hA5.2.2.2.2.2)
          | (refine step_append_rows elemStrs _ F1 i 1 _ _ (by rfl) _ _ _ (by rfl) _ (by rfl) T1c.out.1 _ (by rfl) T1c.out.2 HBD.out.1 HBD.out.2 ?_; intro p5 c5 w5 F5 hown5 hu5; have hA5 := T2.out _ w5 F5 HBX.out.2.2 hu5; obtain ⟨r0, r1⟩ := HCELL.out w5 hA5.2.2.2.2.2)
          | (refine step_append_rows elemStrs _ F2 i 1 _ _ (by rfl) _ _ _ (by rfl) _ (by rfl) (hA5.1.keep ((Below.refl _ w5).alloc (Nat.le_refl _) (oS vx))) _ (by rfl) (T3.out w5) HBD.out.1 HBD.out.2 ?_; intro p6 c6 w6 F6 hown6 hu6; have hu6' := ((Upd.refl F2 w5).alloc (oS vx)).trans hu6; have hB6 := both_step hA5.2.2.2.2.2 hown5 hA5.2.2.1 hA5.2.1 hA5.2.2.2.1.symm (fun k hk => hA5.2.2.2.2.1 k hk.symm) (Below.refl _ w5) hu6'; obtain ⟨q0, q1⟩ := HCELL.out w6 hB6.2.2.2.2.2)
          | (refine step_append_rows elemStrs _ F2 i 1 _ _ (by rfl) _ _ _ (by rfl) _ (by rfl) hA5.1 _ (by rfl) (T2b.out w5 F5 hu5) HBD.out.1 HBD.out.2 ?_; intro p6 c6 w6 F6 hown6 hu6; have hu6' := hu6; have hB6 := both_step hA5.2.2.2.2.2 hown5 hA5.2.2.1 hA5.2.1 hA5.2.2.2.1.symm (fun k hk => hA5.2.2.2.2.1 k hk.symm) (Below.refl _ w5) hu6'; obtain ⟨q0, q1⟩ := HCELL.out w6 hB6.2.2.2.2.2)
          | (refine step_append_rows elemStrs _ F2 i 1 _ _ (by rfl) _ _ _ (by rfl) _ (by rfl) hA5.1 _ (by rfl) (T2c.out w5 F5 hu5) HBD.out.1 HBD.out.2 ?_; intro p6 c6 w6 F6 hown6 hu6; have hu6' := hu6; have hB6 := both_step hA5.2.2.2.2.2 hown5 hA5.2.2.1 hA5.2.1 hA5.2.2.2.1.symm (fun k hk => hA5.2.2.2.2.1 k hk.symm) (Below.refl _ w5) hu6'; obtain ⟨q0, q1⟩ := HCELL.out w6 hB6.2.2.2.2.2)
          | fail)
      all_goals
        go_wp2_with fail
        go_roundw
        case rel => exact ⟨i + 1, F5, F6, hlt, by go_num, by rw [HS.out.1]; exact hB6.1, by rw [HS.out.2]; exact hown6, hB6.2.2.1, hB6.2.1, hB6.2.2.2.1.symm, fun k hk => hB6.2.2.2.2.1 k hk.symm, hB6.2.2.2.2.2⟩
        case measure => simp [intOf]; omega
    · obtain rfl : i = A.length := by omega
      rw [List.take_length] at h1 h2
      obtain ⟨hx1, hb1, ho1⟩ := HX1.out
      have hbw : Below w.heap.size w wr := hb1.trans (hb.mono hb1.size)
      obtain ⟨K1, hK1⟩ : ∃ K1, K1 = A.map Prod.fst := ⟨_, rfl⟩
      obtain ⟨V1, hV1⟩ : ∃ V1, V1 = A.map Prod.snd := ⟨_, rfl⟩
      have hkl : K1.length = A.length := by rw [hK1, List.length_map]
      have hvl : V1.length = A.length := by rw [hV1, List.length_map]
      have hk : StrL wr (.slice pm A.length cm) K1 := by unfold StrL; rw [hkl, hK1]; exact h1.flat
      have hv : StrL wr (.slice pv A.length cv) V1 := by unfold StrL; rw [hvl, hV1]; exact h2.flat
      have hk2 : K1 = (kk ll).flatten := by rw [hK1, HAE.out, kk_flat]
      have hv2 : V1 = (vv ll).flatten := by rw [hV1, HAE.out, vv_flat]
      have HKV := Lib.hid (And.intro hk (And.intro hv (And.intro hk2 (And.intro hv2 hbw))))
      have HLN := Lib.hid (arLensP wr _ ll (HL.out.below pairL_stable hbw) (by omega))
      have hll : (lensOf (kk ll)).length = ll.length := by rw [lensOf_kk, List.length_map]
      have hsum : (lensOf (kk ll)).sum ≤ 1000000000 := by rw [lensOf_sum, ← hk2, hkl]; omega
      have HLL := Lib.hid (And.intro hll hsum)
      clear h1 h2 i1 i2 hd hlow hb hx1 hb1 ho1 hbw hK1 hV1 hkl hvl hk hv hk2 hv2 hll hsum
      go_wp2_with fail
      refine HLN.out.mono ?_
      rintro e w2 ⟨y2, rfl, hy2, hb2, -⟩
      have hy2' : FlatAt w2 y2 (lensOf (kk ll)).length (intsN (lensOf (kk ll))) := by rw [HLL.out.1, lensOf_kk]; exact hy2
      have HO := Lib.hid (arOffsetsV w2 y2 (lensOf (kk ll)) hy2' (by rw [HLL.out.1]; omega) HLL.out.2)
      obtain ⟨p2, c2, rfl, -⟩ := hy2.slice
      have HB2 := Lib.hid hb2
      clear hy2 hy2' hb2 HLN
      go_wp2_with fail
      refine HO.out.mono ?_
      intro e w3 hm3
      obtain ⟨p3, c3, rfl, s3, hb3⟩ := hm3.since (Below.refl _ _)
      have h3 : BytesAt w3 _ ((offsOf (kk ll)).flatMap le8) := s3.bytes
      obtain ⟨B1, hB1⟩ : ∃ B1, B1 = (offsOf (kk ll)).flatMap le8 := ⟨_, rfl⟩
      have hb23 := HB2.out.trans (hb3.mono HB2.out.size)
      have HST := Lib.hid (stStringsV w3 _ K1 (HKV.out.1.below hb23) (by rw [HKV.out.2.2.1]; exact HSM.out.1))
      rw [show (sumsOf 0 (lensOf (kk ll))).flatMap le8 = (offsOf (kk ll)).flatMap le8 from rfl, ← hB1] at h3 ⊢
      have H3 := Lib.hid (And.intro h3 hb23)
      have HB1 := Lib.hid hB1
      clear hm3 s3 hb3 h3 hb23 HO hB1
      go_wp2_with fail
      refine HST.out.mono ?_
      intro e w4 hm4
      obtain ⟨p4, c4, rfl, s4, hb4⟩ := hm4.since (Below.refl _ _)
      obtain ⟨B2, hB2⟩ : ∃ B2, B2 = encS (bytesOf K1) := ⟨_, rfl⟩
      rw [← hB2] at s4 ⊢
      have hb34 := H3.out.2.trans (hb4.mono H3.out.2.size)
      have HSV := Lib.hid (stStringsV w4 _ V1 (HKV.out.2.1.below hb34) (by rw [HKV.out.2.2.2.1]; exact HSM.out.2))
      have H4 := Lib.hid (And.intro s4.bytes (And.intro hb4 hb34))
      have HB2 := Lib.hid hB2
      clear hm4 s4 hb4 hb34 HST hB2
      go_wp2_with fail
      refine HSV.out.mono ?_
      intro e w5 hm5
      obtain ⟨p5, c5, rfl, s5, hb5⟩ := hm5.since (Below.refl _ _)
      obtain ⟨B3, hB3⟩ : ∃ B3, B3 = encS (bytesOf V1) := ⟨_, rfl⟩
      rw [← hB3] at s5 ⊢
      have hb45 := H4.out.2.1.trans (hb5.mono H4.out.2.1.size)
      have hbr5 := H4.out.2.2.trans (hb5.mono H4.out.2.2.size)
      have hB1l : B1.length ≤ 8000 := by rw [HB1.out, le8s_length, offsOf_length, kk_length]; omega
      have hB2l : B2.length ≤ 300000000 := by
        rw [HB2.out]
        have h1 := encS_small (bytesOf K1)
        have h2 : Small (bytesOf K1) := by rw [HKV.out.2.2.1]; exact HSM.out.1
        have h3 := h2.1
        have h4 := h2.2
        omega
      have hB3l : B3.length ≤ 300000000 := by
        rw [hB3]
        have h1 := encS_small (bytesOf V1)
        have h2 : Small (bytesOf V1) := by rw [HKV.out.2.2.2.1]; exact HSM.out.2
        have h3 := h2.1
        have h4 := h2.2
        omega
      have HJ := Lib.hid (join_three w5 _ _ _ B1 B2 B3 (H3.out.1.below hb45) (H4.out.1.below hb5) s5.bytes (by omega))
      have hbw5 : Below w.heap.size w w5 := HKV.out.2.2.2.2.trans (hbr5.mono HKV.out.2.2.2.2.size)
      have hba : Below w.heap.size w (w5.alloc (.cells #[.slice p3 B1.length c3, .slice p4 B2.length c4, .slice p5 B3.length c5] 29)) := hbw5.trans (((Below.refl _ w5).alloc (Nat.le_refl _) _).mono hbw5.size)
      have HBA := Lib.hid hba
      have HEQ : Hid (B1 ++ (B2 ++ B3) = (offsOf (kk ll)).flatMap le8 ++ (encS (bytesOf (kk ll).flatten) ++ encS (bytesOf (vv ll).flatten))) := Lib.hid (by rw [HB1.out, HB2.out, hB3, HKV.out.2.2.1, HKV.out.2.2.2.1])
      obtain ⟨JJ, hJJ⟩ : ∃ JJ, JJ = B1 ++ (B2 ++ B3) := ⟨_, rfl⟩
      rw [← hJJ] at HJ HEQ
      clear hm5 s5 hb5 HSV hB3 hb45 hbr5 hbw5 hba hJJ
      go_wp2_with fail
      refine HJ.out.mono ?_
      intro e w6 hm6
      have hm7 := MadeO.of_below HBA.out hm6
      obtain ⟨p6, c6, F6, rfl, q1, q2, q3⟩ := hm7
      have HM : Hid (MadeO w JJ (.returned (.slice p6 JJ.length c6)) w6) := Lib.hid ⟨p6, c6, F6, rfl, q1, q2, q3⟩
      clear hm6 q1 q2 q3
      go_wp2_with fail
      go_ret
      have h := HM.out
      obtain rfl := HEQ.out
      exact h

theorem pairsOf_each (ll : List (List Pr)) : (pairsOf ll).length ≤ 13 ∧ ∀ ps ∈ pairsOf ll, ps.length ≤ 8 ∧ ∀ m ∈ ps, m.1.size ≤ 60 ∧ m.2.size ≤ 60 := by
  unfold pairsOf
  refine ⟨by simp; omega, fun ps hp => ?_⟩
  rcases List.mem_append.1 hp with hp | hp
  · obtain ⟨x, -, rfl⟩ := List.mem_map.1 hp
    unfold rowP
    refine ⟨by simp; omega, fun m hm => ?_⟩
    obtain ⟨y, -, rfl⟩ := List.mem_map.1 hm
    exact ⟨cut60_size _, cut60_size _⟩
  · obtain rfl := List.mem_singleton.1 hp
    exact ⟨by simp, fun m hm => by rw [List.mem_singleton.1 hm]; decide⟩
theorem pairs_little (ll : List (List Pr)) : Little (kk (pairsOf ll)) ∧ Little (vv (pairsOf ll)) := by
  obtain ⟨h1, h2⟩ := pairsOf_each ll
  refine ⟨little_of _ 13 8 (by rw [kk_length]; exact h1) (fun ss hs => ?_) (by omega) (by omega), little_of _ 13 8 (by simpa [vv] using h1) (fun ss hs => ?_) (by omega) (by omega)⟩
  · obtain ⟨ps, hp, rfl⟩ := List.mem_map.1 hs
    refine ⟨by rw [List.length_map]; exact (h2 ps hp).1, fun s hs2 => ?_⟩
    obtain ⟨m, hm, rfl⟩ := List.mem_map.1 hs2
    exact ((h2 ps hp).2 m hm).1
  · obtain ⟨ps, hp, rfl⟩ := List.mem_map.1 hs
    refine ⟨by rw [List.length_map]; exact (h2 ps hp).1, fun s hs2 => ?_⟩
    obtain ⟨m, hm, rfl⟩ := List.mem_map.1 hs2
    exact ((h2 ps hp).2 m hm).2

end Go.Proofs.YtemmhlibbihjmaaGreat
