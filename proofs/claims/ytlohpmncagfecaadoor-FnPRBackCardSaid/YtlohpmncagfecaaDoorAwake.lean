/- laws.prAwake. -/
import Derived.Test.YtlohpmncagfecaaDoorPRGet
namespace Go.Proofs.YtlohpmncagfecaaDoor
open Go.RowKit
set_option linter.unnecessarySimpa false
set_option linter.unusedVariables false
set_option linter.unusedSimpArgs false

theorem flat4 : ∀ (gs : List Gt) (svs : List Value) (i j : Nat) (g : Gt) (sv : Value), gs[i]? = some g → svs[i]? = some sv → j < 4 → (List.zipWith gtCells gs svs).flatten[i * 4 + j]? = (gtCells g sv)[j]?
  | [], _, _, _, _, _, h, _, _ => by simp at h
  | _ :: _, [], _, _, _, _, _, h, _ => by simp at h
  | g0 :: gs, s0 :: svs, 0, j, g, sv, hg, hs, hj => by
    simp at hg hs
    subst hg hs
    simp only [List.zipWith_cons_cons, List.flatten_cons, Nat.zero_mul, Nat.zero_add]
    rw [List.getElem?_append_left (by simpa [gtCells] using hj)]
  | g0 :: gs, s0 :: svs, i + 1, j, g, sv, hg, hs, hj => by
    simp only [List.getElem?_cons_succ] at hg hs
    have ih := flat4 gs svs i j g sv hg hs hj
    simp only [List.zipWith_cons_cons, List.flatten_cons]
    rw [List.getElem?_append_right (by simp [gtCells]; omega), ← ih]
    congr 1
    simp [gtCells]
    omega

theorem Outs.at {B : Nat} {w : World} {Fo F : Nat → Prop} {v : Value} {gs : List Gt} (h : Outs B w Fo F v gs) {i : Nat} {g : Gt} (hg : gs[i]? = some g) :
    ∃ gb cap sv, v = .slice (some ⟨gb, 0, none⟩) gs.length cap ∧ gs.length ≤ cap ∧ gb < w.heap.size ∧ w.cell? ⟨gb, i * 4, none⟩ = some (.int .u64 (g.u : Nat)) ∧ w.cell? ⟨gb, i * 4 + 1, none⟩ = some (.int .u64 (g.v : Nat)) ∧ w.cell? ⟨gb, i * 4 + 2, none⟩ = some sv ∧ w.cell? ⟨gb, i * 4 + 3, none⟩ = some (.bool g.err) ∧ BytesAt w sv g.s := by
  obtain ⟨svs, h1, h2, h3, h4⟩ := h
  have hi : i < gs.length := (List.getElem?_eq_some_iff.1 hg).1
  obtain ⟨sv, hsv⟩ : ∃ sv, svs[i]? = some sv := ⟨_, List.getElem?_eq_getElem (by omega)⟩
  have hf := fun j hj => flat4 gs svs i j g sv hg hsv hj
  rcases h2.cells with ⟨rfl, h0⟩ | ⟨gb, cap, rfl, hc, hF, hlt, hcell⟩
  · have := hf 0 (by omega)
    rw [h0] at this
    simp [gtCells] at this
  · exact ⟨gb, cap, sv, rfl, hc, hlt, (hcell _ _ (hf 0 (by omega))).1, (hcell _ _ (hf 1 (by omega))).1, (hcell _ _ (hf 2 (by omega))).1, (hcell _ _ (hf 3 (by omega))).1, (h3 i g sv hg hsv).1⟩

theorem uv300 : uv 300 = [172, 2] := by decide +kernel

/-- One value that has just been laid. -/
theorem prims_new (w : World) (x : Pr) (sv : Value) (T : TypeId) (hs : BytesAt w sv x.s) (hg : ∀ g, sv.ownBlock = some g → g < w.heap.size) (hu : x.u < 18446744073709551616) (hv : x.v < 18446744073709551616) (hl : x.s.length ≤ 1000) (c : Nat) (hc : 1 ≤ c) :
    PrimsAt (w.alloc (.cells #[.int .i64 x.op, .int .u64 (x.u : Nat), .int .u64 (x.v : Nat), sv] T)) (w.heap.size + 1) (.slice (some ⟨w.heap.size, 0, none⟩) 1 c) [x] := by
  refine .inr ⟨w.heap.size, 0, c, rfl, hc, by omega, fun i y hy => ?_⟩
  obtain ⟨rfl, rfl⟩ : i = 0 ∧ x = y := by
    cases i with
    | zero => simpa using hy
    | succ i => simp at hy
  obtain ⟨⟨c0, c1, c2, c3⟩, -⟩ := row4 (heap_alloc_new w (.cells #[.int .i64 x.op, .int .u64 (x.u : Nat), .int .u64 (x.v : Nat), sv] T))
  exact ⟨sv, by simpa using c0, by simpa using c1, by simpa using c2, by simpa using c3, (BytesAt.x hs).alloc _, fun g _ h => by have := hg g h; omega, hu, hv, by omega⟩

theorem bytes2_new (w : World) (a b : UInt8) (T : TypeId) : BytesAt (w.alloc (.cells #[.int .u8 (a.toNat : Int), .int .u8 (b.toNat : Int)] T)) (.slice (some ⟨w.heap.size, 0, none⟩) 2 2) [a, b] := by
  refine .inr ⟨w.heap.size, 0, 2, rfl, Nat.le_refl _, fun j hj => ?_⟩
  have h := rowIs_new w [.int .u8 (a.toNat : Int), .int .u8 (b.toNat : Int)] T
  rw [Nat.zero_add]
  refine h j _ ?_
  match j, hj with
  | 0, _ => rfl
  | 1, _ => rfl

set_option maxRecDepth 100000 in
theorem prAwake (w : World) : Calls Tryd.prog 11 #[] w fun e w' => e = .returned (.bool true) ∧ Below w.heap.size w w' := by
  have hrun : Run [⟨15, 0, 0, []⟩] [172, 2] [⟨300, 0, [], false⟩] := by
    rw [← uv300]
    refine .ok _ _ _ [] _ _ rfl (getMore _ _ _ _ (by decide) (by decide) ?_) (by simp) (.nil _)
    have := more15 0 0 300 [] [] (by decide)
    simpa using this
  have hbs := bytes2_new w 172 2 5
  have hpr := prims_new (w.alloc (.cells #[.int .u8 ((172 : UInt8).toNat : Int), .int .u8 ((2 : UInt8).toNat : Int)] 5)) ⟨15, 0, 0, []⟩ (.slice none 0 0) 28 (.inl ⟨rfl, rfl⟩) (by simp [Value.ownBlock]) (by decide) (by decide) (by simp) 1 (Nat.le_refl _)
  have hG := prGet _ _ _ _ _ _ _ (hbs.alloc _) (by intro g hg; simp [Value.ownBlock] at hg; subst hg; simp; omega) hpr (by simp) (by simp) (by simp) hrun
  have hB0 : Below w.heap.size w ((w.alloc (.cells #[.int .u8 ((172 : UInt8).toNat : Int), .int .u8 ((2 : UInt8).toNat : Int)] 5)).alloc (.cells #[.int .i64 15, .int .u64 0, .int .u64 0, .slice none 0 0] 28)) := ((Below.refl _ w).alloc (Nat.le_refl _) _).alloc (by simp) _
  have HG := Lib.hid hG
  have HB0 := Lib.hid hB0
  clear hrun hbs hpr hG hB0
  simp only [World.size_alloc] at HG
  go_enter Tryd.func11, Tryd.ntmps11
  go_wp2_with fail
  refine HG.out.mono ?_
  rintro e w1 ⟨v1, Fo, rfl, hout, hb1⟩
  have HOUT := Lib.hid hout
  have hB1 := HB0.out.trans (hb1.mono (by simp; omega))
  have hpr2 := prims_new w1 ⟨15, 300, 0, []⟩ (.slice none 0 0) 28 (.inl ⟨rfl, rfl⟩) (by simp [Value.ownBlock]) (by decide) (by decide) (by simp) 1 (Nat.le_refl _)
  have HP := Lib.hid (prPut _ _ _ _ hpr2 (by simp) ⟨by decide, by decide⟩)
  clear hout hb1 hpr2
  go_wp2_with fail
  refine HP.out.mono ?_
  rintro e w2 ⟨hb2, v2, rfl, hv2, hg2⟩
  have he : prsBytes [⟨15, 300, 0, []⟩] = [172, 2] := by rw [← uv300]; simp [prsBytes, prBytes, primBytes]
  rw [he] at hv2
  have hb12 : Below w1.heap.size w1 w2 := ((Below.refl _ w1).alloc (Nat.le_refl _) _).trans (hb2.mono (by simp))
  have hB2 := hB1.trans (hb12.mono hB1.size)
  obtain ⟨p2, c2, rfl⟩ := hv2.slice
  obtain ⟨gb, cap, sv, rfl, hcap, hgl, k0, k1, k2, k3, -⟩ := HOUT.out.at (i := 0) rfl
  have j0 : w2.cell? ⟨gb, 0, none⟩ = some (.int .u64 300) := by rw [hb12.cell hgl]; simpa using k0
  have j3 : w2.cell? ⟨gb, 3, none⟩ = some (.bool false) := by rw [hb12.cell hgl]; simpa using k3
  have HV2 := Lib.hid hv2
  have hcap1 : 1 ≤ cap := hcap
  clear hg2 he hb2 hb12 hv2 hB1 k0 k1 k2 k3 HOUT HP hcap
  go_wp2_with fail
  refine (bytesEqual _ _ _ [172, 2] [172, 2] (HV2.out.alloc _) (bytes2_new w2 172 2 5)).mono ?_
  rintro e w3 ⟨rfl, hw3⟩
  have hB3 : Below w.heap.size w w3 := by rw [← hw3]; exact hB2.alloc hB2.size _
  have l0 : w3.cell? ⟨gb, 0, none⟩ = some (.int .u64 300) := by rw [← hw3]; exact (cell_later ((Below.refl _ w2).alloc (Nat.le_refl _) _) j0)
  have l3 : w3.cell? ⟨gb, 3, none⟩ = some (.bool false) := by rw [← hw3]; exact (cell_later ((Below.refl _ w2).alloc (Nat.le_refl _) _) j3)
  rw [show (([172, 2] : List UInt8) == [172, 2]) = true by decide]
  clear hw3 hB2 j0 j3
  go_wp2_with fail
  go_ret
  exact ⟨rfl, hB3⟩
end Go.Proofs.YtlohpmncagfecaaDoor
