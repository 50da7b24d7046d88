/- impl.Prim.more of floating-point numbers and of numbers of 16 bytes. -/
import Derived.Test.YtlohpmncagfecaaDoorU128
namespace Go.Proofs.YtlohpmncagfecaaDoor
open Go.RowKit
set_option linter.unnecessarySimpa false
set_option linter.unusedVariables false
set_option linter.unusedSimpArgs false

theorem rdI128 (w : World) (F D : Nat → Prop) (r lo hi : Nat) (hlo : lo < 18446744073709551616) (hhi : hi < 18446744073709551616) (rest cur : List UInt8) (h : RdAt w F D r ((leB 8 lo ++ leB 8 hi) ++ rest) cur) (hm : ((leB 8 lo ++ leB 8 hi) ++ rest).length ≤ 140737488355328) :
    Calls Tryd.prog 76 #[.pointer (some ⟨r, 0, none⟩)] w (GotE w F D r (.tuple #[.agg #[.int .u64 lo, .int .u64 hi], .nilIface]) rest) := by
  obtain ⟨b0, v0, hbr0, hx0⟩ := id h
  have hnF : ¬ F w.heap.size := fun e => by have := hx0.inF _ e; omega
  have hnD : ¬ D w.heap.size := fun e => by have := hx0.inD _ e; omega
  obtain ⟨W, hW⟩ : ∃ W : World, W = (w.alloc (.cells #[.int .u64 0, .int .u64 0] 79)) := ⟨_, rfl⟩
  have hbW : Below w.heap.size w W := by rw [hW]; exact (Below.refl _ w).alloc (Nat.le_refl _) _
  have hszW : W.heap.size = w.heap.size + 1 := by rw [hW]; simp
  have hrow0 : W.heap[w.heap.size]? = some (.cells #[.int .u64 0, .int .u64 0] 79 (0, 0)) := by rw [hW]; exact heap_alloc_new _ _
  have HA := Lib.hid (h.below hbW)
  have HUW := Lib.hid ((Upd.refl F w).below hbW)
  have HX := Lib.hid (And.intro hlo hhi)
  have HN := Lib.hid (And.intro hnF hnD)
  have HR := Lib.hid (And.intro hrow0 hszW)
  have HM := Lib.hid hm
  have HW := Lib.hid hW
  clear hbr0 hx0 hnF hnD hbW hszW hrow0 hlo hhi h hm hW
  go_enter Tryd.func76, Tryd.ntmps76
  go_wp2_with fail
  rw [← HW.out]
  refine (rdU128 _ F D r lo hi HX.out.1 HX.out.2 rest cur HA.out HM.out).mono ?_
  rintro e w1 ⟨rfl, F1, cur1, h1, hu⟩
  have hrow1 : w1.heap[w.heap.size]? = some (.cells ([.int .u64 0, .int .u64 0] : List Value).toArray 79 (0, 0)) := by
    rw [hu.chg.block _ (by have := HR.out.2; omega) HN.out.1]; exact HR.out.1
  have hnF1 : ¬ F1 w.heap.size := fun e => by
    rcases hu.new _ e with h2 | h2
    · exact HN.out.1 h2
    · have := HR.out.2; omega
  have hlt : w.heap.size < w1.heap.size := (Array.getElem?_eq_some_iff.1 hrow1).1
  have hne : w1.heap.size ≠ w.heap.size := by omega
  have hne' : w.heap.size ≠ w1.heap.size := by omega
  obtain ⟨c0, c1, z0, z1⟩ := row2 hrow1
  have H1 := Lib.hid h1
  have HU := Lib.hid (HUW.out.trans hu)
  have HR1 := Lib.hid hrow1
  have HN1 := Lib.hid hnF1
  have HLT := Lib.hid hlt
  clear h1 hu hrow1 hnF1
  go_wp2_with fail
  obtain ⟨W2, hW2⟩ : ∃ W2 : World, W2 = ((w1.setCell ⟨w.heap.size, 0, none⟩ (.int .u64 (lo : Nat))).setCell ⟨w.heap.size, 1, none⟩ (.int .u64 (hi : Nat))) := ⟨_, rfl⟩
  have hr2 : W2.heap[w.heap.size]? = some (.cells #[.int .u64 (lo : Nat), .int .u64 (hi : Nat)] 79 (0, 0)) := by rw [hW2]; exact row_set (row_set HR1.out 0 (.int .u64 (lo : Nat))) 1 (.int .u64 (hi : Nat))
  have hC : Chg (· = w.heap.size) w1 W2 := by rw [hW2]; exact ((Chg.refl (· = w.heap.size) w1).setCell (.inl rfl) _).setCell (.inl rfl) _
  rw [← hW2]
  have hr3 : (W2.alloc (.cells #[.int .u64 (lo : Nat), .int .u64 (hi : Nat)] 81)).heap[w.heap.size]? = some (.cells #[.int .u64 (lo : Nat), .int .u64 (hi : Nat)] 79 (0, 0)) := by
    rw [Below.heap_alloc _ _ _ (Array.getElem?_eq_some_iff.1 hr2).1]; exact hr2
  obtain ⟨g0, g1, -, -⟩ := row2 hr3
  refine bodyPost_ret (v := .tuple #[.agg #[.int .u64 (lo : Nat), .int .u64 (hi : Nat)], .nilIface]) (by simp [results, Tryd.results76, go_sem, g0, g1]) rfl ?_
  have hC2 := hC.alloc (.cells #[.int .u64 (lo : Nat), .int .u64 (hi : Nat)] 81)
  exact ⟨rfl, F1, _, H1.out.upd hC2 (fun k hk e => HN1.out (e ▸ hk)) (fun k hk e => HN.out.2 (e ▸ hk)), HU.out.chg.trans hC2 (fun i hi e => by omega), HU.out.new_grow hC2.size⟩

set_option maxRecDepth 100000 in
theorem more11 (u v x : Nat) (s tail : List UInt8) (hx : x < 4294967296) : AskOk 60 ⟨11, u, v, s⟩ (leB 4 x ++ tail) ⟨x, 0, [], false⟩ tail := by
  intro w F D r cur sv hr hs hsv hl
  obtain ⟨q, cq, rfl⟩ := hs.slice
  unfold askV
  have rs0 := W3.rs hr ⟨11, u, v, s⟩ q cq
  have HR := Lib.hid hr
  have hr3 : RdAt (W3 w ⟨11, u, v, s⟩ q cq) F D r (leB 4 x ++ tail) cur := hr.below (W3.below w _ q cq).1
  have HX := Lib.hid hx
  have HRS := Lib.hid rs0
  have HR3 := Lib.hid hr3
  have hzw : IntKind.u64.wrap (x : Int) = ((x : Nat) : Int) := by
    first | rfl | (simp only [IntKind.wrap, IntKind.bits, IntKind.signed, wrap32, wrap64]; omega) | (simp [IntKind.wrap, IntKind.bits, IntKind.signed, wrap32, wrap64]; omega)
  have HZW := Lib.hid hzw
  have hf := fun (n : Nat) (w : World) => (by kernel_rfl : (callFunc 64 #[.float .f32 n]).run Tryd.prog w = .ok (.value (.int .u32 (n : Int))) w)
  clear hs hsv hr hx rs0 hr3 hzw
  go_enter Tryd.func60, Tryd.ntmps60
  go_wp2_with fail
  refine (rdF32 _ F D r x HX.out tail cur HR3.out (by omega)).mono ?_
  rintro e w1 ⟨rfl, F1, cur1, h1, hu1⟩
  have rs1 := HRS.out.read h1 hu1
  obtain ⟨⟨c0, -, -, -⟩, z0, -, -, -⟩ := row4 rs1.row
  have rs2 := rs1.store 0 (.int .u64 (IntKind.u64.wrap (x : Int)))
  have HRS2 := Lib.hid rs2
  obtain ⟨⟨-, -, c2, -⟩, -, -, z2, -⟩ := row4 rs2.row
  clear HRS HR3 rs1 rs2 h1 hu1
  go_wp2_with (at_builtin; refine append_bytes _ (fun _ => False) [] [] rfl _ _ _ rfl _ rfl (OwnB.nil _ _) _ rfl (nil_src _) (by simp) ?_; intro q1 c1 w3 F3 hown hu3; have hb3 := hu3.chg.below (Nat.le_refl _) (fun k h => h.elim); have rs3 := RS.below HRS2.out hb3; obtain ⟨⟨d0, d1, d2, d3⟩, y0, y1, y2, y3⟩ := row4 rs3.row; obtain ⟨⟨e0, e1, e2, e3⟩, f0, f1, f2, f3⟩ := row4 (W3.res HR.out rs3).1)
  rw [HZW.out] at *
  refine bodyPost_ret (v := .agg #[.int .u64 (x : Nat), .int .u64 0, .slice q1 0 c1, .bool false]) (by obtain ⟨g0, g1, g2, g3⟩ := more_res (p := q1) (n := 0) (c := c1) HR.out HRS2.out hu3 (.int .u64 (x : Nat)) (.int .u64 0) (.bool false) _ rfl; simp [results, Tryd.results60, go_sem, g0, g1, g2, g3]) rfl ?_
  exact more_fin HR.out HRS2.out hown hu3 rfl _ _ _

set_option maxRecDepth 100000 in
theorem more12 (u v x : Nat) (s tail : List UInt8) (hx : x < 18446744073709551616) : AskOk 60 ⟨12, u, v, s⟩ (leB 8 x ++ tail) ⟨x, 0, [], false⟩ tail := by
  intro w F D r cur sv hr hs hsv hl
  obtain ⟨q, cq, rfl⟩ := hs.slice
  unfold askV
  have rs0 := W3.rs hr ⟨12, u, v, s⟩ q cq
  have HR := Lib.hid hr
  have hr3 : RdAt (W3 w ⟨12, u, v, s⟩ q cq) F D r (leB 8 x ++ tail) cur := hr.below (W3.below w _ q cq).1
  have HX := Lib.hid hx
  have HRS := Lib.hid rs0
  have HR3 := Lib.hid hr3
  have hzw : ((x : Nat) : Int) = ((x : Nat) : Int) := by
    first | rfl | (simp only [IntKind.wrap, IntKind.bits, IntKind.signed, wrap32, wrap64]; omega) | (simp [IntKind.wrap, IntKind.bits, IntKind.signed, wrap32, wrap64]; omega)
  have HZW := Lib.hid hzw
  have hf := fun (n : Nat) (w : World) => (by kernel_rfl : (callFunc 65 #[.float .f64 n]).run Tryd.prog w = .ok (.value (.int .u64 (n : Int))) w)
  clear hs hsv hr hx rs0 hr3 hzw
  go_enter Tryd.func60, Tryd.ntmps60
  go_wp2_with fail
  refine (rdF64 _ F D r x HX.out tail cur HR3.out (by omega)).mono ?_
  rintro e w1 ⟨rfl, F1, cur1, h1, hu1⟩
  have rs1 := HRS.out.read h1 hu1
  obtain ⟨⟨c0, -, -, -⟩, z0, -, -, -⟩ := row4 rs1.row
  have rs2 := rs1.store 0 (.int .u64 (((x : Nat) : Int)))
  have HRS2 := Lib.hid rs2
  obtain ⟨⟨-, -, c2, -⟩, -, -, z2, -⟩ := row4 rs2.row
  clear HRS HR3 rs1 rs2 h1 hu1
  go_wp2_with (at_builtin; refine append_bytes _ (fun _ => False) [] [] rfl _ _ _ rfl _ rfl (OwnB.nil _ _) _ rfl (nil_src _) (by simp) ?_; intro q1 c1 w3 F3 hown hu3; have hb3 := hu3.chg.below (Nat.le_refl _) (fun k h => h.elim); have rs3 := RS.below HRS2.out hb3; obtain ⟨⟨d0, d1, d2, d3⟩, y0, y1, y2, y3⟩ := row4 rs3.row; obtain ⟨⟨e0, e1, e2, e3⟩, f0, f1, f2, f3⟩ := row4 (W3.res HR.out rs3).1)
  skip
  refine bodyPost_ret (v := .agg #[.int .u64 (x : Nat), .int .u64 0, .slice q1 0 c1, .bool false]) (by obtain ⟨g0, g1, g2, g3⟩ := more_res (p := q1) (n := 0) (c := c1) HR.out HRS2.out hu3 (.int .u64 (x : Nat)) (.int .u64 0) (.bool false) _ rfl; simp [results, Tryd.results60, go_sem, g0, g1, g2, g3]) rfl ?_
  exact more_fin HR.out HRS2.out hown hu3 rfl _ _ _

set_option maxRecDepth 100000 in
theorem more13 (u v lo hi : Nat) (s tail : List UInt8) (hlo : lo < 18446744073709551616) (hhi : hi < 18446744073709551616) : AskOk 60 ⟨13, u, v, s⟩ ((leB 8 lo ++ leB 8 hi) ++ tail) ⟨lo, hi, [], false⟩ tail := by
  intro w F D r cur sv hr hs hsv hl
  obtain ⟨q, cq, rfl⟩ := hs.slice
  unfold askV
  obtain ⟨W, hW⟩ : ∃ W : World, W = (W3 w ⟨13, u, v, s⟩ q cq).alloc (.cells #[.int .u64 0, .int .u64 0] 79) := ⟨_, rfl⟩
  have hsz3 := (W3.below w ⟨13, u, v, s⟩ q cq).2
  have hb4 : Below (W3 w ⟨13, u, v, s⟩ q cq).heap.size (W3 w ⟨13, u, v, s⟩ q cq) W := by rw [hW]; exact (Below.refl _ _).alloc (Nat.le_refl _) _
  have hrow0 : W.heap[w.heap.size + 1 + 1 + 1]? = some (.cells #[.int .u64 0, .int .u64 0] 79 (0, 0)) := by rw [hW, ← hsz3]; exact heap_alloc_new _ _
  have hszW : W.heap.size = w.heap.size + 4 := by rw [hW]; simp [hsz3]
  have rs0 := (W3.rs hr ⟨13, u, v, s⟩ q cq).below hb4
  have hr3 : RdAt W F D r ((leB 8 lo ++ leB 8 hi) ++ tail) cur := (hr.below (W3.below w _ q cq).1).below hb4
  obtain ⟨b0, v0, hbr0, hx0⟩ := id hr
  have hnF : ¬ F (w.heap.size + 1 + 1 + 1) := fun e => by have := hx0.inF _ e; omega
  have hnD : ¬ D (w.heap.size + 1 + 1 + 1) := fun e => by have := hx0.inD _ e; omega
  have HR := Lib.hid hr
  have HX := Lib.hid (And.intro hlo hhi)
  have HRS := Lib.hid rs0
  have HR3 := Lib.hid hr3
  have HW := Lib.hid hW
  have HN := Lib.hid (And.intro hnF hnD)
  have H0 := Lib.hid (And.intro hrow0 hszW)
  have HZ := Lib.hid hsz3
  clear hs hsv hr hlo hhi rs0 hr3 hW hrow0 hszW hb4 hbr0 hx0 hnF hnD hsz3
  go_enter Tryd.func60, Tryd.ntmps60
  go_wp2_with fail
  have hW := HW.out
  unfold W3 at hW
  rw [← hW]
  clear hW
  refine (rdI128 _ F D r lo hi HX.out.1 HX.out.2 tail cur HR3.out (by omega)).mono ?_
  rintro e w1 ⟨rfl, F1, cur1, h1, hu1⟩
  have rs1 := HRS.out.read h1 hu1
  have hrow1 : w1.heap[w.heap.size + 1 + 1 + 1]? = some (.cells ([.int .u64 0, .int .u64 0] : List Value).toArray 79 (0, 0)) := by
    rw [hu1.chg.block _ (by have := H0.out.2; omega) HN.out.1]; exact H0.out.1
  have hnF1 : ¬ F1 (w.heap.size + 1 + 1 + 1) := fun e => by
    rcases hu1.new _ e with h2 | h2
    · exact HN.out.1 h2
    · have := H0.out.2; omega
  obtain ⟨W2, hW2⟩ : ∃ W2 : World, W2 = ((w1.setCell ⟨w.heap.size + 1 + 1 + 1, 0, none⟩ (.int .u64 (lo : Nat))).setCell ⟨w.heap.size + 1 + 1 + 1, 1, none⟩ (.int .u64 (hi : Nat))) := ⟨_, rfl⟩
  have hr2 : W2.heap[w.heap.size + 1 + 1 + 1]? = some (.cells #[.int .u64 (lo : Nat), .int .u64 (hi : Nat)] 79 (0, 0)) := by rw [hW2]; exact row_set (row_set hrow1 0 (.int .u64 (lo : Nat))) 1 (.int .u64 (hi : Nat))
  have hC : Chg (· = w.heap.size + 1 + 1 + 1) w1 W2 := by rw [hW2]; exact ((Chg.refl (· = w.heap.size + 1 + 1 + 1) w1).setCell (.inl rfl) _).setCell (.inl rfl) _
  have rs2 := rs1.other hC (fun k hk => ⟨by rw [HZ.out]; omega, by omega, by rw [hk]; exact hnF1, by rw [hk]; exact HN.out.2⟩)
  have rs3 := (rs2.store 0 (.int .u64 (lo : Nat))).store 1 (.int .u64 (hi : Nat))
  obtain ⟨t0, t1, y0, y1⟩ := row2 hrow1
  have HW2 := Lib.hid hW2
  have HRS2 := Lib.hid rs2
  have HRS3 := Lib.hid rs3
  have HR2 := Lib.hid hr2
  clear HRS HR3 rs1 rs2 rs3 h1 hu1 hW2 hr2 hrow1 hnF1 hC
  go_wp2_with fail
  rw [← HW2.out]
  obtain ⟨k0, k1, k2, k3⟩ := row2 HR2.out
  obtain ⟨⟨c0, c1, c2, c3⟩, z0, z1, z2, z3⟩ := row4 HRS2.out.row
  have hne : ∀ n : Nat, n + 1 + 1 ≠ n + 1 + 1 + 1 := fun n => by omega
  have hne' : ∀ n : Nat, n + 1 + 1 + 1 ≠ n + 1 + 1 := fun n => by omega
  clear t0 t1 y0 y1
  go_region
  all_goals
    obtain ⟨W4, hW4⟩ : ∃ W4 : World, W4 = ((W2.setCell ⟨w.heap.size + 1 + 1, 0, none⟩ (.int .u64 (lo : Nat))).setCell ⟨w.heap.size + 1 + 1, 1, none⟩ (.int .u64 (hi : Nat))).drew := ⟨_, rfl⟩
    have rs4 := HRS3.out
    have rs5 := rs4.below (below_d' _)
    rw [← hW4] at rs5 ⊢
    have HRS4 := Lib.hid rs5
    clear hW4 rs4 rs5 k0 k1 k2 k3 c0 c1 c2 c3 z0 z1 z2 z3
    obtain ⟨⟨-, -, c2, -⟩, -, -, z2, -⟩ := row4 HRS4.out.row
    go_wp2_with (at_builtin; refine append_bytes _ (fun _ => False) [] [] rfl _ _ _ rfl _ rfl (OwnB.nil _ _) _ rfl (nil_src _) (by simp) ?_; intro q1 c1 w3 F3 hown hu3; have hb3 := hu3.chg.below (Nat.le_refl _) (fun k h => h.elim); have rs3 := RS.below HRS4.out hb3; obtain ⟨⟨d0, d1, d2, d3⟩, y0, y1, y2, y3⟩ := row4 rs3.row; obtain ⟨⟨e0, e1, e2, e3⟩, f0, f1, f2, f3⟩ := row4 (W3.res HR.out rs3).1)
    refine bodyPost_ret (v := .agg #[.int .u64 (lo : Nat), .int .u64 (hi : Nat), .slice q1 0 c1, .bool false]) (by obtain ⟨g0, g1, g2, g3⟩ := more_res (p := q1) (n := 0) (c := c1) HR.out HRS4.out hu3 (.int .u64 (lo : Nat)) (.int .u64 (hi : Nat)) (.bool false) _ rfl; simp [results, Tryd.results60, go_sem, g0, g1, g2, g3]) rfl ?_
    exact more_fin HR.out HRS4.out hown hu3 rfl _ _ _

set_option maxRecDepth 100000 in
theorem more14 (u v lo hi : Nat) (s tail : List UInt8) (hlo : lo < 18446744073709551616) (hhi : hi < 18446744073709551616) : AskOk 60 ⟨14, u, v, s⟩ ((leB 8 lo ++ leB 8 hi) ++ tail) ⟨lo, hi, [], false⟩ tail := by
  intro w F D r cur sv hr hs hsv hl
  obtain ⟨q, cq, rfl⟩ := hs.slice
  unfold askV
  obtain ⟨W, hW⟩ : ∃ W : World, W = (W3 w ⟨14, u, v, s⟩ q cq).alloc (.cells #[.int .u64 0, .int .u64 0] 81) := ⟨_, rfl⟩
  have hsz3 := (W3.below w ⟨14, u, v, s⟩ q cq).2
  have hb4 : Below (W3 w ⟨14, u, v, s⟩ q cq).heap.size (W3 w ⟨14, u, v, s⟩ q cq) W := by rw [hW]; exact (Below.refl _ _).alloc (Nat.le_refl _) _
  have hrow0 : W.heap[w.heap.size + 1 + 1 + 1]? = some (.cells #[.int .u64 0, .int .u64 0] 81 (0, 0)) := by rw [hW, ← hsz3]; exact heap_alloc_new _ _
  have hszW : W.heap.size = w.heap.size + 4 := by rw [hW]; simp [hsz3]
  have rs0 := (W3.rs hr ⟨14, u, v, s⟩ q cq).below hb4
  have hr3 : RdAt W F D r ((leB 8 lo ++ leB 8 hi) ++ tail) cur := (hr.below (W3.below w _ q cq).1).below hb4
  obtain ⟨b0, v0, hbr0, hx0⟩ := id hr
  have hnF : ¬ F (w.heap.size + 1 + 1 + 1) := fun e => by have := hx0.inF _ e; omega
  have hnD : ¬ D (w.heap.size + 1 + 1 + 1) := fun e => by have := hx0.inD _ e; omega
  have HR := Lib.hid hr
  have HX := Lib.hid (And.intro hlo hhi)
  have HRS := Lib.hid rs0
  have HR3 := Lib.hid hr3
  have HW := Lib.hid hW
  have HN := Lib.hid (And.intro hnF hnD)
  have H0 := Lib.hid (And.intro hrow0 hszW)
  have HZ := Lib.hid hsz3
  clear hs hsv hr hlo hhi rs0 hr3 hW hrow0 hszW hb4 hbr0 hx0 hnF hnD hsz3
  go_enter Tryd.func60, Tryd.ntmps60
  go_wp2_with fail
  have hW := HW.out
  unfold W3 at hW
  rw [← hW]
  clear hW
  refine (rdU128 _ F D r lo hi HX.out.1 HX.out.2 tail cur HR3.out (by omega)).mono ?_
  rintro e w1 ⟨rfl, F1, cur1, h1, hu1⟩
  have rs1 := HRS.out.read h1 hu1
  have hrow1 : w1.heap[w.heap.size + 1 + 1 + 1]? = some (.cells ([.int .u64 0, .int .u64 0] : List Value).toArray 81 (0, 0)) := by
    rw [hu1.chg.block _ (by have := H0.out.2; omega) HN.out.1]; exact H0.out.1
  have hnF1 : ¬ F1 (w.heap.size + 1 + 1 + 1) := fun e => by
    rcases hu1.new _ e with h2 | h2
    · exact HN.out.1 h2
    · have := H0.out.2; omega
  obtain ⟨W2, hW2⟩ : ∃ W2 : World, W2 = ((w1.setCell ⟨w.heap.size + 1 + 1 + 1, 0, none⟩ (.int .u64 (lo : Nat))).setCell ⟨w.heap.size + 1 + 1 + 1, 1, none⟩ (.int .u64 (hi : Nat))) := ⟨_, rfl⟩
  have hr2 : W2.heap[w.heap.size + 1 + 1 + 1]? = some (.cells #[.int .u64 (lo : Nat), .int .u64 (hi : Nat)] 81 (0, 0)) := by rw [hW2]; exact row_set (row_set hrow1 0 (.int .u64 (lo : Nat))) 1 (.int .u64 (hi : Nat))
  have hC : Chg (· = w.heap.size + 1 + 1 + 1) w1 W2 := by rw [hW2]; exact ((Chg.refl (· = w.heap.size + 1 + 1 + 1) w1).setCell (.inl rfl) _).setCell (.inl rfl) _
  have rs2 := rs1.other hC (fun k hk => ⟨by rw [HZ.out]; omega, by omega, by rw [hk]; exact hnF1, by rw [hk]; exact HN.out.2⟩)
  have rs3 := (rs2.store 0 (.int .u64 (lo : Nat))).store 1 (.int .u64 (hi : Nat))
  obtain ⟨t0, t1, y0, y1⟩ := row2 hrow1
  have HW2 := Lib.hid hW2
  have HRS2 := Lib.hid rs2
  have HRS3 := Lib.hid rs3
  have HR2 := Lib.hid hr2
  clear HRS HR3 rs1 rs2 rs3 h1 hu1 hW2 hr2 hrow1 hnF1 hC
  go_wp2_with fail
  rw [← HW2.out]
  obtain ⟨k0, k1, k2, k3⟩ := row2 HR2.out
  obtain ⟨⟨c0, c1, c2, c3⟩, z0, z1, z2, z3⟩ := row4 HRS2.out.row
  have hne : ∀ n : Nat, n + 1 + 1 ≠ n + 1 + 1 + 1 := fun n => by omega
  have hne' : ∀ n : Nat, n + 1 + 1 + 1 ≠ n + 1 + 1 := fun n => by omega
  clear t0 t1 y0 y1
  go_region
  all_goals
    obtain ⟨W4, hW4⟩ : ∃ W4 : World, W4 = ((W2.setCell ⟨w.heap.size + 1 + 1, 0, none⟩ (.int .u64 (lo : Nat))).setCell ⟨w.heap.size + 1 + 1, 1, none⟩ (.int .u64 (hi : Nat))).drew := ⟨_, rfl⟩
    have rs4 := HRS3.out
    have rs5 := rs4.below (below_d' _)
    rw [← hW4] at rs5 ⊢
    have HRS4 := Lib.hid rs5
    clear hW4 rs4 rs5 k0 k1 k2 k3 c0 c1 c2 c3 z0 z1 z2 z3
    obtain ⟨⟨-, -, c2, -⟩, -, -, z2, -⟩ := row4 HRS4.out.row
    go_wp2_with (at_builtin; refine append_bytes _ (fun _ => False) [] [] rfl _ _ _ rfl _ rfl (OwnB.nil _ _) _ rfl (nil_src _) (by simp) ?_; intro q1 c1 w3 F3 hown hu3; have hb3 := hu3.chg.below (Nat.le_refl _) (fun k h => h.elim); have rs3 := RS.below HRS4.out hb3; obtain ⟨⟨d0, d1, d2, d3⟩, y0, y1, y2, y3⟩ := row4 rs3.row; obtain ⟨⟨e0, e1, e2, e3⟩, f0, f1, f2, f3⟩ := row4 (W3.res HR.out rs3).1)
    refine bodyPost_ret (v := .agg #[.int .u64 (lo : Nat), .int .u64 (hi : Nat), .slice q1 0 c1, .bool false]) (by obtain ⟨g0, g1, g2, g3⟩ := more_res (p := q1) (n := 0) (c := c1) HR.out HRS4.out hu3 (.int .u64 (lo : Nat)) (.int .u64 (hi : Nat)) (.bool false) _ rfl; simp [results, Tryd.results60, go_sem, g0, g1, g2, g3]) rfl ?_
    exact more_fin HR.out HRS4.out hown hu3 rfl _ _ _

end Go.Proofs.YtlohpmncagfecaaDoor
