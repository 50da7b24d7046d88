/- impl.Prim.get of a bool; impl.Prim.more of floating-point numbers and ints. -/
import Derived.Test.YtlohpmncagfecaaDoorGk
namespace Go.Proofs.YtlohpmncagfecaaDoor
open Go.RowKit
set_option linter.unnecessarySimpa false
set_option linter.unusedVariables false
set_option linter.unusedSimpArgs false

set_option maxRecDepth 100000 in
theorem get2t (u v : Nat) (s0 : List UInt8) (tail : List UInt8) : AskOk 28 ⟨2, u, v, s0⟩ (bB true :: tail) ⟨1, 0, [], false⟩ tail := by
  intro w F D r cur sv hr hs hsv hl
  obtain ⟨q, cq, rfl⟩ := hs.slice
  unfold askV
  have HR := Lib.hid hr
  have hr3 : RdAt (W3 w ⟨2, u, v, s0⟩ q cq) F D r (bB true :: tail) cur := hr.below (W3.below w _ q cq).1
  have HRS := Lib.hid (W3.rs hr ⟨2, u, v, s0⟩ q cq)
  have HR3 := Lib.hid hr3
  clear hs hsv hr hr3
  go_enter Tryd.func28, Tryd.ntmps28
  go_wp2_with fail
  refine (rdBool _ F D r true tail cur HR3.out (by omega)).mono ?_
  rintro e w1 ⟨rfl, F1, cur1, h1, hu1⟩
  have rs1 := HRS.out.read h1 hu1
  obtain ⟨⟨c0, c1, c2, c3⟩, z0, z1, z2, z3⟩ := row4 rs1.row
  obtain ⟨⟨e0, e1, e2, e3⟩, f0, f1, f2, f3⟩ := row4 (W3.res HR.out rs1).1
  have rs2 := rs1.store 0 (.int .u64 1)
  have HRES := Lib.hid (W3.res HR.out rs2).1
  have HRS2 := Lib.hid rs2
  clear HRS HR3 rs1 rs2 h1 hu1
  go_wp2_with fail
  refine bodyPost_ret (v := .agg #[.int .u64 1, .int .u64 0, .slice none 0 0, .bool false]) (by obtain ⟨g0, g1, g2, g3⟩ := res4 HRES.out (.int .u64 1) (.int .u64 0) (.slice none 0 0) (.bool false) _ rfl; simp [results, Tryd.results28, go_sem, g0, g1, g2, g3]) rfl ?_
  refine get_fin (U := 1) (V := 0) (S := []) (sv := .slice none 0 0) HR.out HRS2.out (.inl ⟨rfl, rfl⟩) (fun k hk => by simp [Value.ownBlock] at hk) ?_
  exact (((((Chg.refl (· = w.heap.size + 1) _).setCell (.inl rfl) _).setCell (.inl rfl) _).setCell (.inl rfl) _).setCell (.inl rfl) _)

set_option maxRecDepth 100000 in
theorem get2f (u v : Nat) (s0 : List UInt8) (tail : List UInt8) : AskOk 28 ⟨2, u, v, s0⟩ (bB false :: tail) ⟨0, 0, [], false⟩ tail := by
  intro w F D r cur sv hr hs hsv hl
  obtain ⟨q, cq, rfl⟩ := hs.slice
  unfold askV
  have HR := Lib.hid hr
  have hr3 : RdAt (W3 w ⟨2, u, v, s0⟩ q cq) F D r (bB false :: tail) cur := hr.below (W3.below w _ q cq).1
  have HRS := Lib.hid (W3.rs hr ⟨2, u, v, s0⟩ q cq)
  have HR3 := Lib.hid hr3
  clear hs hsv hr hr3
  go_enter Tryd.func28, Tryd.ntmps28
  go_wp2_with fail
  refine (rdBool _ F D r false tail cur HR3.out (by omega)).mono ?_
  rintro e w1 ⟨rfl, F1, cur1, h1, hu1⟩
  have rs1 := HRS.out.read h1 hu1
  obtain ⟨⟨c0, c1, c2, c3⟩, z0, z1, z2, z3⟩ := row4 rs1.row
  obtain ⟨⟨e0, e1, e2, e3⟩, f0, f1, f2, f3⟩ := row4 (W3.res HR.out rs1).1
  have HRES := Lib.hid (W3.res HR.out rs1).1
  have HRS2 := Lib.hid rs1
  clear HRS HR3 rs1 h1 hu1
  go_wp2_with fail
  refine bodyPost_ret (v := .agg #[.int .u64 0, .int .u64 0, .slice none 0 0, .bool false]) (by obtain ⟨g0, g1, g2, g3⟩ := res4 HRES.out (.int .u64 0) (.int .u64 0) (.slice none 0 0) (.bool false) _ rfl; simp [results, Tryd.results28, go_sem, g0, g1, g2, g3]) rfl ?_
  refine get_fin (U := 0) (V := 0) (S := []) (sv := .slice none 0 0) HR.out HRS2.out (.inl ⟨rfl, rfl⟩) (fun k hk => by simp [Value.ownBlock] at hk) ?_
  exact (((((Chg.refl (· = w.heap.size + 1) _).setCell (.inl rfl) _).setCell (.inl rfl) _).setCell (.inl rfl) _).setCell (.inl rfl) _)

theorem get2 (u v : Nat) (s0 : List UInt8) (b : Bool) (tail : List UInt8) : AskOk 28 ⟨2, u, v, s0⟩ (bB b :: tail) ⟨if b then 1 else 0, 0, [], false⟩ tail := by
  cases b
  · exact get2f u v s0 tail
  · exact get2t u v s0 tail

set_option maxRecDepth 100000 in
theorem more16 (u v x : Nat) (s tail : List UInt8) (hx : x < 18446744073709551616) : AskOk 60 ⟨16, u, v, s⟩ (uv x ++ tail) ⟨x, 0, [], false⟩ tail := by
  intro w F D r cur sv hr hs hsv hl
  obtain ⟨q, cq, rfl⟩ := hs.slice
  unfold askV
  have rs0 := W3.rs hr ⟨16, u, v, s⟩ q cq
  have HR := Lib.hid hr
  have hr3 : RdAt (W3 w ⟨16, u, v, s⟩ q cq) F D r (uv x ++ tail) cur := hr.below (W3.below w _ q cq).1
  have HX := Lib.hid hx
  have HRS := Lib.hid rs0
  have HR3 := Lib.hid hr3
  obtain ⟨z, hz⟩ : ∃ z : Int, z = wrap64 (x : Int) := ⟨_, rfl⟩
  have hzw : IntKind.u64.wrap z = (x : Int) := by
    rw [hz]
    first | (simp only [IntKind.wrap, IntKind.bits, IntKind.signed, wrap32, wrap64]; omega) | (simp [IntKind.wrap, IntKind.bits, IntKind.signed, wrap32, wrap64]; omega)
  have HZ := Lib.hid hz
  have HZW := Lib.hid hzw
  clear hs hsv hr hx rs0 hr3 hz hzw
  go_enter Tryd.func60, Tryd.ntmps60
  go_wp2_with fail
  have HI := rdIntG _ F D r x tail cur HX.out HR3.out (by omega)
  rw [← HZ.out] at HI
  refine HI.mono ?_
  rintro e w1 ⟨rfl, F1, cur1, h1, hu1⟩
  have rs1 := HRS.out.read h1 hu1
  obtain ⟨⟨c0, -, -, -⟩, z0, -, -, -⟩ := row4 rs1.row
  obtain ⟨X, hX⟩ : ∃ X : Value, X = .int .u64 (IntKind.u64.wrap z) := ⟨_, rfl⟩
  have rs2 := rs1.store 0 (.int .u64 (IntKind.u64.wrap z))
  have HRS2 := Lib.hid rs2
  obtain ⟨⟨-, -, c2, -⟩, -, -, z2, -⟩ := row4 rs2.row
  clear HI HRS HR3 rs1 rs2 h1 hu1 hX
  go_wp2_with (at_builtin; refine append_bytes _ (fun _ => False) [] [] rfl _ _ _ rfl _ rfl (OwnB.nil _ _) _ rfl (nil_src _) (by simp) ?_; intro q1 c1 w3 F3 hown hu3; have hb3 := hu3.chg.below (Nat.le_refl _) (fun k h => h.elim); have rs3 := RS.below HRS2.out hb3; obtain ⟨⟨d0, d1, d2, d3⟩, y0, y1, y2, y3⟩ := row4 rs3.row; obtain ⟨⟨e0, e1, e2, e3⟩, f0, f1, f2, f3⟩ := row4 (W3.res HR.out rs3).1)
  rw [HZW.out] at *
  refine bodyPost_ret (v := .agg #[.int .u64 (x : Nat), .int .u64 0, .slice q1 0 c1, .bool false]) (by obtain ⟨g0, g1, g2, g3⟩ := more_res (p := q1) (n := 0) (c := c1) HR.out HRS2.out hu3 (.int .u64 (x : Nat)) (.int .u64 0) (.bool false) _ rfl; simp [results, Tryd.results60, go_sem, g0, g1, g2, g3]) rfl ?_
  exact more_fin HR.out HRS2.out hown hu3 rfl _ _ _
end Go.Proofs.YtlohpmncagfecaaDoor
