/- impl.Prim.get of numbers and bools. -/
import Derived.Test.YtlohpmncagfecaaDoorLeR
namespace Go.Proofs.YtlohpmncagfecaaDoor
open Go.RowKit
set_option linter.unnecessarySimpa false
set_option linter.unusedVariables false
set_option linter.unusedSimpArgs false

set_option maxRecDepth 100000 in
theorem get1 (u v : Nat) (s0 : List UInt8) (x : Nat) (hx : x < 256) (tail : List UInt8) : AskOk 28 ⟨1, u, v, s0⟩ (leB 1 x ++ tail) ⟨x, 0, [], false⟩ tail := by
  intro w F D r cur sv hr hs hsv hl
  obtain ⟨q, cq, rfl⟩ := hs.slice
  unfold askV
  have HR := Lib.hid hr
  have hr3 : RdAt (W3 w ⟨1, u, v, s0⟩ q cq) F D r (leB 1 x ++ tail) cur := hr.below (W3.below w _ q cq).1
  have HRS := Lib.hid (W3.rs hr ⟨1, u, v, s0⟩ q cq)
  have HR3 := Lib.hid hr3
  have HX := Lib.hid hx
  clear hs hsv hr hr3 hx
  go_enter Tryd.func28, Tryd.ntmps28
  go_wp2_with fail
  refine (rdByte _ F D r x HX.out tail cur HR3.out (by omega)).mono ?_
  rintro e w1 ⟨rfl, F1, cur1, h1, hu1⟩
  have rs1 := HRS.out.read h1 hu1
  obtain ⟨⟨c0, c1, c2, c3⟩, z0, z1, z2, z3⟩ := row4 rs1.row
  obtain ⟨⟨e0, e1, e2, e3⟩, f0, f1, f2, f3⟩ := row4 (W3.res HR.out rs1).1
  obtain ⟨z, hz⟩ : ∃ z : Value, z = .int .u64 ((x : Nat) : Int) := ⟨_, rfl⟩
  have HZ := Lib.hid hz
  have rs2 := rs1.store 0 z
  have HRES := Lib.hid (W3.res HR.out rs2).1
  have HRS2 := Lib.hid rs2
  clear HRS HR3 rs1 rs2 h1 hu1 hz
  go_wp2_with fail
  rw [show IntKind.u64.wrap (x : Int) = ((x : Nat) : Int) from by have := HX.out; first | (simp only [IntKind.wrap, IntKind.bits, IntKind.signed, wrap32, wrap64]; omega) | (simp [IntKind.wrap, IntKind.bits, IntKind.signed, wrap32, wrap64]; omega)]
  rw [← HZ.out]
  refine bodyPost_ret (v := .agg #[z, .int .u64 0, .slice none 0 0, .bool false]) (by obtain ⟨g0, g1, g2, g3⟩ := res4 HRES.out z (.int .u64 0) (.slice none 0 0) (.bool false) _ rfl; simp [results, Tryd.results28, go_sem, g0, g1, g2, g3]) rfl ?_
  obtain rfl := HZ.out
  refine get_fin (U := x) (V := 0) (S := []) (sv := .slice none 0 0) HR.out HRS2.out (.inl ⟨rfl, rfl⟩) (fun k hk => by simp [Value.ownBlock] at hk) ?_
  exact (((((Chg.refl (· = w.heap.size + 1) _).setCell (.inl rfl) _).setCell (.inl rfl) _).setCell (.inl rfl) _).setCell (.inl rfl) _)

set_option maxRecDepth 100000 in
theorem get3 (u v : Nat) (s0 : List UInt8) (x : Nat) (hx : x < 256) (tail : List UInt8) : AskOk 28 ⟨3, u, v, s0⟩ (leB 1 x ++ tail) ⟨x, 0, [], false⟩ tail := by
  intro w F D r cur sv hr hs hsv hl
  obtain ⟨q, cq, rfl⟩ := hs.slice
  unfold askV
  have HR := Lib.hid hr
  have hr3 : RdAt (W3 w ⟨3, u, v, s0⟩ q cq) F D r (leB 1 x ++ tail) cur := hr.below (W3.below w _ q cq).1
  have HRS := Lib.hid (W3.rs hr ⟨3, u, v, s0⟩ q cq)
  have HR3 := Lib.hid hr3
  have HX := Lib.hid hx
  clear hs hsv hr hr3 hx
  go_enter Tryd.func28, Tryd.ntmps28
  go_wp2_with fail
  refine (rdI8 _ F D r x HX.out tail cur HR3.out (by omega)).mono ?_
  rintro e w1 ⟨rfl, F1, cur1, h1, hu1⟩
  have rs1 := HRS.out.read h1 hu1
  obtain ⟨⟨c0, c1, c2, c3⟩, z0, z1, z2, z3⟩ := row4 rs1.row
  obtain ⟨⟨e0, e1, e2, e3⟩, f0, f1, f2, f3⟩ := row4 (W3.res HR.out rs1).1
  obtain ⟨z, hz⟩ : ∃ z : Value, z = .int .u64 ((x : Nat) : Int) := ⟨_, rfl⟩
  have HZ := Lib.hid hz
  have rs2 := rs1.store 0 z
  have HRES := Lib.hid (W3.res HR.out rs2).1
  have HRS2 := Lib.hid rs2
  clear HRS HR3 rs1 rs2 h1 hu1 hz
  go_wp2_with fail
  rw [show IntKind.i8.wrap (x : Int) % 256 = ((x : Nat) : Int) from by have := HX.out; first | (simp only [IntKind.wrap, IntKind.bits, IntKind.signed, wrap32, wrap64]; omega) | (simp [IntKind.wrap, IntKind.bits, IntKind.signed, wrap32, wrap64]; omega)]
  rw [← HZ.out]
  refine bodyPost_ret (v := .agg #[z, .int .u64 0, .slice none 0 0, .bool false]) (by obtain ⟨g0, g1, g2, g3⟩ := res4 HRES.out z (.int .u64 0) (.slice none 0 0) (.bool false) _ rfl; simp [results, Tryd.results28, go_sem, g0, g1, g2, g3]) rfl ?_
  obtain rfl := HZ.out
  refine get_fin (U := x) (V := 0) (S := []) (sv := .slice none 0 0) HR.out HRS2.out (.inl ⟨rfl, rfl⟩) (fun k hk => by simp [Value.ownBlock] at hk) ?_
  exact (((((Chg.refl (· = w.heap.size + 1) _).setCell (.inl rfl) _).setCell (.inl rfl) _).setCell (.inl rfl) _).setCell (.inl rfl) _)

set_option maxRecDepth 100000 in
theorem get4 (u v : Nat) (s0 : List UInt8) (x : Nat) (hx : x < 65536) (tail : List UInt8) : AskOk 28 ⟨4, u, v, s0⟩ (leB 2 x ++ tail) ⟨x, 0, [], false⟩ tail := by
  intro w F D r cur sv hr hs hsv hl
  obtain ⟨q, cq, rfl⟩ := hs.slice
  unfold askV
  have HR := Lib.hid hr
  have hr3 : RdAt (W3 w ⟨4, u, v, s0⟩ q cq) F D r (leB 2 x ++ tail) cur := hr.below (W3.below w _ q cq).1
  have HRS := Lib.hid (W3.rs hr ⟨4, u, v, s0⟩ q cq)
  have HR3 := Lib.hid hr3
  have HX := Lib.hid hx
  clear hs hsv hr hr3 hx
  go_enter Tryd.func28, Tryd.ntmps28
  go_wp2_with fail
  refine (rdI16 _ F D r x HX.out tail cur HR3.out (by omega)).mono ?_
  rintro e w1 ⟨rfl, F1, cur1, h1, hu1⟩
  have rs1 := HRS.out.read h1 hu1
  obtain ⟨⟨c0, c1, c2, c3⟩, z0, z1, z2, z3⟩ := row4 rs1.row
  obtain ⟨⟨e0, e1, e2, e3⟩, f0, f1, f2, f3⟩ := row4 (W3.res HR.out rs1).1
  obtain ⟨z, hz⟩ : ∃ z : Value, z = .int .u64 ((x : Nat) : Int) := ⟨_, rfl⟩
  have HZ := Lib.hid hz
  have rs2 := rs1.store 0 z
  have HRES := Lib.hid (W3.res HR.out rs2).1
  have HRS2 := Lib.hid rs2
  clear HRS HR3 rs1 rs2 h1 hu1 hz
  go_wp2_with fail
  rw [show IntKind.u64.wrap (IntKind.u16.wrap (IntKind.i16.wrap (x : Int))) = ((x : Nat) : Int) from by have := HX.out; first | (simp only [IntKind.wrap, IntKind.bits, IntKind.signed, wrap32, wrap64]; omega) | (simp [IntKind.wrap, IntKind.bits, IntKind.signed, wrap32, wrap64]; omega)]
  rw [← HZ.out]
  refine bodyPost_ret (v := .agg #[z, .int .u64 0, .slice none 0 0, .bool false]) (by obtain ⟨g0, g1, g2, g3⟩ := res4 HRES.out z (.int .u64 0) (.slice none 0 0) (.bool false) _ rfl; simp [results, Tryd.results28, go_sem, g0, g1, g2, g3]) rfl ?_
  obtain rfl := HZ.out
  refine get_fin (U := x) (V := 0) (S := []) (sv := .slice none 0 0) HR.out HRS2.out (.inl ⟨rfl, rfl⟩) (fun k hk => by simp [Value.ownBlock] at hk) ?_
  exact (((((Chg.refl (· = w.heap.size + 1) _).setCell (.inl rfl) _).setCell (.inl rfl) _).setCell (.inl rfl) _).setCell (.inl rfl) _)

set_option maxRecDepth 100000 in
theorem get5 (u v : Nat) (s0 : List UInt8) (x : Nat) (hx : x < 4294967296) (tail : List UInt8) : AskOk 28 ⟨5, u, v, s0⟩ (leB 4 x ++ tail) ⟨x, 0, [], false⟩ tail := by
  intro w F D r cur sv hr hs hsv hl
  obtain ⟨q, cq, rfl⟩ := hs.slice
  unfold askV
  have HR := Lib.hid hr
  have hr3 : RdAt (W3 w ⟨5, u, v, s0⟩ q cq) F D r (leB 4 x ++ tail) cur := hr.below (W3.below w _ q cq).1
  have HRS := Lib.hid (W3.rs hr ⟨5, u, v, s0⟩ q cq)
  have HR3 := Lib.hid hr3
  have HX := Lib.hid hx
  clear hs hsv hr hr3 hx
  go_enter Tryd.func28, Tryd.ntmps28
  go_wp2_with fail
  refine (rdI32 _ F D r x HX.out tail cur HR3.out (by omega)).mono ?_
  rintro e w1 ⟨rfl, F1, cur1, h1, hu1⟩
  have rs1 := HRS.out.read h1 hu1
  obtain ⟨⟨c0, c1, c2, c3⟩, z0, z1, z2, z3⟩ := row4 rs1.row
  obtain ⟨⟨e0, e1, e2, e3⟩, f0, f1, f2, f3⟩ := row4 (W3.res HR.out rs1).1
  obtain ⟨z, hz⟩ : ∃ z : Value, z = .int .u64 ((x : Nat) : Int) := ⟨_, rfl⟩
  have HZ := Lib.hid hz
  have rs2 := rs1.store 0 z
  have HRES := Lib.hid (W3.res HR.out rs2).1
  have HRS2 := Lib.hid rs2
  clear HRS HR3 rs1 rs2 h1 hu1 hz
  go_wp2_with fail
  rw [show wrap32 (x : Int) % 4294967296 = ((x : Nat) : Int) from by have := HX.out; first | (simp only [IntKind.wrap, IntKind.bits, IntKind.signed, wrap32, wrap64]; omega) | (simp [IntKind.wrap, IntKind.bits, IntKind.signed, wrap32, wrap64]; omega)]
  rw [← HZ.out]
  refine bodyPost_ret (v := .agg #[z, .int .u64 0, .slice none 0 0, .bool false]) (by obtain ⟨g0, g1, g2, g3⟩ := res4 HRES.out z (.int .u64 0) (.slice none 0 0) (.bool false) _ rfl; simp [results, Tryd.results28, go_sem, g0, g1, g2, g3]) rfl ?_
  obtain rfl := HZ.out
  refine get_fin (U := x) (V := 0) (S := []) (sv := .slice none 0 0) HR.out HRS2.out (.inl ⟨rfl, rfl⟩) (fun k hk => by simp [Value.ownBlock] at hk) ?_
  exact (((((Chg.refl (· = w.heap.size + 1) _).setCell (.inl rfl) _).setCell (.inl rfl) _).setCell (.inl rfl) _).setCell (.inl rfl) _)

set_option maxRecDepth 100000 in
theorem get6 (u v : Nat) (s0 : List UInt8) (x : Nat) (hx : x < 18446744073709551616) (tail : List UInt8) : AskOk 28 ⟨6, u, v, s0⟩ (leB 8 x ++ tail) ⟨x, 0, [], false⟩ tail := by
  intro w F D r cur sv hr hs hsv hl
  obtain ⟨q, cq, rfl⟩ := hs.slice
  unfold askV
  have HR := Lib.hid hr
  have hr3 : RdAt (W3 w ⟨6, u, v, s0⟩ q cq) F D r (leB 8 x ++ tail) cur := hr.below (W3.below w _ q cq).1
  have HRS := Lib.hid (W3.rs hr ⟨6, u, v, s0⟩ q cq)
  have HR3 := Lib.hid hr3
  have HX := Lib.hid hx
  clear hs hsv hr hr3 hx
  go_enter Tryd.func28, Tryd.ntmps28
  go_wp2_with fail
  refine (rdI64 _ F D r x HX.out tail cur HR3.out (by omega)).mono ?_
  rintro e w1 ⟨rfl, F1, cur1, h1, hu1⟩
  have rs1 := HRS.out.read h1 hu1
  obtain ⟨⟨c0, c1, c2, c3⟩, z0, z1, z2, z3⟩ := row4 rs1.row
  obtain ⟨⟨e0, e1, e2, e3⟩, f0, f1, f2, f3⟩ := row4 (W3.res HR.out rs1).1
  obtain ⟨z, hz⟩ : ∃ z : Value, z = .int .u64 ((x : Nat) : Int) := ⟨_, rfl⟩
  have HZ := Lib.hid hz
  have rs2 := rs1.store 0 z
  have HRES := Lib.hid (W3.res HR.out rs2).1
  have HRS2 := Lib.hid rs2
  clear HRS HR3 rs1 rs2 h1 hu1 hz
  go_wp2_with fail
  rw [show IntKind.u64.wrap (wrap64 (x : Int)) = ((x : Nat) : Int) from by have := HX.out; first | (simp only [IntKind.wrap, IntKind.bits, IntKind.signed, wrap32, wrap64]; omega) | (simp [IntKind.wrap, IntKind.bits, IntKind.signed, wrap32, wrap64]; omega)]
  rw [← HZ.out]
  refine bodyPost_ret (v := .agg #[z, .int .u64 0, .slice none 0 0, .bool false]) (by obtain ⟨g0, g1, g2, g3⟩ := res4 HRES.out z (.int .u64 0) (.slice none 0 0) (.bool false) _ rfl; simp [results, Tryd.results28, go_sem, g0, g1, g2, g3]) rfl ?_
  obtain rfl := HZ.out
  refine get_fin (U := x) (V := 0) (S := []) (sv := .slice none 0 0) HR.out HRS2.out (.inl ⟨rfl, rfl⟩) (fun k hk => by simp [Value.ownBlock] at hk) ?_
  exact (((((Chg.refl (· = w.heap.size + 1) _).setCell (.inl rfl) _).setCell (.inl rfl) _).setCell (.inl rfl) _).setCell (.inl rfl) _)

set_option maxRecDepth 100000 in
theorem get7 (u v : Nat) (s0 : List UInt8) (x : Nat) (hx : x < 256) (tail : List UInt8) : AskOk 28 ⟨7, u, v, s0⟩ (leB 1 x ++ tail) ⟨x, 0, [], false⟩ tail := by
  intro w F D r cur sv hr hs hsv hl
  obtain ⟨q, cq, rfl⟩ := hs.slice
  unfold askV
  have HR := Lib.hid hr
  have hr3 : RdAt (W3 w ⟨7, u, v, s0⟩ q cq) F D r (leB 1 x ++ tail) cur := hr.below (W3.below w _ q cq).1
  have HRS := Lib.hid (W3.rs hr ⟨7, u, v, s0⟩ q cq)
  have HR3 := Lib.hid hr3
  have HX := Lib.hid hx
  clear hs hsv hr hr3 hx
  go_enter Tryd.func28, Tryd.ntmps28
  go_wp2_with fail
  refine (rdU8 _ F D r x HX.out tail cur HR3.out (by omega)).mono ?_
  rintro e w1 ⟨rfl, F1, cur1, h1, hu1⟩
  have rs1 := HRS.out.read h1 hu1
  obtain ⟨⟨c0, c1, c2, c3⟩, z0, z1, z2, z3⟩ := row4 rs1.row
  obtain ⟨⟨e0, e1, e2, e3⟩, f0, f1, f2, f3⟩ := row4 (W3.res HR.out rs1).1
  obtain ⟨z, hz⟩ : ∃ z : Value, z = .int .u64 ((x : Nat) : Int) := ⟨_, rfl⟩
  have HZ := Lib.hid hz
  have rs2 := rs1.store 0 z
  have HRES := Lib.hid (W3.res HR.out rs2).1
  have HRS2 := Lib.hid rs2
  clear HRS HR3 rs1 rs2 h1 hu1 hz
  go_wp2_with fail
  rw [show IntKind.u64.wrap (x : Int) = ((x : Nat) : Int) from by have := HX.out; first | (simp only [IntKind.wrap, IntKind.bits, IntKind.signed, wrap32, wrap64]; omega) | (simp [IntKind.wrap, IntKind.bits, IntKind.signed, wrap32, wrap64]; omega)]
  rw [← HZ.out]
  refine bodyPost_ret (v := .agg #[z, .int .u64 0, .slice none 0 0, .bool false]) (by obtain ⟨g0, g1, g2, g3⟩ := res4 HRES.out z (.int .u64 0) (.slice none 0 0) (.bool false) _ rfl; simp [results, Tryd.results28, go_sem, g0, g1, g2, g3]) rfl ?_
  obtain rfl := HZ.out
  refine get_fin (U := x) (V := 0) (S := []) (sv := .slice none 0 0) HR.out HRS2.out (.inl ⟨rfl, rfl⟩) (fun k hk => by simp [Value.ownBlock] at hk) ?_
  exact (((((Chg.refl (· = w.heap.size + 1) _).setCell (.inl rfl) _).setCell (.inl rfl) _).setCell (.inl rfl) _).setCell (.inl rfl) _)

set_option maxRecDepth 100000 in
theorem get8 (u v : Nat) (s0 : List UInt8) (x : Nat) (hx : x < 65536) (tail : List UInt8) : AskOk 28 ⟨8, u, v, s0⟩ (leB 2 x ++ tail) ⟨x, 0, [], false⟩ tail := by
  intro w F D r cur sv hr hs hsv hl
  obtain ⟨q, cq, rfl⟩ := hs.slice
  unfold askV
  have HR := Lib.hid hr
  have hr3 : RdAt (W3 w ⟨8, u, v, s0⟩ q cq) F D r (leB 2 x ++ tail) cur := hr.below (W3.below w _ q cq).1
  have HRS := Lib.hid (W3.rs hr ⟨8, u, v, s0⟩ q cq)
  have HR3 := Lib.hid hr3
  have HX := Lib.hid hx
  clear hs hsv hr hr3 hx
  go_enter Tryd.func28, Tryd.ntmps28
  go_wp2_with fail
  refine (rdU16 _ F D r x HX.out tail cur HR3.out (by omega)).mono ?_
  rintro e w1 ⟨rfl, F1, cur1, h1, hu1⟩
  have rs1 := HRS.out.read h1 hu1
  obtain ⟨⟨c0, c1, c2, c3⟩, z0, z1, z2, z3⟩ := row4 rs1.row
  obtain ⟨⟨e0, e1, e2, e3⟩, f0, f1, f2, f3⟩ := row4 (W3.res HR.out rs1).1
  obtain ⟨z, hz⟩ : ∃ z : Value, z = .int .u64 ((x : Nat) : Int) := ⟨_, rfl⟩
  have HZ := Lib.hid hz
  have rs2 := rs1.store 0 z
  have HRES := Lib.hid (W3.res HR.out rs2).1
  have HRS2 := Lib.hid rs2
  clear HRS HR3 rs1 rs2 h1 hu1 hz
  go_wp2_with fail
  rw [show IntKind.u64.wrap (x : Int) = ((x : Nat) : Int) from by have := HX.out; first | (simp only [IntKind.wrap, IntKind.bits, IntKind.signed, wrap32, wrap64]; omega) | (simp [IntKind.wrap, IntKind.bits, IntKind.signed, wrap32, wrap64]; omega)]
  rw [← HZ.out]
  refine bodyPost_ret (v := .agg #[z, .int .u64 0, .slice none 0 0, .bool false]) (by obtain ⟨g0, g1, g2, g3⟩ := res4 HRES.out z (.int .u64 0) (.slice none 0 0) (.bool false) _ rfl; simp [results, Tryd.results28, go_sem, g0, g1, g2, g3]) rfl ?_
  obtain rfl := HZ.out
  refine get_fin (U := x) (V := 0) (S := []) (sv := .slice none 0 0) HR.out HRS2.out (.inl ⟨rfl, rfl⟩) (fun k hk => by simp [Value.ownBlock] at hk) ?_
  exact (((((Chg.refl (· = w.heap.size + 1) _).setCell (.inl rfl) _).setCell (.inl rfl) _).setCell (.inl rfl) _).setCell (.inl rfl) _)

set_option maxRecDepth 100000 in
theorem get9 (u v : Nat) (s0 : List UInt8) (x : Nat) (hx : x < 4294967296) (tail : List UInt8) : AskOk 28 ⟨9, u, v, s0⟩ (leB 4 x ++ tail) ⟨x, 0, [], false⟩ tail := by
  intro w F D r cur sv hr hs hsv hl
  obtain ⟨q, cq, rfl⟩ := hs.slice
  unfold askV
  have HR := Lib.hid hr
  have hr3 : RdAt (W3 w ⟨9, u, v, s0⟩ q cq) F D r (leB 4 x ++ tail) cur := hr.below (W3.below w _ q cq).1
  have HRS := Lib.hid (W3.rs hr ⟨9, u, v, s0⟩ q cq)
  have HR3 := Lib.hid hr3
  have HX := Lib.hid hx
  clear hs hsv hr hr3 hx
  go_enter Tryd.func28, Tryd.ntmps28
  go_wp2_with fail
  refine (rdU32 _ F D r x HX.out tail cur HR3.out (by omega)).mono ?_
  rintro e w1 ⟨rfl, F1, cur1, h1, hu1⟩
  have rs1 := HRS.out.read h1 hu1
  obtain ⟨⟨c0, c1, c2, c3⟩, z0, z1, z2, z3⟩ := row4 rs1.row
  obtain ⟨⟨e0, e1, e2, e3⟩, f0, f1, f2, f3⟩ := row4 (W3.res HR.out rs1).1
  obtain ⟨z, hz⟩ : ∃ z : Value, z = .int .u64 ((x : Nat) : Int) := ⟨_, rfl⟩
  have HZ := Lib.hid hz
  have rs2 := rs1.store 0 z
  have HRES := Lib.hid (W3.res HR.out rs2).1
  have HRS2 := Lib.hid rs2
  clear HRS HR3 rs1 rs2 h1 hu1 hz
  go_wp2_with fail
  rw [show IntKind.u64.wrap (x : Int) = ((x : Nat) : Int) from by have := HX.out; first | (simp only [IntKind.wrap, IntKind.bits, IntKind.signed, wrap32, wrap64]; omega) | (simp [IntKind.wrap, IntKind.bits, IntKind.signed, wrap32, wrap64]; omega)]
  rw [← HZ.out]
  refine bodyPost_ret (v := .agg #[z, .int .u64 0, .slice none 0 0, .bool false]) (by obtain ⟨g0, g1, g2, g3⟩ := res4 HRES.out z (.int .u64 0) (.slice none 0 0) (.bool false) _ rfl; simp [results, Tryd.results28, go_sem, g0, g1, g2, g3]) rfl ?_
  obtain rfl := HZ.out
  refine get_fin (U := x) (V := 0) (S := []) (sv := .slice none 0 0) HR.out HRS2.out (.inl ⟨rfl, rfl⟩) (fun k hk => by simp [Value.ownBlock] at hk) ?_
  exact (((((Chg.refl (· = w.heap.size + 1) _).setCell (.inl rfl) _).setCell (.inl rfl) _).setCell (.inl rfl) _).setCell (.inl rfl) _)

set_option maxRecDepth 100000 in
theorem get10 (u v : Nat) (s0 : List UInt8) (x : Nat) (hx : x < 18446744073709551616) (tail : List UInt8) : AskOk 28 ⟨10, u, v, s0⟩ (leB 8 x ++ tail) ⟨x, 0, [], false⟩ tail := by
  intro w F D r cur sv hr hs hsv hl
  obtain ⟨q, cq, rfl⟩ := hs.slice
  unfold askV
  have HR := Lib.hid hr
  have hr3 : RdAt (W3 w ⟨10, u, v, s0⟩ q cq) F D r (leB 8 x ++ tail) cur := hr.below (W3.below w _ q cq).1
  have HRS := Lib.hid (W3.rs hr ⟨10, u, v, s0⟩ q cq)
  have HR3 := Lib.hid hr3
  have HX := Lib.hid hx
  clear hs hsv hr hr3 hx
  go_enter Tryd.func28, Tryd.ntmps28
  go_wp2_with fail
  refine (rdU64 _ F D r x HX.out tail cur HR3.out (by omega)).mono ?_
  rintro e w1 ⟨rfl, F1, cur1, h1, hu1⟩
  have rs1 := HRS.out.read h1 hu1
  obtain ⟨⟨c0, c1, c2, c3⟩, z0, z1, z2, z3⟩ := row4 rs1.row
  obtain ⟨⟨e0, e1, e2, e3⟩, f0, f1, f2, f3⟩ := row4 (W3.res HR.out rs1).1
  obtain ⟨z, hz⟩ : ∃ z : Value, z = .int .u64 ((x : Nat) : Int) := ⟨_, rfl⟩
  have HZ := Lib.hid hz
  have rs2 := rs1.store 0 z
  have HRES := Lib.hid (W3.res HR.out rs2).1
  have HRS2 := Lib.hid rs2
  clear HRS HR3 rs1 rs2 h1 hu1 hz
  go_wp2_with fail
  rw [← HZ.out]
  refine bodyPost_ret (v := .agg #[z, .int .u64 0, .slice none 0 0, .bool false]) (by obtain ⟨g0, g1, g2, g3⟩ := res4 HRES.out z (.int .u64 0) (.slice none 0 0) (.bool false) _ rfl; simp [results, Tryd.results28, go_sem, g0, g1, g2, g3]) rfl ?_
  obtain rfl := HZ.out
  refine get_fin (U := x) (V := 0) (S := []) (sv := .slice none 0 0) HR.out HRS2.out (.inl ⟨rfl, rfl⟩) (fun k hk => by simp [Value.ownBlock] at hk) ?_
  exact (((((Chg.refl (· = w.heap.size + 1) _).setCell (.inl rfl) _).setCell (.inl rfl) _).setCell (.inl rfl) _).setCell (.inl rfl) _)

end Go.Proofs.YtlohpmncagfecaaDoor
