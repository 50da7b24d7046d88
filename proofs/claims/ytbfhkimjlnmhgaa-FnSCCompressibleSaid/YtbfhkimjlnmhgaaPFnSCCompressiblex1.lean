-- PRINTED BY print.sh 35421559b90ae4d0a3588c463048766b98c2df88dd9212a6774a882060cdf62d: not written by this session
import Derived.Test.YtbfhkimjlnmhgaaPFnSCCompressiblex0
namespace Go.Proofs.Ytbfhkimjlnmhgaa.PFnSCCompressible
open Go.RowKit Go.Proofs.YtbfhkimjlnmhgaaW.PrintWords Go.Proofs.YtbfhkimjlnmhgaaW.PrintLast Go.Proofs.YtbfhkimjlnmhgaaW.PrintMore
attribute [local go_sem] max2_int min2_int max_two min_two max_three min_three max_four min_four   -- for this text's walks alone
set_option linter.unusedVariables false
set_option linter.unusedSimpArgs false

/-! ### proto_ServerCode_Compressible: function 20 -/
def proto_ServerCode_Compressible.f (a0 : Int) : Option (Bool) := if a0 = 1 then (some true) else (if a0 = 7 then (some true) else (if a0 = 8 then (some true) else (some false)))
set_option maxHeartbeats 8000000 in
set_option maxRecDepth 100000 in
theorem proto_ServerCode_Compressible.calls (a0 : Int) (r : Bool) (w : World) (h : proto_ServerCode_Compressible.f a0 = some r) :
    Calls Try.prog 20 #[.int .u8 a0] w fun e w' => e = .returned (.bool r) ∧ Drawn0 w w' := by
  have H : (if a0 = 1 then (some true) else (if a0 = 7 then (some true) else (if a0 = 8 then (some true) else (some false)))) = some r := h
  clear h
  by_cases c2 : a0 = 1
  · rw [if_pos c2] at H
    have c2b0 : (a0 == 1) = true := beq_iff_eq.mpr c2
    have c2b1 : (a0 != 1) = false := bne_eq_false_iff_eq.mpr c2
    clear c2
    obtain rfl := Option.some.inj H
    go_enter Try.func20, Try.ntmps20
    go_wp2
    go_ret
    exact ⟨by first | rfl | (simp; done) | (simp [*]; done), by repeat (first | exact Drawn0.refl _ | apply Drawn0.step)⟩
  · rw [if_neg c2] at H
    have c2b0 : (a0 == 1) = false := beq_eq_false_iff_ne.mpr c2
    have c2b1 : (a0 != 1) = true := bne_iff_ne.mpr c2
    by_cases c3 : a0 = 7
    · rw [if_pos c3] at H
      have c3b0 : (a0 == 7) = true := beq_iff_eq.mpr c3
      have c3b1 : (a0 != 7) = false := bne_eq_false_iff_eq.mpr c3
      clear c3
      obtain rfl := Option.some.inj H
      go_enter Try.func20, Try.ntmps20
      go_wp2
      go_ret
      exact ⟨by first | rfl | (simp; done) | (simp [*]; done), by repeat (first | exact Drawn0.refl _ | apply Drawn0.step)⟩
    · rw [if_neg c3] at H
      have c3b0 : (a0 == 7) = false := beq_eq_false_iff_ne.mpr c3
      have c3b1 : (a0 != 7) = true := bne_iff_ne.mpr c3
      by_cases c4 : a0 = 8
      · rw [if_pos c4] at H
        have c4b0 : (a0 == 8) = true := beq_iff_eq.mpr c4
        have c4b1 : (a0 != 8) = false := bne_eq_false_iff_eq.mpr c4
        clear c4
        obtain rfl := Option.some.inj H
        go_enter Try.func20, Try.ntmps20
        go_wp2
        go_ret
        exact ⟨by first | rfl | (simp; done) | (simp [*]; done), by repeat (first | exact Drawn0.refl _ | apply Drawn0.step)⟩
      · rw [if_neg c4] at H
        have c4b0 : (a0 == 8) = false := beq_eq_false_iff_ne.mpr c4
        have c4b1 : (a0 != 8) = true := bne_iff_ne.mpr c4
        obtain rfl := Option.some.inj H
        go_enter Try.func20, Try.ntmps20
        go_wp2
        go_ret
        exact ⟨by first | rfl | (simp; done) | (simp [*]; done), by repeat (first | exact Drawn0.refl _ | apply Drawn0.step)⟩

/-! ### impl_SCCompressible: function 9 -/
def impl_SCCompressible.f (a0 : Int) : Option (Bool) := (proto_ServerCode_Compressible.f ((a0) % 256)).bind fun t101 => (some t101)
set_option maxHeartbeats 8000000 in
set_option maxRecDepth 100000 in
theorem impl_SCCompressible.calls (a0 : Int) (r : Bool) (w : World) (h : impl_SCCompressible.f a0 = some r) :
    Calls Try.prog 9 #[.int .i64 a0] w fun e w' => e = .returned (.bool r) ∧ Drawn0 w w' := by
  have H : ((proto_ServerCode_Compressible.f ((a0) % 256)).bind fun t101 => (some t101)) = some r := h
  clear h
  replace H := Option.bind_eq_some_iff.mp H
  obtain ⟨t101, A20, H⟩ := H
  replace H : (some t101) = some r := H
  have A2 := Aside0.mk A20
  clear A20
  obtain rfl := Option.some.inj H
  go_enter Try.func9, Try.ntmps9
  go_wp2_with (first | ((with_reducible refine gate_callee (f := 20) rfl ?_); refine goesL_ (some 5) rfl rfl Try.func20 (by kernel_rfl) rfl #[.int .u8 ((a0) % 256)] rfl (by (try simp only [List.map_toArray, List.map_cons, List.map_nil]); first | done | rfl | (simp only [List.length_drop, List.length_take]; rfl)) ?_; (with_reducible refine (proto_ServerCode_Compressible.calls ((a0) % 256) t101 _ A2.out).mono ?_); rintro e w' ⟨rfl, ⟨nd, rfl⟩⟩; refine ⟨_, rfl, ?_⟩))
  go_ret
  exact ⟨by first | rfl | (simp; done) | (simp [*]; done), by repeat (first | exact Drawn0.refl _ | apply Drawn0.step)⟩

/-! ### laws_FnSCCompressible: function 3 -/
def laws_FnSCCompressible.f (a0 : Int) : Option (Bool) := (impl_SCCompressible.f (wrap64 (a0))).bind fun t102 => (if a0 = 1 then (if (t102 == true) = true then ((impl_SCCompressible.f 1).bind fun t103 => (some t103)) else (some false)) else (if a0 = 7 then (if (t102 == true) = true then ((impl_SCCompressible.f 1).bind fun t104 => (some t104)) else (some false)) else (if (t102 == (a0 == 8)) = true then ((impl_SCCompressible.f 1).bind fun t105 => (some t105)) else (some false))))
set_option maxHeartbeats 8000000 in
set_option maxRecDepth 100000 in
theorem laws_FnSCCompressible.calls (a0 : Int) (r : Bool) (w : World) (h : laws_FnSCCompressible.f a0 = some r) :
    Calls Try.prog 3 #[.int .u8 a0] w fun e w' => e = .returned (.bool r) ∧ Drawn0 w w' := by
  have H : ((impl_SCCompressible.f (wrap64 (a0))).bind fun t102 => (if a0 = 1 then (if (t102 == true) = true then ((impl_SCCompressible.f 1).bind fun t103 => (some t103)) else (some false)) else (if a0 = 7 then (if (t102 == true) = true then ((impl_SCCompressible.f 1).bind fun t104 => (some t104)) else (some false)) else (if (t102 == (a0 == 8)) = true then ((impl_SCCompressible.f 1).bind fun t105 => (some t105)) else (some false))))) = some r := h
  clear h
  replace H := Option.bind_eq_some_iff.mp H
  obtain ⟨t102, A20, H⟩ := H
  replace H : (if a0 = 1 then (if (t102 == true) = true then ((impl_SCCompressible.f 1).bind fun t103 => (some t103)) else (some false)) else (if a0 = 7 then (if (t102 == true) = true then ((impl_SCCompressible.f 1).bind fun t104 => (some t104)) else (some false)) else (if (t102 == (a0 == 8)) = true then ((impl_SCCompressible.f 1).bind fun t105 => (some t105)) else (some false)))) = some r := H
  have A2 := Aside0.mk A20
  clear A20
  by_cases c3 : a0 = 1
  · rw [if_pos c3] at H
    have c3b0 : (a0 == 1) = true := beq_iff_eq.mpr c3
    have c3b1 : (a0 != 1) = false := bne_eq_false_iff_eq.mpr c3
    clear c3
    by_cases c4 : (t102 == true) = true
    · rw [if_pos c4] at H
      have c4b0 : (t102 == true) = true := c4
      (try (have c4b1 : decide (t102 = true) = true := by simpa using c4))
      (try (have c4b2 : (t102 == true) = true := by simpa using c4))
      clear c4
      replace H := Option.bind_eq_some_iff.mp H
      obtain ⟨t103, A50, H⟩ := H
      replace H : (some t103) = some r := H
      have A5 := Aside0.mk A50
      clear A50
      obtain rfl := Option.some.inj H
      go_enter Try.func3, Try.ntmps3
      go_wp2_with (first | ((with_reducible refine gate_callee (f := 9) rfl ?_); refine goesL_ (some 5) rfl rfl Try.func9 (by kernel_rfl) rfl #[.int .i64 (wrap64 (a0))] rfl (by (try simp only [List.map_toArray, List.map_cons, List.map_nil]); first | done | rfl | (simp only [List.length_drop, List.length_take]; rfl)) ?_; (with_reducible refine (impl_SCCompressible.calls (wrap64 (a0)) t102 _ A2.out).mono ?_); rintro e w' ⟨rfl, ⟨nd, rfl⟩⟩; refine ⟨_, rfl, ?_⟩) | (go_at_call 9; (with_reducible refine (impl_SCCompressible.calls 1 t103 _ A5.out).mono ?_); rintro e w' ⟨rfl, ⟨nd, rfl⟩⟩))
      go_ret
      exact ⟨by first | rfl | (simp; done) | (simp [*]; done), by repeat (first | exact Drawn0.refl _ | apply Drawn0.step)⟩
    · rw [if_neg c4] at H
      have c4b0 : (t102 == true) = false := by simpa using c4
      (try (have c4b1 : decide (t102 = true) = false := by simpa using c4))
      (try (have c4b2 : (t102 == true) = false := by simpa using c4))
      (try (have c4b3 : ¬ (t102 = true) := by simpa using c4))
      clear c4
      obtain rfl := Option.some.inj H
      go_enter Try.func3, Try.ntmps3
      go_wp2_with (first | ((with_reducible refine gate_callee (f := 9) rfl ?_); refine goesL_ (some 5) rfl rfl Try.func9 (by kernel_rfl) rfl #[.int .i64 (wrap64 (a0))] rfl (by (try simp only [List.map_toArray, List.map_cons, List.map_nil]); first | done | rfl | (simp only [List.length_drop, List.length_take]; rfl)) ?_; (with_reducible refine (impl_SCCompressible.calls (wrap64 (a0)) t102 _ A2.out).mono ?_); rintro e w' ⟨rfl, ⟨nd, rfl⟩⟩; refine ⟨_, rfl, ?_⟩))
      go_ret
      exact ⟨by first | rfl | (simp; done) | (simp [*]; done), by repeat (first | exact Drawn0.refl _ | apply Drawn0.step)⟩
  · rw [if_neg c3] at H
    have c3b0 : (a0 == 1) = false := beq_eq_false_iff_ne.mpr c3
    have c3b1 : (a0 != 1) = true := bne_iff_ne.mpr c3
    by_cases c6 : a0 = 7
    · rw [if_pos c6] at H
      have c6b0 : (a0 == 7) = true := beq_iff_eq.mpr c6
      have c6b1 : (a0 != 7) = false := bne_eq_false_iff_eq.mpr c6
      clear c6
      by_cases c7 : (t102 == true) = true
      · rw [if_pos c7] at H
        have c7b0 : (t102 == true) = true := c7
        (try (have c7b1 : decide (t102 = true) = true := by simpa using c7))
        (try (have c7b2 : (t102 == true) = true := by simpa using c7))
        clear c7
        replace H := Option.bind_eq_some_iff.mp H
        obtain ⟨t104, A80, H⟩ := H
        replace H : (some t104) = some r := H
        have A8 := Aside0.mk A80
        clear A80
        obtain rfl := Option.some.inj H
        go_enter Try.func3, Try.ntmps3
        go_wp2_with (first | ((with_reducible refine gate_callee (f := 9) rfl ?_); refine goesL_ (some 5) rfl rfl Try.func9 (by kernel_rfl) rfl #[.int .i64 (wrap64 (a0))] rfl (by (try simp only [List.map_toArray, List.map_cons, List.map_nil]); first | done | rfl | (simp only [List.length_drop, List.length_take]; rfl)) ?_; (with_reducible refine (impl_SCCompressible.calls (wrap64 (a0)) t102 _ A2.out).mono ?_); rintro e w' ⟨rfl, ⟨nd, rfl⟩⟩; refine ⟨_, rfl, ?_⟩) | (go_at_call 9; (with_reducible refine (impl_SCCompressible.calls 1 t104 _ A8.out).mono ?_); rintro e w' ⟨rfl, ⟨nd, rfl⟩⟩))
        go_ret
        exact ⟨by first | rfl | (simp; done) | (simp [*]; done), by repeat (first | exact Drawn0.refl _ | apply Drawn0.step)⟩
      · rw [if_neg c7] at H
        have c7b0 : (t102 == true) = false := by simpa using c7
        (try (have c7b1 : decide (t102 = true) = false := by simpa using c7))
        (try (have c7b2 : (t102 == true) = false := by simpa using c7))
        (try (have c7b3 : ¬ (t102 = true) := by simpa using c7))
        clear c7
        obtain rfl := Option.some.inj H
        go_enter Try.func3, Try.ntmps3
        go_wp2_with (first | ((with_reducible refine gate_callee (f := 9) rfl ?_); refine goesL_ (some 5) rfl rfl Try.func9 (by kernel_rfl) rfl #[.int .i64 (wrap64 (a0))] rfl (by (try simp only [List.map_toArray, List.map_cons, List.map_nil]); first | done | rfl | (simp only [List.length_drop, List.length_take]; rfl)) ?_; (with_reducible refine (impl_SCCompressible.calls (wrap64 (a0)) t102 _ A2.out).mono ?_); rintro e w' ⟨rfl, ⟨nd, rfl⟩⟩; refine ⟨_, rfl, ?_⟩))
        go_ret
        exact ⟨by first | rfl | (simp; done) | (simp [*]; done), by repeat (first | exact Drawn0.refl _ | apply Drawn0.step)⟩
    · rw [if_neg c6] at H
      have c6b0 : (a0 == 7) = false := beq_eq_false_iff_ne.mpr c6
      have c6b1 : (a0 != 7) = true := bne_iff_ne.mpr c6
      by_cases c9 : (t102 == (a0 == 8)) = true
      · rw [if_pos c9] at H
        have c9b0 : (t102 == (a0 == 8)) = true := c9
        (try (have c9b1 : decide (t102 = (a0 == 8)) = true := by simpa using c9))
        (try (have c9b2 : (t102 == (a0 == 8)) = true := by simpa using c9))
        clear c9
        replace H := Option.bind_eq_some_iff.mp H
        obtain ⟨t105, A100, H⟩ := H
        replace H : (some t105) = some r := H
        have A10 := Aside0.mk A100
        clear A100
        obtain rfl := Option.some.inj H
        go_enter Try.func3, Try.ntmps3
        go_wp2_with (first | ((with_reducible refine gate_callee (f := 9) rfl ?_); refine goesL_ (some 5) rfl rfl Try.func9 (by kernel_rfl) rfl #[.int .i64 (wrap64 (a0))] rfl (by (try simp only [List.map_toArray, List.map_cons, List.map_nil]); first | done | rfl | (simp only [List.length_drop, List.length_take]; rfl)) ?_; (with_reducible refine (impl_SCCompressible.calls (wrap64 (a0)) t102 _ A2.out).mono ?_); rintro e w' ⟨rfl, ⟨nd, rfl⟩⟩; refine ⟨_, rfl, ?_⟩) | (go_at_call 9; (with_reducible refine (impl_SCCompressible.calls 1 t105 _ A10.out).mono ?_); rintro e w' ⟨rfl, ⟨nd, rfl⟩⟩))
        go_ret
        exact ⟨by first | rfl | (simp; done) | (simp [*]; done), by repeat (first | exact Drawn0.refl _ | apply Drawn0.step)⟩
      · rw [if_neg c9] at H
        have c9b0 : (t102 == (a0 == 8)) = false := by simpa using c9
        (try (have c9b1 : decide (t102 = (a0 == 8)) = false := by simpa using c9))
        (try (have c9b2 : (t102 == (a0 == 8)) = false := by simpa using c9))
        (try (have c9b3 : ¬ (t102 = (a0 == 8)) := by simpa using c9))
        clear c9
        obtain rfl := Option.some.inj H
        go_enter Try.func3, Try.ntmps3
        go_wp2_with (first | ((with_reducible refine gate_callee (f := 9) rfl ?_); refine goesL_ (some 5) rfl rfl Try.func9 (by kernel_rfl) rfl #[.int .i64 (wrap64 (a0))] rfl (by (try simp only [List.map_toArray, List.map_cons, List.map_nil]); first | done | rfl | (simp only [List.length_drop, List.length_take]; rfl)) ?_; (with_reducible refine (impl_SCCompressible.calls (wrap64 (a0)) t102 _ A2.out).mono ?_); rintro e w' ⟨rfl, ⟨nd, rfl⟩⟩; refine ⟨_, rfl, ?_⟩))
        go_ret
        exact ⟨by first | rfl | (simp; done) | (simp [*]; done), by repeat (first | exact Drawn0.refl _ | apply Drawn0.step)⟩

/-- THE ONE PURE STATEMENT of laws_FnSCCompressible: yours. -/
def laws_FnSCCompressible.Pure : Prop := ∀ (a0 : Int), (Lit.int .u8 a0).wf = true → laws_FnSCCompressible.f a0 = some true
theorem laws_FnSCCompressible.walk (P : laws_FnSCCompressible.Pure) (a0 : Int) (w : World) (w0 : (Lit.int .u8 a0).wf = true) :
    Calls Try.prog 3 #[.int .u8 a0] w fun e w' => e = .returned (.bool true) ∧ Below w.heap.size w w' := by
  have h := P a0 w0
  refine (laws_FnSCCompressible.calls a0 true w h).mono ?_
  rintro e w' ⟨rfl, hd⟩
  exact ⟨rfl, hd.below⟩

end Go.Proofs.Ytbfhkimjlnmhgaa.PFnSCCompressible
