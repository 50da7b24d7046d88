-- PRINTED BY print.sh 35421559b90ae4d0a3588c463048766b98c2df88dd9212a6774a882060cdf62d: not written by this session
import Derived.Test.YtbfhkimjlnmhgaaPFnDTOrderx0
namespace Go.Proofs.Ytbfhkimjlnmhgaa.PFnDTOrder
open Go.RowKit Go.Proofs.YtbfhkimjlnmhgaaW.PrintWords Go.Proofs.YtbfhkimjlnmhgaaW.PrintLast Go.Proofs.YtbfhkimjlnmhgaaW.PrintMore
attribute [local go_sem] max2_int min2_int max_two min_two max_three min_three max_four min_four   -- for this text's walks alone
set_option linter.unusedVariables false
set_option linter.unusedSimpArgs false

/-! ### proto_Date_Unix: function 21 -/
def proto_Date_Unix.f (a0 : Int) : Option (Int) := some (wrap64 (86400 * (wrap64 (a0))))
set_option maxHeartbeats 8000000 in
set_option maxRecDepth 100000 in
theorem proto_Date_Unix.calls (a0 : Int) (r : Int) (w : World) (h : proto_Date_Unix.f a0 = some r) :
    Calls Try.prog 21 #[.int .u16 a0] w fun e w' => e = .returned (.int .i64 r) ∧ Drawn0 w w' := by
  have H : (some (wrap64 (86400 * (wrap64 (a0))))) = some r := h
  clear h
  obtain rfl := Option.some.inj H
  go_enter Try.func21, Try.ntmps21
  go_wp2
  go_ret
  exact ⟨by first | rfl | (simp; done) | (simp [*]; done), by repeat (first | exact Drawn0.refl _ | apply Drawn0.step)⟩

/-! ### impl_DTUnix: function 10 -/
def impl_DTUnix.f (a0 : Int) : Option (Int) := (proto_Date_Unix.f a0).bind fun t101 => (some t101)
set_option maxHeartbeats 8000000 in
set_option maxRecDepth 100000 in
theorem impl_DTUnix.calls (a0 : Int) (r : Int) (w : World) (h : impl_DTUnix.f a0 = some r) :
    Calls Try.prog 10 #[.int .u16 a0] w fun e w' => e = .returned (.int .i64 r) ∧ Drawn0 w w' := by
  have H : ((proto_Date_Unix.f a0).bind fun t101 => (some t101)) = some r := h
  clear h
  replace H := Option.bind_eq_some_iff.mp H
  obtain ⟨t101, A20, H⟩ := H
  replace H : (some t101) = some r := H
  have A2 := Aside0.mk A20
  clear A20
  obtain rfl := Option.some.inj H
  go_enter Try.func10, Try.ntmps10
  go_wp2_with (first | ((with_reducible refine gate_callee (f := 21) rfl ?_); refine goesL_ (some 4) rfl rfl Try.func21 (by kernel_rfl) rfl #[.int .u16 a0] rfl (by (try simp only [List.map_toArray, List.map_cons, List.map_nil]); first | done | rfl | (simp only [List.length_drop, List.length_take]; rfl)) ?_; (with_reducible refine (proto_Date_Unix.calls a0 t101 _ A2.out).mono ?_); rintro e w' ⟨rfl, ⟨nd, rfl⟩⟩; refine ⟨_, rfl, ?_⟩))
  go_ret
  exact ⟨by first | rfl | (simp; done) | (simp [*]; done), by repeat (first | exact Drawn0.refl _ | apply Drawn0.step)⟩

/-! ### proto_Date32_Unix: function 22 -/
def proto_Date32_Unix.f (a0 : Int) : Option (Int) := some (wrap64 (86400 * (wrap64 (a0))))
set_option maxHeartbeats 8000000 in
set_option maxRecDepth 100000 in
theorem proto_Date32_Unix.calls (a0 : Int) (r : Int) (w : World) (h : proto_Date32_Unix.f a0 = some r) :
    Calls Try.prog 22 #[.int .i32 a0] w fun e w' => e = .returned (.int .i64 r) ∧ Drawn0 w w' := by
  have H : (some (wrap64 (86400 * (wrap64 (a0))))) = some r := h
  clear h
  obtain rfl := Option.some.inj H
  go_enter Try.func22, Try.ntmps22
  go_wp2
  go_ret
  exact ⟨by first | rfl | (simp; done) | (simp [*]; done), by repeat (first | exact Drawn0.refl _ | apply Drawn0.step)⟩

/-! ### impl_DTUnix32: function 11 -/
def impl_DTUnix32.f (a0 : Int) : Option (Int) := (proto_Date32_Unix.f a0).bind fun t102 => (some t102)
set_option maxHeartbeats 8000000 in
set_option maxRecDepth 100000 in
theorem impl_DTUnix32.calls (a0 : Int) (r : Int) (w : World) (h : impl_DTUnix32.f a0 = some r) :
    Calls Try.prog 11 #[.int .i32 a0] w fun e w' => e = .returned (.int .i64 r) ∧ Drawn0 w w' := by
  have H : ((proto_Date32_Unix.f a0).bind fun t102 => (some t102)) = some r := h
  clear h
  replace H := Option.bind_eq_some_iff.mp H
  obtain ⟨t102, A20, H⟩ := H
  replace H : (some t102) = some r := H
  have A2 := Aside0.mk A20
  clear A20
  obtain rfl := Option.some.inj H
  go_enter Try.func11, Try.ntmps11
  go_wp2_with (first | ((with_reducible refine gate_callee (f := 22) rfl ?_); refine goesL_ (some 4) rfl rfl Try.func22 (by kernel_rfl) rfl #[.int .i32 a0] rfl (by (try simp only [List.map_toArray, List.map_cons, List.map_nil]); first | done | rfl | (simp only [List.length_drop, List.length_take]; rfl)) ?_; (with_reducible refine (proto_Date32_Unix.calls a0 t102 _ A2.out).mono ?_); rintro e w' ⟨rfl, ⟨nd, rfl⟩⟩; refine ⟨_, rfl, ?_⟩))
  go_ret
  exact ⟨by first | rfl | (simp; done) | (simp [*]; done), by repeat (first | exact Drawn0.refl _ | apply Drawn0.step)⟩

/-! ### laws_FnDTOrder: function 4 -/
def laws_FnDTOrder.j0 : Nat → Int → Int → Bool → Option (Bool)
  | 0, _, _, _ => none
  | k + 1, x0, x1, x10 => if x10 = true then ((impl_DTUnix.f 65535).bind fun t103 => (some (t103 == 5662224000))) else ((impl_DTUnix.f (IntKind.u16.wrap (x0 + 1))).bind fun t104 => ((impl_DTUnix.f x0).bind fun t105 => (if (wrap64 (t104 - t105)) = 86400 then ((impl_DTUnix32.f (wrap32 (x1 + 1))).bind fun t106 => ((impl_DTUnix32.f x1).bind fun t107 => (if (wrap64 (t106 - t107)) = 86400 then ((impl_DTUnix.f x0).bind fun t108 => ((impl_DTUnix32.f (wrap32 (x0))).bind fun t109 => (some (t108 == t109)))) else (some false)))) else (some false))))
def laws_FnDTOrder.f (k : Nat) (a0 : Int) (a1 : Int) : Option (Bool) := if a0 = 65535 then (laws_FnDTOrder.j0 k a0 a1 true) else (laws_FnDTOrder.j0 k a0 a1 (a1 == 2147483647))
theorem laws_FnDTOrder.mono_l : ∀ k, (∀ y0 y1 y2, LeO (laws_FnDTOrder.j0 k y0 y1 y2) (laws_FnDTOrder.j0 (k + 1) y0 y1 y2))
  | 0 => fun _ _ _ r h => by simp [laws_FnDTOrder.j0] at h
  | k + 1 => by
    have ih0 := laws_FnDTOrder.mono_l k
    · intro y0 y1 y2
      unfold laws_FnDTOrder.j0
      repeat' first
      | (with_reducible exact ih0 _ _ _)
      | (with_reducible exact LeO.refl _)
      | (with_reducible exact LeO.none _)
      | (with_reducible refine LeO.ite ?_ ?_)
      | (with_reducible refine LeO.bind ?_ (fun _ => ?_))
      | exact ih0 _ _ _
      | exact LeO.none _
      | refine LeO.ite ?_ ?_
      | refine LeO.bind ?_ (fun _ => ?_)
theorem laws_FnDTOrder.mono : ∀ a0 a1 k, LeO (laws_FnDTOrder.f k a0 a1) (laws_FnDTOrder.f (k + 1) a0 a1) := by
  intro a0 a1 k
  have ih0 := laws_FnDTOrder.mono_l k
  unfold laws_FnDTOrder.f
  repeat' first
      | (with_reducible exact ih0 _ _ _)
      | (with_reducible exact LeO.refl _)
      | (with_reducible exact LeO.none _)
      | (with_reducible refine LeO.ite ?_ ?_)
      | (with_reducible refine LeO.bind ?_ (fun _ => ?_))
      | exact ih0 _ _ _
      | exact LeO.none _
      | refine LeO.ite ?_ ?_
      | refine LeO.bind ?_ (fun _ => ?_)
set_option maxHeartbeats 8000000 in
set_option maxRecDepth 100000 in
theorem laws_FnDTOrder.calls (k : Nat) (a0 : Int) (a1 : Int) (r : Bool) (w : World) (h : laws_FnDTOrder.f k a0 a1 = some r) :
    Calls Try.prog 4 #[.int .u16 a0, .int .i32 a1] w fun e w' => e = .returned (.bool r) ∧ Drawn0 w w' := by
  have H : (if a0 = 65535 then (laws_FnDTOrder.j0 k a0 a1 true) else (laws_FnDTOrder.j0 k a0 a1 (a1 == 2147483647))) = some r := h
  clear h
  have HC3 := Aside0.mk H
  clear H
  go_enter Try.func4, Try.ntmps4
  go_upto_region 1 with (fail)
  go_cut [10] (fun v10 wc => ∃ (kq : Nat) (x10_2 : Bool), v10 = .bool x10_2 ∧ Aside0 (laws_FnDTOrder.j0 kq a0 a1 x10_2 = some r) ∧ Aside0 (kq ≤ k) ∧ Drawn0 w wc)
  case first =>
    have H := HC3.out
    clear HC3
    by_cases c4 : a0 = 65535
    · rw [if_pos c4] at H
      have c4b0 : (a0 == 65535) = true := beq_iff_eq.mpr c4
      have c4b1 : (a0 != 65535) = false := bne_eq_false_iff_eq.mpr c4
      clear c4
      (first | rw [c4b0] | (simp only [i64_w, i32_w]; rw [c4b0]) | skip)
      have H' := Aside0.mk H
      clear H
      go_wp2
      go_meet
      case rel => exact ⟨_, (true), (by first | rfl | (simp; done) | (simp [*]; done)), H', ⟨by first | omega | exact Nat.le_refl _⟩, by repeat (first | exact Drawn0.refl _ | apply Drawn0.step)⟩
    · rw [if_neg c4] at H
      have c4b0 : (a0 == 65535) = false := beq_eq_false_iff_ne.mpr c4
      have c4b1 : (a0 != 65535) = true := bne_iff_ne.mpr c4
      (first | rw [c4b0] | (simp only [i64_w, i32_w]; rw [c4b0]) | skip)
      have H' := Aside0.mk H
      clear H
      go_wp2
      go_meet
      case rel => exact ⟨_, ((a1 == 2147483647)), (by first | rfl | (simp; done) | (simp [*]; done)), H', ⟨by first | omega | exact Nat.le_refl _⟩, by repeat (first | exact Drawn0.refl _ | apply Drawn0.step)⟩
  case rest =>
    clear HC3
    try clear p2
    try clear c4
    try clear c4b0
    try clear c4b1
    obtain ⟨kq, x10_2, rfl, HA, HJ2, ⟨mc2, rfl⟩⟩ := hcut
    cases kq with
    | zero => exact absurd HA.out (by simp [laws_FnDTOrder.j0])
    | succ kj2 =>
      have H := HA.out
      clear HA
      simp only [laws_FnDTOrder.j0] at H
      by_cases c5 : x10_2 = true
      · subst c5
        have H1 : ((impl_DTUnix.f 65535).bind fun t103 => (some (t103 == 5662224000))) = some r := by rw [if_pos rfl] at H; exact H
        clear H
        have H := H1
        clear H1
        replace H := Option.bind_eq_some_iff.mp H
        obtain ⟨t103, A60, H⟩ := H
        replace H : (some (t103 == 5662224000)) = some r := H
        have A6 := Aside0.mk A60
        clear A60
        obtain rfl := Option.some.inj H
        go_wp2_with (first | ((with_reducible refine gate_callee (f := 10) rfl ?_); refine goesL_ (some 11) rfl rfl Try.func10 (by kernel_rfl) rfl #[.int .u16 65535] rfl (by (try simp only [List.map_toArray, List.map_cons, List.map_nil]); first | done | rfl | (simp only [List.length_drop, List.length_take]; rfl)) ?_; (with_reducible refine (impl_DTUnix.calls 65535 t103 _ A6.out).mono ?_); rintro e w' ⟨rfl, ⟨nd, rfl⟩⟩; refine ⟨_, rfl, ?_⟩))
        go_ret
        exact ⟨by first | rfl | (simp; done) | (simp [*]; done), by repeat (first | exact Drawn0.refl _ | apply Drawn0.step)⟩
      · replace c5 := Bool.eq_false_iff.mpr c5
        subst c5
        have H1 : ((impl_DTUnix.f (IntKind.u16.wrap (a0 + 1))).bind fun t104 => ((impl_DTUnix.f a0).bind fun t105 => (if (wrap64 (t104 - t105)) = 86400 then ((impl_DTUnix32.f (wrap32 (a1 + 1))).bind fun t106 => ((impl_DTUnix32.f a1).bind fun t107 => (if (wrap64 (t106 - t107)) = 86400 then ((impl_DTUnix.f a0).bind fun t108 => ((impl_DTUnix32.f (wrap32 (a0))).bind fun t109 => (some (t108 == t109)))) else (some false)))) else (some false)))) = some r := by rw [if_neg (show ¬ (false = true) by decide)] at H; exact H
        clear H
        have H := H1
        clear H1
        replace H := Option.bind_eq_some_iff.mp H
        obtain ⟨t104, A70, H⟩ := H
        replace H : ((impl_DTUnix.f a0).bind fun t105 => (if (wrap64 (t104 - t105)) = 86400 then ((impl_DTUnix32.f (wrap32 (a1 + 1))).bind fun t106 => ((impl_DTUnix32.f a1).bind fun t107 => (if (wrap64 (t106 - t107)) = 86400 then ((impl_DTUnix.f a0).bind fun t108 => ((impl_DTUnix32.f (wrap32 (a0))).bind fun t109 => (some (t108 == t109)))) else (some false)))) else (some false))) = some r := H
        have A7 := Aside0.mk A70
        clear A70
        replace H := Option.bind_eq_some_iff.mp H
        obtain ⟨t105, A80, H⟩ := H
        replace H : (if (wrap64 (t104 - t105)) = 86400 then ((impl_DTUnix32.f (wrap32 (a1 + 1))).bind fun t106 => ((impl_DTUnix32.f a1).bind fun t107 => (if (wrap64 (t106 - t107)) = 86400 then ((impl_DTUnix.f a0).bind fun t108 => ((impl_DTUnix32.f (wrap32 (a0))).bind fun t109 => (some (t108 == t109)))) else (some false)))) else (some false)) = some r := H
        have A8 := Aside0.mk A80
        clear A80
        by_cases c9 : (wrap64 (t104 - t105)) = 86400
        · rw [if_pos c9] at H
          have c9b0 : ((wrap64 (t104 - t105)) == 86400) = true := beq_iff_eq.mpr c9
          have c9b1 : ((wrap64 (t104 - t105)) != 86400) = false := bne_eq_false_iff_eq.mpr c9
          clear c9
          replace H := Option.bind_eq_some_iff.mp H
          obtain ⟨t106, A100, H⟩ := H
          replace H : ((impl_DTUnix32.f a1).bind fun t107 => (if (wrap64 (t106 - t107)) = 86400 then ((impl_DTUnix.f a0).bind fun t108 => ((impl_DTUnix32.f (wrap32 (a0))).bind fun t109 => (some (t108 == t109)))) else (some false))) = some r := H
          have A10 := Aside0.mk A100
          clear A100
          replace H := Option.bind_eq_some_iff.mp H
          obtain ⟨t107, A110, H⟩ := H
          replace H : (if (wrap64 (t106 - t107)) = 86400 then ((impl_DTUnix.f a0).bind fun t108 => ((impl_DTUnix32.f (wrap32 (a0))).bind fun t109 => (some (t108 == t109)))) else (some false)) = some r := H
          have A11 := Aside0.mk A110
          clear A110
          by_cases c12 : (wrap64 (t106 - t107)) = 86400
          · rw [if_pos c12] at H
            have c12b0 : ((wrap64 (t106 - t107)) == 86400) = true := beq_iff_eq.mpr c12
            have c12b1 : ((wrap64 (t106 - t107)) != 86400) = false := bne_eq_false_iff_eq.mpr c12
            clear c12
            replace H := Option.bind_eq_some_iff.mp H
            obtain ⟨t108, A130, H⟩ := H
            replace H : ((impl_DTUnix32.f (wrap32 (a0))).bind fun t109 => (some (t108 == t109))) = some r := H
            have A13 := Aside0.mk A130
            clear A130
            replace H := Option.bind_eq_some_iff.mp H
            obtain ⟨t109, A140, H⟩ := H
            replace H : (some (t108 == t109)) = some r := H
            have A14 := Aside0.mk A140
            clear A140
            obtain rfl := Option.some.inj H
            go_wp2_with (first | ((with_reducible refine gate_callee (f := 10) rfl ?_); refine goesL_ (some 15) rfl rfl Try.func10 (by kernel_rfl) rfl #[.int .u16 (IntKind.u16.wrap (a0 + 1))] rfl (by (try simp only [List.map_toArray, List.map_cons, List.map_nil]); first | done | rfl | (simp only [List.length_drop, List.length_take]; rfl)) ?_; (with_reducible refine (impl_DTUnix.calls (IntKind.u16.wrap (a0 + 1)) t104 _ A7.out).mono ?_); rintro e w' ⟨rfl, ⟨nd, rfl⟩⟩; refine ⟨_, rfl, ?_⟩) | ((with_reducible refine gate_callee (f := 10) rfl ?_); refine goesL_ (some 17) rfl rfl Try.func10 (by kernel_rfl) rfl #[.int .u16 a0] rfl (by (try simp only [List.map_toArray, List.map_cons, List.map_nil]); first | done | rfl | (simp only [List.length_drop, List.length_take]; rfl)) ?_; (with_reducible refine (impl_DTUnix.calls a0 t105 _ A8.out).mono ?_); rintro e w' ⟨rfl, ⟨nd, rfl⟩⟩; refine ⟨_, rfl, ?_⟩) | (go_at_call 11; (with_reducible refine (impl_DTUnix32.calls (wrap32 (a1 + 1)) t106 _ A10.out).mono ?_); rintro e w' ⟨rfl, ⟨nd, rfl⟩⟩) | (go_at_call 11; (with_reducible refine (impl_DTUnix32.calls a1 t107 _ A11.out).mono ?_); rintro e w' ⟨rfl, ⟨nd, rfl⟩⟩) | (go_at_call 10; (with_reducible refine (impl_DTUnix.calls a0 t108 _ A13.out).mono ?_); rintro e w' ⟨rfl, ⟨nd, rfl⟩⟩) | (go_at_call 11; (with_reducible refine (impl_DTUnix32.calls (wrap32 (a0)) t109 _ A14.out).mono ?_); rintro e w' ⟨rfl, ⟨nd, rfl⟩⟩))
            go_ret
            exact ⟨by first | rfl | (simp; done) | (simp [*]; done), by repeat (first | exact Drawn0.refl _ | apply Drawn0.step)⟩
          · rw [if_neg c12] at H
            have c12b0 : ((wrap64 (t106 - t107)) == 86400) = false := beq_eq_false_iff_ne.mpr c12
            have c12b1 : ((wrap64 (t106 - t107)) != 86400) = true := bne_iff_ne.mpr c12
            obtain rfl := Option.some.inj H
            go_wp2_with (first | ((with_reducible refine gate_callee (f := 10) rfl ?_); refine goesL_ (some 15) rfl rfl Try.func10 (by kernel_rfl) rfl #[.int .u16 (IntKind.u16.wrap (a0 + 1))] rfl (by (try simp only [List.map_toArray, List.map_cons, List.map_nil]); first | done | rfl | (simp only [List.length_drop, List.length_take]; rfl)) ?_; (with_reducible refine (impl_DTUnix.calls (IntKind.u16.wrap (a0 + 1)) t104 _ A7.out).mono ?_); rintro e w' ⟨rfl, ⟨nd, rfl⟩⟩; refine ⟨_, rfl, ?_⟩) | ((with_reducible refine gate_callee (f := 10) rfl ?_); refine goesL_ (some 17) rfl rfl Try.func10 (by kernel_rfl) rfl #[.int .u16 a0] rfl (by (try simp only [List.map_toArray, List.map_cons, List.map_nil]); first | done | rfl | (simp only [List.length_drop, List.length_take]; rfl)) ?_; (with_reducible refine (impl_DTUnix.calls a0 t105 _ A8.out).mono ?_); rintro e w' ⟨rfl, ⟨nd, rfl⟩⟩; refine ⟨_, rfl, ?_⟩) | (go_at_call 11; (with_reducible refine (impl_DTUnix32.calls (wrap32 (a1 + 1)) t106 _ A10.out).mono ?_); rintro e w' ⟨rfl, ⟨nd, rfl⟩⟩) | (go_at_call 11; (with_reducible refine (impl_DTUnix32.calls a1 t107 _ A11.out).mono ?_); rintro e w' ⟨rfl, ⟨nd, rfl⟩⟩))
            go_ret
            exact ⟨by first | rfl | (simp; done) | (simp [*]; done), by repeat (first | exact Drawn0.refl _ | apply Drawn0.step)⟩
        · rw [if_neg c9] at H
          have c9b0 : ((wrap64 (t104 - t105)) == 86400) = false := beq_eq_false_iff_ne.mpr c9
          have c9b1 : ((wrap64 (t104 - t105)) != 86400) = true := bne_iff_ne.mpr c9
          obtain rfl := Option.some.inj H
          go_wp2_with (first | ((with_reducible refine gate_callee (f := 10) rfl ?_); refine goesL_ (some 15) rfl rfl Try.func10 (by kernel_rfl) rfl #[.int .u16 (IntKind.u16.wrap (a0 + 1))] rfl (by (try simp only [List.map_toArray, List.map_cons, List.map_nil]); first | done | rfl | (simp only [List.length_drop, List.length_take]; rfl)) ?_; (with_reducible refine (impl_DTUnix.calls (IntKind.u16.wrap (a0 + 1)) t104 _ A7.out).mono ?_); rintro e w' ⟨rfl, ⟨nd, rfl⟩⟩; refine ⟨_, rfl, ?_⟩) | ((with_reducible refine gate_callee (f := 10) rfl ?_); refine goesL_ (some 17) rfl rfl Try.func10 (by kernel_rfl) rfl #[.int .u16 a0] rfl (by (try simp only [List.map_toArray, List.map_cons, List.map_nil]); first | done | rfl | (simp only [List.length_drop, List.length_take]; rfl)) ?_; (with_reducible refine (impl_DTUnix.calls a0 t105 _ A8.out).mono ?_); rintro e w' ⟨rfl, ⟨nd, rfl⟩⟩; refine ⟨_, rfl, ?_⟩))
          go_ret
          exact ⟨by first | rfl | (simp; done) | (simp [*]; done), by repeat (first | exact Drawn0.refl _ | apply Drawn0.step)⟩

/-- THE ONE PURE STATEMENT of laws_FnDTOrder: yours. -/
def laws_FnDTOrder.Pure : Prop := ∀ (a0 : Int) (a1 : Int), (Lit.int .u16 a0).wf = true → (Lit.int .i32 a1).wf = true → ∃ k, laws_FnDTOrder.f k a0 a1 = some true
theorem laws_FnDTOrder.walk (P : laws_FnDTOrder.Pure) (a0 : Int) (a1 : Int) (w : World) (w0 : (Lit.int .u16 a0).wf = true) (w1 : (Lit.int .i32 a1).wf = true) :
    Calls Try.prog 4 #[.int .u16 a0, .int .i32 a1] w fun e w' => e = .returned (.bool true) ∧ Below w.heap.size w w' := by
  obtain ⟨k, h⟩ := P a0 a1 w0 w1
  refine (laws_FnDTOrder.calls k a0 a1 true w h).mono ?_
  rintro e w' ⟨rfl, hd⟩
  exact ⟨rfl, hd.below⟩

end Go.Proofs.Ytbfhkimjlnmhgaa.PFnDTOrder
