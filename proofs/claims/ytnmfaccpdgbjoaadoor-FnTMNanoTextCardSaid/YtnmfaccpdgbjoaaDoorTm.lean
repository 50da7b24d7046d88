/- time.Duration: Hours, Minutes, Seconds; zzPad; proto.Time32.String. -/
import Derived.Test.YtnmfaccpdgbjoaaDoorChecked
import Derived.WalkKit
import Derived.ProofKit
import Derived.LoopTactic
import Derived.Test.YtnmfaccpdgbjoaaDoorFlo
import Derived.Test.YtnmfaccpdgbjoaaDoorTmP
import Derived.Test.YtnmfaccpdgbjoaaDoorMem
import Derived.KernelRfl
import Derived.Lib.Hide
namespace Go.Proofs.YtnmfaccpdgbjoaaDoor
open Go.RowKit
set_option linter.unusedVariables false
set_option linter.unusedSimpArgs false
set_option linter.unnecessarySimpa false

theorem near_f64 (n : Nat) : FloatKind.f64.nearest (n : Int) = Ieee.double.nearest false n 0 := by
  unfold FloatKind.nearest FloatKind.encode FloatKind.format Ieee.Format.write
  have : decide ((n : Int) < 0) = false := by simp
  simp [this]
theorem conv_up (n : Nat) (w : World) : (Go.convert 39 40 (.int .i64 n)).run Tryd.prog w = .ok (.float .f64 (Ieee.double.nearest false n 0)) w := by
  rw [← near_f64]
  kernel_rfl
theorem conv_down (s h : Nat) (w : World) (hs : (Ieee.double.read s).toInt .zero = some (h : Int)) (hh : h ≤ 9000000000000000) : (Go.convert 40 3 (.float .f64 s)).run Tryd.prog w = .ok (.int .i64 h) w := by
  have e : (Go.convert 40 3 (.float .f64 s)).run Tryd.prog w = (Conv.floatToInt .f64 s .i64).run Tryd.prog w := by kernel_rfl
  have hd : (FloatKind.f64.decode s).toInt .zero = some (h : Int) := hs
  have h1 : IntKind.i64.min ≤ (h : Int) ∧ (h : Int) ≤ IntKind.i64.max := ⟨by show (-9223372036854775808 : Int) ≤ _; omega, by show _ ≤ (9223372036854775807 : Int); omega⟩
  rw [e]
  unfold Conv.floatToInt
  simp only [hd, h1, and_self, if_true]
  rfl

theorem run_fdiv (x y q : Nat) (w : World) (h : Ieee.double.div x y = some q) : (Go.binOp .quo 40 (.float .f64 x) (.float .f64 y)).run Tryd.prog w = .ok (.float .f64 q) w := by
  have e : (Go.binOp .quo 40 (.float .f64 x) (.float .f64 y)).run Tryd.prog w = (Op.floatArith .quo .f64 x y).run Tryd.prog w := by kernel_rfl
  have hd : FloatKind.f64.format.div x y = some q := h
  rw [e]
  unfold Op.floatArith
  simp only [hd, pure_bind]
  rfl
theorem run_fadd (x y q : Nat) (w : World) (h : Ieee.double.add x y = some q) : (Go.binOp .add 40 (.float .f64 x) (.float .f64 y)).run Tryd.prog w = .ok (.float .f64 q) w := by
  have e : (Go.binOp .add 40 (.float .f64 x) (.float .f64 y)).run Tryd.prog w = (Op.floatArith .add .f64 x y).run Tryd.prog w := by kernel_rfl
  have hd : FloatKind.f64.format.add x y = some q := h
  rw [e]
  unfold Op.floatArith
  simp only [hd, pure_bind]
  rfl

theorem word_of (y m : Nat) (k : Nat) (n : Nat) (h1 : 2 ^ 52 ≤ y) (h2 : y < 2047 * 2 ^ 52) (hk : k ≤ 1000) (hm : 2 ^ 52 + y % 2 ^ 52 = n * 2 ^ k) (hp : y / 2 ^ 52 - 1 + k = 1074) : Fin y ∧ fval y = vv n 0 := by
  have hz := zz_eq
  refine ⟨h2, ?_⟩
  rw [fval_norm y h1 h2, hm, vv_up n _ k (by omega)]
  congr 1
  omega
theorem word42 : Fin 4794699203894837248 ∧ fval 4794699203894837248 = vv 3600000000000 0 := word_of _ 0 11 _ (by decide) (by decide) (by decide) (by decide) (by decide)
theorem word36 : Fin 4768169126130614272 ∧ fval 4768169126130614272 = vv 60000000000 0 := word_of _ 0 17 _ (by decide) (by decide) (by decide) (by decide) (by decide)
theorem word30 : Fin 4741671816366391296 ∧ fval 4741671816366391296 = vv 1000000000 0 := word_of _ 0 23 _ (by decide) (by decide) (by decide) (by decide) (by decide)
theorem tdivN (a b q : Nat) (h : a / b = q) : Int.tdiv (a : Int) (b : Int) = (q : Int) := by subst h; rfl
theorem tmodN (a b q : Nat) (h : a % b = q) : Int.tmod (a : Int) (b : Int) = (q : Int) := by subst h; rfl

theorem hours (w : World) (h n : Nat) (hn : n < 3600000000000) (hh : h ≤ 1000) : Calls Tryd.prog 14 #[.int .i64 ((h * 3600000000000 + n : Nat) : Int)] w fun e w' => ∃ s, e = .returned (.float .f64 s) ∧ (Ieee.double.read s).toInt .zero = some (h : Int) ∧ w = w' := by
  have hq : Int.tdiv ((h * 3600000000000 + n : Nat) : Int) 3600000000000 = (h : Int) := tdivN _ 3600000000000 _ (by omega)
  have hr : Int.tmod ((h * 3600000000000 + n : Nat) : Int) 3600000000000 = (n : Int) := tmodN _ 3600000000000 _ (by omega)
  obtain ⟨q, h1, h2, h3⟩ := share n 3600000000000 4794699203894837248 42 word42.1 word42.2 hn (by decide) (by decide)
  obtain ⟨s, h4, h5⟩ := whole h q 42 h2 h3 (by decide) (by omega)
  generalize ((h * 3600000000000 + n : Nat) : Int) = d at *
  have c1 := fun W => conv_up h W
  have c2 := fun W => conv_up n W
  have c3 := fun W => run_fdiv _ _ _ W h1
  have c4 := fun W => run_fadd _ _ _ W h4
  go_enter Tryd.func14, Tryd.ntmps14
  go_wp2
  go_ret
  exact ⟨s, rfl, h5, rfl⟩

theorem zzPadV (ds : List UInt8) (n k : Nat) (hn : n ≤ 9223372036854775807) (hds : ds.length ≤ 20) (hk : k ≤ 20) (w : World) (Q : World → Prop)
    (hF : Calls Tryd.prog 25 #[.int .i64 n, .int .i64 10] w fun e w' => e = .returned (.string (ba ds)) ∧ Q w') :
    Calls Tryd.prog 17 #[.int .i64 n, .int .i64 k] w fun e w' => e = .returned (.string (ba (padTo k ds))) ∧ Q w' := by
  have HF := Lib.hid hF
  clear hF
  go_enter Tryd.func17, Tryd.ntmps17
  go_wp2_with (go_at_call 25; refine HF.out.mono ?_; rintro e w1 ⟨rfl, hQ⟩)
  have HQ := Lib.hid hQ
  clear hQ
  go_loop [5] (fun s => ∃ j : Nat, (j = 0 ∨ j + ds.length ≤ k) ∧ s = .string (ba (List.replicate j 48 ++ ds))) (fun s => k - lenOf s)
  case atStart => exact ⟨0, .inl rfl, by simp⟩
  case round =>
    obtain ⟨j, hj, rfl⟩ := hrel
    have hsz : (ba (List.replicate j 48 ++ ds)).size = j + ds.length := by rw [ba_size]; simp
    have H1 := Lib.hid (show (⟨#[48]⟩ : ByteArray) ++ ba (List.replicate j 48 ++ ds) = ba (List.replicate (j + 1) 48 ++ ds) from (ba_app [48] _).trans (by rw [List.replicate_succ]; rfl))
    have H2 := Lib.hid (show j + ds.length ≥ k → (⟨#[]⟩ : ByteArray) ++ ba (List.replicate j 48 ++ ds) = ba (padTo k ds) from fun h => (ba_app [] _).trans (by
      have : j = k - ds.length := by omega
      rw [this]; rfl))
    have h1 : (⟨#[48]⟩ : ByteArray).size = 1 := rfl
    have h0 : (⟨#[]⟩ : ByteArray).size = 0 := rfl
    by_cases hlt : j + ds.length < k
    · go_wp2
      go_round
      case rel => exact ⟨j + 1, by omega, by rw [H1.out]⟩
      case measure =>
        rw [H1.out]
        simp only [lenOf, ba_size, List.length_append, List.length_replicate]
        omega
    · go_wp2
      go_ret
      exact ⟨by rw [H2.out (by omega)]; rfl, HQ.out⟩

theorem minutes (w : World) (h n : Nat) (hn : n < 60000000000) (hh : h ≤ 100000) : Calls Tryd.prog 15 #[.int .i64 ((h * 60000000000 + n : Nat) : Int)] w fun e w' => ∃ s, e = .returned (.float .f64 s) ∧ (Ieee.double.read s).toInt .zero = some (h : Int) ∧ w = w' := by
  have hq : Int.tdiv ((h * 60000000000 + n : Nat) : Int) 60000000000 = (h : Int) := tdivN _ 60000000000 _ (by omega)
  have hr : Int.tmod ((h * 60000000000 + n : Nat) : Int) 60000000000 = (n : Int) := tmodN _ 60000000000 _ (by omega)
  obtain ⟨q, h1, h2, h3⟩ := share n 60000000000 4768169126130614272 36 word36.1 word36.2 hn (by decide) (by decide)
  obtain ⟨s, h4, h5⟩ := whole h q 36 h2 h3 (by decide) (by omega)
  generalize ((h * 60000000000 + n : Nat) : Int) = d at *
  have c1 := fun W => conv_up h W
  have c2 := fun W => conv_up n W
  have c3 := fun W => run_fdiv _ _ _ W h1
  have c4 := fun W => run_fadd _ _ _ W h4
  go_enter Tryd.func15, Tryd.ntmps15
  go_wp2
  go_ret
  exact ⟨s, rfl, h5, rfl⟩
theorem seconds (w : World) (h n : Nat) (hn : n < 1000000000) (hh : h ≤ 1000000) : Calls Tryd.prog 16 #[.int .i64 ((h * 1000000000 + n : Nat) : Int)] w fun e w' => ∃ s, e = .returned (.float .f64 s) ∧ (Ieee.double.read s).toInt .zero = some (h : Int) ∧ w = w' := by
  have hq : Int.tdiv ((h * 1000000000 + n : Nat) : Int) 1000000000 = (h : Int) := tdivN _ 1000000000 _ (by omega)
  have hr : Int.tmod ((h * 1000000000 + n : Nat) : Int) 1000000000 = (n : Int) := tmodN _ 1000000000 _ (by omega)
  obtain ⟨q, h1, h2, h3⟩ := share n 1000000000 4741671816366391296 30 word30.1 word30.2 hn (by decide) (by decide)
  obtain ⟨s, h4, h5⟩ := whole h q 30 h2 h3 (by decide) (by omega)
  generalize ((h * 1000000000 + n : Nat) : Int) = d at *
  have c1 := fun W => conv_up h W
  have c2 := fun W => conv_up n W
  have c3 := fun W => run_fdiv _ _ _ W h1
  have c4 := fun W => run_fadd _ _ _ W h4
  go_enter Tryd.func16, Tryd.ntmps16
  go_wp2
  go_ret
  exact ⟨s, rfl, h5, rfl⟩

set_option maxRecDepth 100000 in
theorem text32 (w : World) (n : Nat) (hn : n < 360000) (hFI : ∀ w (i : Nat), i < 100 → Calls Tryd.prog 25 #[.int .i64 i, .int .i64 10] w fun e w' => e = .returned (.string (ba (Lib.decDigits i))) ∧ w = w') :
    Calls Tryd.prog 10 #[.int .i32 n] w fun e w' => e = .returned (.string (ba (txt n))) ∧ w = w' := by
  have H1 := hours w (n / 3600) (n % 3600 * 1000000000) (by omega) (by omega)
  rw [show ((n / 3600 * 3600000000000 + n % 3600 * 1000000000 : Nat) : Int) = (n : Int) * 1000000000 by omega] at H1
  have H2 := minutes w (n / 60) (n % 60 * 1000000000) (by omega) (by omega)
  rw [show ((n / 60 * 60000000000 + n % 60 * 1000000000 : Nat) : Int) = (n : Int) * 1000000000 by omega] at H2
  have H3 := seconds w n 0 (by omega) (by omega)
  rw [show ((n * 1000000000 + 0 : Nat) : Int) = (n : Int) * 1000000000 by omega] at H3
  have hz : ∀ w (i : Nat), i < 100 → Calls Tryd.prog 17 #[.int .i64 i, .int .i64 2] w fun e w' => e = .returned (.string (ba (two i))) ∧ w = w' := fun w i hi => by
    have := zzPadV (Lib.decDigits i) i 2 (by omega) (Nat.le_trans (dec_len 1 i (by omega)) (by decide)) (by decide) w (fun w' => w = w') (hFI w i hi)
    rwa [pad_two i hi] at this
  have ht : txt n = two (n / 3600) ++ ([58] ++ (two (n / 60 % 60) ++ ([58] ++ two (n % 60)))) := rfl
  have b1 : n / 3600 < 100 := by omega
  have b2 : n / 60 % 60 < 100 := by omega
  have b3 : n % 60 < 100 := by omega
  have b4 : n / 60 < 10000 := by omega
  have m2 : Int.tmod ((n / 60 : Nat) : Int) 60 = ((n / 60 % 60 : Nat) : Int) := tmodN _ 60 _ rfl
  have m3 : Int.tmod ((n : Nat) : Int) 60 = ((n % 60 : Nat) : Int) := tmodN _ 60 _ rfl
  generalize n / 60 % 60 = q at *
  generalize n / 3600 = p at *
  generalize n / 60 = m at *
  generalize n % 60 = r at *
  have Z1 := Lib.hid (fun w => hz w p b1)
  have Z2 := Lib.hid (fun w => hz w q b2)
  have Z3 := Lib.hid (fun w => hz w r b3)
  have E1 := Lib.hid (show ba (two p) ++ (⟨#[58]⟩ : ByteArray) ++ ba (two q) ++ (⟨#[58]⟩ : ByteArray) ++ ba (two r) = ba (txt n) from by
    show _ ++ ba [58] ++ _ ++ ba [58] ++ _ = _
    rw [ba_app, ba_app, ba_app, ba_app, ht]
    rfl)
  have z1 : (ba (two p)).size = 2 := rfl
  have z2 : (ba (two q)).size = 2 := rfl
  have z3 : (ba (two r)).size = 2 := rfl
  obtain ⟨P, hP⟩ : ∃ P, P = ba (two p) := ⟨_, rfl⟩
  obtain ⟨Q, hQ⟩ : ∃ Q, Q = ba (two q) := ⟨_, rfl⟩
  obtain ⟨R, hR⟩ : ∃ R, R = ba (two r) := ⟨_, rfl⟩
  rw [← hP] at Z1 z1 E1
  rw [← hQ] at Z2 z2 E1
  rw [← hR] at Z3 z3 E1
  have G1 := Lib.hid H1
  have G2 := Lib.hid H2
  have G3 := Lib.hid H3
  clear hz H1 H2 H3 hFI ht hP hQ hR
  have h58 : (⟨#[58]⟩ : ByteArray).size = 1 := rfl
  have f1 : (P ++ (⟨#[58]⟩ : ByteArray)).size = 3 := by rw [ByteArray.size_append, z1]; rfl
  have f2 : (P ++ (⟨#[58]⟩ : ByteArray) ++ Q).size = 5 := by rw [ByteArray.size_append, f1, z2]
  have f3 : (P ++ (⟨#[58]⟩ : ByteArray) ++ Q ++ (⟨#[58]⟩ : ByteArray)).size = 6 := by rw [ByteArray.size_append, f2]; rfl
  go_enter Tryd.func10, Tryd.ntmps10
  go_wp2_with (first | (go_at_call 14; refine G1.out.mono ?_; rintro e w' ⟨s1, rfl, hs1, rfl⟩; have d1 := fun W => conv_down s1 p W hs1 (by omega)) | (go_at_call 15; refine G2.out.mono ?_; rintro e w' ⟨s2, rfl, hs2, rfl⟩; have d2 := fun W => conv_down s2 m W hs2 (by omega)) | (go_at_call 16; refine G3.out.mono ?_; rintro e w' ⟨s3, rfl, hs3, rfl⟩; have d3 := fun W => conv_down s3 n W hs3 (by omega)) | (go_at_call 17; first | (with_reducible refine (Z1.out _).mono ?_; rintro e w' ⟨rfl, rfl⟩) | (with_reducible refine (Z2.out _).mono ?_; rintro e w' ⟨rfl, rfl⟩) | (with_reducible refine (Z3.out _).mono ?_; rintro e w' ⟨rfl, rfl⟩) | fail) | fail)
  go_ret
  exact ⟨by rw [← E1.out]; rfl, rfl⟩

set_option maxRecDepth 100000 in
theorem tmText32 (w : World) (n : Nat) (hn : n < 360000) (hFI : ∀ w (i : Nat), i < 100 → Calls Tryd.prog 25 #[.int .i64 i, .int .i64 10] w fun e w' => e = .returned (.string (ba (Lib.decDigits i))) ∧ w = w') :
    Calls Tryd.prog 5 #[.int .i32 n] w fun e w' => e = .returned (.string (ba (txt n))) ∧ w = w' := by
  have HF := Lib.hid (fun w => text32 w n hn hFI)
  clear hFI
  go_enter Tryd.func5, Tryd.ntmps5
  go_wp2_with (go_at_call 10; refine (HF.out _).mono ?_; rintro e w' ⟨rfl, rfl⟩)
  go_ret
  exact ⟨rfl, rfl⟩

set_option maxRecDepth 100000 in
theorem tmOrder (w : World) (a b : Nat) (ha : a < 4294967296) (hb : b < 4294967296) (hFI : ∀ w (i : Nat), i < 100 → Calls Tryd.prog 25 #[.int .i64 i, .int .i64 10] w fun e w' => e = .returned (.string (ba (Lib.decDigits i))) ∧ w = w') :
    Calls Tryd.prog 3 #[.int .u32 a, .int .u32 b] w fun e w' => e = .returned (.bool true) ∧ w = w' := by
  have H1 := Lib.hid (fun w => tmText32 w (a % 360000) (by omega) hFI)
  rw [show ((a % 360000 : Nat) : Int) = (a : Int) % 360000 from rfl] at H1
  have H2 := Lib.hid (fun w => tmText32 w (b % 360000) (by omega) hFI)
  rw [show ((b % 360000 : Nat) : Int) = (b : Int) % 360000 from rfl] at H2
  have hx : (a : Int) % 360000 = ((a % 360000 : Nat) : Int) := rfl
  have hy : (b : Int) % 360000 = ((b % 360000 : Nat) : Int) := rfl
  have hA : a % 360000 < 360000 := Nat.mod_lt _ (by decide)
  have hB : b % 360000 < 360000 := Nat.mod_lt _ (by decide)
  have K1 : (decide ((a : Int) % 360000 < (b : Int) % 360000) == Op.bytesLess (ba (txt (a % 360000))).toList (ba (txt (b % 360000))).toList) = true := by
    rw [ba_toList, ba_toList, less_txt _ _ hA hB, beq_iff_eq, decide_eq_decide]
    omega
  have K2 : (((a : Int) % 360000 == (b : Int) % 360000) == ((ba (txt (a % 360000))).toList == (ba (txt (b % 360000))).toList)) = true := by
    rw [ba_toList, ba_toList, beq_iff_eq, Bool.eq_iff_iff, beq_iff_eq, beq_iff_eq]
    exact ⟨fun h => by rw [show a % 360000 = b % 360000 by omega], fun h => by have := txt_inj _ _ hA hB h; omega⟩
  have K := Lib.hid K2
  clear hFI K2 hx hy
  go_enter Tryd.func3, Tryd.ntmps3
  go_wp2_with (go_at_call 5; first | (with_reducible refine (H1.out _).mono ?_; rintro e w' ⟨rfl, rfl⟩) | (with_reducible refine (H2.out _).mono ?_; rintro e w' ⟨rfl, rfl⟩) | fail)
  go_ret
  exact ⟨congrArg (fun x => Ending.returned (.bool x)) K.out, rfl⟩
end Go.Proofs.YtnmfaccpdgbjoaaDoor
