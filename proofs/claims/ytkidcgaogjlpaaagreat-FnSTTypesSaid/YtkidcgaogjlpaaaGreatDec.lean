/- spec.CTDecimal: numbers in decimal. -/
import Derived.Test.YtkidcgaogjlpaaaGreatBytes
import Derived.Deep.RegionHeld3
import Derived.Deep.RegionWith
import Derived.Lib.ItoaNum
namespace Go.Proofs.YtkidcgaogjlpaaaGreat
open Go.RowKit
set_option linter.unusedVariables false
set_option linter.unusedSimpArgs false

theorem BytesAt.new1' (w : World) (n : Int) (b : UInt8) (h : n = b.toNat) : BytesAt (w.alloc (.cells #[.int .u8 n] 5)) (.slice (some ⟨w.heap.size, 0, none⟩) 1 1) [b] := by
  subst h
  exact bytesAt_new w b

theorem conv_one (w : World) (n : Int) (b : UInt8) (h : n = b.toNat) : (Go.convert 34 9 (.slice (some ⟨w.heap.size, 0, none⟩) 1 1)).run Tryz.prog (w.alloc (.cells #[.int .u8 n] 5)) = .ok (.string ⟨#[b]⟩) (w.alloc (.cells #[.int .u8 n] 5)) := by
  subst h
  exact run_convert_at (bytesAt_new w b)

def decS (n : Nat) : ByteArray := ⟨(Lib.decDigits n).toArray⟩
theorem decS_small {n : Nat} (h : n < 10) : decS n = ⟨#[UInt8.ofNat (48 + n)]⟩ := by
  unfold decS
  rw [Lib.decDigits, dif_pos h]
theorem decS_big {n : Nat} (h : ¬ n < 10) : decS n = decS (n / 10) ++ ⟨#[UInt8.ofNat (48 + n % 10)]⟩ := by
  refine Go.WideShapes.bytes_inj ?_
  unfold decS
  conv => lhs; rw [Lib.decDigits, dif_neg h]
  simp [ByteArray.data_append]

theorem decD_le : ∀ (f n : Nat), n < f → (Lib.decDigits n).length ≤ n + 1
  | 0, n, h => by omega
  | f + 1, n, h => by
    by_cases h10 : n < 10
    · rw [Lib.decDigits, dif_pos h10]; simp
    · rw [Lib.decDigits, dif_neg h10]
      have := decD_le f (n / 10) (by omega)
      simp; omega
theorem decS_size (n : Nat) : (decS n).size ≤ n + 1 := decD_le (n + 1) n (by omega)

theorem digit_byte {k : Nat} (h : k < 10) : ((48 + k : Nat) : Int) = ((UInt8.ofNat (48 + k)).toNat : Int) := by simp; omega

set_option maxRecDepth 100000 in
theorem ctDecimal : ∀ (f n : Nat) (w : World), n < f → n ≤ 100000 → Calls Tryz.prog 13 #[.int .i64 n] w fun e w' => e = .returned (.string (decS n)) ∧ Below w.heap.size w w'
  | 0, n, w, h, _ => by omega
  | f + 1, n, w, h, hn => by
    by_cases h10 : n < 10
    · rw [decS_small h10]
      obtain ⟨b, hb⟩ : ∃ b : UInt8, b = UInt8.ofNat (48 + n) := ⟨_, rfl⟩
      have hc := conv_one w (48 + (n : Int)) b (by rw [hb]; have := digit_byte h10; simpa using this)
      rw [← hb]
      clear hb
      go_enter Tryz.func13, Tryz.ntmps13
      go_wp2_with fail
      go_ret
      exact ⟨rfl, (Below.refl _ w).alloc (Nat.le_refl _) _⟩
    · have IH := Lib.hid (fun w => ctDecimal f (n / 10) w (by omega) (by omega))
      have HD := Lib.hid (decS_big h10)
      obtain ⟨d, hd⟩ : ∃ d, d = n % 10 := ⟨_, rfl⟩
      obtain ⟨q, hq⟩ : ∃ q, q = n / 10 := ⟨_, rfl⟩
      rw [← hq] at IH HD
      rw [← hd] at HD
      have hd9 : d < 10 := by omega
      obtain ⟨b, hbb⟩ : ∃ b : UInt8, b = UInt8.ofNat (48 + d) := ⟨_, rfl⟩
      have hc := fun W : World => conv_one W (48 + (d : Int)) b (by rw [hbb]; have := digit_byte hd9; simpa using this)
      have hc2 : ∀ W : World, (Go.convert 34 9 (.slice (some ⟨W.heap.size, 0, none⟩) 1 1)).run Tryz.prog (W.alloc (.cells #[.int .u8 (48 + (d : Int))] 5)).drew = .ok (.string ⟨#[b]⟩) (W.alloc (.cells #[.int .u8 (48 + (d : Int))] 5)).drew := fun W => run_convert_at (BytesAt.drew (BytesAt.new1' W _ b (by rw [hbb]; have := digit_byte hd9; simpa using this)))
      rw [← hbb] at HD
      have HBV : Hid (48 + (d : Int) = (b.toNat : Int)) := Lib.hid (by rw [hbb]; have := digit_byte hd9; simpa using this)
      have f1 : Int.tdiv (n : Int) 10 = (q : Int) := by rw [Int.tdiv_eq_ediv_of_nonneg (by omega)]; omega
      have f2 : Int.tmod (n : Int) 10 = (d : Int) := by rw [Int.tmod_eq_emod_of_nonneg (by omega)]; omega
      have f3 : IntKind.i64.wrap (q : Int) = (q : Int) := by rw [IntKind.wrap_i64]; omega
      have f4 : IntKind.i64.wrap (48 + (d : Int)) = 48 + (d : Int) := by rw [IntKind.wrap_i64]; omega
      have f5 : IntKind.u8.wrap (48 + (d : Int)) = 48 + (d : Int) := by simp [IntKind.wrap, IntKind.signed, IntKind.bits]; omega
      have f6 : ¬ (n : Int) < 10 := by omega
      have hqs : (decS q).size ≤ 100001 := by have := decS_size q; omega
      clear h hn hq hd h10 hd9 hbb
      go_enter Tryz.func13, Tryz.ntmps13
      go_wp2_with fail
      go_region_with (first | (go_at_call 13; refine (IH.out _).mono ?_; rintro e w1 ⟨rfl, hb1⟩; first | (have hcx := fun m => run_convert_at (BytesAt.below ((BytesAt.new1' _ _ b HBV.out).drew.below hb1) (show Below w1.heap.size w1 (w1.drewN m) from ⟨rfl, rfl, rfl, Nat.le_refl _, fun _ _ => rfl⟩)); have hcy := run_convert_at ((BytesAt.new1' _ _ b HBV.out).drew.below hb1)) | (have hcx := fun m => run_convert_at (BytesAt.below ((BytesAt.new1' _ _ b HBV.out).below hb1) (show Below w1.heap.size w1 (w1.drewN m) from ⟨rfl, rfl, rfl, Nat.le_refl _, fun _ _ => rfl⟩)); have hcy := run_convert_at ((BytesAt.new1' _ _ b HBV.out).below hb1)) | skip))
      all_goals
        have hz := hb1.size
        go_wp2_with fail
        go_ret
        refine ⟨by rw [HD.out]; rfl, ?_⟩
        first
          | exact (((Below.refl _ w).alloc (Nat.le_refl _) _).drew).trans (hb1.mono (by simp))
          | exact (((Below.refl _ w).drew).trans (hb1.mono (by simp))).alloc (by simpa using hz) _
end Go.Proofs.YtkidcgaogjlpaaaGreat
