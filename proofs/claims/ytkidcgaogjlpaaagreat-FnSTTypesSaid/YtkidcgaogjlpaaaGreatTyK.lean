/- FnSTTypes: the law's own walk. -/
import Derived.Test.YtkidcgaogjlpaaaGreatTyL
namespace Go.Proofs.YtkidcgaogjlpaaaGreat
open Go.RowKit
set_option linter.unusedVariables false
set_option linter.unusedSimpArgs false

/-- The length that stKind sets. -/
def stS (k s : Nat) : Nat := if k % 12 = 4 then 1 + s % 40 else 0

set_option maxRecDepth 100000 in
theorem stKindV (w : World) (k s : Nat) (hk : k < 256) (hs : s < 256) : Calls Tryz.prog 10 #[.int .u8 k, .int .u8 s] w fun e w' => e = .returned (.agg #[.int .i64 ((k % 12 : Nat) : Int), .int .i64 ((stS k s : Nat) : Int)]) ∧ Below w.heap.size w w' := by
  have hb : ∀ a b c d : Value, Below w.heap.size w ((w.alloc (.cells #[a, b] 23)).alloc (.cells #[c, d] 23)) := fun a b c d => ((Below.refl _ w).alloc (Nat.le_refl _) _).alloc (by simp) _
  obtain ⟨K, hK⟩ : ∃ K, K = k % 12 := ⟨_, rfl⟩
  have hKI : (k : Int) % 12 = (K : Int) := by omega
  unfold stS
  rw [← hK]
  by_cases h4 : K = 4
  · obtain ⟨S, hS⟩ : ∃ S, S = s % 40 := ⟨_, rfl⟩
    have hSI : (s : Int) % 40 = (S : Int) := by omega
    rw [if_pos h4, ← hS]
    have hS40 : S < 40 := by omega
    subst h4
    clear hK hS
    go_enter Tryz.func10, Tryz.ntmps10
    go_wp2
    refine bodyPost_ret (v := .agg #[.int .i64 4, .int .i64 ((1 + S : Nat) : Int)]) (by simp [results, Tryz.results10, go_sem]) rfl ⟨rfl, ?_⟩
    exact hb _ _ _ _
  · have hK12 : K < 12 := by omega
    have hne : ¬ (K : Int) = 4 := by omega
    rw [if_neg h4]
    clear hK
    go_enter Tryz.func10, Tryz.ntmps10
    go_wp2
    refine bodyPost_ret (v := .agg #[.int .i64 K, .int .i64 0]) (by simp [results, Tryz.results10, go_sem]) rfl ⟨rfl, ?_⟩
    exact hb _ _ _ _

def dK : Nat → Nat → ByteArray
  | 4, s => decS s
  | 5, _ => ⟨#[56]⟩
  | 6, _ => ⟨#[49, 54]⟩
  | 7, _ => ⟨#[51, 50]⟩
  | 8, _ => ⟨#[54, 52]⟩
  | 9, _ => ⟨#[49, 50, 56]⟩
  | 10, _ => ⟨#[50, 53, 54]⟩
  | _, _ => ⟨#[53, 49, 50]⟩

theorem sFixed_more (d : ByteArray) (h : 0 < d.size) : (13 : Int) < ((ofS sFixed [d]).size : Int) := by
  have e : ofS sFixed [d] = sFixed ++ ((⟨#[40]⟩ : ByteArray) ++ joinB [d] ++ (⟨#[41]⟩ : ByteArray)) := ofS_join _ _ (by simp)
  have hj : (joinB [d]).size = d.size := by
    show (joinB [d]).data.size = d.data.size
    simp [joinB, Lib.join_cons, Lib.joinTail]
  have h1 : sFixed.size = 11 := rfl
  have h2 : (⟨#[40]⟩ : ByteArray).size = 1 := rfl
  have h3 : (⟨#[41]⟩ : ByteArray).size = 1 := rfl
  rw [e, ByteArray.size_append, ByteArray.size_append, ByteArray.size_append, hj, h1, h2, h3]
  omega
theorem decS_pos (n : Nat) : 0 < (decS n).size := by
  by_cases h : n < 10
  · rw [decS_small h]; exact Nat.one_pos
  · rw [decS_big h, ByteArray.size_append]
    have : (⟨#[UInt8.ofNat (48 + n % 10)]⟩ : ByteArray).size = 1 := rfl
    omega

set_option maxRecDepth 100000 in
theorem implWithF (w : World) (d : ByteArray) (hd : d.size ≤ 1000) : Calls Tryz.prog 12 #[.string sFixed, .slice (some ⟨w.heap.size, 0, none⟩) 1 1] (w.alloc (.cells #[.string d] 9)) fun e w' => e = .returned (.string (ofS sFixed [d])) ∧ Below w.heap.size w w' := by
  have HF := Lib.hid (fixed w d hd)
  go_enter Tryz.func12, Tryz.ntmps12
  go_wp2_with (go_at_call 27; refine HF.out.mono ?_; rintro e w' ⟨rfl, hb⟩)
  go_ret
  exact ⟨rfl, hb⟩

set_option maxRecDepth 100000 in
theorem lawTy0 (w : World) (k s : Nat) (HK : Hid (∀ w, Calls Tryz.prog 10 #[.int .u8 k, .int .u8 s] w fun e w' => e = .returned (.agg #[.int .i64 0, .int .i64 0]) ∧ Below w.heap.size w w')) :
    Calls Tryz.prog 3 #[.int .u8 k, .int .u8 s] w fun e w' => e = .returned (.bool true) ∧ Below w.heap.size w w' := by
  have HT : Hid (∀ w, Calls Tryz.prog 11 #[.agg #[.int .i64 0, .int .i64 0]] w fun e w' => e = .returned (.string ⟨#[83, 116, 114, 105, 110, 103]⟩) ∧ Below w.heap.size w w') := Lib.hid fun w => stType0 w 0
  go_enter Tryz.func3, Tryz.ntmps3
  go_wp2_with (first | (go_at_call 10; refine (HK.out _).mono ?_; rintro e w1 ⟨rfl, hb1⟩) | (go_at_call 11; refine (HT.out _).mono ?_; rintro e w2 ⟨rfl, hb2⟩; have hc0 : w2.cell? ⟨w1.heap.size, 0, none⟩ = some (.int .i64 0) := (by rw [hb2.cell (by simp)]; go_simp)))
  go_ret
  exact ⟨rfl, (hb1.alloc hb1.size _).trans (hb2.mono (by have := hb1.size; simp; omega))⟩

set_option maxRecDepth 100000 in
theorem lawTy1 (w : World) (k s : Nat) (HK : Hid (∀ w, Calls Tryz.prog 10 #[.int .u8 k, .int .u8 s] w fun e w' => e = .returned (.agg #[.int .i64 1, .int .i64 0]) ∧ Below w.heap.size w w')) :
    Calls Tryz.prog 3 #[.int .u8 k, .int .u8 s] w fun e w' => e = .returned (.bool true) ∧ Below w.heap.size w w' := by
  have HT : Hid (∀ w, Calls Tryz.prog 11 #[.agg #[.int .i64 1, .int .i64 0]] w fun e w' => e = .returned (.string ⟨#[83, 116, 114, 105, 110, 103]⟩) ∧ Below w.heap.size w w') := Lib.hid fun w => stType1 w 0
  go_enter Tryz.func3, Tryz.ntmps3
  go_wp2_with (first | (go_at_call 10; refine (HK.out _).mono ?_; rintro e w1 ⟨rfl, hb1⟩) | (go_at_call 11; refine (HT.out _).mono ?_; rintro e w2 ⟨rfl, hb2⟩; have hc0 : w2.cell? ⟨w1.heap.size, 0, none⟩ = some (.int .i64 1) := (by rw [hb2.cell (by simp)]; go_simp)))
  go_ret
  exact ⟨rfl, (hb1.alloc hb1.size _).trans (hb2.mono (by have := hb1.size; simp; omega))⟩

set_option maxRecDepth 100000 in
theorem lawTy2 (w : World) (k s : Nat) (HK : Hid (∀ w, Calls Tryz.prog 10 #[.int .u8 k, .int .u8 s] w fun e w' => e = .returned (.agg #[.int .i64 2, .int .i64 0]) ∧ Below w.heap.size w w')) :
    Calls Tryz.prog 3 #[.int .u8 k, .int .u8 s] w fun e w' => e = .returned (.bool true) ∧ Below w.heap.size w w' := by
  have HT : Hid (∀ w, Calls Tryz.prog 11 #[.agg #[.int .i64 2, .int .i64 0]] w fun e w' => e = .returned (.string ⟨#[74, 83, 79, 78]⟩) ∧ Below w.heap.size w w') := Lib.hid fun w => stType2 w 0
  go_enter Tryz.func3, Tryz.ntmps3
  go_wp2_with (first | (go_at_call 10; refine (HK.out _).mono ?_; rintro e w1 ⟨rfl, hb1⟩) | (go_at_call 11; refine (HT.out _).mono ?_; rintro e w2 ⟨rfl, hb2⟩; have hc0 : w2.cell? ⟨w1.heap.size, 0, none⟩ = some (.int .i64 2) := (by rw [hb2.cell (by simp)]; go_simp)))
  go_ret
  exact ⟨rfl, (hb1.alloc hb1.size _).trans (hb2.mono (by have := hb1.size; simp; omega))⟩

set_option maxRecDepth 100000 in
theorem lawTy3 (w : World) (k s : Nat) (HK : Hid (∀ w, Calls Tryz.prog 10 #[.int .u8 k, .int .u8 s] w fun e w' => e = .returned (.agg #[.int .i64 3, .int .i64 0]) ∧ Below w.heap.size w w')) :
    Calls Tryz.prog 3 #[.int .u8 k, .int .u8 s] w fun e w' => e = .returned (.bool true) ∧ Below w.heap.size w w' := by
  have HT : Hid (∀ w, Calls Tryz.prog 11 #[.agg #[.int .i64 3, .int .i64 0]] w fun e w' => e = .returned (.string ⟨#[74, 83, 79, 78]⟩) ∧ Below w.heap.size w w') := Lib.hid fun w => stType3 w 0
  go_enter Tryz.func3, Tryz.ntmps3
  go_wp2_with (first | (go_at_call 10; refine (HK.out _).mono ?_; rintro e w1 ⟨rfl, hb1⟩) | (go_at_call 11; refine (HT.out _).mono ?_; rintro e w2 ⟨rfl, hb2⟩; have hc0 : w2.cell? ⟨w1.heap.size, 0, none⟩ = some (.int .i64 3) := (by rw [hb2.cell (by simp)]; go_simp)))
  go_ret
  exact ⟨rfl, (hb1.alloc hb1.size _).trans (hb2.mono (by have := hb1.size; simp; omega))⟩

set_option maxRecDepth 100000 in
theorem lawTy4 (w : World) (k s s0 : Nat) (hs0 : s0 < 100) (HK : Hid (∀ w, Calls Tryz.prog 10 #[.int .u8 k, .int .u8 s] w fun e w' => e = .returned (.agg #[.int .i64 4, .int .i64 s0]) ∧ Below w.heap.size w w')) :
    Calls Tryz.prog 3 #[.int .u8 k, .int .u8 s] w fun e w' => e = .returned (.bool true) ∧ Below w.heap.size w w' := by
  have HT := Lib.hid (fun w => stType4 w s0 hs0)
  have HD := Lib.hid (fun w => ctDecimal (s0 + 1) s0 w (by omega) (by omega))
  have hd : (decS s0).size ≤ 1000 := by have := decS_size s0; omega
  have hm := sFixed_more (decS s0) (decS_pos s0)
  generalize decS s0 = d at *
  have HW := Lib.hid (fun w => implWithF w d hd)
  generalize ofS sFixed [d] = R at *
  go_enter Tryz.func3, Tryz.ntmps3
  go_wp2_with (first | (go_at_call 10; refine (HK.out _).mono ?_; rintro e w1 ⟨rfl, hb1⟩) | (go_at_call 11; refine (HT.out _).mono ?_; rintro e w2 ⟨rfl, hb2⟩; have hc0 : w2.cell? ⟨w1.heap.size, 0, none⟩ = some (.int .i64 4) := (by rw [hb2.cell (by simp)]; go_simp); have hc1 : w2.cell? ⟨w1.heap.size, 1, none⟩ = some (.int .i64 s0) := (by rw [hb2.cell (by simp)]; go_simp)) | (go_at_call 14; go_in) | (go_at_call 13; refine (HD.out _).mono ?_; rintro e w3 ⟨rfl, hb3⟩) | (go_at_call 12; refine (HW.out _).mono ?_; rintro e w4 ⟨rfl, hb4⟩))
  go_ret
  have z1 := hb1.size
  have z2 := hb2.size
  have z3 := hb3.size
  simp at z2 z3
  have b2 := (hb1.alloc z1 _).trans (hb2.mono (by simp; omega))
  first
    | exact ⟨rfl, ((b2.alloc (by omega) _).trans (hb3.mono (by simp; omega))).trans (hb4.mono (by omega))⟩
    | exact ⟨rfl, (b2.trans (hb3.mono (by omega))).trans (hb4.mono (by omega))⟩

set_option maxRecDepth 100000 in
theorem lawTy5 (w : World) (k s : Nat) (HK : Hid (∀ w, Calls Tryz.prog 10 #[.int .u8 k, .int .u8 s] w fun e w' => e = .returned (.agg #[.int .i64 5, .int .i64 0]) ∧ Below w.heap.size w w')) :
    Calls Tryz.prog 3 #[.int .u8 k, .int .u8 s] w fun e w' => e = .returned (.bool true) ∧ Below w.heap.size w w' := by
  have hdd : decS 8 = ⟨#[56]⟩ := by
    unfold decS
    simp [Lib.decDigits]
  have HT : Hid (∀ w, Calls Tryz.prog 11 #[.agg #[.int .i64 5, .int .i64 0]] w fun e w' => e = .returned (.string (ofS sFixed [⟨#[56]⟩])) ∧ Below w.heap.size w w') := Lib.hid fun w => stType5 w 0
  have HD : Hid (∀ w, Calls Tryz.prog 13 #[.int .i64 8] w fun e w' => e = .returned (.string ⟨#[56]⟩) ∧ Below w.heap.size w w') := Lib.hid fun w => by
    rw [← hdd]
    exact ctDecimal 9 8 w (by omega) (by omega)
  have hm := sFixed_more ⟨#[56]⟩ (by exact Nat.succ_pos _)
  have hd : (⟨#[56]⟩ : ByteArray).size ≤ 1000 := by decide
  clear hdd
  generalize (⟨#[56]⟩ : ByteArray) = d at *
  have HW := Lib.hid (fun w => implWithF w d hd)
  generalize ofS sFixed [d] = R at *
  go_enter Tryz.func3, Tryz.ntmps3
  go_wp2_with (first | (go_at_call 10; refine (HK.out _).mono ?_; rintro e w1 ⟨rfl, hb1⟩) | (go_at_call 11; refine (HT.out _).mono ?_; rintro e w2 ⟨rfl, hb2⟩; have hc0 : w2.cell? ⟨w1.heap.size, 0, none⟩ = some (.int .i64 5) := (by rw [hb2.cell (by simp)]; go_simp); have hc1 : w2.cell? ⟨w1.heap.size, 1, none⟩ = some (.int .i64 0) := (by rw [hb2.cell (by simp)]; go_simp)) | (go_at_call 14; go_in) | (go_at_call 13; refine (HD.out _).mono ?_; rintro e w3 ⟨rfl, hb3⟩) | (go_at_call 12; refine (HW.out _).mono ?_; rintro e w4 ⟨rfl, hb4⟩))
  go_ret
  have z1 := hb1.size
  have z2 := hb2.size
  have z3 := hb3.size
  simp at z2 z3
  have b2 := (hb1.alloc z1 _).trans (hb2.mono (by simp; omega))
  first
    | exact ⟨rfl, ((b2.alloc (by omega) _).trans (hb3.mono (by simp; omega))).trans (hb4.mono (by omega))⟩
    | exact ⟨rfl, (b2.trans (hb3.mono (by omega))).trans (hb4.mono (by omega))⟩

set_option maxRecDepth 100000 in
theorem lawTy6 (w : World) (k s : Nat) (HK : Hid (∀ w, Calls Tryz.prog 10 #[.int .u8 k, .int .u8 s] w fun e w' => e = .returned (.agg #[.int .i64 6, .int .i64 0]) ∧ Below w.heap.size w w')) :
    Calls Tryz.prog 3 #[.int .u8 k, .int .u8 s] w fun e w' => e = .returned (.bool true) ∧ Below w.heap.size w w' := by
  have hdd : decS 16 = ⟨#[49, 54]⟩ := by
    unfold decS
    simp [Lib.decDigits]
  have HT : Hid (∀ w, Calls Tryz.prog 11 #[.agg #[.int .i64 6, .int .i64 0]] w fun e w' => e = .returned (.string (ofS sFixed [⟨#[49, 54]⟩])) ∧ Below w.heap.size w w') := Lib.hid fun w => stType6 w 0
  have HD : Hid (∀ w, Calls Tryz.prog 13 #[.int .i64 16] w fun e w' => e = .returned (.string ⟨#[49, 54]⟩) ∧ Below w.heap.size w w') := Lib.hid fun w => by
    rw [← hdd]
    exact ctDecimal 17 16 w (by omega) (by omega)
  have hm := sFixed_more ⟨#[49, 54]⟩ (by exact Nat.succ_pos _)
  have hd : (⟨#[49, 54]⟩ : ByteArray).size ≤ 1000 := by decide
  clear hdd
  generalize (⟨#[49, 54]⟩ : ByteArray) = d at *
  have HW := Lib.hid (fun w => implWithF w d hd)
  generalize ofS sFixed [d] = R at *
  go_enter Tryz.func3, Tryz.ntmps3
  go_wp2_with (first | (go_at_call 10; refine (HK.out _).mono ?_; rintro e w1 ⟨rfl, hb1⟩) | (go_at_call 11; refine (HT.out _).mono ?_; rintro e w2 ⟨rfl, hb2⟩; have hc0 : w2.cell? ⟨w1.heap.size, 0, none⟩ = some (.int .i64 6) := (by rw [hb2.cell (by simp)]; go_simp); have hc1 : w2.cell? ⟨w1.heap.size, 1, none⟩ = some (.int .i64 0) := (by rw [hb2.cell (by simp)]; go_simp)) | (go_at_call 14; go_in) | (go_at_call 13; refine (HD.out _).mono ?_; rintro e w3 ⟨rfl, hb3⟩) | (go_at_call 12; refine (HW.out _).mono ?_; rintro e w4 ⟨rfl, hb4⟩))
  go_ret
  have z1 := hb1.size
  have z2 := hb2.size
  have z3 := hb3.size
  simp at z2 z3
  have b2 := (hb1.alloc z1 _).trans (hb2.mono (by simp; omega))
  first
    | exact ⟨rfl, ((b2.alloc (by omega) _).trans (hb3.mono (by simp; omega))).trans (hb4.mono (by omega))⟩
    | exact ⟨rfl, (b2.trans (hb3.mono (by omega))).trans (hb4.mono (by omega))⟩

set_option maxRecDepth 100000 in
theorem lawTy7 (w : World) (k s : Nat) (HK : Hid (∀ w, Calls Tryz.prog 10 #[.int .u8 k, .int .u8 s] w fun e w' => e = .returned (.agg #[.int .i64 7, .int .i64 0]) ∧ Below w.heap.size w w')) :
    Calls Tryz.prog 3 #[.int .u8 k, .int .u8 s] w fun e w' => e = .returned (.bool true) ∧ Below w.heap.size w w' := by
  have hdd : decS 32 = ⟨#[51, 50]⟩ := by
    unfold decS
    simp [Lib.decDigits]
  have HT : Hid (∀ w, Calls Tryz.prog 11 #[.agg #[.int .i64 7, .int .i64 0]] w fun e w' => e = .returned (.string (ofS sFixed [⟨#[51, 50]⟩])) ∧ Below w.heap.size w w') := Lib.hid fun w => stType7 w 0
  have HD : Hid (∀ w, Calls Tryz.prog 13 #[.int .i64 32] w fun e w' => e = .returned (.string ⟨#[51, 50]⟩) ∧ Below w.heap.size w w') := Lib.hid fun w => by
    rw [← hdd]
    exact ctDecimal 33 32 w (by omega) (by omega)
  have hm := sFixed_more ⟨#[51, 50]⟩ (by exact Nat.succ_pos _)
  have hd : (⟨#[51, 50]⟩ : ByteArray).size ≤ 1000 := by decide
  clear hdd
  generalize (⟨#[51, 50]⟩ : ByteArray) = d at *
  have HW := Lib.hid (fun w => implWithF w d hd)
  generalize ofS sFixed [d] = R at *
  go_enter Tryz.func3, Tryz.ntmps3
  go_wp2_with (first | (go_at_call 10; refine (HK.out _).mono ?_; rintro e w1 ⟨rfl, hb1⟩) | (go_at_call 11; refine (HT.out _).mono ?_; rintro e w2 ⟨rfl, hb2⟩; have hc0 : w2.cell? ⟨w1.heap.size, 0, none⟩ = some (.int .i64 7) := (by rw [hb2.cell (by simp)]; go_simp); have hc1 : w2.cell? ⟨w1.heap.size, 1, none⟩ = some (.int .i64 0) := (by rw [hb2.cell (by simp)]; go_simp)) | (go_at_call 14; go_in) | (go_at_call 13; refine (HD.out _).mono ?_; rintro e w3 ⟨rfl, hb3⟩) | (go_at_call 12; refine (HW.out _).mono ?_; rintro e w4 ⟨rfl, hb4⟩))
  go_ret
  have z1 := hb1.size
  have z2 := hb2.size
  have z3 := hb3.size
  simp at z2 z3
  have b2 := (hb1.alloc z1 _).trans (hb2.mono (by simp; omega))
  first
    | exact ⟨rfl, ((b2.alloc (by omega) _).trans (hb3.mono (by simp; omega))).trans (hb4.mono (by omega))⟩
    | exact ⟨rfl, (b2.trans (hb3.mono (by omega))).trans (hb4.mono (by omega))⟩

set_option maxRecDepth 100000 in
theorem lawTy8 (w : World) (k s : Nat) (HK : Hid (∀ w, Calls Tryz.prog 10 #[.int .u8 k, .int .u8 s] w fun e w' => e = .returned (.agg #[.int .i64 8, .int .i64 0]) ∧ Below w.heap.size w w')) :
    Calls Tryz.prog 3 #[.int .u8 k, .int .u8 s] w fun e w' => e = .returned (.bool true) ∧ Below w.heap.size w w' := by
  have hdd : decS 64 = ⟨#[54, 52]⟩ := by
    unfold decS
    simp [Lib.decDigits]
  have HT : Hid (∀ w, Calls Tryz.prog 11 #[.agg #[.int .i64 8, .int .i64 0]] w fun e w' => e = .returned (.string (ofS sFixed [⟨#[54, 52]⟩])) ∧ Below w.heap.size w w') := Lib.hid fun w => stType8 w 0
  have HD : Hid (∀ w, Calls Tryz.prog 13 #[.int .i64 64] w fun e w' => e = .returned (.string ⟨#[54, 52]⟩) ∧ Below w.heap.size w w') := Lib.hid fun w => by
    rw [← hdd]
    exact ctDecimal 65 64 w (by omega) (by omega)
  have hm := sFixed_more ⟨#[54, 52]⟩ (by exact Nat.succ_pos _)
  have hd : (⟨#[54, 52]⟩ : ByteArray).size ≤ 1000 := by decide
  clear hdd
  generalize (⟨#[54, 52]⟩ : ByteArray) = d at *
  have HW := Lib.hid (fun w => implWithF w d hd)
  generalize ofS sFixed [d] = R at *
  go_enter Tryz.func3, Tryz.ntmps3
  go_wp2_with (first | (go_at_call 10; refine (HK.out _).mono ?_; rintro e w1 ⟨rfl, hb1⟩) | (go_at_call 11; refine (HT.out _).mono ?_; rintro e w2 ⟨rfl, hb2⟩; have hc0 : w2.cell? ⟨w1.heap.size, 0, none⟩ = some (.int .i64 8) := (by rw [hb2.cell (by simp)]; go_simp); have hc1 : w2.cell? ⟨w1.heap.size, 1, none⟩ = some (.int .i64 0) := (by rw [hb2.cell (by simp)]; go_simp)) | (go_at_call 14; go_in) | (go_at_call 13; refine (HD.out _).mono ?_; rintro e w3 ⟨rfl, hb3⟩) | (go_at_call 12; refine (HW.out _).mono ?_; rintro e w4 ⟨rfl, hb4⟩))
  go_ret
  have z1 := hb1.size
  have z2 := hb2.size
  have z3 := hb3.size
  simp at z2 z3
  have b2 := (hb1.alloc z1 _).trans (hb2.mono (by simp; omega))
  first
    | exact ⟨rfl, ((b2.alloc (by omega) _).trans (hb3.mono (by simp; omega))).trans (hb4.mono (by omega))⟩
    | exact ⟨rfl, (b2.trans (hb3.mono (by omega))).trans (hb4.mono (by omega))⟩

set_option maxRecDepth 100000 in
theorem lawTy9 (w : World) (k s : Nat) (HK : Hid (∀ w, Calls Tryz.prog 10 #[.int .u8 k, .int .u8 s] w fun e w' => e = .returned (.agg #[.int .i64 9, .int .i64 0]) ∧ Below w.heap.size w w')) :
    Calls Tryz.prog 3 #[.int .u8 k, .int .u8 s] w fun e w' => e = .returned (.bool true) ∧ Below w.heap.size w w' := by
  have hdd : decS 128 = ⟨#[49, 50, 56]⟩ := by
    unfold decS
    simp [Lib.decDigits]
  have HT : Hid (∀ w, Calls Tryz.prog 11 #[.agg #[.int .i64 9, .int .i64 0]] w fun e w' => e = .returned (.string (ofS sFixed [⟨#[49, 50, 56]⟩])) ∧ Below w.heap.size w w') := Lib.hid fun w => stType9 w 0
  have HD : Hid (∀ w, Calls Tryz.prog 13 #[.int .i64 128] w fun e w' => e = .returned (.string ⟨#[49, 50, 56]⟩) ∧ Below w.heap.size w w') := Lib.hid fun w => by
    rw [← hdd]
    exact ctDecimal 129 128 w (by omega) (by omega)
  have hm := sFixed_more ⟨#[49, 50, 56]⟩ (by exact Nat.succ_pos _)
  have hd : (⟨#[49, 50, 56]⟩ : ByteArray).size ≤ 1000 := by decide
  clear hdd
  generalize (⟨#[49, 50, 56]⟩ : ByteArray) = d at *
  have HW := Lib.hid (fun w => implWithF w d hd)
  generalize ofS sFixed [d] = R at *
  go_enter Tryz.func3, Tryz.ntmps3
  go_wp2_with (first | (go_at_call 10; refine (HK.out _).mono ?_; rintro e w1 ⟨rfl, hb1⟩) | (go_at_call 11; refine (HT.out _).mono ?_; rintro e w2 ⟨rfl, hb2⟩; have hc0 : w2.cell? ⟨w1.heap.size, 0, none⟩ = some (.int .i64 9) := (by rw [hb2.cell (by simp)]; go_simp); have hc1 : w2.cell? ⟨w1.heap.size, 1, none⟩ = some (.int .i64 0) := (by rw [hb2.cell (by simp)]; go_simp)) | (go_at_call 14; go_in) | (go_at_call 13; refine (HD.out _).mono ?_; rintro e w3 ⟨rfl, hb3⟩) | (go_at_call 12; refine (HW.out _).mono ?_; rintro e w4 ⟨rfl, hb4⟩))
  go_ret
  have z1 := hb1.size
  have z2 := hb2.size
  have z3 := hb3.size
  simp at z2 z3
  have b2 := (hb1.alloc z1 _).trans (hb2.mono (by simp; omega))
  first
    | exact ⟨rfl, ((b2.alloc (by omega) _).trans (hb3.mono (by simp; omega))).trans (hb4.mono (by omega))⟩
    | exact ⟨rfl, (b2.trans (hb3.mono (by omega))).trans (hb4.mono (by omega))⟩

set_option maxRecDepth 100000 in
theorem lawTy10 (w : World) (k s : Nat) (HK : Hid (∀ w, Calls Tryz.prog 10 #[.int .u8 k, .int .u8 s] w fun e w' => e = .returned (.agg #[.int .i64 10, .int .i64 0]) ∧ Below w.heap.size w w')) :
    Calls Tryz.prog 3 #[.int .u8 k, .int .u8 s] w fun e w' => e = .returned (.bool true) ∧ Below w.heap.size w w' := by
  have hdd : decS 256 = ⟨#[50, 53, 54]⟩ := by
    unfold decS
    simp [Lib.decDigits]
  have HT : Hid (∀ w, Calls Tryz.prog 11 #[.agg #[.int .i64 10, .int .i64 0]] w fun e w' => e = .returned (.string (ofS sFixed [⟨#[50, 53, 54]⟩])) ∧ Below w.heap.size w w') := Lib.hid fun w => stType10 w 0
  have HD : Hid (∀ w, Calls Tryz.prog 13 #[.int .i64 256] w fun e w' => e = .returned (.string ⟨#[50, 53, 54]⟩) ∧ Below w.heap.size w w') := Lib.hid fun w => by
    rw [← hdd]
    exact ctDecimal 257 256 w (by omega) (by omega)
  have hm := sFixed_more ⟨#[50, 53, 54]⟩ (by exact Nat.succ_pos _)
  have hd : (⟨#[50, 53, 54]⟩ : ByteArray).size ≤ 1000 := by decide
  clear hdd
  generalize (⟨#[50, 53, 54]⟩ : ByteArray) = d at *
  have HW := Lib.hid (fun w => implWithF w d hd)
  generalize ofS sFixed [d] = R at *
  go_enter Tryz.func3, Tryz.ntmps3
  go_wp2_with (first | (go_at_call 10; refine (HK.out _).mono ?_; rintro e w1 ⟨rfl, hb1⟩) | (go_at_call 11; refine (HT.out _).mono ?_; rintro e w2 ⟨rfl, hb2⟩; have hc0 : w2.cell? ⟨w1.heap.size, 0, none⟩ = some (.int .i64 10) := (by rw [hb2.cell (by simp)]; go_simp); have hc1 : w2.cell? ⟨w1.heap.size, 1, none⟩ = some (.int .i64 0) := (by rw [hb2.cell (by simp)]; go_simp)) | (go_at_call 14; go_in) | (go_at_call 13; refine (HD.out _).mono ?_; rintro e w3 ⟨rfl, hb3⟩) | (go_at_call 12; refine (HW.out _).mono ?_; rintro e w4 ⟨rfl, hb4⟩))
  go_ret
  have z1 := hb1.size
  have z2 := hb2.size
  have z3 := hb3.size
  simp at z2 z3
  have b2 := (hb1.alloc z1 _).trans (hb2.mono (by simp; omega))
  first
    | exact ⟨rfl, ((b2.alloc (by omega) _).trans (hb3.mono (by simp; omega))).trans (hb4.mono (by omega))⟩
    | exact ⟨rfl, (b2.trans (hb3.mono (by omega))).trans (hb4.mono (by omega))⟩

set_option maxRecDepth 100000 in
theorem lawTy11 (w : World) (k s : Nat) (HK : Hid (∀ w, Calls Tryz.prog 10 #[.int .u8 k, .int .u8 s] w fun e w' => e = .returned (.agg #[.int .i64 11, .int .i64 0]) ∧ Below w.heap.size w w')) :
    Calls Tryz.prog 3 #[.int .u8 k, .int .u8 s] w fun e w' => e = .returned (.bool true) ∧ Below w.heap.size w w' := by
  have hdd : decS 512 = ⟨#[53, 49, 50]⟩ := by
    unfold decS
    simp [Lib.decDigits]
  have HT : Hid (∀ w, Calls Tryz.prog 11 #[.agg #[.int .i64 11, .int .i64 0]] w fun e w' => e = .returned (.string (ofS sFixed [⟨#[53, 49, 50]⟩])) ∧ Below w.heap.size w w') := Lib.hid fun w => stType11 w 0
  have HD : Hid (∀ w, Calls Tryz.prog 13 #[.int .i64 512] w fun e w' => e = .returned (.string ⟨#[53, 49, 50]⟩) ∧ Below w.heap.size w w') := Lib.hid fun w => by
    rw [← hdd]
    exact ctDecimal 513 512 w (by omega) (by omega)
  have hm := sFixed_more ⟨#[53, 49, 50]⟩ (by exact Nat.succ_pos _)
  have hd : (⟨#[53, 49, 50]⟩ : ByteArray).size ≤ 1000 := by decide
  clear hdd
  generalize (⟨#[53, 49, 50]⟩ : ByteArray) = d at *
  have HW := Lib.hid (fun w => implWithF w d hd)
  generalize ofS sFixed [d] = R at *
  go_enter Tryz.func3, Tryz.ntmps3
  go_wp2_with (first | (go_at_call 10; refine (HK.out _).mono ?_; rintro e w1 ⟨rfl, hb1⟩) | (go_at_call 11; refine (HT.out _).mono ?_; rintro e w2 ⟨rfl, hb2⟩; have hc0 : w2.cell? ⟨w1.heap.size, 0, none⟩ = some (.int .i64 11) := (by rw [hb2.cell (by simp)]; go_simp); have hc1 : w2.cell? ⟨w1.heap.size, 1, none⟩ = some (.int .i64 0) := (by rw [hb2.cell (by simp)]; go_simp)) | (go_at_call 14; go_in) | (go_at_call 13; refine (HD.out _).mono ?_; rintro e w3 ⟨rfl, hb3⟩) | (go_at_call 12; refine (HW.out _).mono ?_; rintro e w4 ⟨rfl, hb4⟩))
  go_ret
  have z1 := hb1.size
  have z2 := hb2.size
  have z3 := hb3.size
  simp at z2 z3
  have b2 := (hb1.alloc z1 _).trans (hb2.mono (by simp; omega))
  first
    | exact ⟨rfl, ((b2.alloc (by omega) _).trans (hb3.mono (by simp; omega))).trans (hb4.mono (by omega))⟩
    | exact ⟨rfl, (b2.trans (hb3.mono (by omega))).trans (hb4.mono (by omega))⟩

theorem lawTy (w : World) (k s : Nat) (hk : k < 256) (hs : s < 256) : Calls Tryz.prog 3 #[.int .u8 k, .int .u8 s] w fun e w' => e = .returned (.bool true) ∧ Below w.heap.size w w' := by
  have HK := fun w => stKindV w k s hk hs
  have hS : k % 12 = 4 → stS k s = 1 + s % 40 := fun h => by unfold stS; rw [if_pos h]
  have hS0 : k % 12 ≠ 4 → stS k s = 0 := fun h => by unfold stS; rw [if_neg h]
  have h12 : k % 12 < 12 := by omega
  generalize k % 12 = K at *
  match K, h12 with
  | 0, _ =>
    rw [hS0 (by decide)] at HK
    exact lawTy0 w k s (Lib.hid HK)
  | 1, _ =>
    rw [hS0 (by decide)] at HK
    exact lawTy1 w k s (Lib.hid HK)
  | 2, _ =>
    rw [hS0 (by decide)] at HK
    exact lawTy2 w k s (Lib.hid HK)
  | 3, _ =>
    rw [hS0 (by decide)] at HK
    exact lawTy3 w k s (Lib.hid HK)
  | 4, _ =>
    rw [hS rfl] at HK
    exact lawTy4 w k s (1 + s % 40) (by omega) (Lib.hid HK)
  | 5, _ =>
    rw [hS0 (by decide)] at HK
    exact lawTy5 w k s (Lib.hid HK)
  | 6, _ =>
    rw [hS0 (by decide)] at HK
    exact lawTy6 w k s (Lib.hid HK)
  | 7, _ =>
    rw [hS0 (by decide)] at HK
    exact lawTy7 w k s (Lib.hid HK)
  | 8, _ =>
    rw [hS0 (by decide)] at HK
    exact lawTy8 w k s (Lib.hid HK)
  | 9, _ =>
    rw [hS0 (by decide)] at HK
    exact lawTy9 w k s (Lib.hid HK)
  | 10, _ =>
    rw [hS0 (by decide)] at HK
    exact lawTy10 w k s (Lib.hid HK)
  | 11, _ =>
    rw [hS0 (by decide)] at HK
    exact lawTy11 w k s (Lib.hid HK)

end Go.Proofs.YtkidcgaogjlpaaaGreat
