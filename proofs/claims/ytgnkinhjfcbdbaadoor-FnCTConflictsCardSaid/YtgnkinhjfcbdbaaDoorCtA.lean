/- laws.ctType; the walk of FnCTArray. -/
import Derived.Test.YtgnkinhjfcbdbaaDoorCt3
import Derived.Deep.RegionHeld3
import Derived.Laws.BitsLemmas
namespace Go.Proofs.YtgnkinhjfcbdbaaDoor
open Go.RowKit
set_option linter.unusedVariables false
set_option linter.unusedSimpArgs false
set_option linter.unnecessarySimpa false

/-- One text in parentheses behind a name. -/
theorem ofS_one (t s : ByteArray) : ofS t [s] = t ++ sOpen ++ s ++ sShut := rfl

theorem arr_list (s : ByteArray) : (ofS sArray [s]).data.toList = [65, 114, 114, 97, 121, 40] ++ s.data.toList ++ [41] := by
  rw [ofS_one]
  simp [ByteArray.data_append, sArray, sOpen, sShut]
theorem arr_size (s : ByteArray) : (ofS sArray [s]).size = s.size + 7 := by
  rw [ofS_one]
  simp only [ByteArray.size_append]
  have a1 : sArray.size = 5 := rfl
  have a2 : sOpen.size = 1 := rfl
  have a3 : sShut.size = 1 := rfl
  omega
theorem arr_idx (s : ByteArray) : idxB (ofS sArray [s]).data.toList 40 = (5 : Nat) := by
  have h := arr_list s
  generalize (ofS sArray [s]).data.toList = l at *
  subst h
  refine idxB_at (by simp) (by simp) fun j hj => ?_
  rcases (by omega : j = 0 ∨ j = 1 ∨ j = 2 ∨ j = 3 ∨ j = 4) with rfl | rfl | rfl | rfl | rfl <;> simp
theorem arr_last (s : ByteArray) : lastB (ofS sArray [s]).data.toList 41 = (s.size + 6 : Nat) := by
  have h := arr_list s
  have hs : s.data.toList.length = s.size := by simp
  generalize (ofS sArray [s]).data.toList = l at *
  subst h
  refine lastB_at (by simp) ?_ fun j hj hij => by simp at hj; omega
  rw [List.getElem_append_right (by simp)]
  simp
theorem ext_list (s : ByteArray) (a b : Nat) : (s.extract a b).data.toList = (s.data.toList.drop a).take (b - a) := by
  rw [ByteArray.data_extract, Array.toList_extract]
theorem arr_elem (s : ByteArray) : elemS (ofS sArray [s]) = s := by
  unfold elemS
  rw [arr_idx, arr_last, if_neg (by omega)]
  refine Go.WideShapes.bytes_inj ?_
  rw [ext_list, arr_list]
  simp only [Int.toNat_natCast]
  have hs : s.data.toList.length = s.size := by simp
  rw [show s.size + 6 - (5 + 1) = s.size by omega, ← hs]
  simp
theorem arr_base (s : ByteArray) : baseS (ofS sArray [s]) = sArray := by
  unfold baseS
  rw [arr_idx, arr_last, if_neg (by omega)]
  refine Go.WideShapes.bytes_inj ?_
  rw [ext_list, arr_list]
  simp [sArray]

theorem strs_at {w : World} {g n : Nat} (h : StrsAt w (.slice (some ⟨g, 0, none⟩) 22 22) plainL) : ∃ j : Nat, (n : Int) % 22 = (j : Int) ∧ j < 22 ∧ w.cell? ⟨g, j, none⟩ = some (.string (plainAt n)) := by
  obtain ⟨b, off, cap, h1, h2, h3, h4⟩ := h
  obtain ⟨⟨rfl, rfl⟩, -, -⟩ : (g = b ∧ 0 = off) ∧ _ ∧ _ := by simpa using h1
  refine ⟨n % 22, by omega, by omega, ?_⟩
  have := h4 (n % 22) _ (plainAt_get n)
  rwa [Nat.zero_add] at this

def TypeIs (w : World) (s : ByteArray) (e : Ending) (w' : World) : Prop := e = .returned (.string s) ∧ Below w.heap.size w w'

theorem ctType_none (w : World) (v : Value) (d : Nat) (h : BytesAt w v []) : Calls Tryd.prog 10 #[v, .int .i64 d] w (TypeIs w (plainAt 0)) := by
  obtain ⟨p, c, rfl⟩ := h.slice
  go_enter Tryd.func10, Tryd.ntmps10
  go_wp2_with fail
  refine (ctPlain _).mono ?_
  rintro e w1 ⟨rfl, hs1, hb1⟩
  obtain ⟨j, hj, hj2, hc⟩ := strs_at (n := 0) hs1
  obtain rfl : j = 0 := by omega
  have HB := Lib.hid hb1
  clear hs1 hj hj2 hb1 h
  go_wp2
  go_ret
  exact ⟨rfl, HB.out⟩

theorem ctType_plain (w : World) (v : Value) (d : Nat) (c : UInt8) (rest : List UInt8) (h : BytesAt w v (c :: rest)) (hd : d = 0 ∨ rest = []) (hl : rest.length ≤ 140737488355328) : Calls Tryd.prog 10 #[v, .int .i64 d] w (TypeIs w (plainAt c.toNat)) := by
  obtain ⟨b, off, cap, rfl⟩ : ∃ b off cap, v = .slice (some ⟨b, off, none⟩) (rest.length + 1) cap := by
    rcases h with h | ⟨b, off, cap, rfl, -⟩
    · simp at h
    · exact ⟨b, off, cap, rfl⟩
  obtain ⟨-, hcap, hc0, hr⟩ := h.tail
  have hlt := World.block_lt_of_cell? _ _ hc0
  have hu := UInt8.toNat_lt c
  rcases hd with rfl | rfl
  · go_enter Tryd.func10, Tryd.ntmps10
    go_wp2_with fail
    refine (ctPlain _).mono ?_
    rintro e w1 ⟨rfl, hs1, hb1⟩
    obtain ⟨j, hj, hj2, hc⟩ := strs_at (n := c.toNat) hs1
    have hc1 : w1.cell? ⟨b, off, none⟩ = some (.int .u8 c.toNat) := by rw [hb1.cell (p := ⟨b, off, none⟩) hlt]; exact hc0
    have HB := Lib.hid hb1
    clear hs1 hb1 h hr hc0 hlt
    by_cases h1 : rest.length + 1 < 2
    · go_wp2
      go_ret
      exact ⟨rfl, HB.out⟩
    · go_wp2
      go_ret
      exact ⟨rfl, HB.out⟩
  · go_enter Tryd.func10, Tryd.ntmps10
    go_wp2_with fail
    refine (ctPlain _).mono ?_
    rintro e w1 ⟨rfl, hs1, hb1⟩
    obtain ⟨j, hj, hj2, hc⟩ := strs_at (n := c.toNat) hs1
    have hc1 : w1.cell? ⟨b, off, none⟩ = some (.int .u8 c.toNat) := by rw [hb1.cell (p := ⟨b, off, none⟩) hlt]; exact hc0
    have HB := Lib.hid hb1
    clear hs1 hb1 h hr hc0 hlt
    go_wp2
    go_ret
    exact ⟨rfl, HB.out⟩

set_option maxRecDepth 100000 in
set_option maxHeartbeats 1000000 in
theorem ctType_more (d : Nat) (hd : d ≤ 2) (IH : ∀ (w : World) (v : Value) (code : List UInt8), BytesAt w v code → code.length ≤ 140737488355328 → Calls Tryd.prog 10 #[v, .int .i64 d] w (TypeIs w (ctT code d)))
    (w : World) (b off cap : Nat) (c c2 : UInt8) (rest : List UInt8) (h : BytesAt w (.slice (some ⟨b, off, none⟩) (rest.length + 1 + 1) cap) (c :: c2 :: rest)) (hl : rest.length + 2 ≤ 140737488355328) :
    Calls Tryd.prog 10 #[.slice (some ⟨b, off, none⟩) (rest.length + 1 + 1) cap, .int .i64 (d + 1 : Nat)] w (TypeIs w (ctT (c :: c2 :: rest) (d + 1))) := by
  obtain ⟨-, hcap, hc0, hr⟩ := h.tail
  obtain ⟨-, hcap2, hc2, hr2⟩ := hr.tail
  have hlt := World.block_lt_of_cell? _ _ hc0
  have hu := UInt8.toNat_lt c
  have hu2 := UInt8.toNat_lt c2
  have hT := Lib.hid (show ctT (c :: c2 :: rest) (d + 1) = (if c.toNat % 5 = 0 then ofS sArray [ctT (c2 :: rest) d] else if c.toNat % 5 = 1 then ofS sMap [sString, ctT (c2 :: rest) d] else if c.toNat % 5 = 2 then ofS sTuple [ctT (c2 :: rest) d, ctT rest d] else plainAt c2.toNat) from rfl)
  have hz1 := ctT_size d (c2 :: rest)
  have hz2 := ctT_size d rest
  have hz3 := ctMost_le d (by omega)
  have HI1 := Lib.hid (fun (w' : World) (hb : Below w.heap.size w w') => IH w' _ (c2 :: rest) (hr.below hb) (by simp; omega))
  have HI2 := Lib.hid (fun (w' : World) (hb : Below w.heap.size w w') (q : Value) (hq : BytesAt w' q rest) => IH w' q rest hq (by omega))
  have HR2 := Lib.hid hr2
  generalize ctT (c :: c2 :: rest) (d + 1) = R at *
  generalize ctT (c2 :: rest) d = s1 at *
  generalize ctT rest d = s2 at *
  have k1 : s1.size ≤ 200 := by omega
  have k2 : s2.size ≤ 200 := by omega
  have hcap3 : rest.length + 1 + 1 ≤ cap := hcap
  clear hz1 hz2 hz3 IH h hr hr2 hcap hcap2
  have z1 : decide (((rest.length : Int) + 1 + 1) < 2) = false := by simp; omega
  have hw64 : IntKind.i64.wrap (d : Int) = (d : Int) := by rw [IntKind.wrap_i64]; omega
  have z2 : ((d : Int) + 1 == 0) = false := by simp; omega
  by_cases m0 : c.toNat % 5 = 0
  · have HR : Hid (R = ofS sArray [s1]) := by rw [hT.out, if_pos m0]; exact Lib.hid rfl
    have m0' : ((c.toNat : Int) % 5 == 0) = true := by simp; omega
    clear hT m0
    go_enter Tryd.func10, Tryd.ntmps10
    go_wp2_with fail
    refine (ctPlain _).mono ?_
    rintro e w1 ⟨rfl, hs1, hb1⟩
    have hc1 : w1.cell? ⟨b, off, none⟩ = some (.int .u8 c.toNat) := by rw [hb1.cell (p := ⟨b, off, none⟩) hlt]; exact hc0
    have HB := Lib.hid hb1
    have HC := Lib.hid (HI1.out w1 hb1)
    clear hs1 hb1 hc0 hc2
    go_wp2_with fail
    refine HC.out.mono ?_
    rintro e w2 ⟨rfl, hb2⟩
    have HO := Lib.hid (ctOf (w2.alloc (.cells #[.string s1] 9)) sArray _ [s1] (strs_new w2 [s1] 9) (by simp only [sumS]; have : sArray.size = 5 := rfl; omega) (by simp))
    have HB2 := Lib.hid (HB.out.trans (hb2.mono HB.out.size))
    clear hb2
    go_wp2_with (go_at_call 16; refine HO.out.mono ?_; rintro e w3 ⟨rfl, rfl⟩)
    go_ret
    exact ⟨congrArg (fun x => Ending.returned (.string x)) HR.out.symm, HB2.out.alloc HB2.out.size _⟩
  · have m0' : ((c.toNat : Int) % 5 == 0) = false := by simp; omega
    by_cases m1 : c.toNat % 5 = 1
    · have HR : Hid (R = ofS sMap [sString, s1]) := by rw [hT.out, if_neg m0, if_pos m1]; exact Lib.hid rfl
      have m1' : ((c.toNat : Int) % 5 == 1) = true := by simp; omega
      clear hT m0 m1
      go_enter Tryd.func10, Tryd.ntmps10
      go_wp2_with fail
      refine (ctPlain _).mono ?_
      rintro e w1 ⟨rfl, hs1, hb1⟩
      have hc1 : w1.cell? ⟨b, off, none⟩ = some (.int .u8 c.toNat) := by rw [hb1.cell (p := ⟨b, off, none⟩) hlt]; exact hc0
      have HB := Lib.hid hb1
      have HC := Lib.hid (HI1.out w1 hb1)
      clear hs1 hb1 hc0 hc2
      go_wp2_with fail
      refine HC.out.mono ?_
      rintro e w2 ⟨rfl, hb2⟩
      have HO := Lib.hid (ctOf (w2.alloc (.cells #[.string sString, .string s1] 9)) sMap _ [sString, s1] (strs_new w2 [sString, s1] 9) (by simp only [sumS]; have : sMap.size = 3 := rfl; have : sString.size = 6 := rfl; omega) (by simp))
      have HB2 := Lib.hid (HB.out.trans (hb2.mono HB.out.size))
      clear hb2
      go_wp2_with (go_at_call 16; refine HO.out.mono ?_; rintro e w3 ⟨rfl, rfl⟩)
      go_ret
      exact ⟨congrArg (fun x => Ending.returned (.string x)) HR.out.symm, HB2.out.alloc HB2.out.size _⟩
    · have m1' : ((c.toNat : Int) % 5 == 1) = false := by simp; omega
      by_cases m2 : c.toNat % 5 = 2
      · have HR : Hid (R = ofS sTuple [s1, s2]) := by rw [hT.out, if_neg m0, if_neg m1, if_pos m2]; exact Lib.hid rfl
        have m2' : ((c.toNat : Int) % 5 == 2) = true := by simp; omega
        clear hT m0 m1 m2
        go_enter Tryd.func10, Tryd.ntmps10
        go_wp2_with fail
        refine (ctPlain _).mono ?_
        rintro e w1 ⟨rfl, hs1, hb1⟩
        have hc1 : w1.cell? ⟨b, off, none⟩ = some (.int .u8 c.toNat) := by rw [hb1.cell (p := ⟨b, off, none⟩) hlt]; exact hc0
        have HB := Lib.hid hb1
        clear hs1 hb1 hc0 hc2
        have hb0 : Below w.heap.size w w1.drew := HB.out.trans ⟨rfl, rfl, rfl, Nat.le_refl _, fun _ _ => rfl⟩
        have D1 : Hid (∀ w', Below w.heap.size w w' → Calls Tryd.prog 10 #[.slice (some ⟨b, off + 1, none⟩) (rest.length + 1) (cap - 1), .int .i64 d] w' fun e w'' => e = .returned (.string s1) ∧ Below w.heap.size w w'') :=
          Lib.hid fun w' hb => (HI1.out w' hb).mono fun e w'' h => ⟨h.1, hb.trans (h.2.mono hb.size)⟩
        have DO : Hid (∀ W : World, Calls Tryd.prog 16 #[.string ⟨#[84, 117, 112, 108, 101]⟩, .slice (some ⟨W.heap.size, 0, none⟩) 2 2] (W.alloc (.cells #[.string s1, .string s2] 9)) fun e w' => e = .returned (.string (ofS sTuple [s1, s2])) ∧ W.alloc (.cells #[.string s1, .string s2] 9) = w') :=
          Lib.hid fun W => ctOf (W.alloc (.cells #[.string s1, .string s2] 9)) sTuple _ [s1, s2] (strs_new W [s1, s2] 9) (by simp only [sumS]; have : sTuple.size = 5 := rfl; omega) (by simp)
        by_cases hq : cap = 2
        · have hrl : rest.length = 0 := by omega
          have D2 : Hid (∀ w', Below w.heap.size w w' → Calls Tryd.prog 10 #[.slice (some ⟨b, off, none⟩) 0 0, .int .i64 d] w' fun e w'' => e = .returned (.string s2) ∧ Below w.heap.size w w'') :=
            Lib.hid fun w' hb => (HI2.out w' hb _ (by rw [List.length_eq_zero_iff.1 hrl]; exact .inr ⟨b, off, 0, rfl, Nat.le_refl _, fun j hj => by simp at hj⟩)).mono fun e w'' h => ⟨h.1, hb.trans (h.2.mono hb.size)⟩
          rw [hrl] at D1 ⊢
          subst hq
          have D1 : Hid (∀ w', Below w.heap.size w w' → Calls Tryd.prog 10 #[.slice (some ⟨b, off + 1, none⟩) 1 1, .int .i64 d] w' fun e w'' => e = .returned (.string s1) ∧ Below w.heap.size w w'') := D1
          clear hrl HI1 HI2 HR2 hcap3 hl z1
          go_wp2_with fail
          go_region_held3 (fun _ => True) (trivial) (first
            | (go_at_call 10; ((with_reducible refine (D1.out _ hbA).mono ?_); rintro e wB ⟨rfl, hbB⟩)) | (go_at_call 10; ((with_reducible refine (D1.out _ hb0).mono ?_); rintro e wA ⟨rfl, hbA⟩))
            | (go_at_call 10; ((with_reducible refine (D2.out _ hbA).mono ?_); rintro e wB ⟨rfl, hbB⟩)) | (go_at_call 10; ((with_reducible refine (D2.out _ hb0).mono ?_); rintro e wA ⟨rfl, hbA⟩))
            | (go_at_call 16; refine (DO.out _).mono ?_; rintro e w3 ⟨rfl, rfl⟩)
            | fail)
          all_goals
            go_wp2_with fail
            go_ret
            exact ⟨congrArg (fun x => Ending.returned (.string x)) HR.out.symm, hbB.alloc hbB.size _⟩
        · have D2 : Hid (∀ w', Below w.heap.size w w' → Calls Tryd.prog 10 #[.slice (some ⟨b, off + 2, none⟩) rest.length (cap - 2), .int .i64 d] w' fun e w'' => e = .returned (.string s2) ∧ Below w.heap.size w w'') :=
            Lib.hid fun w' hb => (HI2.out w' hb _ (HR2.out.below hb)).mono fun e w'' h => ⟨h.1, hb.trans (h.2.mono hb.size)⟩
          have hq2 : 2 < cap := by omega
          have hq1 : 1 < cap := by omega
          have i1 : (1 : Int) ≤ (rest.length : Int) + 1 + 1 := by omega
          have i2 : (2 : Int) ≤ (rest.length : Int) + 1 + 1 := by omega
          have i3 : (rest.length : Int) + 1 + 1 ≤ (cap : Int) := by omega
          have i4 : (2 : Int) < (cap : Int) := by omega
          have i5 : (1 : Int) < (cap : Int) := by omega
          have hne : ¬ cap = 1 := by omega
          clear HI1 HI2 HR2
          go_wp2_with fail
          go_region_held3 (fun _ => True) (trivial) (first
            | (go_at_call 10; ((with_reducible refine (D1.out _ hbA).mono ?_); rintro e wB ⟨rfl, hbB⟩)) | (go_at_call 10; ((with_reducible refine (D1.out _ hb0).mono ?_); rintro e wA ⟨rfl, hbA⟩))
            | (go_at_call 10; ((with_reducible refine (D2.out _ hbA).mono ?_); rintro e wB ⟨rfl, hbB⟩)) | (go_at_call 10; ((with_reducible refine (D2.out _ hb0).mono ?_); rintro e wA ⟨rfl, hbA⟩))
            | (go_at_call 16; refine (DO.out _).mono ?_; rintro e w3 ⟨rfl, rfl⟩)
            | fail)
          all_goals
            go_wp2_with fail
            go_ret
            exact ⟨congrArg (fun x => Ending.returned (.string x)) HR.out.symm, hbB.alloc hbB.size _⟩
      · have m2' : ((c.toNat : Int) % 5 == 2) = false := by simp; omega
        have HR : Hid (R = plainAt c2.toNat) := by rw [hT.out, if_neg m0, if_neg m1, if_neg m2]; exact Lib.hid rfl
        clear hT m0 m1 m2
        go_enter Tryd.func10, Tryd.ntmps10
        go_wp2_with fail
        refine (ctPlain _).mono ?_
        rintro e w1 ⟨rfl, hs1, hb1⟩
        have hc1 : w1.cell? ⟨b, off, none⟩ = some (.int .u8 c.toNat) := by rw [hb1.cell (p := ⟨b, off, none⟩) hlt]; exact hc0
        have hc3 : w1.cell? ⟨b, off + 1, none⟩ = some (.int .u8 c2.toNat) := by rw [hb1.cell (p := ⟨b, off + 1, none⟩) hlt]; exact hc2
        obtain ⟨j, hj, hj2, hc⟩ := strs_at (n := c2.toNat) hs1
        have HB := Lib.hid hb1
        have i1 : ((1 : Int) < (rest.length : Int) + 1 + 1) := by omega
        clear hs1 hb1 hc0 hc2
        go_wp2
        go_ret
        exact ⟨congrArg (fun x => Ending.returned (.string x)) HR.out.symm, HB.out⟩

theorem ctType : ∀ (d : Nat), d ≤ 3 → ∀ (w : World) (v : Value) (code : List UInt8), BytesAt w v code → code.length ≤ 140737488355328 → Calls Tryd.prog 10 #[v, .int .i64 d] w (TypeIs w (ctT code d))
  | 0, _, w, v, [], h, _ => ctType_none w v 0 h
  | 0, _, w, v, c :: rest, h, hl => ctType_plain w v 0 c rest h (.inl rfl) (by simp at hl; omega)
  | d + 1, _, w, v, [], h, _ => ctType_none w v (d + 1) h
  | d + 1, _, w, v, [c], h, _ => ctType_plain w v (d + 1) c [] h (.inr rfl) (by simp)
  | d + 1, hd, w, v, c :: c2 :: rest, h, hl => by
    obtain ⟨b, off, cap, rfl⟩ : ∃ b off cap, v = .slice (some ⟨b, off, none⟩) (rest.length + 1 + 1) cap := by
      rcases h with h | ⟨b, off, cap, rfl, -⟩
      · simp at h
      · exact ⟨b, off, cap, rfl⟩
    exact ctType_more d (by omega) (ctType d (by omega)) w b off cap c c2 rest h (by simpa using hl)

theorem ctT_small (code : List UInt8) : (ctT code 3).size ≤ 200 := Nat.le_trans (ctT_size 3 code) (ctMost_le 3 (Nat.le_refl _))

end Go.Proofs.YtgnkinhjfcbdbaaDoor
