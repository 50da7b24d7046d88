/- slices.Clone of strings; FnINTexts: the walk. -/
import Derived.Test.YtgnkinhjfcbdbaaDoorInF
import Derived.Lib.ConvBytes
namespace Go.Proofs.YtgnkinhjfcbdbaaDoor
open Go.RowKit
set_option linter.unusedVariables false
set_option linter.unusedSimpArgs false

set_option maxRecDepth 100000 in
theorem cloneStrs (w : World) (v : Value) (ss : List ByteArray) (h : StrL w v ss) (hl : ss.length ≤ 2147483647) :
    Calls Tryd.prog 6 #[v] w fun e w' => ∃ p c F, e = .returned (.slice p ss.length c) ∧ Acc w F 9 1 (.slice p ss.length c) ss.length (ss.map Value.string) w' := by
  have hk := fun (w : World) (a : Option Addr) (n c n' c' : Nat) => Lib.run_eql_slice_nil (P := Tryd.prog) w 22 9 a n c n' c' Tryd.underlying22
  obtain ⟨p, c, rfl, hc⟩ := h.slice
  cases p with
  | none =>
    have h0 : ss = [] := by
      obtain ⟨p', c', he, hn, hx⟩ := id h
      by_cases hs : ss = []
      · exact hs
      · obtain ⟨g, o, e, -⟩ := hx (by simpa using hs)
        subst e
        simp at he
    subst h0
    clear h
    go_enter Tryd.func6, Tryd.ntmps6
    go_wp2
    go_ret
    exact ⟨none, 0, fun _ => False, rfl, Acc.start _ _ _⟩
  | some a =>
    have hown : OwnR (w.alloc (.cells #[] 9)) (· = w.heap.size) 9 1 (.slice (some ⟨w.heap.size, 0, none⟩) 0 0) 0 [] :=
      ⟨⟨rfl, .inr ⟨w.heap.size, 0, #[], rfl, Nat.zero_le _, heap_alloc_new _ _, Nat.le_refl _, Nat.zero_le _, rfl, rfl⟩⟩, by simp [Value.ownBlock]⟩
    have hb := (Below.refl _ w).alloc (Nat.le_refl _) (.cells #[] 9)
    have HS := Lib.hid (h.below hb).src
    have HO := Lib.hid hown
    have HB := Lib.hid hb
    clear h hown hb
    go_enter Tryd.func6, Tryd.ntmps6
    go_wp2_with (at_builtin; refine append_rows elemStrs _ _ 0 ss.length _ _ rfl _ _ _ rfl _ rfl HO.out _ rfl HS.out (by omega) (by omega) ?_; intro p5 c5 w5 F5 hown5 hu5)
    go_ret
    rw [Nat.zero_add, List.nil_append] at hown5
    refine ⟨p5, c5, F5, by simp, hown5, fun k hk => ?_, fun k hk => ?_, HB.out.trans (hu5.chg.below HB.out.size fun k hk => by omega)⟩
    · have := HB.out.size
      rcases hu5.new k hk with h | h
      · omega
      · omega
    · have hs := hu5.chg.size
      rcases hu5.new k hk with h | h
      · simp at hs; omega
      · exact h.2

def GoodN (s : ByteArray) : Prop := 1 ≤ s.size ∧ s.size ≤ 20 ∧ ∀ x ∈ s.data.toList, Small x
theorem names_of (ss : List ByteArray) (h1 : 1 ≤ ss.length) (h8 : ss.length ≤ 8) (h : ∀ s ∈ ss, GoodN s) : Names (ss.map (·.data.toList)) ∧ (ss.map (·.data.toList)).map ba = ss := by
  refine ⟨⟨by rw [List.length_map]; exact h1, by rw [List.length_map]; exact h8, fun l hl => ?_⟩, ?_⟩
  · obtain ⟨s, hs, rfl⟩ := List.mem_map.1 hl
    have e : s.data.toList.length = s.size := by simp
    obtain ⟨a, b, c⟩ := h s hs
    exact ⟨by omega, by omega, c⟩
  · rw [List.map_map]
    exact (List.map_congr_left fun s _ => ba_self s).trans (List.map_id ss)
theorem whole_text (t : ByteArray) (ls : List (List UInt8)) : (⟨#[73, 78, 83, 69, 82, 84, 32, 73, 78, 84, 79, 32, 34]⟩ : ByteArray) ++ t ++ (⟨#[34, 32]⟩ : ByteArray) ++ ba (cols ls ++ [41]) ++ (⟨#[32, 86, 65, 76, 85, 69, 83]⟩ : ByteArray) = ba (intoB t.data.toList ls) := by
  show ba (sIns ++ [34]) ++ t ++ ba [34, 32] ++ _ ++ ba sVal = _
  conv => lhs; rw [← ba_self t]
  rw [ba_app, ba_app, ba_app, ba_app]
  simp [intoB, quo]

set_option maxHeartbeats 1000000 in
set_option maxRecDepth 100000 in
theorem textsRow (w : World) (v : Value) (ss : List ByteArray) (t : ByteArray) (h : StrL w v ss) (hl : ss.length ≤ 9223372036854775807) (hb : ∀ s ∈ ss, s.size ≤ 9223372036854775807) (ht : t.size ≤ 9223372036854775807) :
    Calls Tryd.prog 3 #[v, .string t] w fun e w' => e = .returned (.bool true) ∧ Below w.heap.size w w' := by
  have HFIT := Lib.hid (fits2V w v ss h hl hb)
  obtain ⟨p, c, rfl, hc⟩ := h.slice
  have HL := Lib.hid h
  clear h hb
  go_enter Tryd.func3, Tryd.ntmps3
  go_wp2_with fail
  refine HFIT.out.mono ?_
  rintro e w' ⟨rfl, b, rfl, hfit⟩
  cases b with
  | false =>
    clear hfit
    go_wp2_with fail
    go_ret
    exact ⟨rfl, Below.refl _ _⟩
  | true =>
    by_cases htl : 2147483647 < t.size
    · have htI : (2147483647 : Int) < (t.size : Int) := by omega
      clear hfit
      go_wp2_with fail
      go_ret
      exact ⟨rfl, Below.refl _ _⟩
    · have htI : ¬ (2147483647 : Int) < (t.size : Int) := by omega
      obtain ⟨hsl, hss⟩ := hfit rfl
      have HSS := Lib.hid hss
      have HC := Lib.hid (cloneStrs w _ ss HL.out hsl)
      clear hfit hss
      go_wp2_with fail
      refine HC.out.mono ?_
      rintro e w1 ⟨p1, c1, F1, rfl, hA1⟩
      have HA1 := Lib.hid hA1
      have HOWN := Lib.hid (hA1.own.keep ((Below.refl _ w1).alloc (Nat.le_refl _) (.cells #[.string t] 9)))
      have HSR := Lib.hid (src_new elemStrs w1.heap.size [.string t] _ (heap_alloc_new w1 (.cells #[.string t] 9)) rfl (by simp [Value.oneCell']) 1)
      clear hA1
      go_wp2_with (at_builtin; refine append_rows elemStrs _ F1 ss.length 1 _ _ rfl _ _ _ rfl _ rfl HOWN.out _ rfl HSR.out (by omega) (by omega) ?_; intro p2 c2 w2 F2 hown2 hu2)
      have HA2 := Lib.hid (show Acc w F2 9 1 (.slice p2 (ss.length + 1) c2) (ss.length + 1) ((ss ++ [t]).map Value.string) w2 from by
        have := (HA1.out.keep ((Below.refl _ w1).alloc (Nat.le_refl _) _)).next hown2 hu2
        simpa using this)
      clear hown2 hu2
      go_loopw [23] (fun vi wr => ∃ i : Nat, i ≤ ss.length + 1 ∧ vi = .int .i64 i ∧ Hid (Acc w F2 9 1 (.slice p2 (ss.length + 1) c2) (ss.length + 1) ((ss ++ [t]).map Value.string) wr) ∧ Hid (∀ (j : Nat) (s : ByteArray), j < i → (ss ++ [t])[j]? = some s → GoodN s)) (fun vi _ => ss.length + 1 - (intOf vi).toNat)
      case atStart => exact ⟨0, Nat.zero_le _, rfl, HA2, Lib.hid fun j s hj => by omega⟩
      case round =>
        obtain ⟨i, hi, rfl, hA, hG⟩ := hrel
        obtain ⟨W, rfl⟩ : ∃ W, W = wr := ⟨_, rfl⟩
        by_cases hlt : i < ss.length + 1
        · have hltI : (i : Int) < (ss.length : Int) + 1 := by omega
          obtain ⟨s, hs⟩ : ∃ s, (ss ++ [t])[i]? = some s := ⟨_, List.getElem?_eq_getElem (by simp; omega)⟩
          have hst : StrL W (.slice p2 (ss.length + 1) c2) (ss ++ [t]) := by
            have := hA.out.own.flat
            unfold StrL
            simpa using this
          obtain ⟨g, o, rfl, -, -, hc2, hcx⟩ := hst.row hs
          have hz : s.size ≤ 2147483647 := by
            by_cases h1 : i < ss.length
            · rw [List.getElem?_append_left h1] at hs
              exact HSS.out s (List.mem_of_getElem? hs)
            · rw [List.getElem?_append_right (by omega), show i - ss.length = 0 by omega] at hs
              obtain rfl : t = s := by simpa using hs
              omega
          clear hst
          by_cases z1 : s.size < 1
          · have z1I : (s.size : Int) < 1 := by omega
            go_wp2_with fail
            go_ret
            exact ⟨rfl, hA.out.below⟩
          · have z1I : ¬ (s.size : Int) < 1 := by omega
            by_cases z2 : 20 < s.size
            · have z2I : (20 : Int) < (s.size : Int) := by omega
              go_wp2_with fail
              go_ret
              exact ⟨rfl, hA.out.below⟩
            · have z2I : ¬ (20 : Int) < (s.size : Int) := by omega
              obtain ⟨gc, hcv⟩ : ∃ gc, (Go.convert 9 25 (.string s)).run Tryd.prog W = .ok (.slice (some ⟨W.heap.size, 0, none⟩) s.size gc) (Lib.bytesWorld W 5 s) := ⟨_, Lib.run_convert_string_bytes (P := Tryd.prog) W 9 25 5 s Tryd.underlying9 Tryd.underlying25 Tryd.underlying5⟩
              have HBW := Lib.hid (show Below W.heap.size W (Lib.bytesWorld W 5 s) from ⟨rfl, rfl, rfl, by rw [Lib.bytesWorld_size]; omega, fun j hj => Lib.bytesWorld_at_old W 5 s j hj⟩)
              have HCELL := Lib.hid (fun j (hj : j < s.size) => Lib.bytesWorld_cell W 5 s j hj)
              have HSZ := Lib.hid (Lib.bytesWorld_size W 5 s)
              obtain ⟨B, hB⟩ : ∃ B, B = Lib.bytesWorld W 5 s := ⟨_, rfl⟩
              rw [← hB] at hcv HBW HCELL HSZ
              clear hB
              go_wp2_with fail
              have HST := Lib.hid hs
              have HIV := Lib.hid (And.intro hA.out hG.out)
              clear hs hcv hcx hA hG
              go_loop [38] (fun vi => ∃ k : Nat, k ≤ s.size ∧ vi = .int .i64 k ∧ Hid (∀ (j : Nat) (x : UInt8), j < k → s.data.toList[j]? = some x → Small x)) (fun vi => s.size - (intOf vi).toNat)
              case atStart => exact ⟨0, Nat.zero_le _, rfl, Lib.hid fun j x hj => by omega⟩
              case round =>
                obtain ⟨k, hk, rfl, hsm⟩ := hrel
                by_cases hks : k < s.size
                · have hksI : (k : Int) < (s.size : Int) := by omega
                  obtain ⟨x, hx⟩ : ∃ x, s.data.toList[k]? = some x := ⟨_, List.getElem?_eq_getElem (by simpa using hks)⟩
                  have hcell := HCELL.out k hks
                  rw [show s.data.toList.getD k 0 = x by rw [List.getD_eq_getElem?_getD, hx]; rfl] at hcell
                  have HXX := Lib.hid hx
                  obtain ⟨n, hn⟩ : ∃ n, n = x.toNat := ⟨_, rfl⟩
                  rw [← hn] at hcell
                  by_cases l1 : n < 97
                  · have l1I : (n : Int) < 97 := by omega
                    clear hn hx
                    go_wp2_with fail
                    go_ret
                    exact ⟨rfl, HIV.out.1.below.trans (HBW.out.mono HIV.out.1.below.size)⟩
                  · have l1I : ¬ (n : Int) < 97 := by omega
                    by_cases l2 : 122 < n
                    · have l2I : (122 : Int) < (n : Int) := by omega
                      clear hn hx
                      go_wp2_with fail
                      go_ret
                      exact ⟨rfl, HIV.out.1.below.trans (HBW.out.mono HIV.out.1.below.size)⟩
                    · have l2I : ¬ (122 : Int) < (n : Int) := by omega
                      have HSM := Lib.hid (show ∀ (j : Nat) (y : UInt8), j < k + 1 → s.data.toList[j]? = some y → Small y from fun j y hj hy => by
                        by_cases hjk : j = k
                        · subst hjk
                          obtain rfl : x = y := by rw [hx] at hy; simpa using hy
                          exact ⟨by omega, by omega⟩
                        · exact hsm.out j y (by omega) hy)
                      clear hn hx hsm
                      go_wp2_with fail
                      go_round
                      case rel => exact ⟨k + 1, by omega, by go_num, HSM⟩
                      case measure => simp [intOf]; omega
                · obtain rfl : k = s.size := by omega
                  have hksI : ¬ (s.size : Int) < (s.size : Int) := by omega
                  have HGG := Lib.hid (show ∀ (j : Nat) (y : ByteArray), j < i + 1 → (ss ++ [t])[j]? = some y → GoodN y from fun j y hj hy => by
                    by_cases hji : j = i
                    · subst hji
                      obtain rfl : s = y := by rw [HST.out] at hy; simpa using hy
                      refine ⟨by omega, by omega, fun x hx => ?_⟩
                      obtain ⟨j, hj, rfl⟩ := List.mem_iff_getElem.1 hx
                      exact hsm.out j _ (by simpa using hj) (List.getElem?_eq_getElem hj)
                    · exact HIV.out.2 j y (by omega) hy)
                  clear hsm
                  go_wp2_with fail
                  go_roundw
                  case rel => exact ⟨i + 1, by omega, by go_num, Lib.hid (HIV.out.1.keep HBW.out), HGG⟩
                  case measure => simp [intOf]; omega
        · obtain rfl : i = ss.length + 1 := by omega
          have hltI : ¬ ((ss.length : Int) + 1) < (ss.length : Int) + 1 := by omega
          have hbW := hA.out.below
          have HG := Lib.hid hG.out
          have HBB := Lib.hid hbW
          clear hA hG hbW
          by_cases z1 : ss.length < 1
          · have z1I : (ss.length : Int) < 1 := by omega
            go_wp2_with fail
            go_ret
            exact ⟨rfl, HBB.out⟩
          · have z1I : ¬ (ss.length : Int) < 1 := by omega
            by_cases z2 : 8 < ss.length
            · have z2I : (8 : Int) < (ss.length : Int) := by omega
              go_wp2_with fail
              go_ret
              exact ⟨rfl, HBB.out⟩
            · have z2I : ¬ (8 : Int) < (ss.length : Int) := by omega
              obtain ⟨hN, hE⟩ := names_of ss (by omega) (by omega) fun s hs => by
                obtain ⟨j, hj, rfl⟩ := List.mem_iff_getElem.1 hs
                exact HG.out j _ (by omega) (by rw [List.getElem?_append_left hj]; exact List.getElem?_eq_getElem hj)
              have hT : GoodN t := HG.out ss.length t (by omega) (by rw [List.getElem?_append_right (Nat.le_refl _), Nat.sub_self]; rfl)
              have hwt := whole_text t (ss.map (·.data.toList))
              have hcl := cols_len _ fun l hl => (hN.each l hl).2.1
              have hlm : (ss.map (·.data.toList)).length ≤ 8 := hN.most
              generalize ss.map (·.data.toList) = ls at *
              have HSL := Lib.hid (fun W' (hb : Below w.heap.size w W') => show StrL W' (.slice p ss.length c) (ls.map ba) from by rw [hE]; exact HL.out.below hb)
              have HC1 := Lib.hid (fun W' (hb : Below w.heap.size w W') => implColumns W' _ ls (HSL.out W' hb) hN)
              have HC2 := Lib.hid (fun W' (hb : Below w.heap.size w W') => specCols W' _ ls (HSL.out W' hb) hN)
              have HC3 := Lib.hid (fun W' (hb : Below w.heap.size w W') => implInto W' _ ls (HSL.out W' hb) hN t.data.toList (by have := hT.1; simpa using this) (by have := hT.2.1; simpa using this) hT.2.2)
              rw [ba_self] at HC3
              have ht20 := hT.2.1
              have zc : (ba (cols ls ++ [41])).size ≤ 300 := by rw [ba_size, List.length_append]; simp only [List.length_cons, List.length_nil]; omega
              clear hN hE hT hcl hlm HSL
              generalize ba (cols ls ++ [41]) = C at *
              generalize ba (intoB t.data.toList ls) = X at *
              have f0 : (⟨#[73, 78, 83, 69, 82, 84, 32, 73, 78, 84, 79, 32, 34]⟩ : ByteArray).size = 13 := rfl
              have f1 : (⟨#[34, 32]⟩ : ByteArray).size = 2 := rfl
              have f2 : (⟨#[32, 86, 65, 76, 85, 69, 83]⟩ : ByteArray).size = 7 := rfl
              have g1 : ((⟨#[73, 78, 83, 69, 82, 84, 32, 73, 78, 84, 79, 32, 34]⟩ : ByteArray) ++ t).size ≤ 33 := by rw [ByteArray.size_append, f0]; omega
              have g2 : ((⟨#[73, 78, 83, 69, 82, 84, 32, 73, 78, 84, 79, 32, 34]⟩ : ByteArray) ++ t ++ (⟨#[34, 32]⟩ : ByteArray)).size ≤ 35 := by rw [ByteArray.size_append, f1]; omega
              have g3 : ((⟨#[73, 78, 83, 69, 82, 84, 32, 73, 78, 84, 79, 32, 34]⟩ : ByteArray) ++ t ++ (⟨#[34, 32]⟩ : ByteArray) ++ C).size ≤ 400 := by rw [ByteArray.size_append]; omega
              have K1 : (C.toList == C.toList) = true := by simp
              have K2 : (X.toList == ((⟨#[73, 78, 83, 69, 82, 84, 32, 73, 78, 84, 79, 32, 34]⟩ : ByteArray) ++ t ++ (⟨#[34, 32]⟩ : ByteArray) ++ C ++ (⟨#[32, 86, 65, 76, 85, 69, 83]⟩ : ByteArray)).toList) = true := by rw [hwt]; simp
              clear hwt
              go_wp2_with fail
              refine (HC1.out _ HBB.out).mono ?_
              rintro e w5 ⟨rfl, b5⟩
              have B5 := Lib.hid (HBB.out.trans (b5.mono HBB.out.size))
              clear b5
              go_wp2_with fail
              refine (HC2.out _ B5.out).mono ?_
              rintro e w6 ⟨rfl, rfl⟩
              go_wp2_with fail
              refine (HC3.out _ B5.out).mono ?_
              rintro e w7 ⟨rfl, b7⟩
              have B7 := Lib.hid (B5.out.trans (b7.mono B5.out.size))
              clear b7
              go_wp2_with fail
              refine (HC2.out _ B7.out).mono ?_
              rintro e w8 ⟨rfl, rfl⟩
              go_wp2_with fail
              go_ret
              exact ⟨rfl, B7.out⟩
end Go.Proofs.YtgnkinhjfcbdbaaDoor
