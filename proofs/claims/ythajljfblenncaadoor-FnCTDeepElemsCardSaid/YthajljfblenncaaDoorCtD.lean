/- FnCTDeepElems' walk: subtypes and parameters in parentheses. -/
import Derived.Test.YthajljfblenncaaDoorCtA
namespace Go.Proofs.YthajljfblenncaaDoor
open Go.RowKit Go.Shelf
set_option linter.unusedVariables false
set_option linter.unusedSimpArgs false
set_option linter.unnecessarySimpa false

theorem elem_turnT : Elem 69 51 1 16 := elem_of (z := .string ⟨#[]⟩) Tryd.underlying69 (by kernel_rfl) rfl (by decide)

def Inv_turnT (w wr : World) (ss : List ByteArray) (k : Nat) (v : Value) : Prop :=
  ∃ F : Nat → Prop, OwnR wr F 51 1 v k ((ss.take k).map fun s => Value.string s) ∧ (∀ j, F j → w.heap.size ≤ j) ∧ Below w.heap.size w wr

theorem turnT (w : World) (v : Value) (ps : List ByteArray) (h : StrsAt w v ps) (hn : ps.length ≤ 1000000) :
    Calls Tryd.prog 44 #[v, .func (.func 45) #[] #[]] w fun e w' => ∃ v' F, e = .returned v' ∧ OwnR w' F 51 1 v' ps.length (ps.map fun s => Value.string s) ∧ Below w.heap.size w w' := by
  obtain ⟨b, off, cap, rfl, hc, hlt, hx⟩ := h
  have HX := Lib.hid hx
  clear hx
  have HI : Inv_turnT w w ps 0 (.slice none 0 0) := ⟨fun _ => False, OwnR.nil _ _ _ _, fun _ h => h.elim, Below.refl _ _⟩
  go_enter Tryd.func44, Tryd.ntmps44
  go_wp2_with fail
  go_loopw [5, 10] (fun v i wr => ∃ k : Nat, k ≤ ps.length ∧ i = .int .i64 k ∧ Inv_turnT w wr ps k v) (fun _ i _ => ps.length - (intOf i).toNat)
  case atStart => exact ⟨0, Nat.zero_le _, rfl, HI⟩
  case round =>
    obtain ⟨k, hk, rfl, F, hown, hF, hb⟩ := hrel
    by_cases hlt2 : k < ps.length
    · obtain ⟨s, hs⟩ : ∃ s, ps[k]? = some s := ⟨_, List.getElem?_eq_getElem hlt2⟩
      have hc0 : wr.cell? ⟨b, off + k, none⟩ = some (.string s) := by rw [hb.cell (p := ⟨b, off + k, none⟩) hlt]; exact HX.out k s hs
      have hown2 := hown.keep ((Below.refl _ wr).alloc (Nat.le_refl _) (.cells #[Value.string s] 51))
      have HOWN := Lib.hid hown2
      have HSRC := Lib.hid (src_new elem_turnT (w := wr.alloc (.cells #[Value.string s] 51)) wr.heap.size [Value.string s] 51 (heap_alloc_new _ _) rfl (by simp [Value.oneCell']) 1)
      obtain ⟨p0, q0, rfl⟩ := hown.slice
      have HT := Lib.hid (show ((ps.take (k + 1)).map fun s => Value.string s) = ((ps.take k).map fun s => Value.string s) ++ [Value.string s] by rw [List.take_add_one, hs]; simp)
      have HF := Lib.hid hF
      have HB := Lib.hid hb
      clear hown hown2 hs hF hb
      go_wp2_with (first | (go_at_call 45; go_in) | (at_builtin; refine append_rows elem_turnT _ F k 1 _ _ rfl _ _ _ rfl _ rfl HOWN.out _ rfl HSRC.out (by omega) (by omega) ?_; intro p6 c6 w6 F6 hown6 hu6))
      go_roundw
      case rel =>
        have s1 := HB.out.size
        refine ⟨k + 1, by omega, by go_num, F6, by rw [HT.out]; exact hown6, fun j hj => ?_, ?_⟩
        · rcases hu6.new j hj with h | h
          · exact HF.out j h
          · have := h.1; simp at this; omega
        · exact (HB.out.alloc s1 _).trans (hu6.chg.below (by simp; omega) fun j hj => HF.out j hj)
      case measure => simp [intOf]; omega
    · have hke : k = ps.length := by omega
      subst hke
      rw [List.take_length] at hown
      have HO := Lib.hid hown
      have HB := Lib.hid hb
      clear hown hF hb
      go_wp2_with fail
      go_ret
      exact ⟨_, F, rfl, HO.out, HB.out⟩

/-- Texts of the call's own, of whichever kind of text, read as texts. -/
theorem OwnR.strs' {w : World} {F : Nat → Prop} {E : TypeId} {v : Value} {ss : List ByteArray} (h : OwnR w F E 1 v ss.length (ss.map fun s => Value.string s)) (h0 : ss ≠ []) : StrsAt w v ss := by
  rcases h.cells with ⟨rfl, h1⟩ | ⟨g, cap, rfl, hc, hF, hlt, hx⟩
  · exact absurd (List.map_eq_nil_iff.1 h1) h0
  · exact ⟨g, 0, cap, rfl, hc, hlt, fun j s hs => by rw [Nat.zero_add]; exact (hx j _ (by rw [List.getElem?_map, hs]; rfl)).1⟩

theorem implSub (w : World) (t : ByteArray) (v : Value) (ps : List ByteArray) (h : StrsAt w v ps) (h0 : ps ≠ []) (hl : t.size + 2 + sumS ps ≤ 1000000) (hn : ps.length ≤ 1000000) :
    Calls Tryd.prog 26 #[.string t, v] w fun e w' => e = .returned (.string (ofS t ps)) ∧ Below w.heap.size w w' := by
  have HT := Lib.hid (turnT w v ps h hn)
  obtain ⟨b, off, cap, rfl, -⟩ := h
  go_enter Tryd.func26, Tryd.ntmps26
  go_wp2_with fail
  refine HT.out.mono ?_
  rintro e w1 ⟨v1, F, rfl, hown, hb1⟩
  have HS := Lib.hid (ctSub w1 t v1 ps (hown.strs' h0) h0 hl hn)
  have HB := Lib.hid hb1
  clear hown hb1
  go_wp2_with fail
  refine HS.out.mono ?_
  rintro e w2 ⟨rfl, hb2⟩
  go_wp2_with fail
  go_ret
  exact ⟨rfl, HB.out.trans (hb2.mono HB.out.size)⟩

theorem implWith (w : World) (t : ByteArray) (v : Value) (ps : List ByteArray) (h : StrsAt w v ps) (h0 : ps ≠ []) (hl : t.size + 2 + sumS ps ≤ 1000000) (hn : ps.length ≤ 1000000) :
    Calls Tryd.prog 27 #[.string t, v] w fun e w' => e = .returned (.string (ofS t ps)) ∧ Below w.heap.size w w' := by
  have HT := Lib.hid (ctWith w t v ps h h0 hl hn)
  obtain ⟨b, off, cap, rfl, -⟩ := h
  go_enter Tryd.func27, Tryd.ntmps27
  go_wp2_with fail
  refine HT.out.mono ?_
  rintro e w1 ⟨rfl, hb1⟩
  go_wp2_with fail
  go_ret
  exact ⟨rfl, hb1⟩

theorem conf_self (w : World) (a : ByteArray) : Calls Tryd.prog 23 #[.string a, .string a] w fun e w' => e = .returned (.bool false) ∧ w = w' := by
  go_enter Tryd.func23, Tryd.ntmps23
  go_wp2
  go_ret
  exact ⟨rfl, rfl⟩

set_option maxHeartbeats 1000000 in
theorem deepRow (w : World) (v : Value) (code : List UInt8) (h : BytesAt w v code) (hl : code.length ≤ 9223372036854775807) : Calls Tryd.prog 8 #[v] w fun e w' => e = .returned (.bool true) ∧ Below w.heap.size w w' := by
  have HT := Lib.hid (fun hl => ctType 2 (by decide) w v code h hl)
  have hs : (ctT code 2).size ≤ 200 := Nat.le_trans (ctT_size 2 code) (ctMost_le 2 (by decide))
  generalize ctT code 2 = s at *
  have z1 := arr_size s
  have z2 := arr_size (ofS sArray [s])
  have HA := Lib.hid (fun w => implArr w s (by omega))
  have HA2 := Lib.hid (fun w => implArr w (ofS sArray [s]) (by omega))
  have HE : Hid (∀ w, Calls Tryd.prog 25 #[.string (ofS sArray [s])] w fun e w' => e = .returned (.string s) ∧ w = w') := Lib.hid fun w => (implElem w _ (by omega) (by omega)).mono fun e w' h => ⟨h.1.trans (by rw [arr_elem]), h.2⟩
  have HE2 : Hid (∀ w, Calls Tryd.prog 25 #[.string (ofS sArray [ofS sArray [s]])] w fun e w' => e = .returned (.string (ofS sArray [s])) ∧ w = w') := Lib.hid fun w => (implElem w _ (by omega) (by omega)).mono fun e w' h => ⟨h.1.trans (by rw [arr_elem]), h.2⟩
  have HS : Hid (∀ W : World, Calls Tryd.prog 26 #[.string ⟨#[65, 114, 114, 97, 121]⟩, .slice (some ⟨W.heap.size, 0, none⟩) 1 1] (W.alloc (.cells #[.string s] 9)) fun e w' => e = .returned (.string (ofS sArray [s])) ∧ Below W.heap.size W w') :=
    Lib.hid fun W => (implSub (W.alloc (.cells #[.string s] 9)) sArray _ [s] (strs_new W [s] 9) (by simp) (by simp only [sumS]; have : sArray.size = 5 := rfl; omega) (by simp)).mono fun e w' h => ⟨h.1, ((Below.refl _ W).alloc (Nat.le_refl _) _).trans (h.2.mono (by simp))⟩
  have HW : Hid (∀ W : World, Calls Tryd.prog 27 #[.string ⟨#[65, 114, 114, 97, 121]⟩, .slice (some ⟨W.heap.size, 0, none⟩) 1 1] (W.alloc (.cells #[.string s] 9)) fun e w' => e = .returned (.string (ofS sArray [s])) ∧ Below W.heap.size W w') :=
    Lib.hid fun W => (implWith (W.alloc (.cells #[.string s] 9)) sArray _ [s] (strs_new W [s] 9) (by simp) (by simp only [sumS]; have : sArray.size = 5 := rfl; omega) (by simp)).mono fun e w' h => ⟨h.1, ((Below.refl _ W).alloc (Nat.le_refl _) _).trans (h.2.mono (by simp))⟩
  have HC := Lib.hid (fun w => conf_self w (ofS sArray [ofS sArray [s]]))
  generalize ofS sArray [ofS sArray [s]] = B at *
  generalize ofS sArray [s] = A at *
  obtain ⟨p, c, rfl⟩ := h.slice
  clear h z1 z2
  by_cases hm : 2147483647 < code.length
  · have hm' : (2147483647 : Int) < (code.length : Int) := by omega
    go_enter Tryd.func8, Tryd.ntmps8
    go_wp2_with fail
    go_ret
    exact ⟨rfl, Below.refl _ _⟩
  · have hm' : ¬ (2147483647 : Int) < (code.length : Int) := by omega
    go_enter Tryd.func8, Tryd.ntmps8
    go_wp2_with fail
    refine (HT.out (by omega)).mono ?_
    rintro e w1 ⟨rfl, hb1⟩
    have HB1 := Lib.hid hb1
    clear hb1
    go_wp2_with fail
    refine (HA.out w1).mono ?_
    rintro e w2 ⟨rfl, hb2⟩
    have HB2 := Lib.hid (HB1.out.trans (hb2.mono HB1.out.size))
    clear hb2
    go_wp2_with fail
    refine (HA2.out w2).mono ?_
    rintro e w3 ⟨rfl, hb3⟩
    have HB3 := Lib.hid (HB2.out.trans (hb3.mono HB2.out.size))
    clear hb3
    go_wp2_with fail
    refine (HE2.out w3).mono ?_
    rintro e w4 ⟨rfl, rfl⟩
    go_wp2_with fail
    refine (HE.out w3).mono ?_
    rintro e w4 ⟨rfl, rfl⟩
    go_wp2_with fail
    refine (HE2.out w3).mono ?_
    rintro e w4 ⟨rfl, rfl⟩
    go_wp2_with fail
    refine (HA.out w3).mono ?_
    rintro e w4 ⟨rfl, hb4⟩
    have HB4 := Lib.hid (HB3.out.trans (hb4.mono HB3.out.size))
    clear hb4
    go_wp2_with fail
    refine (HS.out w4).mono ?_
    rintro e w5 ⟨rfl, hb5⟩
    have HB5 := Lib.hid (HB4.out.trans (hb5.mono HB4.out.size))
    clear hb5
    go_wp2_with fail
    refine (HA.out w5).mono ?_
    rintro e w6 ⟨rfl, hb6⟩
    have HB6 := Lib.hid (HB5.out.trans (hb6.mono HB5.out.size))
    clear hb6
    go_wp2_with fail
    refine (HW.out w6).mono ?_
    rintro e w7 ⟨rfl, hb7⟩
    have HB7 := Lib.hid (HB6.out.trans (hb7.mono HB6.out.size))
    clear hb7
    go_wp2_with fail
    refine (HA.out w7).mono ?_
    rintro e w8 ⟨rfl, hb8⟩
    have HB8 := Lib.hid (HB7.out.trans (hb8.mono HB7.out.size))
    clear hb8
    go_wp2_with fail
    refine (HC.out w8).mono ?_
    rintro e w9 ⟨rfl, rfl⟩
    go_wp2_with fail
    go_ret
    exact ⟨rfl, HB8.out⟩
end Go.Proofs.YthajljfblenncaaDoor
