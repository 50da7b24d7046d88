/- FnCTAlias' walk. -/
import Derived.Test.YthajljfblenncaaDoorCtA
import Derived.Test.YthajljfblenncaaDoorIface
import Derived.Deep.RegionWith
namespace Go.Proofs.YthajljfblenncaaDoor
open Go.RowKit Go.Shelf
set_option linter.unusedVariables false
set_option linter.unusedSimpArgs false
set_option linter.unnecessarySimpa false

theorem elem_turnI : Elem 59 20 1 16 := elem_of (z := .nilIface) Tryd.underlying59 (by kernel_rfl) rfl (by decide)

def Inv_turnI (w wr : World) (ss : List ByteArray) (k : Nat) (v : Value) : Prop :=
  ∃ F : Nat → Prop, OwnR wr F 20 1 v k ((ss.take k).map fun s => Value.iface 9 (.string s)) ∧ (∀ j, F j → w.heap.size ≤ j) ∧ Below w.heap.size w wr

theorem turnI (w : World) (v : Value) (ps : List ByteArray) (h : StrsAt w v ps) (hn : ps.length ≤ 1000000) :
    Calls Tryd.prog 35 #[v, .func (.func 36) #[] #[]] w fun e w' => ∃ v' F, e = .returned v' ∧ OwnR w' F 20 1 v' ps.length (ps.map fun s => Value.iface 9 (.string s)) ∧ Below w.heap.size w w' := by
  obtain ⟨b, off, cap, rfl, hc, hlt, hx⟩ := h
  have HX := Lib.hid hx
  clear hx
  have HI : Inv_turnI w w ps 0 (.slice none 0 0) := ⟨fun _ => False, OwnR.nil _ _ _ _, fun _ h => h.elim, Below.refl _ _⟩
  go_enter Tryd.func35, Tryd.ntmps35
  go_wp2_with fail
  go_loopw [5, 10] (fun v i wr => ∃ k : Nat, k ≤ ps.length ∧ i = .int .i64 k ∧ Inv_turnI w wr ps k v) (fun _ i _ => ps.length - (intOf i).toNat)
  case atStart => exact ⟨0, Nat.zero_le _, rfl, HI⟩
  case round =>
    obtain ⟨k, hk, rfl, F, hown, hF, hb⟩ := hrel
    by_cases hlt2 : k < ps.length
    · obtain ⟨s, hs⟩ : ∃ s, ps[k]? = some s := ⟨_, List.getElem?_eq_getElem hlt2⟩
      have hc0 : wr.cell? ⟨b, off + k, none⟩ = some (.string s) := by rw [hb.cell (p := ⟨b, off + k, none⟩) hlt]; exact HX.out k s hs
      have hown2 := hown.keep ((Below.refl _ wr).alloc (Nat.le_refl _) (.cells #[Value.iface 9 (.string s)] 20))
      have HOWN := Lib.hid hown2
      have HSRC := Lib.hid (src_new elem_turnI (w := wr.alloc (.cells #[Value.iface 9 (.string s)] 20)) wr.heap.size [Value.iface 9 (.string s)] 20 (heap_alloc_new _ _) rfl (by simp [Value.oneCell']) 1)
      obtain ⟨p0, q0, rfl⟩ := hown.slice
      have HT := Lib.hid (show ((ps.take (k + 1)).map fun s => Value.iface 9 (.string s)) = ((ps.take k).map fun s => Value.iface 9 (.string s)) ++ [Value.iface 9 (.string s)] by rw [List.take_add_one, hs]; simp)
      have HF := Lib.hid hF
      have HB := Lib.hid hb
      clear hown hown2 hs hF hb
      go_wp2_with (first | (go_at_call 36; go_in) | (at_builtin; refine append_rows elem_turnI _ F k 1 _ _ rfl _ _ _ rfl _ rfl HOWN.out _ rfl HSRC.out (by omega) (by omega) ?_; intro p6 c6 w6 F6 hown6 hu6))
      go_roundw
      case rel =>
        have s1 := HB.out.size
        refine ⟨k + 1, by omega, by go_num, F6, by rw [HT.out]; exact hown6, fun j hj => ?_, ?_⟩
        · rcases hu6.new j hj with h | h
          · exact HF.out j h
          · have := h.1; simp at this; omega
        · exact (HB.out.alloc s1 _).trans (hu6.chg.below (by simp; omega) fun j hj => HF.out j hj)
      case measure => simp [intOf]; omega
    · have hke : k = ps.length := by omega
      subst hke
      rw [List.take_length] at hown
      have HO := Lib.hid hown
      have HB := Lib.hid hb
      clear hown hF hb
      go_wp2_with fail
      go_ret
      exact ⟨_, F, rfl, HO.out, HB.out⟩

theorem implAlias (w : World) (t : ByteArray) : Calls Tryd.prog 16 #[.string t] w fun e w' => e = .returned (.string t) ∧ Below w.heap.size w w' := by
  go_enter Tryd.func16, Tryd.ntmps16
  go_wp2
  go_ret
  exact ⟨rfl, ((Below.refl _ w).alloc (Nat.le_refl _) _).alloc (by simp) _⟩

set_option maxRecDepth 100000 in
theorem sprint (w : World) (s : ByteArray) : Calls Tryd.prog 56 #[.iface 9 (.string s)] w fun e w' => e = .returned (.string s) ∧ w = w' := by
  have hta : ∀ w, (Instr.typeAssert (.iface 9 (.string s)) 20 9 true).run Tryd.prog w = .ok (.tuple #[.string s, .bool true]) w := fun _ => by kernel_rfl
  go_enter Tryd.func56, Tryd.ntmps56
  go_wp2
  go_ret
  exact ⟨rfl, rfl⟩

theorem OwnR.strs' {w : World} {F : Nat → Prop} {E : TypeId} {v : Value} {ss : List ByteArray} (h : OwnR w F E 1 v ss.length (ss.map fun s => Value.string s)) (h0 : ss ≠ []) : StrsAt w v ss := by
  rcases h.cells with ⟨rfl, h1⟩ | ⟨g, cap, rfl, hc, hF, hlt, hx⟩
  · exact absurd (List.map_eq_nil_iff.1 h1) h0
  · exact ⟨g, 0, cap, rfl, hc, hlt, fun j s hs => by rw [Nat.zero_add]; exact (hx j _ (by rw [List.getElem?_map, hs]; rfl)).1⟩

theorem has_u8 : HasVal 55 "Type" 151 := hasVal_of (by kernel_rfl)
theorem method_u8 (a : Addr) (W : World) (h : W.cell? a = some (.slice none 0 0)) : (method 305 55 (.pointer (some a)) "Type").run Tryd.prog W = .ok (151, .slice none 0 0) W :=
  method_ptr 304 has_u8 Tryd.underlying55 a W _ (by go_simp)

def sUInt8 : ByteArray := ⟨#[85, 73, 110, 116, 56]⟩

set_option maxRecDepth 100000 in
set_option maxHeartbeats 1000000 in
theorem wrap (w : World) (a : Addr) (v : Value) (F0 : Nat → Prop) (ps : List ByteArray) (ha : w.cell? a = some (.slice none 0 0)) (h : OwnR w F0 20 1 v ps.length (ps.map fun s => Value.iface 9 (.string s))) (h0 : ps ≠ []) (hl : sUInt8.size + 2 + sumS ps ≤ 1000000) (hn : ps.length ≤ 1000000) :
    Calls Tryd.prog 34 #[.iface 55 (.pointer (some a)), v] w fun e w' => e = .returned (.iface 89 (.agg #[.iface 55 (.pointer (some a)), .string (ofS sUInt8 ps)])) ∧ Below w.heap.size w w' := by
  obtain ⟨b, cap, rfl, hc, hlt, hx⟩ : ∃ b cap : Nat, v = .slice (some ⟨b, 0, none⟩) ps.length cap ∧ ps.length ≤ cap ∧ b < w.heap.size ∧ ∀ (j : Nat) (s : ByteArray), ps[j]? = some s → w.cell? ⟨b, j, none⟩ = some (.iface 9 (.string s)) := by
    rcases h.cells with ⟨rfl, h1⟩ | ⟨g, cap, rfl, hc, hF, hlt, hx⟩
    · exact absurd (List.map_eq_nil_iff.1 h1) h0
    · exact ⟨g, cap, rfl, hc, hlt, fun j s hs => (hx j _ (by rw [List.getElem?_map, hs]; rfl)).1⟩
  have hal := World.block_lt_of_cell? _ _ ha
  have HX := Lib.hid hx
  have HI : SubInv w w ps 0 (.slice none 0 0) := ⟨fun _ => False, OwnR.nil _ _ _ _, fun _ h => h.elim, Below.refl _ _⟩
  clear hx h
  go_enter Tryd.func34, Tryd.ntmps34
  go_wp2_with fail
  go_loopw [5, 11] (fun v i wr => ∃ k : Nat, k ≤ ps.length ∧ i = .int .i64 k ∧ SubInv w wr ps k v) (fun _ i _ => ps.length - (intOf i).toNat)
  case atStart => exact ⟨0, Nat.zero_le _, rfl, HI⟩
  case round =>
    obtain ⟨k, hk, rfl, F, hown, hF, hb⟩ := hrel
    by_cases hlt2 : k < ps.length
    · obtain ⟨s, hs⟩ : ∃ s, ps[k]? = some s := ⟨_, List.getElem?_eq_getElem hlt2⟩
      have hc0 : wr.cell? ⟨b, k, none⟩ = some (.iface 9 (.string s)) := by rw [hb.cell (p := ⟨b, k, none⟩) hlt]; exact HX.out k s hs
      have hown2 := hown.keep ((Below.refl _ wr).alloc (Nat.le_refl _) (.cells #[.string s] 9))
      have HOWN := Lib.hid hown2
      have HSRC := Lib.hid (src_new elemStr (w := wr.alloc (.cells #[.string s] 9)) wr.heap.size [.string s] 9 (heap_alloc_new _ _) rfl (by simp [Value.oneCell']) 1)
      obtain ⟨p0, q0, rfl⟩ := hown.slice
      have HT := Lib.hid (show (ps.take (k + 1)).map Value.string = (ps.take k).map Value.string ++ [.string s] by rw [List.take_add_one, hs]; simp)
      have HF := Lib.hid hF
      have HB := Lib.hid hb
      clear hown hown2 hs hF hb ha
      go_wp2_with (first | (go_at_call 56; refine (sprint _ _).mono ?_; rintro e w5 ⟨rfl, rfl⟩) | (at_builtin; refine append_rows elemStr _ F k 1 _ _ rfl _ _ _ rfl _ rfl HOWN.out _ rfl HSRC.out (by omega) (by omega) ?_; intro p6 c6 w6 F6 hown6 hu6))
      go_roundw
      case rel =>
        have s1 := HB.out.size
        refine ⟨k + 1, by omega, by go_num, F6, by rw [HT.out]; exact hown6, fun j hj => ?_, ?_⟩
        · rcases hu6.new j hj with h | h
          · exact HF.out j h
          · have := h.1; simp at this; omega
        · exact (HB.out.alloc s1 _).trans (hu6.chg.below (by simp; omega) fun j hj => HF.out j hj)
      case measure => simp [intOf]; omega
    · have hke : k = ps.length := by omega
      subst hke
      rw [List.take_length] at hown
      have har : wr.cell? a = some (.slice none 0 0) := by rw [hb.cell hal]; exact ha
      have hw0 := ctWith wr sUInt8 _ ps (hown.strs h0) h0 hl hn
      obtain ⟨p0, q0, rfl⟩ := hown.slice
      have HW : Hid (Calls Tryd.prog 46 #[.string ⟨#[85, 73, 110, 116, 56]⟩, .slice p0 ps.length q0] wr fun e w' => e = .returned (.string (ofS sUInt8 ps)) ∧ Below wr.heap.size wr w') := Lib.hid hw0
      have HB := Lib.hid hb
      have hm := method_u8 a wr har
      clear hown hF hb ha hw0
      go_wp2_with (first | (go_at_call 46; refine HW.out.mono ?_; rintro e w1 ⟨rfl, hb1⟩) | (go_at_call 151; go_in) | (go_at_call 33; go_in))
      go_ret
      exact ⟨rfl, HB.out.trans (hb1.mono HB.out.size)⟩

theorem implWrap (w : World) (v : Value) (ps : List ByteArray) (h : StrsAt w v ps) (h0 : ps ≠ []) (hl : sUInt8.size + 2 + sumS ps ≤ 1000000) (hn : ps.length ≤ 1000000) :
    Calls Tryd.prog 17 #[v] w fun e w' => e = .returned (.string (ofS sUInt8 ps)) ∧ Below w.heap.size w w' := by
  have hb0 : Below w.heap.size w (w.alloc (.cells #[.slice none 0 0] 56)) := (Below.refl _ w).alloc (Nat.le_refl _) _
  have HT := Lib.hid (turnI _ v ps (h.below hb0) hn)
  have HB0 := Lib.hid hb0
  obtain ⟨b, off, cap, rfl, -⟩ := h
  clear hb0
  go_enter Tryd.func17, Tryd.ntmps17
  go_wp2_with fail
  refine HT.out.mono ?_
  rintro e w1 ⟨v1, F, rfl, hown, hb1⟩
  have hc : w1.cell? ⟨w.heap.size, 0, none⟩ = some (.slice none 0 0) := by rw [hb1.cell (p := ⟨w.heap.size, 0, none⟩) (by simp)]; go_simp
  have HW := Lib.hid (wrap w1 ⟨w.heap.size, 0, none⟩ v1 F ps hc hown h0 hl hn)
  have HB := Lib.hid (HB0.out.trans (hb1.mono HB0.out.size))
  clear hown hb1 hc
  go_wp2_with fail
  refine HW.out.mono ?_
  rintro e w2 ⟨rfl, hb2⟩
  have HB2 := Lib.hid (HB.out.trans (hb2.mono HB.out.size))
  clear hb2
  go_wp2
  go_ret
  exact ⟨rfl, HB2.out.alloc HB2.out.size _⟩

/-- The letters from a on, so many. -/
def letters (k : Nat) : List ByteArray := (List.range k).map fun i => ⟨#[(97 + i).toUInt8]⟩
theorem letters_length (k : Nat) : (letters k).length = k := by simp [letters]
theorem letters_succ (k : Nat) : letters (k + 1) = letters k ++ [⟨#[(97 + k).toUInt8]⟩] := by simp [letters, List.range_succ]
theorem letters_sum : ∀ k, k ≤ 5 → sumS (letters k) ≤ 15 := by decide

def AliasInv (w wr : World) (k : Nat) (v : Value) : Prop :=
  ∃ F : Nat → Prop, OwnR wr F 9 1 v k ((letters k).map Value.string) ∧ (∀ j, F j → w.heap.size ≤ j) ∧ Below w.heap.size w wr

set_option maxRecDepth 100000 in
set_option maxHeartbeats 1000000 in
theorem aliasRow (w : World) (v : Value) (code : List UInt8) (many : Nat) (h : BytesAt w v code) (hl : code.length ≤ 9223372036854775807) (hmany : many < 256) : Calls Tryd.prog 5 #[v, .int .u8 many] w fun e w' => e = .returned (.bool true) ∧ Below w.heap.size w w' := by
  have HT := Lib.hid (fun hl => ctType 3 (by decide) w v code h hl)
  have hs := ctT_small code
  generalize ctT code 3 = s at *
  obtain ⟨m, hm0, hm5⟩ : ∃ m : Nat, (many : Int) % 5 = (m : Int) ∧ m < 5 := ⟨many % 5, by omega, by omega⟩
  obtain ⟨p, c, rfl⟩ := h.slice
  clear h
  by_cases hm : 2147483647 < code.length
  · have hm' : (2147483647 : Int) < (code.length : Int) := by omega
    go_enter Tryd.func5, Tryd.ntmps5
    go_wp2_with fail
    go_ret
    exact ⟨rfl, Below.refl _ _⟩
  · have hm' : ¬ (2147483647 : Int) < (code.length : Int) := by omega
    go_enter Tryd.func5, Tryd.ntmps5
    go_wp2_with fail
    refine (HT.out (by omega)).mono ?_
    rintro e w1 ⟨rfl, hb1⟩
    have HB1 := Lib.hid hb1
    have HI : AliasInv w w1 0 (.slice none 0 0) := ⟨fun _ => False, OwnR.nil _ _ _ _, fun _ h => h.elim, hb1⟩
    clear hb1
    go_wp2_with fail
    go_loopw [6, 7] (fun v i wr => ∃ k : Nat, k ≤ m + 1 ∧ i = .int .i64 k ∧ AliasInv w wr k v) (fun _ i _ => m + 1 - (intOf i).toNat)
    case atStart => exact ⟨0, Nat.zero_le _, rfl, HI⟩
    case round =>
      obtain ⟨k, hk, rfl, F, hown, hF, hb⟩ := hrel
      by_cases hlt : k ≤ m
      · obtain ⟨x, hx, hxk⟩ : ∃ x : UInt8, (x.toNat : Int) = 97 + (k : Int) ∧ x = (97 + k).toUInt8 := ⟨(97 + k).toUInt8, by simp; omega, rfl⟩
        have hba := bytesAt_new wr x
        rw [hx] at hba
        have hcv := run_convert_at hba
        have hown2 := hown.keep (((Below.refl _ wr).alloc (Nat.le_refl _) (.cells #[.int .u8 (97 + (k : Int))] 5)).alloc (by simp) (.cells #[.string ⟨#[x]⟩] 9))
        have HOWN := Lib.hid hown2
        have hsrc := src_new elemStr (w := (wr.alloc (.cells #[.int .u8 (97 + (k : Int))] 5)).alloc (.cells #[.string ⟨#[x]⟩] 9)) (wr.heap.size + 1) [.string ⟨#[x]⟩] 9 (by have := heap_alloc_new (wr.alloc (.cells #[.int .u8 (97 + (k : Int))] 5)) (.cells #[.string ⟨#[x]⟩] 9); simpa using this) rfl (by simp [Value.oneCell']) 1
        have HSRC := Lib.hid hsrc
        obtain ⟨p0, q0, rfl⟩ := hown.slice
        have HT2 := Lib.hid (show (letters (k + 1)).map Value.string = (letters k).map Value.string ++ [.string ⟨#[x]⟩] by rw [letters_succ, hxk]; simp)
        have HF := Lib.hid hF
        have HB := Lib.hid hb
        have hkm : (k : Int) ≤ (m : Int) := by omega
        clear hown hown2 hF hb hba hx hxk hsrc
        go_wp2_with (at_builtin; refine append_rows elemStr _ F k 1 _ _ rfl _ _ _ rfl _ rfl HOWN.out _ rfl HSRC.out (by omega) (by omega) ?_; intro p6 c6 w6 F6 hown6 hu6)
        go_roundw
        case rel =>
          have s1 := HB.out.size
          refine ⟨k + 1, by omega, by go_num, F6, by rw [HT2.out]; exact hown6, fun j hj => ?_, ?_⟩
          · rcases hu6.new j hj with h | h
            · exact HF.out j h
            · have := h.1; simp at this; omega
          · exact ((HB.out.alloc s1 _).alloc (by simp; omega) _).trans (hu6.chg.below (by simp; omega) fun j hj => HF.out j hj)
        case measure => simp [intOf]; omega
      · have hke : k = m + 1 := by omega
        subst hke
        have h0 : letters (m + 1) ≠ [] := by intro e; have := congrArg List.length e; rw [letters_length] at this; simp at this
        obtain ⟨p0, q0, rfl⟩ := hown.slice
        have hst : StrsAt wr (.slice p0 (m + 1) q0) (letters (m + 1)) := OwnR.strs (by rw [letters_length]; exact hown) h0
        have hsum := letters_sum (m + 1) (by omega)
        have hu8 : sUInt8.size = 5 := rfl
        have hAl := implAlias wr s
        have HW := Lib.hid (fun (W : World) (hW : Below wr.heap.size wr W) => implWrap W _ _ (hst.below hW) h0 (by omega) (by rw [letters_length]; omega))
        have HO := Lib.hid (fun (W : World) (hW : Below wr.heap.size wr W) => ctOf W sUInt8 _ _ (hst.below hW) (by omega) (by rw [letters_length]; omega))
        have HB := Lib.hid hb
        have HA := Lib.hid hAl
        have hkm : ¬ ((m + 1 : Nat) : Int) ≤ (m : Int) := by omega
        clear hown hF hb hst hAl h0 hsum hu8
        go_wp2_with fail
        refine HA.out.mono ?_
        rintro e w2 ⟨rfl, hb2⟩
        have HW2 := Lib.hid (HW.out w2 hb2)
        have HB2 := Lib.hid (HB.out.trans (hb2.mono HB.out.size))
        have HBr := Lib.hid hb2
        clear hb2
        go_wp2_with fail
        refine HW2.out.mono ?_
        rintro e w3 ⟨rfl, hb3⟩
        have HO3 : Hid (Calls Tryd.prog 18 #[.string ⟨#[85, 73, 110, 116, 56]⟩, .slice p0 (m + 1) q0] w3 fun e w' => e = .returned (.string (ofS sUInt8 (letters (m + 1)))) ∧ w3 = w') := Lib.hid (HO.out w3 (HBr.out.trans (hb3.mono HBr.out.size)))
        have HB3 := Lib.hid (HB2.out.trans (hb3.mono HB2.out.size))
        clear hb3
        go_wp2_with fail
        refine HO3.out.mono ?_
        rintro e w4 ⟨rfl, rfl⟩
        go_wp2_with fail
        go_ret
        exact ⟨rfl, HB3.out⟩
end Go.Proofs.YthajljfblenncaaDoor
