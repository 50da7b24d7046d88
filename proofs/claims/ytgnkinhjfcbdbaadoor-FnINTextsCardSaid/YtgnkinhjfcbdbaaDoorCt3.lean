/- Elements and bases of types; arrays of types. -/
import Derived.Test.YtgnkinhjfcbdbaaDoorCt2
import Derived.WalkSpells
import Derived.Shelf.Strings.OnBuilder
import Derived.Lib.Bytealg
namespace Go.Proofs.YtgnkinhjfcbdbaaDoor
open Go.RowKit Go.Shelf
set_option linter.unusedVariables false
set_option linter.unusedSimpArgs false
set_option linter.unnecessarySimpa false

/-- What stands between the first opening parenthesis and the last closing one. -/
def elemS (s : ByteArray) : ByteArray :=
  if idxB s.data.toList 40 ≤ 0 ∨ lastB s.data.toList 41 ≤ 0 ∨ lastB s.data.toList 41 < idxB s.data.toList 40 then ⟨#[]⟩
  else s.extract ((idxB s.data.toList 40).toNat + 1) (lastB s.data.toList 41).toNat
def baseS (s : ByteArray) : ByteArray :=
  if idxB s.data.toList 40 ≤ 0 ∨ lastB s.data.toList 41 ≤ 0 ∨ lastB s.data.toList 41 < idxB s.data.toList 40 then s
  else s.extract 0 (idxB s.data.toList 40).toNat

theorem idxB_lt (l : List UInt8) (c : Nat) : idxB l c < l.length := by
  unfold idxB; split <;> omega
theorem lastB_lt (l : List UInt8) (c : Nat) : lastB l c < l.length := by
  unfold lastB; split <;> omega
theorem idxB_spec {l : List UInt8} {c a : Nat} (h : idxB l c = a) : ∃ hl : a < l.length, l[a].toNat = c := by
  unfold idxB at h
  split at h
  · rename_i hl
    obtain rfl : l.findIdx (fun x => x.toNat == c) = a := by omega
    exact ⟨hl, by simpa using List.findIdx_getElem (w := hl)⟩
  · omega
theorem lastB_spec {l : List UInt8} {c a : Nat} (h : lastB l c = a) : ∃ hl : a < l.length, l[a].toNat = c := by
  unfold lastB at h
  split at h
  · rename_i hl
    have hl2 : l.reverse.findIdx (fun x => x.toNat == c) < l.reverse.length := by simpa using hl
    have h2 := List.findIdx_getElem (w := hl2)
    rw [List.getElem_reverse] at h2
    refine ⟨by omega, ?_⟩
    have e : l.length - 1 - l.reverse.findIdx (fun x => x.toNat == c) = a := by omega
    simp only [e] at h2
    simpa using h2
  · omega
theorem idx_ne_last (l : List UInt8) (a b : Nat) (h : idxB l 40 = a) (h2 : lastB l 41 = b) : a ≠ b := by
  rintro rfl
  obtain ⟨_, h3⟩ := idxB_spec h
  obtain ⟨_, h4⟩ := lastB_spec h2
  omega
theorem toList_ne {s : ByteArray} (h : 0 < s.size) : s.toList.isEmpty = false := by
  have : s.toList.length = s.size := by rw [ByteArray.toList_eq]; simp
  cases hx : s.toList with
  | nil => rw [hx] at this; simp at this; omega
  | cons a l => rfl

theorem ctElem (w : World) (s : ByteArray) (hs : s.size ≤ 1000000) (h0 : 0 < s.size) : Calls Tryd.prog 26 #[.string s] w fun e w' => e = .returned (.string (elemS s)) ∧ w = w' := by
  have h1 : Calls Tryd.prog 31 #[.string s, .int .u8 40] w fun e w' => e = .returned (.int .i64 (idxB s.data.toList 40)) ∧ w = w' := zzIdx w s 40 hs (by decide)
  have h2 : Calls Tryd.prog 32 #[.string s, .int .u8 41] w fun e w' => e = .returned (.int .i64 (lastB s.data.toList 41)) ∧ w = w' := zzLast w s 41 hs (by decide)
  have hi := idxB_lt s.data.toList 40
  have hj := lastB_lt s.data.toList 41
  obtain ⟨E, hE⟩ : ∃ E, E = elemS s := ⟨_, rfl⟩
  rw [← hE]
  unfold elemS at hE
  have hl : s.data.toList.length = s.size := by simp
  rw [hl] at hi hj
  have HNE : ∀ a b : Nat, idxB s.data.toList 40 = a → lastB s.data.toList 41 = b → a ≠ b := idx_ne_last s.data.toList
  generalize idxB s.data.toList 40 = i at *
  generalize lastB s.data.toList 41 = j at *
  have HZ := Lib.hid h1
  have HZ2 := Lib.hid h2
  have he : s.toList.isEmpty = false := toList_ne h0
  have he2 : (!s.toList.isEmpty) = true := by rw [he]; rfl
  have HNE := Lib.hid HNE
  clear h1 h2 hl
  by_cases c1 : i ≤ 0
  · rw [if_pos (.inl c1)] at hE
    subst hE
    go_enter Tryd.func26, Tryd.ntmps26
    go_wp2_with (first | (go_at_call 31; refine HZ.out.mono ?_; rintro e w' ⟨rfl, rfl⟩) | (go_at_call 32; refine HZ2.out.mono ?_; rintro e w' ⟨rfl, rfl⟩))
    go_ret
    exact ⟨rfl, rfl⟩
  · by_cases c2 : j ≤ 0
    · rw [if_pos (.inr (.inl c2))] at hE
      subst hE
      go_enter Tryd.func26, Tryd.ntmps26
      go_wp2_with (first | (go_at_call 31; refine HZ.out.mono ?_; rintro e w' ⟨rfl, rfl⟩) | (go_at_call 32; refine HZ2.out.mono ?_; rintro e w' ⟨rfl, rfl⟩))
      go_ret
      exact ⟨rfl, rfl⟩
    · by_cases c3 : j < i
      · rw [if_pos (.inr (.inr c3))] at hE
        subst hE
        go_enter Tryd.func26, Tryd.ntmps26
        go_wp2_with (first | (go_at_call 31; refine HZ.out.mono ?_; rintro e w' ⟨rfl, rfl⟩) | (go_at_call 32; refine HZ2.out.mono ?_; rintro e w' ⟨rfl, rfl⟩))
        go_ret
        exact ⟨rfl, rfl⟩
      · rw [if_neg (by omega)] at hE
        obtain ⟨a, rfl⟩ := Int.eq_ofNat_of_zero_le (show 0 ≤ i by omega)
        obtain ⟨b, rfl⟩ := Int.eq_ofNat_of_zero_le (show 0 ≤ j by omega)
        simp only [Int.toNat_natCast] at hE
        have ha : 0 < a := by omega
        have hab : a < b := by
          rcases Nat.lt_or_ge a b with h | h
          · exact h
          · exact absurd rfl (HNE.out a a rfl (by rw [show a = b by omega]))
        have hbs : b < s.size := by omega
        have z1 : (a : Int) + 1 ≤ (b : Int) := by omega
        have z2 : (b : Int) ≤ (s.size : Int) := by omega
        subst hE
        clear c1 c2 c3 hi hj
        go_enter Tryd.func26, Tryd.ntmps26
        go_wp2_with (first | (go_at_call 31; refine HZ.out.mono ?_; rintro e w' ⟨rfl, rfl⟩) | (go_at_call 32; refine HZ2.out.mono ?_; rintro e w' ⟨rfl, rfl⟩))
        go_ret
        exact ⟨rfl, rfl⟩

theorem ctBase (w : World) (s : ByteArray) (hs : s.size ≤ 1000000) (h0 : 0 < s.size) : Calls Tryd.prog 23 #[.string s] w fun e w' => e = .returned (.string (baseS s)) ∧ w = w' := by
  have h1 : Calls Tryd.prog 31 #[.string s, .int .u8 40] w fun e w' => e = .returned (.int .i64 (idxB s.data.toList 40)) ∧ w = w' := zzIdx w s 40 hs (by decide)
  have h2 : Calls Tryd.prog 32 #[.string s, .int .u8 41] w fun e w' => e = .returned (.int .i64 (lastB s.data.toList 41)) ∧ w = w' := zzLast w s 41 hs (by decide)
  have hi := idxB_lt s.data.toList 40
  have hj := lastB_lt s.data.toList 41
  obtain ⟨E, hE⟩ : ∃ E, E = baseS s := ⟨_, rfl⟩
  rw [← hE]
  unfold baseS at hE
  have hl : s.data.toList.length = s.size := by simp
  rw [hl] at hi hj
  have HNE : ∀ a b : Nat, idxB s.data.toList 40 = a → lastB s.data.toList 41 = b → a ≠ b := idx_ne_last s.data.toList
  generalize idxB s.data.toList 40 = i at *
  generalize lastB s.data.toList 41 = j at *
  have HZ := Lib.hid h1
  have HZ2 := Lib.hid h2
  have he : s.toList.isEmpty = false := toList_ne h0
  have he2 : (!s.toList.isEmpty) = true := by rw [he]; rfl
  have HNE := Lib.hid HNE
  clear h1 h2 hl
  by_cases c1 : i ≤ 0
  · rw [if_pos (.inl c1)] at hE
    subst hE
    go_enter Tryd.func23, Tryd.ntmps23
    go_wp2_with (first | (go_at_call 31; refine HZ.out.mono ?_; rintro e w' ⟨rfl, rfl⟩) | (go_at_call 32; refine HZ2.out.mono ?_; rintro e w' ⟨rfl, rfl⟩))
    go_ret
    exact ⟨rfl, rfl⟩
  · by_cases c2 : j ≤ 0
    · rw [if_pos (.inr (.inl c2))] at hE
      subst hE
      go_enter Tryd.func23, Tryd.ntmps23
      go_wp2_with (first | (go_at_call 31; refine HZ.out.mono ?_; rintro e w' ⟨rfl, rfl⟩) | (go_at_call 32; refine HZ2.out.mono ?_; rintro e w' ⟨rfl, rfl⟩))
      go_ret
      exact ⟨rfl, rfl⟩
    · by_cases c3 : j < i
      · rw [if_pos (.inr (.inr c3))] at hE
        subst hE
        go_enter Tryd.func23, Tryd.ntmps23
        go_wp2_with (first | (go_at_call 31; refine HZ.out.mono ?_; rintro e w' ⟨rfl, rfl⟩) | (go_at_call 32; refine HZ2.out.mono ?_; rintro e w' ⟨rfl, rfl⟩))
        go_ret
        exact ⟨rfl, rfl⟩
      · rw [if_neg (by omega)] at hE
        obtain ⟨a, rfl⟩ := Int.eq_ofNat_of_zero_le (show 0 ≤ i by omega)
        obtain ⟨b, rfl⟩ := Int.eq_ofNat_of_zero_le (show 0 ≤ j by omega)
        simp only [Int.toNat_natCast] at hE
        have ha : 0 < a := by omega
        have hab : a < b := by
          rcases Nat.lt_or_ge a b with h | h
          · exact h
          · exact absurd rfl (HNE.out a a rfl (by rw [show a = b by omega]))
        have hbs : b < s.size := by omega
        have z1 : (a : Int) + 1 ≤ (b : Int) := by omega
        have z2 : (b : Int) ≤ (s.size : Int) := by omega
        subst hE
        clear c1 c2 c3 hi hj
        go_enter Tryd.func23, Tryd.ntmps23
        go_wp2_with (first | (go_at_call 31; refine HZ.out.mono ?_; rintro e w' ⟨rfl, rfl⟩) | (go_at_call 32; refine HZ2.out.mono ?_; rintro e w' ⟨rfl, rfl⟩))
        go_ret
        exact ⟨rfl, rfl⟩

theorem ctBase_none (w : World) (s : ByteArray) (h : idxB s.data.toList 40 ≤ 0) : baseS s = s := by unfold baseS; rw [if_pos (.inl h)]

def lays156_ren : Go.Shelf.Ren := ⟨fun | 156 => 37 | 165 => 48 | 166 => 49 | 169 => 21 | 240 => 27 | 241 => 62 | 276 => 38 | 277 => 73 | n => n, fun | 31 => 22 | 9 => 9 | 3 => 3 | 4 => 4 | 0 => 0 | 20 => 20 | 72 => 47 | 76 => 51 | 70 => 45 | 37 => 25 | 75 => 50 | 127 => 58 | 164 => 65 | 5 => 5 | 80 => 35 | n => n, fun | n => n⟩
theorem lays156 : Go.Proofs.Lays.n156 Tryd.prog lays156_ren := {
  mixed := by kernel_rfl
  f156 := Tryd.func37.trans (congrArg some (by kernel_rfl))
  f165 := Tryd.func48.trans (congrArg some (by kernel_rfl))
  f166 := Tryd.func49.trans (congrArg some (by kernel_rfl))
  f169 := Tryd.func21.trans (congrArg some (by kernel_rfl))
  f240 := Tryd.func27.trans (congrArg some (by kernel_rfl))
  f241 := Tryd.func62.trans (congrArg some (by kernel_rfl))
  f276 := Tryd.func38.trans (congrArg some (by kernel_rfl))
  f277 := Tryd.func73.trans (congrArg some (by kernel_rfl))
  t0 := Tryd.underlying0
  a0 := Tryd.isAgg0
  z0 := Tryd.sizeOf0
  v0 := Tryd.zeroValue0
  t3 := Tryd.underlying3
  a3 := Tryd.isAgg3
  z3 := Tryd.sizeOf3
  v3 := Tryd.zeroValue3
  t4 := Tryd.underlying4
  a4 := Tryd.isAgg4
  z4 := Tryd.sizeOf4
  v4 := Tryd.zeroValue4
  t9 := Tryd.underlying9
  a9 := Tryd.isAgg9
  z9 := Tryd.sizeOf9
  v9 := Tryd.zeroValue9
  t20 := Tryd.underlying20
  a20 := Tryd.isAgg20
  z20 := Tryd.sizeOf20
  v20 := Tryd.zeroValue20
  t31 := Tryd.underlying22
  a31 := Tryd.isAgg22
  z31 := Tryd.sizeOf22
  v31 := Tryd.zeroValue22
  t37 := Tryd.underlying25
  a37 := Tryd.isAgg25
  z37 := Tryd.sizeOf25
  v37 := Tryd.zeroValue25
  t70 := Tryd.underlying45
  a70 := Tryd.isAgg45
  z70 := Tryd.sizeOf45
  v70 := Tryd.zeroValue45
  t72 := Tryd.underlying47
  a72 := Tryd.isAgg47
  z72 := Tryd.sizeOf47
  v72 := Tryd.zeroValue47
  t75 := Tryd.underlying50
  a75 := Tryd.isAgg50
  z75 := Tryd.sizeOf50
  v75 := Tryd.zeroValue50
  t76 := Tryd.underlying51
  a76 := Tryd.isAgg51
  z76 := Tryd.sizeOf51
  v76 := Tryd.zeroValue51
  t127 := Tryd.underlying58
  a127 := Tryd.isAgg58
  z127 := Tryd.sizeOf58
  v127 := Tryd.zeroValue58
  t164 := Tryd.underlying65
  a164 := Tryd.isAgg65
  z164 := Tryd.sizeOf65
  v164 := Tryd.zeroValue65 }
theorem extra156 : Builder.Extra Tryd.prog lays156_ren := {
  sizeBuilder := by kernel_rfl
  liesBuilder := by kernel_rfl
  t5 := Tryd.underlying5
  a5 := Tryd.isAgg5
  z5 := Tryd.sizeOf5
  v5 := Tryd.zeroValue5
  infoByte := by kernel_rfl
  cellsByte := by kernel_rfl
  sizeByte := by kernel_rfl
  neB5 := by decide }

def joinB (ps : List ByteArray) : ByteArray := ⟨(Lib.join (ps.map (·.data.toList)) [44, 32]).toArray⟩

theorem joinTail_snoc (sep : List UInt8) (a : List (List UInt8)) (y : List UInt8) : Lib.joinTail sep (a ++ [y]) = Lib.joinTail sep a ++ (sep ++ y) := by simp [Lib.joinTail]
theorem ofAcc_list (t x : ByteArray) (r : List ByteArray) : ∀ k, k ≤ r.length → (ofAcc t (x :: r) (k + 1)).data.toList = t.data.toList ++ [40] ++ x.data.toList ++ Lib.joinTail [44, 32] ((r.take k).map (·.data.toList))
  | 0, _ => by simp [ofAcc, Lib.joinTail, sOpen, ByteArray.data_append]
  | k + 1, h => by
    have ih := ofAcc_list t x r k (by omega)
    unfold ofAcc
    rw [if_neg (by omega), ByteArray.data_append, ByteArray.data_append]
    simp only [Array.toList_append]
    rw [ih, List.getD_cons_succ, List.getD_eq_getElem?_getD, List.getElem?_eq_getElem (show k < r.length by omega), List.take_succ_eq_append_getElem (by omega)]
    rw [List.map_append, List.map_cons, List.map_nil, joinTail_snoc]
    simp [sComma]
theorem ofS_join (t : ByteArray) (ps : List ByteArray) (h : ps ≠ []) : ofS t ps = t ++ (((⟨#[40]⟩ : ByteArray) ++ joinB ps) ++ (⟨#[41]⟩ : ByteArray)) := by
  cases ps with
  | nil => exact absurd rfl h
  | cons x r =>
    refine Go.WideShapes.bytes_inj ?_
    unfold ofS
    rw [ByteArray.data_append]
    simp only [Array.toList_append, List.length_cons]
    rw [ofAcc_list t x r r.length (Nat.le_refl _), List.take_length]
    simp [joinB, Lib.join_cons, sShut, ByteArray.data_append]

theorem join_any (w : World) (v : Value) (ps : List ByteArray) (h : StrsAt w v ps) (hl : (joinB ps).size ≤ 140737488355328) (hn : ps.length ≤ 140737488355328) :
    Calls Tryd.prog 37 #[v, .string ⟨#[44, 32]⟩] w fun e w' => e = .returned (.string (joinB ps)) ∧ Below w.heap.size w w' := by
  obtain ⟨b, off, cap, rfl, hc, hlt, hx⟩ := h
  exact Any.strings_Join lays156 extra156 b off cap ps ⟨#[44, 32]⟩ w hx hlt hn hc (by simpa [joinB, ByteArray.size] using hl)

theorem elemStr : Elem 22 9 1 16 := elem_of (z := .string ⟨#[]⟩) Tryd.underlying22 (by kernel_rfl) rfl (by decide)

/-- Strings of the call's own read as strings. -/
theorem OwnR.strs {w : World} {F : Nat → Prop} {v : Value} {ss : List ByteArray} (h : OwnR w F 9 1 v ss.length (ss.map Value.string)) (h0 : ss ≠ []) : StrsAt w v ss := by
  rcases h.cells with ⟨rfl, h1⟩ | ⟨g, cap, rfl, hc, hF, hlt, hx⟩
  · exact absurd (List.map_eq_nil_iff.1 h1) h0
  · exact ⟨g, 0, cap, rfl, hc, hlt, fun j s hs => by rw [Nat.zero_add]; exact (hx j _ (by rw [List.getElem?_map, hs]; rfl)).1⟩

def SubInv (w wr : World) (ss : List ByteArray) (k : Nat) (v : Value) : Prop :=
  ∃ F : Nat → Prop, OwnR wr F 9 1 v k ((ss.take k).map Value.string) ∧ (∀ j, F j → w.heap.size ≤ j) ∧ Below w.heap.size w wr

end Go.Proofs.YtgnkinhjfcbdbaaDoor
