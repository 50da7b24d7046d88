/- Elements and bases of types; arrays of types. -/
import Derived.Test.YthajljfblenncaaDoorCt2
import Derived.WalkSpells
import Derived.Shelf.Strings.OnBuilder
import Derived.Lib.Bytealg
namespace Go.Proofs.YthajljfblenncaaDoor
open Go.RowKit Go.Shelf
set_option linter.unusedVariables false
set_option linter.unusedSimpArgs false
set_option linter.unnecessarySimpa false

/-- What stands between the first opening parenthesis and the last closing one. -/
def elemS (s : ByteArray) : ByteArray :=
  if idxB s.data.toList 40 ≤ 0 ∨ lastB s.data.toList 41 ≤ 0 ∨ lastB s.data.toList 41 < idxB s.data.toList 40 then ⟨#[]⟩
  else s.extract ((idxB s.data.toList 40).toNat + 1) (lastB s.data.toList 41).toNat
def baseS (s : ByteArray) : ByteArray :=
  if idxB s.data.toList 40 ≤ 0 ∨ lastB s.data.toList 41 ≤ 0 ∨ lastB s.data.toList 41 < idxB s.data.toList 40 then s
  else s.extract 0 (idxB s.data.toList 40).toNat

theorem idxB_lt (l : List UInt8) (c : Nat) : idxB l c < l.length := by
  unfold idxB; split <;> omega
theorem lastB_lt (l : List UInt8) (c : Nat) : lastB l c < l.length := by
  unfold lastB; split <;> omega
theorem idxB_spec {l : List UInt8} {c a : Nat} (h : idxB l c = a) : ∃ hl : a < l.length, l[a].toNat = c := by
  unfold idxB at h
  split at h
  · rename_i hl
    obtain rfl : l.findIdx (fun x => x.toNat == c) = a := by omega
    exact ⟨hl, by simpa using List.findIdx_getElem (w := hl)⟩
  · omega
theorem lastB_spec {l : List UInt8} {c a : Nat} (h : lastB l c = a) : ∃ hl : a < l.length, l[a].toNat = c := by
  unfold lastB at h
  split at h
  · rename_i hl
    have hl2 : l.reverse.findIdx (fun x => x.toNat == c) < l.reverse.length := by simpa using hl
    have h2 := List.findIdx_getElem (w := hl2)
    rw [List.getElem_reverse] at h2
    refine ⟨by omega, ?_⟩
    have e : l.length - 1 - l.reverse.findIdx (fun x => x.toNat == c) = a := by omega
    simp only [e] at h2
    simpa using h2
  · omega
theorem idx_ne_last (l : List UInt8) (a b : Nat) (h : idxB l 40 = a) (h2 : lastB l 41 = b) : a ≠ b := by
  rintro rfl
  obtain ⟨_, h3⟩ := idxB_spec h
  obtain ⟨_, h4⟩ := lastB_spec h2
  omega
theorem toList_ne {s : ByteArray} (h : 0 < s.size) : s.toList.isEmpty = false := by
  have : s.toList.length = s.size := by rw [ByteArray.toList_eq]; simp
  cases hx : s.toList with
  | nil => rw [hx] at this; simp at this; omega
  | cons a l => rfl

theorem ctElem (w : World) (s : ByteArray) (hs : s.size ≤ 1000000) (h0 : 0 < s.size) : Calls Tryd.prog 42 #[.string s] w fun e w' => e = .returned (.string (elemS s)) ∧ w = w' := by
  have h1 : Calls Tryd.prog 66 #[.string s, .int .u8 40] w fun e w' => e = .returned (.int .i64 (idxB s.data.toList 40)) ∧ w = w' := zzIdx w s 40 hs (by decide)
  have h2 : Calls Tryd.prog 67 #[.string s, .int .u8 41] w fun e w' => e = .returned (.int .i64 (lastB s.data.toList 41)) ∧ w = w' := zzLast w s 41 hs (by decide)
  have hi := idxB_lt s.data.toList 40
  have hj := lastB_lt s.data.toList 41
  obtain ⟨E, hE⟩ : ∃ E, E = elemS s := ⟨_, rfl⟩
  rw [← hE]
  unfold elemS at hE
  have hl : s.data.toList.length = s.size := by simp
  rw [hl] at hi hj
  have HNE : ∀ a b : Nat, idxB s.data.toList 40 = a → lastB s.data.toList 41 = b → a ≠ b := idx_ne_last s.data.toList
  generalize idxB s.data.toList 40 = i at *
  generalize lastB s.data.toList 41 = j at *
  have HZ := Lib.hid h1
  have HZ2 := Lib.hid h2
  have he : s.toList.isEmpty = false := toList_ne h0
  have he2 : (!s.toList.isEmpty) = true := by rw [he]; rfl
  have HNE := Lib.hid HNE
  clear h1 h2 hl
  by_cases c1 : i ≤ 0
  · rw [if_pos (.inl c1)] at hE
    subst hE
    go_enter Tryd.func42, Tryd.ntmps42
    go_wp2_with (first | (go_at_call 66; refine HZ.out.mono ?_; rintro e w' ⟨rfl, rfl⟩) | (go_at_call 67; refine HZ2.out.mono ?_; rintro e w' ⟨rfl, rfl⟩))
    go_ret
    exact ⟨rfl, rfl⟩
  · by_cases c2 : j ≤ 0
    · rw [if_pos (.inr (.inl c2))] at hE
      subst hE
      go_enter Tryd.func42, Tryd.ntmps42
      go_wp2_with (first | (go_at_call 66; refine HZ.out.mono ?_; rintro e w' ⟨rfl, rfl⟩) | (go_at_call 67; refine HZ2.out.mono ?_; rintro e w' ⟨rfl, rfl⟩))
      go_ret
      exact ⟨rfl, rfl⟩
    · by_cases c3 : j < i
      · rw [if_pos (.inr (.inr c3))] at hE
        subst hE
        go_enter Tryd.func42, Tryd.ntmps42
        go_wp2_with (first | (go_at_call 66; refine HZ.out.mono ?_; rintro e w' ⟨rfl, rfl⟩) | (go_at_call 67; refine HZ2.out.mono ?_; rintro e w' ⟨rfl, rfl⟩))
        go_ret
        exact ⟨rfl, rfl⟩
      · rw [if_neg (by omega)] at hE
        obtain ⟨a, rfl⟩ := Int.eq_ofNat_of_zero_le (show 0 ≤ i by omega)
        obtain ⟨b, rfl⟩ := Int.eq_ofNat_of_zero_le (show 0 ≤ j by omega)
        simp only [Int.toNat_natCast] at hE
        have ha : 0 < a := by omega
        have hab : a < b := by
          rcases Nat.lt_or_ge a b with h | h
          · exact h
          · exact absurd rfl (HNE.out a a rfl (by rw [show a = b by omega]))
        have hbs : b < s.size := by omega
        have z1 : (a : Int) + 1 ≤ (b : Int) := by omega
        have z2 : (b : Int) ≤ (s.size : Int) := by omega
        subst hE
        clear c1 c2 c3 hi hj
        go_enter Tryd.func42, Tryd.ntmps42
        go_wp2_with (first | (go_at_call 66; refine HZ.out.mono ?_; rintro e w' ⟨rfl, rfl⟩) | (go_at_call 67; refine HZ2.out.mono ?_; rintro e w' ⟨rfl, rfl⟩))
        go_ret
        exact ⟨rfl, rfl⟩

theorem ctBase (w : World) (s : ByteArray) (hs : s.size ≤ 1000000) (h0 : 0 < s.size) : Calls Tryd.prog 63 #[.string s] w fun e w' => e = .returned (.string (baseS s)) ∧ w = w' := by
  have h1 : Calls Tryd.prog 66 #[.string s, .int .u8 40] w fun e w' => e = .returned (.int .i64 (idxB s.data.toList 40)) ∧ w = w' := zzIdx w s 40 hs (by decide)
  have h2 : Calls Tryd.prog 67 #[.string s, .int .u8 41] w fun e w' => e = .returned (.int .i64 (lastB s.data.toList 41)) ∧ w = w' := zzLast w s 41 hs (by decide)
  have hi := idxB_lt s.data.toList 40
  have hj := lastB_lt s.data.toList 41
  obtain ⟨E, hE⟩ : ∃ E, E = baseS s := ⟨_, rfl⟩
  rw [← hE]
  unfold baseS at hE
  have hl : s.data.toList.length = s.size := by simp
  rw [hl] at hi hj
  have HNE : ∀ a b : Nat, idxB s.data.toList 40 = a → lastB s.data.toList 41 = b → a ≠ b := idx_ne_last s.data.toList
  generalize idxB s.data.toList 40 = i at *
  generalize lastB s.data.toList 41 = j at *
  have HZ := Lib.hid h1
  have HZ2 := Lib.hid h2
  have he : s.toList.isEmpty = false := toList_ne h0
  have he2 : (!s.toList.isEmpty) = true := by rw [he]; rfl
  have HNE := Lib.hid HNE
  clear h1 h2 hl
  by_cases c1 : i ≤ 0
  · rw [if_pos (.inl c1)] at hE
    subst hE
    go_enter Tryd.func63, Tryd.ntmps63
    go_wp2_with (first | (go_at_call 66; refine HZ.out.mono ?_; rintro e w' ⟨rfl, rfl⟩) | (go_at_call 67; refine HZ2.out.mono ?_; rintro e w' ⟨rfl, rfl⟩))
    go_ret
    exact ⟨rfl, rfl⟩
  · by_cases c2 : j ≤ 0
    · rw [if_pos (.inr (.inl c2))] at hE
      subst hE
      go_enter Tryd.func63, Tryd.ntmps63
      go_wp2_with (first | (go_at_call 66; refine HZ.out.mono ?_; rintro e w' ⟨rfl, rfl⟩) | (go_at_call 67; refine HZ2.out.mono ?_; rintro e w' ⟨rfl, rfl⟩))
      go_ret
      exact ⟨rfl, rfl⟩
    · by_cases c3 : j < i
      · rw [if_pos (.inr (.inr c3))] at hE
        subst hE
        go_enter Tryd.func63, Tryd.ntmps63
        go_wp2_with (first | (go_at_call 66; refine HZ.out.mono ?_; rintro e w' ⟨rfl, rfl⟩) | (go_at_call 67; refine HZ2.out.mono ?_; rintro e w' ⟨rfl, rfl⟩))
        go_ret
        exact ⟨rfl, rfl⟩
      · rw [if_neg (by omega)] at hE
        obtain ⟨a, rfl⟩ := Int.eq_ofNat_of_zero_le (show 0 ≤ i by omega)
        obtain ⟨b, rfl⟩ := Int.eq_ofNat_of_zero_le (show 0 ≤ j by omega)
        simp only [Int.toNat_natCast] at hE
        have ha : 0 < a := by omega
        have hab : a < b := by
          rcases Nat.lt_or_ge a b with h | h
          · exact h
          · exact absurd rfl (HNE.out a a rfl (by rw [show a = b by omega]))
        have hbs : b < s.size := by omega
        have z1 : (a : Int) + 1 ≤ (b : Int) := by omega
        have z2 : (b : Int) ≤ (s.size : Int) := by omega
        subst hE
        clear c1 c2 c3 hi hj
        go_enter Tryd.func63, Tryd.ntmps63
        go_wp2_with (first | (go_at_call 66; refine HZ.out.mono ?_; rintro e w' ⟨rfl, rfl⟩) | (go_at_call 67; refine HZ2.out.mono ?_; rintro e w' ⟨rfl, rfl⟩))
        go_ret
        exact ⟨rfl, rfl⟩

theorem ctBase_none (w : World) (s : ByteArray) (h : idxB s.data.toList 40 ≤ 0) : baseS s = s := by unfold baseS; rw [if_pos (.inl h)]

def lays156_ren : Go.Shelf.Ren := ⟨fun | 156 => 69 | 165 => 83 | 166 => 84 | 169 => 54 | 240 => 72 | 241 => 99 | 276 => 86 | 277 => 115 | n => n, fun | 31 => 25 | 9 => 9 | 3 => 3 | 4 => 4 | 0 => 0 | 20 => 20 | 72 => 82 | 76 => 84 | 70 => 80 | 37 => 28 | 75 => 64 | 127 => 102 | 164 => 109 | 5 => 5 | 80 => 46 | n => n, fun | n => n⟩
theorem lays156 : Go.Proofs.Lays.n156 Tryd.prog lays156_ren := {
  mixed := by kernel_rfl
  f156 := Tryd.func69.trans (congrArg some (by kernel_rfl))
  f165 := Tryd.func83.trans (congrArg some (by kernel_rfl))
  f166 := Tryd.func84.trans (congrArg some (by kernel_rfl))
  f169 := Tryd.func54.trans (congrArg some (by kernel_rfl))
  f240 := Tryd.func72.trans (congrArg some (by kernel_rfl))
  f241 := Tryd.func99.trans (congrArg some (by kernel_rfl))
  f276 := Tryd.func86.trans (congrArg some (by kernel_rfl))
  f277 := Tryd.func115.trans (congrArg some (by kernel_rfl))
  t0 := Tryd.underlying0
  a0 := Tryd.isAgg0
  z0 := Tryd.sizeOf0
  v0 := Tryd.zeroValue0
  t3 := Tryd.underlying3
  a3 := Tryd.isAgg3
  z3 := Tryd.sizeOf3
  v3 := Tryd.zeroValue3
  t4 := Tryd.underlying4
  a4 := Tryd.isAgg4
  z4 := Tryd.sizeOf4
  v4 := Tryd.zeroValue4
  t9 := Tryd.underlying9
  a9 := Tryd.isAgg9
  z9 := Tryd.sizeOf9
  v9 := Tryd.zeroValue9
  t20 := Tryd.underlying20
  a20 := Tryd.isAgg20
  z20 := Tryd.sizeOf20
  v20 := Tryd.zeroValue20
  t31 := Tryd.underlying25
  a31 := Tryd.isAgg25
  z31 := Tryd.sizeOf25
  v31 := Tryd.zeroValue25
  t37 := Tryd.underlying28
  a37 := Tryd.isAgg28
  z37 := Tryd.sizeOf28
  v37 := Tryd.zeroValue28
  t70 := Tryd.underlying80
  a70 := Tryd.isAgg80
  z70 := Tryd.sizeOf80
  v70 := Tryd.zeroValue80
  t72 := Tryd.underlying82
  a72 := Tryd.isAgg82
  z72 := Tryd.sizeOf82
  v72 := Tryd.zeroValue82
  t75 := Tryd.underlying64
  a75 := Tryd.isAgg64
  z75 := Tryd.sizeOf64
  v75 := Tryd.zeroValue64
  t76 := Tryd.underlying84
  a76 := Tryd.isAgg84
  z76 := Tryd.sizeOf84
  v76 := Tryd.zeroValue84
  t127 := Tryd.underlying102
  a127 := Tryd.isAgg102
  z127 := Tryd.sizeOf102
  v127 := Tryd.zeroValue102
  t164 := Tryd.underlying109
  a164 := Tryd.isAgg109
  z164 := Tryd.sizeOf109
  v164 := Tryd.zeroValue109 }
theorem extra156 : Builder.Extra Tryd.prog lays156_ren := {
  sizeBuilder := by kernel_rfl
  liesBuilder := by kernel_rfl
  t5 := Tryd.underlying5
  a5 := Tryd.isAgg5
  z5 := Tryd.sizeOf5
  v5 := Tryd.zeroValue5
  infoByte := by kernel_rfl
  cellsByte := by kernel_rfl
  sizeByte := by kernel_rfl
  neB5 := by decide }

def joinB (ps : List ByteArray) : ByteArray := ⟨(Lib.join (ps.map (·.data.toList)) [44, 32]).toArray⟩

theorem joinTail_snoc (sep : List UInt8) (a : List (List UInt8)) (y : List UInt8) : Lib.joinTail sep (a ++ [y]) = Lib.joinTail sep a ++ (sep ++ y) := by simp [Lib.joinTail]
theorem ofAcc_list (t x : ByteArray) (r : List ByteArray) : ∀ k, k ≤ r.length → (ofAcc t (x :: r) (k + 1)).data.toList = t.data.toList ++ [40] ++ x.data.toList ++ Lib.joinTail [44, 32] ((r.take k).map (·.data.toList))
  | 0, _ => by simp [ofAcc, Lib.joinTail, sOpen, ByteArray.data_append]
  | k + 1, h => by
    have ih := ofAcc_list t x r k (by omega)
    unfold ofAcc
    rw [if_neg (by omega), ByteArray.data_append, ByteArray.data_append]
    simp only [Array.toList_append]
    rw [ih, List.getD_cons_succ, List.getD_eq_getElem?_getD, List.getElem?_eq_getElem (show k < r.length by omega), List.take_succ_eq_append_getElem (by omega)]
    rw [List.map_append, List.map_cons, List.map_nil, joinTail_snoc]
    simp [sComma]
theorem ofS_join (t : ByteArray) (ps : List ByteArray) (h : ps ≠ []) : ofS t ps = t ++ (((⟨#[40]⟩ : ByteArray) ++ joinB ps) ++ (⟨#[41]⟩ : ByteArray)) := by
  cases ps with
  | nil => exact absurd rfl h
  | cons x r =>
    refine Go.WideShapes.bytes_inj ?_
    unfold ofS
    rw [ByteArray.data_append]
    simp only [Array.toList_append, List.length_cons]
    rw [ofAcc_list t x r r.length (Nat.le_refl _), List.take_length]
    simp [joinB, Lib.join_cons, sShut, ByteArray.data_append]

theorem join_any (w : World) (v : Value) (ps : List ByteArray) (h : StrsAt w v ps) (hl : (joinB ps).size ≤ 140737488355328) (hn : ps.length ≤ 140737488355328) :
    Calls Tryd.prog 69 #[v, .string ⟨#[44, 32]⟩] w fun e w' => e = .returned (.string (joinB ps)) ∧ Below w.heap.size w w' := by
  obtain ⟨b, off, cap, rfl, hc, hlt, hx⟩ := h
  exact Any.strings_Join lays156 extra156 b off cap ps ⟨#[44, 32]⟩ w hx hlt hn hc (by simpa [joinB, ByteArray.size] using hl)

theorem ctWith (w : World) (t : ByteArray) (v : Value) (ps : List ByteArray) (h : StrsAt w v ps) (h0 : ps ≠ []) (hl : t.size + 2 + sumS ps ≤ 1000000) (hn : ps.length ≤ 1000000) :
    Calls Tryd.prog 46 #[.string t, v] w fun e w' => e = .returned (.string (ofS t ps)) ∧ Below w.heap.size w w' := by
  have hs := ofS_size t ps
  have hj := ofS_join t ps h0
  have hz : (ofS t ps).size = t.size + ((1 + (joinB ps).size) + 1) := by rw [hj]; simp only [ByteArray.size_append]; rfl
  have HJ := Lib.hid (join_any w v ps h (by omega) (by omega))
  have hp : 0 < ps.length := List.length_pos_iff.2 h0
  obtain ⟨b, off, cap, rfl, hc, hlt, -⟩ := h
  rw [hj]
  generalize joinB ps = J at *
  have j1 : J.size ≤ 1000000 := by omega
  have j2 : ((⟨#[40]⟩ : ByteArray) ++ J).size ≤ 1000001 := by rw [ByteArray.size_append]; show 1 + _ ≤ _; omega
  have j3 : (((⟨#[40]⟩ : ByteArray) ++ J) ++ (⟨#[41]⟩ : ByteArray)).size ≤ 1000002 := by rw [ByteArray.size_append]; show _ + 1 ≤ _; omega
  have j4 : t.size ≤ 1000000 := by omega
  have hp2 : ((ps.length : Int) == 0) = false := by simp; omega
  clear hs hj hz hl h0
  go_enter Tryd.func46, Tryd.ntmps46
  go_wp2_with (go_at_call 69; refine HJ.out.mono ?_; rintro e w1 ⟨rfl, hb1⟩)
  go_ret
  exact ⟨rfl, hb1⟩

theorem elemStr : Elem 25 9 1 16 := elem_of (z := .string ⟨#[]⟩) Tryd.underlying25 (by kernel_rfl) rfl (by decide)

/-- Strings of the call's own read as strings. -/
theorem OwnR.strs {w : World} {F : Nat → Prop} {v : Value} {ss : List ByteArray} (h : OwnR w F 9 1 v ss.length (ss.map Value.string)) (h0 : ss ≠ []) : StrsAt w v ss := by
  rcases h.cells with ⟨rfl, h1⟩ | ⟨g, cap, rfl, hc, hF, hlt, hx⟩
  · exact absurd (List.map_eq_nil_iff.1 h1) h0
  · exact ⟨g, 0, cap, rfl, hc, hlt, fun j s hs => by rw [Nat.zero_add]; exact (hx j _ (by rw [List.getElem?_map, hs]; rfl)).1⟩

def SubInv (w wr : World) (ss : List ByteArray) (k : Nat) (v : Value) : Prop :=
  ∃ F : Nat → Prop, OwnR wr F 9 1 v k ((ss.take k).map Value.string) ∧ (∀ j, F j → w.heap.size ≤ j) ∧ Below w.heap.size w wr

theorem ctSub (w : World) (t : ByteArray) (v : Value) (ps : List ByteArray) (h : StrsAt w v ps) (h0 : ps ≠ []) (hl : t.size + 2 + sumS ps ≤ 1000000) (hn : ps.length ≤ 1000000) :
    Calls Tryd.prog 43 #[.string t, v] w fun e w' => e = .returned (.string (ofS t ps)) ∧ Below w.heap.size w w' := by
  obtain ⟨b, off, cap, rfl, hc, hlt, hx⟩ := h
  have HX := Lib.hid hx
  clear hx
  have HI : SubInv w w ps 0 (.slice none 0 0) := ⟨fun _ => False, OwnR.nil _ _ _ _, fun _ h => h.elim, Below.refl _ _⟩
  go_enter Tryd.func43, Tryd.ntmps43
  go_wp2_with fail
  go_loopw [5, 10] (fun v i wr => ∃ k : Nat, k ≤ ps.length ∧ i = .int .i64 k ∧ SubInv w wr ps k v) (fun _ i _ => ps.length - (intOf i).toNat)
  case atStart => exact ⟨0, Nat.zero_le _, rfl, HI⟩
  case round =>
    obtain ⟨k, hk, rfl, F, hown, hF, hb⟩ := hrel
    by_cases hlt2 : k < ps.length
    · obtain ⟨s, hs⟩ : ∃ s, ps[k]? = some s := ⟨_, List.getElem?_eq_getElem hlt2⟩
      have hc0 : wr.cell? ⟨b, off + k, none⟩ = some (.string s) := by rw [hb.cell (p := ⟨b, off + k, none⟩) hlt]; exact HX.out k s hs
      have hown2 := hown.keep ((Below.refl _ wr).alloc (Nat.le_refl _) (.cells #[.string s] 9))
      have HOWN := Lib.hid hown2
      have HSRC := Lib.hid (src_new elemStr (w := wr.alloc (.cells #[.string s] 9)) wr.heap.size [.string s] 9 (heap_alloc_new _ _) rfl (by simp [Value.oneCell']) 1)
      obtain ⟨p0, q0, rfl⟩ := hown.slice
      have HT := Lib.hid (show (ps.take (k + 1)).map Value.string = (ps.take k).map Value.string ++ [.string s] by rw [List.take_add_one, hs]; simp)
      have HF := Lib.hid hF
      have HB := Lib.hid hb
      clear hown hown2 hs hF hb
      go_wp2_with (first | (go_at_call 68; go_in) | (at_builtin; refine append_rows elemStr _ F k 1 _ _ rfl _ _ _ rfl _ rfl HOWN.out _ rfl HSRC.out (by omega) (by omega) ?_; intro p6 c6 w6 F6 hown6 hu6))
      go_roundw
      case rel =>
        have s1 := HB.out.size
        refine ⟨k + 1, by omega, by go_num, F6, by rw [HT.out]; exact hown6, fun j hj => ?_, ?_⟩
        · rcases hu6.new j hj with h | h
          · exact HF.out j h
          · have := h.1; simp at this; omega
        · exact (HB.out.alloc s1 _).trans (hu6.chg.below (by simp; omega) fun j hj => HF.out j hj)
      case measure => simp [intOf]; omega
    · have hke : k = ps.length := by omega
      subst hke
      rw [List.take_length] at hown
      have HW := Lib.hid (ctWith wr t _ ps (hown.strs h0) h0 hl hn)
      obtain ⟨p0, q0, rfl⟩ := hown.slice
      have HB := Lib.hid hb
      clear hown hF hb
      go_wp2_with (go_at_call 46; refine HW.out.mono ?_; rintro e w1 ⟨rfl, hb1⟩)
      go_ret
      exact ⟨rfl, HB.out.trans (hb1.mono HB.out.size)⟩

theorem ctArr (w : World) (t : ByteArray) (hl : t.size ≤ 900000) : Calls Tryd.prog 41 #[.string t] w fun e w' => e = .returned (.string (ofS sArray [t])) ∧ Below w.heap.size w w' := by
  have HS : Hid (Calls Tryd.prog 43 #[.string ⟨#[65, 114, 114, 97, 121]⟩, .slice (some ⟨w.heap.size, 0, none⟩) 1 1] (w.alloc (.cells #[.string t] 51)) fun e w' => e = .returned (.string (ofS sArray [t])) ∧ Below (w.alloc (.cells #[.string t] 51)).heap.size (w.alloc (.cells #[.string t] 51)) w') := Lib.hid (ctSub (w.alloc (.cells #[.string t] 51)) sArray (.slice (some ⟨w.heap.size, 0, none⟩) 1 1) [t] (strs_new w [t] _) (by simp) (by simp only [sumS]; have : sArray.size = 5 := rfl; omega) (by simp))
  go_enter Tryd.func41, Tryd.ntmps41
  go_wp2_with (go_at_call 43; refine HS.out.mono ?_; rintro e w1 ⟨rfl, hb1⟩)
  go_ret
  exact ⟨rfl, ((Below.refl _ w).alloc (Nat.le_refl _) _).trans (hb1.mono (by simp))⟩

theorem implArr (w : World) (t : ByteArray) (hl : t.size ≤ 900000) : Calls Tryd.prog 24 #[.string t] w fun e w' => e = .returned (.string (ofS sArray [t])) ∧ Below w.heap.size w w' := by
  go_enter Tryd.func24, Tryd.ntmps24
  go_wp2_with (go_at_call 41; refine (ctArr _ t hl).mono ?_; rintro e w1 ⟨rfl, hb1⟩)
  go_ret
  exact ⟨rfl, hb1⟩
theorem implElem (w : World) (s : ByteArray) (hs : s.size ≤ 1000000) (h0 : 0 < s.size) : Calls Tryd.prog 25 #[.string s] w fun e w' => e = .returned (.string (elemS s)) ∧ w = w' := by
  go_enter Tryd.func25, Tryd.ntmps25
  go_wp2_with (go_at_call 42; refine (ctElem _ s hs h0).mono ?_; rintro e w1 ⟨rfl, rfl⟩)
  go_ret
  exact ⟨rfl, rfl⟩
end Go.Proofs.YthajljfblenncaaDoor
