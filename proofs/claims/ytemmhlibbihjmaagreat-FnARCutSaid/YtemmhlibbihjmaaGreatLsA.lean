/- What the laws on arrays make of their arguments: zzFits1, arWords, arLists. -/
import Derived.Test.YtemmhlibbihjmaaGreatLst
import Derived.LoopTactic
import Derived.Deep.RegionHeld3
import Derived.Lib.Hide
namespace Go.Proofs.YtemmhlibbihjmaaGreat
open Go.RowKit
set_option linter.unusedVariables false
set_option linter.unusedSimpArgs false

def FitS (ss : List ByteArray) : Prop := ss.length ≤ 2147483647 ∧ ∀ s ∈ ss, s.size ≤ 2147483647
set_option maxRecDepth 100000 in
theorem fits2V (w : World) (v : Value) (ss : List ByteArray) (h : StrL w v ss) (hl : ss.length ≤ 9223372036854775807) (hb : ∀ s ∈ ss, s.size ≤ 9223372036854775807) :
    Calls Tryz.prog 18 #[v] w fun e w' => w = w' ∧ ∃ b, e = .returned (.bool b) ∧ (b = true → FitS ss) := by
  obtain ⟨p, c, rfl, hc⟩ := h.slice
  by_cases h0 : 2147483647 < ss.length
  · have h0I : (2147483647 : Int) < (ss.length : Int) := by omega
    go_enter Tryz.func18, Tryz.ntmps18
    go_wp2_with fail
    go_ret
    exact ⟨rfl, _, rfl, fun h => by simp at h⟩
  · have h0I : ¬ (2147483647 : Int) < (ss.length : Int) := by omega
    have HL := Lib.hid h
    have HB := Lib.hid hb
    clear h hb
    go_enter Tryz.func18, Tryz.ntmps18
    go_wp2_with fail
    go_loopw [10] (fun vi wr => ∃ i : Nat, i ≤ ss.length ∧ vi = .int .i64 i ∧ wr = w ∧ ∀ s ∈ ss.take i, s.size ≤ 2147483647) (fun vi _ => ss.length - (intOf vi).toNat)
    case atStart => exact ⟨0, Nat.zero_le _, rfl, rfl, by simp⟩
    case round =>
      obtain ⟨i, hi, rfl, rfl, hall⟩ := hrel
      by_cases hlt : i < ss.length
      · obtain ⟨s, hsi⟩ : ∃ s, ss[i]? = some s := ⟨_, List.getElem?_eq_getElem hlt⟩
        obtain ⟨g, o, rfl, -, -, -, hcx⟩ := HL.out.row hsi
        have hsl := HB.out s (List.mem_of_getElem? hsi)
        have HALL := Lib.hid (And.intro hall hsi)
        clear hsi hall
        by_cases hbig : 2147483647 < s.size
        · have hbI : (2147483647 : Int) < (s.size : Int) := by omega
          go_wp2_with fail
          go_ret
          exact ⟨rfl, _, rfl, fun h => by simp at h⟩
        · have hbI : ¬ (2147483647 : Int) < (s.size : Int) := by omega
          go_wp2_with fail
          go_roundw
          case rel =>
            refine ⟨i + 1, hlt, by go_num, trivial, fun t ht => ?_⟩
            rw [takeSnoc HALL.out.2] at ht
            rcases List.mem_append.1 ht with ht | ht
            · exact HALL.out.1 t ht
            · rw [List.mem_singleton.1 ht]; omega
          case measure => simp [intOf]; omega
      · obtain rfl : i = ss.length := by omega
        rw [List.take_length] at hall
        have HALL := Lib.hid hall
        clear hall
        go_wp2_with fail
        go_ret
        exact ⟨rfl, _, rfl, fun _ => ⟨by omega, HALL.out⟩⟩

def FitL (ll : List (List ByteArray)) : Prop := ll.length ≤ 2147483647 ∧ ∀ ss ∈ ll, FitS ss
set_option maxRecDepth 100000 in
theorem fits1V (w : World) (v : Value) (ll : List (List ByteArray)) (h : LstL w v ll) (hl : ll.length ≤ 9223372036854775807) (hb : ∀ ss ∈ ll, ss.length ≤ 9223372036854775807 ∧ ∀ s ∈ ss, s.size ≤ 9223372036854775807) :
    Calls Tryz.prog 4 #[v] w fun e w' => w = w' ∧ ∃ b, e = .returned (.bool b) ∧ (b = true → FitL ll) := by
  obtain ⟨p, c, rfl, hc⟩ := h.slice
  by_cases h0 : 2147483647 < ll.length
  · have h0I : (2147483647 : Int) < (ll.length : Int) := by omega
    go_enter Tryz.func4, Tryz.ntmps4
    go_wp2_with fail
    go_ret
    exact ⟨rfl, _, rfl, fun h => by simp at h⟩
  · have h0I : ¬ (2147483647 : Int) < (ll.length : Int) := by omega
    have HL := Lib.hid h
    have HB := Lib.hid hb
    clear h hb
    go_enter Tryz.func4, Tryz.ntmps4
    go_wp2_with fail
    go_loopw [10] (fun vi wr => ∃ i : Nat, i ≤ ll.length ∧ vi = .int .i64 i ∧ wr = w ∧ ∀ ss ∈ ll.take i, FitS ss) (fun vi _ => ll.length - (intOf vi).toNat)
    case atStart => exact ⟨0, Nat.zero_le _, rfl, rfl, by simp⟩
    case round =>
      obtain ⟨i, hi, rfl, rfl, hall⟩ := hrel
      by_cases hlt : i < ll.length
      · obtain ⟨ss, hsi⟩ : ∃ ss, ll[i]? = some ss := ⟨_, List.getElem?_eq_getElem hlt⟩
        obtain ⟨g, o, x, rfl, -, -, -, hcx, hx⟩ := HL.out.row hsi
        obtain ⟨px, cx, rfl, -⟩ := hx.slice
        have hsl := HB.out ss (List.mem_of_getElem? hsi)
        have HF := Lib.hid (fits2V wr _ ss hx hsl.1 hsl.2)
        have HALL := Lib.hid (And.intro hall hsi)
        clear hsi hall hx hsl
        go_wp2_with fail
        refine HF.out.mono ?_
        rintro e w1 ⟨rfl, b, rfl, hfit⟩
        have HFIT := Lib.hid hfit
        clear hfit
        cases b
        · go_wp2_with fail
          go_ret
          exact ⟨rfl, _, rfl, fun h => by simp at h⟩
        · go_wp2_with fail
          go_roundw
          case rel =>
            refine ⟨i + 1, hlt, by go_num, trivial, fun t ht => ?_⟩
            rw [takeSnoc HALL.out.2] at ht
            rcases List.mem_append.1 ht with ht | ht
            · exact HALL.out.1 t ht
            · rw [List.mem_singleton.1 ht]; exact HFIT.out (by trivial)
          case measure => simp [intOf]; omega
      · obtain rfl : i = ll.length := by omega
        rw [List.take_length] at hall
        have HALL := Lib.hid hall
        clear hall
        go_wp2_with fail
        go_ret
        exact ⟨rfl, _, rfl, fun _ => ⟨by omega, HALL.out⟩⟩

/-- At most 60 bytes. -/
def cut60 (s : ByteArray) : ByteArray := if 60 < s.size then s.extract 0 60 else s
theorem cut60_size (s : ByteArray) : (cut60 s).size ≤ 60 := by
  unfold cut60
  split
  · rw [ByteArray.size_extract]; omega
  · omega
def wordsOf (ss : List ByteArray) (m : Nat) : List ByteArray := (ss.take m).map cut60

set_option maxRecDepth 100000 in
theorem arWordsV (w : World) (v : Value) (ss : List ByteArray) (h : StrL w v ss) (m : Nat) (hm : m ≤ 100) (hl : ss.length ≤ 140737488355328) (hb : ∀ s ∈ ss, s.size ≤ 140737488355328) :
    Calls Tryz.prog 20 #[v, .int .i64 m] w (MadeS w (wordsOf ss m)) := by
  obtain ⟨p, c, rfl, hc⟩ := h.slice
  have HL := Lib.hid h
  have HB := Lib.hid hb
  clear h hb
  go_enter Tryz.func20, Tryz.ntmps20
  go_wp2_with fail
  go_loopw [5, 6] (fun vo vi wr => ∃ (i : Nat) (F : Nat → Prop), i ≤ ss.length ∧ i ≤ m ∧ vi = .int .i64 i ∧ Acc w F 9 1 vo i ((wordsOf ss i).map Value.string) wr) (fun _ vi _ => m - (intOf vi).toNat)
  case atStart => exact ⟨0, _, Nat.zero_le _, Nat.zero_le _, rfl, Acc.start _ _ _⟩
  case round =>
    obtain ⟨i, F, hi, him, rfl, hA⟩ := hrel
    obtain ⟨po, co, rfl⟩ := hA.slice
    by_cases hlt : i < ss.length
    · have hltI : (i : Int) < (ss.length : Int) := by omega
      by_cases hlt2 : i < m
      · have hlt2I : (i : Int) < (m : Int) := by omega
        obtain ⟨s, hsi⟩ : ∃ s, ss[i]? = some s := ⟨_, List.getElem?_eq_getElem hlt⟩
        obtain ⟨g, o, rfl, -, -, -, hcx⟩ := (HL.out.below hA.below).row hsi
        have hsl := HB.out s (List.mem_of_getElem? hsi)
        have HW : Hid ((wordsOf ss (i + 1)).map Value.string = (wordsOf ss i).map Value.string ++ [.string (cut60 s)]) := Lib.hid (by unfold wordsOf; rw [takeSnoc hsi]; simp)
        have HA := Lib.hid hA
        clear hA hsi
        by_cases h60 : 60 < s.size
        · have h60I : (60 : Int) < (s.size : Int) := by omega
          have h60J : (60 : Int) ≤ (s.size : Int) := by omega
          rw [show cut60 s = s.extract 0 60 from if_pos h60] at HW
          have HOWN := Lib.hid (HA.out.own.keep ((Below.refl _ wr).alloc (Nat.le_refl _) (.cells #[.string (s.extract 0 60)] 9)))
          have HSR := Lib.hid (src_new elemStrs wr.heap.size [.string (s.extract 0 60)] _ (heap_alloc_new wr (.cells #[.string (s.extract 0 60)] 9)) rfl (by simp [Value.oneCell']) 1)
          go_wp2_with (at_builtin; refine append_rows elemStrs _ F i 1 _ _ rfl _ _ _ rfl _ rfl HOWN.out _ rfl HSR.out (by omega) (by omega) ?_; intro p5 c5 w5 F5 hown5 hu5)
          go_roundw
          case rel => exact ⟨i + 1, F5, hlt, hlt2, by go_num, by rw [HW.out]; exact (HA.out.keep ((Below.refl _ wr).alloc (Nat.le_refl _) _)).next hown5 hu5⟩
          case measure => simp [intOf]; omega
        · have h60I : ¬ (60 : Int) < (s.size : Int) := by omega
          rw [show cut60 s = s from if_neg h60] at HW
          have HOWN := Lib.hid (HA.out.own.keep ((Below.refl _ wr).alloc (Nat.le_refl _) (.cells #[.string s] 9)))
          have HSR := Lib.hid (src_new elemStrs wr.heap.size [.string s] _ (heap_alloc_new wr (.cells #[.string s] 9)) rfl (by simp [Value.oneCell']) 1)
          go_wp2_with (at_builtin; refine append_rows elemStrs _ F i 1 _ _ rfl _ _ _ rfl _ rfl HOWN.out _ rfl HSR.out (by omega) (by omega) ?_; intro p5 c5 w5 F5 hown5 hu5)
          go_roundw
          case rel => exact ⟨i + 1, F5, hlt, hlt2, by go_num, by rw [HW.out]; exact (HA.out.keep ((Below.refl _ wr).alloc (Nat.le_refl _) _)).next hown5 hu5⟩
          case measure => simp [intOf]; omega
      · obtain rfl : i = m := by omega
        have hlt2I : ¬ (i : Int) < (i : Int) := by omega
        have HA := Lib.hid hA
        clear hA
        go_wp2_with fail
        go_ret
        have e : (wordsOf ss i).length = i := by unfold wordsOf; simp; omega
        obtain ⟨x, h1, h2, h3, h4⟩ := HA.out.made
        exact ⟨x, h1, by unfold StrL; rw [e]; exact h2, h3, h4⟩
    · obtain rfl : i = ss.length := by omega
      have hltI : ¬ (ss.length : Int) < (ss.length : Int) := by omega
      have HA := Lib.hid hA
      clear hA
      go_wp2_with fail
      go_ret
      have e : wordsOf ss m = wordsOf ss ss.length := by unfold wordsOf; rw [List.take_length, List.take_of_length_le him]
      have e2 : (wordsOf ss ss.length).length = ss.length := by unfold wordsOf; simp
      obtain ⟨x, h1, h2, h3, h4⟩ := HA.out.made
      exact ⟨x, h1, by unfold StrL; rw [e, e2]; exact h2, h3, h4⟩

theorem own_new {b n c g : Nat} (h : (Value.slice (some ⟨b, 0, none⟩) n c).ownBlock = some g) : b = g := by simpa [Value.ownBlock] using h
def sOne : ByteArray := ⟨#[111, 110, 101]⟩
def sTwo : ByteArray := ⟨#[116, 119, 111]⟩
/-- What is looked at. -/
def listsOf (ll : List (List ByteArray)) : List (List ByteArray) := (ll.take 20).map (wordsOf · 12) ++ [[sOne, ⟨#[]⟩, sTwo]]
theorem strL_three (w : World) : StrL (w.alloc (.cells #[.string ⟨#[111, 110, 101]⟩, .string ⟨#[]⟩, .string ⟨#[116, 119, 111]⟩] 9)) (.slice (some ⟨w.heap.size, 0, none⟩) 3 3) [sOne, ⟨#[]⟩, sTwo] :=
  ⟨_, _, rfl, Nat.le_refl _, fun _ => ⟨_, 0, rfl, fun j x hj => by
    have h := heap_alloc_new w (.cells #[.string ⟨#[111, 110, 101]⟩, .string ⟨#[]⟩, .string ⟨#[116, 119, 111]⟩] 9)
    rw [Nat.zero_add]
    simp only [World.cell?, h]
    match j, hj with
    | 0, hj => simpa [sOne] using hj
    | 1, hj => simpa using hj
    | 2, hj => simpa [sTwo] using hj⟩⟩

set_option maxRecDepth 100000 in
theorem arListsV (w : World) (v : Value) (ll : List (List ByteArray)) (h : LstL w v ll) (hl : FitL ll) :
    Calls Tryz.prog 6 #[v] w fun e w' => ∃ x, e = .returned x ∧ LstL w' x (listsOf ll) ∧ Below w.heap.size w w' := by
  obtain ⟨p, c, rfl, hc⟩ := h.slice
  have HL := Lib.hid h
  have HB := Lib.hid hl
  have hll := hl.1
  clear h hl
  go_enter Tryz.func6, Tryz.ntmps6
  go_wp2_with fail
  go_loopw [3, 4] (fun vo vi wr => ∃ (i : Nat) (F : Nat → Prop), i ≤ ll.length ∧ i ≤ 20 ∧ vi = .int .i64 i ∧ AccL StrL w F 35 vo ((ll.take i).map (wordsOf · 12)) wr) (fun _ vi _ => 20 - (intOf vi).toNat)
  case atStart => exact ⟨0, _, Nat.zero_le _, Nat.zero_le _, rfl, by simpa using AccL.start StrL w 35⟩
  case round =>
    obtain ⟨i, F, hi, him, rfl, hA⟩ := hrel
    have hlen : ((ll.take i).map (wordsOf · 12)).length = i := by simp; omega
    obtain ⟨po, co, rfl⟩ := hA.slice
    rw [hlen] at hA ⊢
    have HLEN := Lib.hid hlen
    by_cases hgo : i < ll.length ∧ i < 20
    · obtain ⟨hlt, hlt2⟩ := hgo
      have hltI : (i : Int) < (ll.length : Int) := by omega
      have hlt2I : (i : Int) < 20 := by omega
      obtain ⟨ss, hsi⟩ : ∃ ss, ll[i]? = some ss := ⟨_, List.getElem?_eq_getElem hlt⟩
      obtain ⟨g, o, x, rfl, -, -, -, hcx, hx⟩ := (HL.out.below strL_stable hA.below).row hsi
      obtain ⟨px, cx, rfl, -⟩ := hx.slice
      have hsl := HB.out.2 ss (List.mem_of_getElem? hsi)
      have HW := Lib.hid (arWordsV wr _ ss hx 12 (by omega) (by have := hsl.1; omega) (fun s hs => by have := hsl.2 s hs; omega))
      have HS : Hid ((ll.take (i + 1)).map (wordsOf · 12) = (ll.take i).map (wordsOf · 12) ++ [wordsOf ss 12]) := Lib.hid (by rw [takeSnoc hsi]; simp)
      have HA := Lib.hid hA
      clear hA hsi hx hsl hlen
      go_wp2_with fail
      refine HW.out.mono ?_
      rintro e w2 ⟨x2, rfl, hx2, hb2, hxo2⟩
      obtain ⟨p2, c2, rfl, -⟩ := hx2.slice
      obtain ⟨xs, hown, hmore⟩ := HA.out.more strL_stable hb2 hx2 (fun g hg => ⟨(hxo2 g hg).2, fun e => by have := HA.out.inn.1 g e; have := hxo2 g hg; omega⟩) (.cells #[.slice p2 (wordsOf ss 12).length c2] 35)
      rw [HLEN.out] at hown hmore
      have HOWN := Lib.hid hown
      have HMORE := Lib.hid hmore
      have HSR := Lib.hid (src_new elemStrss w2.heap.size [.slice p2 (wordsOf ss 12).length c2] _ (heap_alloc_new w2 (.cells #[.slice p2 (wordsOf ss 12).length c2] 35)) rfl (by simp [Value.oneCell']) 1)
      clear hown hmore hx2 hxo2
      go_wp2_with (at_builtin; refine append_rows elemStrss _ F i 1 xs _ rfl _ _ _ rfl _ rfl HOWN.out _ rfl HSR.out (by omega) (by omega) ?_; intro p5 c5 w5 F5 hown5 hu5)
      go_roundw
      case rel => exact ⟨i + 1, F5, hlt, hlt2, by go_num, by rw [HS.out]; exact HMORE.out p5 c5 w5 F5 hown5 hu5⟩
      case measure => simp [intOf]; omega
    · have HA := Lib.hid hA
      have HS : Hid ((ll.take i).map (wordsOf · 12) = (ll.take 20).map (wordsOf · 12)) := Lib.hid (by
        by_cases h20 : i = 20
        · rw [h20]
        · have : i = ll.length := by omega
          rw [this, List.take_length, List.take_of_length_le (by omega)])
      obtain ⟨xs, hown, hmore⟩ := hA.more strL_stable ((Below.refl _ wr).alloc (Nat.le_refl _) _) (strL_three wr) (fun g hg => ⟨by rw [← own_new hg]; simp, fun e => by have h1 := own_new hg; have h2 := HA.out.inn.1 g e; omega⟩) (.cells #[.slice (some ⟨wr.heap.size, 0, none⟩) 3 3] 35)
      rw [hlen] at hown hmore
      have HOWN := Lib.hid hown
      have HMORE := Lib.hid hmore
      have HSR := Lib.hid (src_new elemStrss (wr.alloc (.cells #[.string ⟨#[111, 110, 101]⟩, .string ⟨#[]⟩, .string ⟨#[116, 119, 111]⟩] 9)).heap.size [.slice (some ⟨wr.heap.size, 0, none⟩) 3 3] _ (heap_alloc_new (wr.alloc (.cells #[.string ⟨#[111, 110, 101]⟩, .string ⟨#[]⟩, .string ⟨#[116, 119, 111]⟩] 9)) (.cells #[.slice (some ⟨wr.heap.size, 0, none⟩) 3 3] 35)) rfl (by simp [Value.oneCell']) 1)
      rw [World.size_alloc] at HSR
      clear hown hmore hA hlen
      by_cases hlt : i < ll.length
      · have hltI : (i : Int) < (ll.length : Int) := by omega
        have hlt2I : ¬ (i : Int) < 20 := by omega
        clear hgo
        go_wp2_with (at_builtin; refine append_rows elemStrss _ F i 1 xs _ rfl _ _ _ rfl _ rfl HOWN.out _ rfl HSR.out (by omega) (by omega) ?_; intro p5 c5 w5 F5 hown5 hu5)
        go_ret
        have h := HMORE.out p5 c5 w5 F5 hown5 hu5
        rw [HS.out] at h
        exact ⟨_, rfl, h.each, h.below⟩
      · have hltI : ¬ (i : Int) < (ll.length : Int) := by omega
        clear hgo
        go_wp2_with (at_builtin; refine append_rows elemStrss _ F i 1 xs _ rfl _ _ _ rfl _ rfl HOWN.out _ rfl HSR.out (by omega) (by omega) ?_; intro p5 c5 w5 F5 hown5 hu5)
        go_ret
        have h := HMORE.out p5 c5 w5 F5 hown5 hu5
        rw [HS.out] at h
        exact ⟨_, rfl, h.each, h.below⟩
end Go.Proofs.YtemmhlibbihjmaaGreat
