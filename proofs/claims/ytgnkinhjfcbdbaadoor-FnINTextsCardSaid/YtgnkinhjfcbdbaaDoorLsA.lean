/- What the laws on arrays make of their arguments: zzFits1, arWords, arLists. -/
import Derived.Test.YtgnkinhjfcbdbaaDoorLst
import Derived.LoopTactic
import Derived.Deep.RegionHeld3
import Derived.Lib.Hide
namespace Go.Proofs.YtgnkinhjfcbdbaaDoor
open Go.RowKit
set_option linter.unusedVariables false
set_option linter.unusedSimpArgs false

def FitS (ss : List ByteArray) : Prop := ss.length ≤ 2147483647 ∧ ∀ s ∈ ss, s.size ≤ 2147483647
set_option maxRecDepth 100000 in
theorem fits2V (w : World) (v : Value) (ss : List ByteArray) (h : StrL w v ss) (hl : ss.length ≤ 9223372036854775807) (hb : ∀ s ∈ ss, s.size ≤ 9223372036854775807) :
    Calls Tryd.prog 5 #[v] w fun e w' => w = w' ∧ ∃ b, e = .returned (.bool b) ∧ (b = true → FitS ss) := by
  obtain ⟨p, c, rfl, hc⟩ := h.slice
  by_cases h0 : 2147483647 < ss.length
  · have h0I : (2147483647 : Int) < (ss.length : Int) := by omega
    go_enter Tryd.func5, Tryd.ntmps5
    go_wp2_with fail
    go_ret
    exact ⟨rfl, _, rfl, fun h => by simp at h⟩
  · have h0I : ¬ (2147483647 : Int) < (ss.length : Int) := by omega
    have HL := Lib.hid h
    have HB := Lib.hid hb
    clear h hb
    go_enter Tryd.func5, Tryd.ntmps5
    go_wp2_with fail
    go_loopw [10] (fun vi wr => ∃ i : Nat, i ≤ ss.length ∧ vi = .int .i64 i ∧ wr = w ∧ ∀ s ∈ ss.take i, s.size ≤ 2147483647) (fun vi _ => ss.length - (intOf vi).toNat)
    case atStart => exact ⟨0, Nat.zero_le _, rfl, rfl, by simp⟩
    case round =>
      obtain ⟨i, hi, rfl, rfl, hall⟩ := hrel
      by_cases hlt : i < ss.length
      · obtain ⟨s, hsi⟩ : ∃ s, ss[i]? = some s := ⟨_, List.getElem?_eq_getElem hlt⟩
        obtain ⟨g, o, rfl, -, -, -, hcx⟩ := HL.out.row hsi
        have hsl := HB.out s (List.mem_of_getElem? hsi)
        have HALL := Lib.hid (And.intro hall hsi)
        clear hsi hall
        by_cases hbig : 2147483647 < s.size
        · have hbI : (2147483647 : Int) < (s.size : Int) := by omega
          go_wp2_with fail
          go_ret
          exact ⟨rfl, _, rfl, fun h => by simp at h⟩
        · have hbI : ¬ (2147483647 : Int) < (s.size : Int) := by omega
          go_wp2_with fail
          go_roundw
          case rel =>
            refine ⟨i + 1, hlt, by go_num, trivial, fun t ht => ?_⟩
            rw [takeSnoc HALL.out.2] at ht
            rcases List.mem_append.1 ht with ht | ht
            · exact HALL.out.1 t ht
            · rw [List.mem_singleton.1 ht]; omega
          case measure => simp [intOf]; omega
      · obtain rfl : i = ss.length := by omega
        rw [List.take_length] at hall
        have HALL := Lib.hid hall
        clear hall
        go_wp2_with fail
        go_ret
        exact ⟨rfl, _, rfl, fun _ => ⟨by omega, HALL.out⟩⟩

def FitL (ll : List (List ByteArray)) : Prop := ll.length ≤ 2147483647 ∧ ∀ ss ∈ ll, FitS ss
/-- At most 60 bytes. -/
def cut60 (s : ByteArray) : ByteArray := if 60 < s.size then s.extract 0 60 else s
theorem cut60_size (s : ByteArray) : (cut60 s).size ≤ 60 := by
  unfold cut60
  split
  · rw [ByteArray.size_extract]; omega
  · omega
def wordsOf (ss : List ByteArray) (m : Nat) : List ByteArray := (ss.take m).map cut60

theorem own_new {b n c g : Nat} (h : (Value.slice (some ⟨b, 0, none⟩) n c).ownBlock = some g) : b = g := by simpa [Value.ownBlock] using h
def sOne : ByteArray := ⟨#[111, 110, 101]⟩
def sTwo : ByteArray := ⟨#[116, 119, 111]⟩
/-- What is looked at. -/
def listsOf (ll : List (List ByteArray)) : List (List ByteArray) := (ll.take 20).map (wordsOf · 12) ++ [[sOne, ⟨#[]⟩, sTwo]]
theorem strL_three (w : World) : StrL (w.alloc (.cells #[.string ⟨#[111, 110, 101]⟩, .string ⟨#[]⟩, .string ⟨#[116, 119, 111]⟩] 9)) (.slice (some ⟨w.heap.size, 0, none⟩) 3 3) [sOne, ⟨#[]⟩, sTwo] :=
  ⟨_, _, rfl, Nat.le_refl _, fun _ => ⟨_, 0, rfl, fun j x hj => by
    have h := heap_alloc_new w (.cells #[.string ⟨#[111, 110, 101]⟩, .string ⟨#[]⟩, .string ⟨#[116, 119, 111]⟩] 9)
    rw [Nat.zero_add]
    simp only [World.cell?, h]
    match j, hj with
    | 0, hj => simpa [sOne] using hj
    | 1, hj => simpa using hj
    | 2, hj => simpa [sTwo] using hj⟩⟩

end Go.Proofs.YtgnkinhjfcbdbaaDoor
