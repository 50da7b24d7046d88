/- impl.input; proto.Input.Columns, Into; spec.INColumns. -/
import Derived.Test.YtgnkinhjfcbdbaaDoorInC
import Derived.Deep.RegionHeld3
import Derived.Deep.RegionWith
namespace Go.Proofs.YtgnkinhjfcbdbaaDoor
open Go.RowKit
set_option linter.unusedVariables false
set_option linter.unusedSimpArgs false

theorem elemCol : Elem 33 44 2 32 := elem_of (z := .agg #[.string ⟨#[]⟩, .nilIface]) Tryd.underlying33 (by kernel_rfl) rfl (by decide)
/-- Columns of these names, without data. -/
def icells (ss : List ByteArray) : List Value := ss.flatMap fun s => [.string s, .nilIface]
theorem icells_snoc (ss : List ByteArray) (s : ByteArray) : icells (ss ++ [s]) = icells ss ++ [.string s, .nilIface] := by simp [icells]
theorem icells_get : ∀ (ss : List ByteArray) (i : Nat) (s : ByteArray), ss[i]? = some s → (icells ss)[i * 2]? = some (.string s) ∧ (icells ss)[i * 2 + 1]? = some .nilIface
  | [], i, s, h => by simp at h
  | a :: ss, 0, s, h => by
    obtain rfl : a = s := by simpa using h
    exact ⟨rfl, rfl⟩
  | a :: ss, i + 1, s, h => by
    have ih := icells_get ss i s (by simpa using h)
    have e : icells (a :: ss) = .string a :: .nilIface :: icells ss := rfl
    rw [e, show (i + 1) * 2 = i * 2 + 1 + 1 by omega, List.getElem?_cons_succ, List.getElem?_cons_succ, show i * 2 + 1 + 1 + 1 = (i * 2 + 1) + 1 + 1 by omega, List.getElem?_cons_succ, List.getElem?_cons_succ]
    exact ih

set_option maxRecDepth 100000 in
theorem implInput (w : World) (v : Value) (ss : List ByteArray) (h : StrL w v ss) (hn : ss.length ≤ 1000) :
    Calls Tryd.prog 12 #[v] w (MadeF w ss.length (icells ss)) := by
  obtain ⟨p, c, rfl, hc⟩ := h.slice
  have HL := Lib.hid h
  clear h
  go_enter Tryd.func12, Tryd.ntmps12
  go_wp2_with fail
  go_loopw [3, 8] (fun vo vi wr => ∃ (i : Nat) (F : Nat → Prop), i ≤ ss.length ∧ vi = .int .i64 i ∧ Acc w F 44 2 vo i (icells (ss.take i)) wr) (fun _ vi _ => ss.length - (intOf vi).toNat)
  case atStart => exact ⟨0, _, Nat.zero_le _, rfl, Acc.start _ _ _⟩
  case round =>
    obtain ⟨i, F, hi, rfl, hA⟩ := hrel
    obtain ⟨po, co, rfl⟩ := hA.slice
    by_cases hlt : i < ss.length
    · have hltI : (i : Int) < (ss.length : Int) := by omega
      obtain ⟨s, hsi⟩ : ∃ s, ss[i]? = some s := ⟨_, List.getElem?_eq_getElem hlt⟩
      obtain ⟨g, o, rfl, -, -, -, hcx⟩ := (HL.out.below hA.below).row hsi
      have HW : Hid (icells (ss.take (i + 1)) = icells (ss.take i) ++ [.string s, .nilIface]) := Lib.hid (by rw [takeSnoc hsi, icells_snoc])
      have HA := Lib.hid hA
      have HOWN := Lib.hid (hA.own.keep ((Below.refl _ wr).alloc (Nat.le_refl _) (.cells #[.string s, .nilIface] 44)))
      have HSR := Lib.hid (src_new elemCol wr.heap.size [.string s, .nilIface] _ (heap_alloc_new wr (.cells #[.string s, .nilIface] 44)) rfl (by simp [Value.oneCell']) 1)
      clear hA hsi
      go_wp2_with (at_builtin; refine append_rows elemCol _ F i 1 _ _ rfl _ _ _ rfl _ rfl HOWN.out _ rfl HSR.out (by omega) (by omega) ?_; intro p5 c5 w5 F5 hown5 hu5)
      go_roundw
      case rel => exact ⟨i + 1, F5, hlt, by go_num, by rw [HW.out]; exact (HA.out.keep ((Below.refl _ wr).alloc (Nat.le_refl _) _)).next hown5 hu5⟩
      case measure => simp [intOf]; omega
    · obtain rfl : i = ss.length := by omega
      have hltI : ¬ (ss.length : Int) < (ss.length : Int) := by omega
      have HA := Lib.hid hA
      clear hA
      go_wp2_with fail
      go_ret
      have := HA.out.made
      rwa [List.take_length] at this
end Go.Proofs.YtgnkinhjfcbdbaaDoor
