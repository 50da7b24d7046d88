/- Types as texts: what is built of names and parameters; types by bytes. -/
import Derived.Test.YtgnkinhjfcbdbaaDoorBytes
import Derived.LoopTactic
import Derived.Deep.RegionHeld3
import Derived.Lib.Hide
namespace Go.Proofs.YtgnkinhjfcbdbaaDoor
open Go.RowKit
set_option linter.unusedVariables false
set_option linter.unusedSimpArgs false
set_option linter.unnecessarySimpa false

/-- A slice that reads as these strings. -/
def StrsAt (w : World) (v : Value) (ss : List ByteArray) : Prop := ∃ b off cap : Nat, v = .slice (some ⟨b, off, none⟩) ss.length cap ∧ ss.length ≤ cap ∧ b < w.heap.size ∧ ∀ (j : Nat) (s : ByteArray), ss[j]? = some s → w.cell? ⟨b, off + j, none⟩ = some (.string s)

theorem StrsAt.below {w w' : World} {v : Value} {ss : List ByteArray} (h : StrsAt w v ss) (hb : Below w.heap.size w w') : StrsAt w' v ss := by
  obtain ⟨b, off, cap, rfl, hc, hlt, hx⟩ := h
  have := hb.size
  exact ⟨b, off, cap, rfl, hc, by omega, fun j s hs => by rw [hb.cell (p := ⟨b, off + j, none⟩) hlt]; exact hx j s hs⟩

/-- Strings that have just been laid. -/
theorem strs_new (w : World) (ss : List ByteArray) (T : TypeId) : StrsAt (w.alloc (.cells (ss.map Value.string).toArray T)) (.slice (some ⟨w.heap.size, 0, none⟩) ss.length ss.length) ss := by
  refine ⟨w.heap.size, 0, ss.length, rfl, Nat.le_refl _, by simp, fun j s hs => ?_⟩
  have h := heap_alloc_new w (.cells (ss.map Value.string).toArray T)
  simp only [World.cell?]
  rw [h]
  simp [hs]

def sArray : ByteArray := ⟨#[65, 114, 114, 97, 121]⟩
def sMap : ByteArray := ⟨#[77, 97, 112]⟩
def sTuple : ByteArray := ⟨#[84, 117, 112, 108, 101]⟩
def sString : ByteArray := ⟨#[83, 116, 114, 105, 110, 103]⟩
def sOpen : ByteArray := ⟨#[40]⟩
def sShut : ByteArray := ⟨#[41]⟩
def sComma : ByteArray := ⟨#[44, 32]⟩

/-- The text behind so many parameters. -/
def ofAcc (t : ByteArray) (ps : List ByteArray) : Nat → ByteArray
  | 0 => t ++ sOpen
  | k + 1 => (if k = 0 then ofAcc t ps k else ofAcc t ps k ++ sComma) ++ ps.getD k ⟨#[]⟩
/-- A type with parameters. -/
def ofS (t : ByteArray) (ps : List ByteArray) : ByteArray := ofAcc t ps ps.length ++ sShut

def sumS : List ByteArray → Nat
  | [] => 0
  | s :: r => s.size + 2 + sumS r
theorem sumS_get : ∀ (ps : List ByteArray) (k : Nat), (ps.getD k ⟨#[]⟩).size ≤ sumS ps
  | [], k => by simp [sumS]; rfl
  | s :: r, 0 => by simp [sumS]; omega
  | s :: r, k + 1 => by
    have := sumS_get r k
    simp only [sumS, List.getD_cons_succ]; omega
theorem sumS_take : ∀ (ps : List ByteArray) (k : Nat), k < ps.length → sumS (ps.take (k + 1)) = sumS (ps.take k) + (ps.getD k ⟨#[]⟩).size + 2
  | [], k, h => by simp at h
  | s :: r, 0, _ => by simp [sumS]
  | s :: r, k + 1, h => by
    have := sumS_take r k (by simpa using h)
    simp only [List.take_succ_cons, sumS, List.getD_cons_succ] at this ⊢; omega
theorem sumS_le : ∀ (ps : List ByteArray) (k : Nat), sumS (ps.take k) ≤ sumS ps
  | [], k => by simp
  | s :: r, 0 => by simp [sumS]
  | s :: r, k + 1 => by
    have := sumS_le r k
    simp only [List.take_succ_cons, sumS]; omega
theorem ofAcc_size (t : ByteArray) (ps : List ByteArray) : ∀ k, k ≤ ps.length → (ofAcc t ps k).size ≤ t.size + 1 + sumS (ps.take k)
  | 0, _ => by simp [ofAcc, ByteArray.size_append, sumS]; decide
  | k + 1, h => by
    have ih := ofAcc_size t ps k (by omega)
    have h2 := sumS_take ps k (by omega)
    have hc : sComma.size = 2 := rfl
    unfold ofAcc
    split <;> simp only [ByteArray.size_append] <;> omega
theorem ofS_size (t : ByteArray) (ps : List ByteArray) : (ofS t ps).size ≤ t.size + 2 + sumS ps := by
  have h := ofAcc_size t ps ps.length (Nat.le_refl _)
  have h2 := sumS_le ps ps.length
  have h3 : sShut.size = 1 := rfl
  unfold ofS
  simp only [ByteArray.size_append]
  omega

theorem ctOf (w : World) (t : ByteArray) (v : Value) (ps : List ByteArray) (h : StrsAt w v ps) (hl : t.size + 2 + sumS ps ≤ 1000000) (hn : ps.length ≤ 1000000) :
    Calls Tryd.prog 16 #[.string t, v] w fun e w' => e = .returned (.string (ofS t ps)) ∧ w = w' := by
  obtain ⟨b, off, cap, rfl, hc, hlt, hx⟩ := h
  have HX := Lib.hid hx
  have HS := Lib.hid (ofAcc_size t ps)
  have HL := Lib.hid hl
  have hl1 : t.size ≤ 1000000 := by omega
  clear hx hl
  go_enter Tryd.func16, Tryd.ntmps16
  go_wp2
  go_loop [5, 6] (fun a i => ∃ k : Nat, k ≤ ps.length ∧ i = .int .i64 k ∧ a = .string (ofAcc t ps k)) (fun _ i => ps.length - (intOf i).toNat)
  case atStart => exact ⟨0, Nat.zero_le _, rfl, rfl⟩
  case round =>
    obtain ⟨k, hk, rfl, rfl⟩ := hrel
    by_cases hlt2 : k < ps.length
    · have hc0 := HX.out k (ps.getD k ⟨#[]⟩) (by rw [List.getD_eq_getElem?_getD, List.getElem?_eq_getElem hlt2]; rfl)
      have hg : (ofAcc t ps k).size ≤ 1000000 := by have h1 := HS.out k (by omega); have h2 := sumS_le ps k; have := HL.out; omega
      have hg2 : (ps.getD k ⟨#[]⟩).size ≤ 1000000 := by have h1 := sumS_get ps k; have := HL.out; omega
      have hg3 : (ofAcc t ps k ++ (⟨#[44, 32]⟩ : ByteArray)).size ≤ 1000002 := by rw [ByteArray.size_append]; show _ + 2 ≤ _; omega
      have HK := Lib.hid (show ofAcc t ps (k + 1) = (if k = 0 then ofAcc t ps k else ofAcc t ps k ++ sComma) ++ ps.getD k ⟨#[]⟩ from rfl)
      obtain ⟨y, hy⟩ : ∃ y, y = ps.getD k ⟨#[]⟩ := ⟨_, rfl⟩
      rw [← hy] at hc0 hg2 HK
      clear hy
      by_cases h0 : k = 0
      · subst h0
        rw [if_pos rfl] at HK
        rw [Nat.add_zero] at hc0
        go_wp2
        go_round
        case rel => exact ⟨0 + 1, by omega, rfl, by rw [HK.out]⟩
        case measure => simp [intOf]; omega
      · have h0' : 0 < k := by omega
        rw [if_neg h0] at HK
        clear h0
        go_wp2
        go_round
        case rel => exact ⟨k + 1, by omega, by go_num, by rw [HK.out]; rfl⟩
        case measure => simp [intOf]; omega
    · have hke : k = ps.length := by omega
      subst hke
      have hg : (ofAcc t ps ps.length).size ≤ 1000000 := by have h1 := HS.out ps.length (by omega); have h2 := sumS_le ps ps.length; have := HL.out; omega
      go_wp2
      go_ret
      exact ⟨rfl, rfl⟩
end Go.Proofs.YtgnkinhjfcbdbaaDoor
