/- Types as texts: what is built of names and parameters; types by bytes. -/
import Derived.Test.YtnmfaccpdgbjoaaDoorBytes
import Derived.LoopTactic
import Derived.Deep.RegionHeld3
import Derived.Lib.Hide
namespace Go.Proofs.YtnmfaccpdgbjoaaDoor
open Go.RowKit
set_option linter.unusedVariables false
set_option linter.unusedSimpArgs false
set_option linter.unnecessarySimpa false

/-- A slice that reads as these strings. -/
def StrsAt (w : World) (v : Value) (ss : List ByteArray) : Prop := ∃ b off cap : Nat, v = .slice (some ⟨b, off, none⟩) ss.length cap ∧ ss.length ≤ cap ∧ b < w.heap.size ∧ ∀ (j : Nat) (s : ByteArray), ss[j]? = some s → w.cell? ⟨b, off + j, none⟩ = some (.string s)

theorem StrsAt.below {w w' : World} {v : Value} {ss : List ByteArray} (h : StrsAt w v ss) (hb : Below w.heap.size w w') : StrsAt w' v ss := by
  obtain ⟨b, off, cap, rfl, hc, hlt, hx⟩ := h
  have := hb.size
  exact ⟨b, off, cap, rfl, hc, by omega, fun j s hs => by rw [hb.cell (p := ⟨b, off + j, none⟩) hlt]; exact hx j s hs⟩

/-- Strings that have just been laid. -/
theorem strs_new (w : World) (ss : List ByteArray) (T : TypeId) : StrsAt (w.alloc (.cells (ss.map Value.string).toArray T)) (.slice (some ⟨w.heap.size, 0, none⟩) ss.length ss.length) ss := by
  refine ⟨w.heap.size, 0, ss.length, rfl, Nat.le_refl _, by simp, fun j s hs => ?_⟩
  have h := heap_alloc_new w (.cells (ss.map Value.string).toArray T)
  simp only [World.cell?]
  rw [h]
  simp [hs]

def sArray : ByteArray := ⟨#[65, 114, 114, 97, 121]⟩
def sMap : ByteArray := ⟨#[77, 97, 112]⟩
def sTuple : ByteArray := ⟨#[84, 117, 112, 108, 101]⟩
def sString : ByteArray := ⟨#[83, 116, 114, 105, 110, 103]⟩
def sOpen : ByteArray := ⟨#[40]⟩
def sShut : ByteArray := ⟨#[41]⟩
def sComma : ByteArray := ⟨#[44, 32]⟩

/-- The text behind so many parameters. -/
def ofAcc (t : ByteArray) (ps : List ByteArray) : Nat → ByteArray
  | 0 => t ++ sOpen
  | k + 1 => (if k = 0 then ofAcc t ps k else ofAcc t ps k ++ sComma) ++ ps.getD k ⟨#[]⟩
/-- A type with parameters. -/
def ofS (t : ByteArray) (ps : List ByteArray) : ByteArray := ofAcc t ps ps.length ++ sShut

def sumS : List ByteArray → Nat
  | [] => 0
  | s :: r => s.size + 2 + sumS r
theorem sumS_get : ∀ (ps : List ByteArray) (k : Nat), (ps.getD k ⟨#[]⟩).size ≤ sumS ps
  | [], k => by simp [sumS]; rfl
  | s :: r, 0 => by simp [sumS]; omega
  | s :: r, k + 1 => by
    have := sumS_get r k
    simp only [sumS, List.getD_cons_succ]; omega
theorem sumS_take : ∀ (ps : List ByteArray) (k : Nat), k < ps.length → sumS (ps.take (k + 1)) = sumS (ps.take k) + (ps.getD k ⟨#[]⟩).size + 2
  | [], k, h => by simp at h
  | s :: r, 0, _ => by simp [sumS]
  | s :: r, k + 1, h => by
    have := sumS_take r k (by simpa using h)
    simp only [List.take_succ_cons, sumS, List.getD_cons_succ] at this ⊢; omega
theorem sumS_le : ∀ (ps : List ByteArray) (k : Nat), sumS (ps.take k) ≤ sumS ps
  | [], k => by simp
  | s :: r, 0 => by simp [sumS]
  | s :: r, k + 1 => by
    have := sumS_le r k
    simp only [List.take_succ_cons, sumS]; omega
theorem ofAcc_size (t : ByteArray) (ps : List ByteArray) : ∀ k, k ≤ ps.length → (ofAcc t ps k).size ≤ t.size + 1 + sumS (ps.take k)
  | 0, _ => by simp [ofAcc, ByteArray.size_append, sumS]; decide
  | k + 1, h => by
    have ih := ofAcc_size t ps k (by omega)
    have h2 := sumS_take ps k (by omega)
    have hc : sComma.size = 2 := rfl
    unfold ofAcc
    split <;> simp only [ByteArray.size_append] <;> omega
theorem ofS_size (t : ByteArray) (ps : List ByteArray) : (ofS t ps).size ≤ t.size + 2 + sumS ps := by
  have h := ofAcc_size t ps ps.length (Nat.le_refl _)
  have h2 := sumS_le ps ps.length
  have h3 : sShut.size = 1 := rfl
  unfold ofS
  simp only [ByteArray.size_append]
  omega

end Go.Proofs.YtnmfaccpdgbjoaaDoor
