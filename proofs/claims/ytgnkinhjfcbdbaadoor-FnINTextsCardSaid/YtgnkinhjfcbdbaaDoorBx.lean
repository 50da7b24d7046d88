/- Bytes within other data: nil, bytes that lie somewhere, or none at whatever place. -/
import Derived.Test.YtgnkinhjfcbdbaaDoorOwn
namespace Go.Proofs.YtgnkinhjfcbdbaaDoor
open Go.RowKit
set_option linter.unnecessarySimpa false
set_option linter.unusedVariables false

def BytesX (w : World) (v : Value) (bs : List UInt8) : Prop := BytesAt w v bs ∨ (bs = [] ∧ ∃ a, v = .slice (some a) 0 0)

theorem BytesAt.x {w : World} {v : Value} {bs : List UInt8} (h : BytesAt w v bs) : BytesX w v bs := .inl h
theorem BytesX.slice {w : World} {v : Value} {bs : List UInt8} (h : BytesX w v bs) : ∃ p c, v = .slice p bs.length c := by
  rcases h with h | ⟨rfl, a, rfl⟩
  · exact h.slice
  · exact ⟨_, _, rfl⟩
theorem BytesX.keep {w w' : World} {v : Value} {bs : List UInt8} (h : BytesX w v bs) (hb : ∀ g, v.ownBlock = some g → w'.heap[g]? = w.heap[g]?) : BytesX w' v bs :=
  h.imp (fun h => h.keep hb) id
theorem BytesX.keep' {w w' : World} {v : Value} {bs : List UInt8} (h : BytesX w v bs) (hb : bs ≠ [] → ∀ g, v.ownBlock = some g → w'.heap[g]? = w.heap[g]?) : BytesX w' v bs := by
  by_cases hn : bs = []
  · subst hn
    rcases h with (h | ⟨b, off, cap, rfl, hl, h⟩) | h
    · exact .inl (.inl h)
    · exact .inl (.inr ⟨b, off, cap, rfl, hl, fun j hj => by simp at hj⟩)
    · exact .inr h
  · exact h.keep (hb hn)
theorem BytesX.below {w w' : World} {v : Value} {bs : List UInt8} (h : BytesX w v bs) (hb : Below w.heap.size w w') : BytesX w' v bs := h.imp (fun h => h.below hb) id
theorem BytesX.alloc {w : World} {v : Value} {bs : List UInt8} (h : BytesX w v bs) (o : Obj) : BytesX (w.alloc o) v bs := h.below ((Below.refl _ _).alloc (Nat.le_refl _) o)
theorem BytesX.srcB {w : World} {v : Value} {bs : List UInt8} (h : BytesX w v bs) : SrcB w 25 v bs := by
  rcases h with h | ⟨rfl, a, rfl⟩
  · exact h.srcB
  · exact Src.ofSlice w Tryd.underlying25 a 0 0 [] (by simp) (fun j u h => by simp at h) (by simp)
theorem run_convert_x {w : World} {v : Value} {bs : List UInt8} (h : BytesX w v bs) : (Go.convert 25 9 v).run Tryd.prog w = .ok (.string ⟨bs.toArray⟩) w := by
  rcases h with h | ⟨rfl, a, rfl⟩
  · exact run_convert_at h
  · have h1 : ∀ (a : Addr) (w : World), (Go.convert 25 9 (.slice (some a) 0 0)).run Tryd.prog w = .ok (.string ⟨#[]⟩) w := fun a w => by kernel_rfl
    exact h1 a w

end Go.Proofs.YtgnkinhjfcbdbaaDoor
