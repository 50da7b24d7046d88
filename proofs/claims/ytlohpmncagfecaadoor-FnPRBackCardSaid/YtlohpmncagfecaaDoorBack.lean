/- What asks for a value that was put (laws.prAsks), and what is read then. -/
import Derived.Test.YtlohpmncagfecaaDoorMore2
namespace Go.Proofs.YtlohpmncagfecaaDoor
open Go.RowKit
set_option linter.unnecessarySimpa false
set_option linter.unusedVariables false
set_option linter.unusedSimpArgs false

def askOf (x : Pr) : Pr := ⟨if x.op = 17 then 16 else x.op, if x.op = 19 then x.s.length else 0, 0, []⟩
def gotOf (x : Pr) : Gt :=
  if x.op = 2 then ⟨if x.u ≠ 0 then 1 else 0, 0, [], false⟩
  else if x.op = 13 ∨ x.op = 14 then ⟨x.u, x.v, [], false⟩
  else if x.op = 1 ∨ x.op = 3 ∨ x.op = 7 then ⟨x.u % 256, 0, [], false⟩
  else if x.op = 4 ∨ x.op = 8 then ⟨x.u % 65536, 0, [], false⟩
  else if x.op = 5 ∨ x.op = 9 ∨ x.op = 11 then ⟨x.u % 4294967296, 0, [], false⟩
  else if 18 ≤ x.op then ⟨0, 0, x.s, false⟩
  else ⟨x.u, 0, [], false⟩

theorem askBack (op u v : Nat) (s tail : List UInt8) (h1 : 1 ≤ op) (h19 : op ≤ 19) (hu : u < 18446744073709551616) (hv : v < 18446744073709551616) :
    AskOk 28 (askOf ⟨op, u, v, s⟩) (primBytes op u v s ++ tail) (gotOf ⟨op, u, v, s⟩) tail := by
  obtain rfl | rfl | rfl | rfl | rfl | rfl | rfl | rfl | rfl | rfl | rfl | rfl | rfl | rfl | rfl | rfl | rfl | rfl | rfl : op = 1 ∨ op = 2 ∨ op = 3 ∨ op = 4 ∨ op = 5 ∨ op = 6 ∨ op = 7 ∨ op = 8 ∨ op = 9 ∨ op = 10 ∨ op = 11 ∨ op = 12 ∨ op = 13 ∨ op = 14 ∨ op = 15 ∨ op = 16 ∨ op = 17 ∨ op = 18 ∨ op = 19 := by omega
  · have h := get1 0 0 [] (u % 256) (Nat.mod_lt _ (by decide)) tail
    rw [show leB 1 (u % 256) = leB 1 u from leB1' u] at h; exact h
  · have h := get2 0 0 [] (decide (u ≠ 0)) tail
    simpa [askOf, gotOf, primBytes] using h
  · have h := get3 0 0 [] (u % 256) (Nat.mod_lt _ (by decide)) tail
    rw [show leB 1 (u % 256) = leB 1 u from leB1' u] at h; exact h
  · have h := get4 0 0 [] (u % 65536) (Nat.mod_lt _ (by decide)) tail
    rw [show leB 2 (u % 65536) = leB 2 u from leB2' u] at h; exact h
  · have h := get5 0 0 [] (u % 4294967296) (Nat.mod_lt _ (by decide)) tail
    rw [show leB 4 (u % 4294967296) = leB 4 u from leB4' u] at h; exact h
  · exact get6 0 0 [] u hu tail
  · have h := get7 0 0 [] (u % 256) (Nat.mod_lt _ (by decide)) tail
    rw [show leB 1 (u % 256) = leB 1 u from leB1' u] at h; exact h
  · have h := get8 0 0 [] (u % 65536) (Nat.mod_lt _ (by decide)) tail
    rw [show leB 2 (u % 65536) = leB 2 u from leB2' u] at h; exact h
  · have h := get9 0 0 [] (u % 4294967296) (Nat.mod_lt _ (by decide)) tail
    rw [show leB 4 (u % 4294967296) = leB 4 u from leB4' u] at h; exact h
  · exact get10 0 0 [] u hu tail
  · have h := more11 0 0 (u % 4294967296) [] tail (Nat.mod_lt _ (by decide))
    rw [show leB 4 (u % 4294967296) = leB 4 u from leB4' u] at h
    exact getMore _ _ _ _ (by simp [askOf]) (by simp [askOf]) h
  · exact getMore _ _ _ _ (by simp [askOf]) (by simp [askOf]) (more12 0 0 u [] tail hu)
  · exact getMore _ _ _ _ (by simp [askOf]) (by simp [askOf]) (more13 0 0 u v [] tail hu hv)
  · exact getMore _ _ _ _ (by simp [askOf]) (by simp [askOf]) (more14 0 0 u v [] tail hu hv)
  · exact getMore _ _ _ _ (by simp [askOf]) (by simp [askOf]) (more15 0 0 u [] tail hu)
  · exact getMore _ _ _ _ (by simp [askOf]) (by simp [askOf]) (more16 0 0 u [] tail hu)
  · exact getMore _ _ _ _ (by simp [askOf]) (by simp [askOf]) (more16 0 0 u [] tail hu)
  · exact getMore _ _ _ _ (by simp [askOf]) (by simp [askOf]) (more18 0 0 [] s tail)
  · exact getMore _ _ _ _ (by simp [askOf]) (by simp [askOf]) (more19 0 [] s tail)

theorem gotOf_err (x : Pr) : (gotOf x).err = false := by unfold gotOf; (repeat' split) <;> rfl

theorem run_back : ∀ (xs : List Pr), (∀ x ∈ xs, x.u < 18446744073709551616 ∧ x.v < 18446744073709551616 ∧ okPr x = true) → Run (xs.map askOf) (prsBytes xs) (xs.map gotOf)
  | [], _ => .nil _
  | x :: xs, h => by
    obtain ⟨hu, hv, hk⟩ := h x (by simp)
    simp [okPr] at hk
    have hop : x.op = ((x.op.toNat : Nat) : Int) := by omega
    have ha := askBack x.op.toNat x.u x.v x.s (prsBytes xs) (by omega) (by omega) hu hv
    rw [← hop] at ha
    exact .ok _ _ _ (prsBytes xs) _ _ (gotOf_err x) ha (by simp [prsBytes]) (run_back xs fun y hy => h y (by simp [hy]))

/-! ### laws.prSame -/
def sameGt (a b : Gt) : Bool := decide (a.u = b.u) && decide (a.v = b.v) && decide (a.s = b.s) && (a.err == b.err)
end Go.Proofs.YtlohpmncagfecaaDoor
