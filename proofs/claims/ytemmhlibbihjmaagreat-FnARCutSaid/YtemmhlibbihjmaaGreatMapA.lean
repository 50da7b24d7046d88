/- laws.zzFits8, laws.arPairs. -/
import Derived.Test.YtemmhlibbihjmaaGreatPrs
import Derived.Test.YtemmhlibbihjmaaGreatLsA
import Derived.StillTailTactics
namespace Go.Proofs.YtemmhlibbihjmaaGreat
open Go.RowKit
set_option linter.unusedVariables false
set_option linter.unusedSimpArgs false

def fitP (m : Pr) : Bool := decide (m.1.size ≤ 2147483647) && decide (m.2.size ≤ 2147483647)
def FitPs (ms : List Pr) : Prop := ms.length ≤ 2147483647 ∧ ∀ m ∈ ms, m.1.size ≤ 2147483647 ∧ m.2.size ≤ 2147483647
def FitLP (ll : List (List Pr)) : Prop := ll.length ≤ 2147483647 ∧ ∀ ps ∈ ll, FitPs ps
def cutP (m : Pr) : Pr := (cut60 m.1, cut60 m.2)
def sK : ByteArray := ⟨#[107]⟩
def sV : ByteArray := ⟨#[118]⟩
def rowP (ps : List Pr) : List Pr := (ps.take 8).map cutP
def pairsOf (ll : List (List Pr)) : List (List Pr) := (ll.take 12).map rowP ++ [[(sK, sV)]]
theorem strL_two (w : World) (a b : ByteArray) : StrL (w.alloc (.cells #[.string a, .string b] 9)) (.slice (some ⟨w.heap.size, 0, none⟩) 2 2) [a, b] :=
  ⟨_, _, rfl, Nat.le_refl _, fun _ => ⟨_, 0, rfl, fun j x hj => by
    have h := heap_alloc_new w (.cells #[.string a, .string b] 9)
    rw [Nat.zero_add]
    simp only [World.cell?, h]
    match j, hj with
    | 0, hj => simpa using hj
    | 1, hj => simpa using hj⟩⟩
theorem pairL_one (w : World) : PairL (w.alloc (.cells #[.string ⟨#[107]⟩, .string ⟨#[118]⟩] 39)) (.slice (some ⟨w.heap.size, 0, none⟩) 1 1) [(sK, sV)] :=
  ⟨_, _, rfl, Nat.le_refl _, fun _ => ⟨_, 0, rfl, fun j x hj => by
    have h := heap_alloc_new w (.cells #[.string ⟨#[107]⟩, .string ⟨#[118]⟩] 39)
    have e : pcells [(sK, sV)] = [.string ⟨#[107]⟩, .string ⟨#[118]⟩] := rfl
    rw [e] at hj
    rw [Nat.zero_add]
    simp only [World.cell?, h]
    match j, hj with
    | 0, hj => simpa using hj
    | 1, hj => simpa using hj⟩⟩

end Go.Proofs.YtemmhlibbihjmaaGreat
