/- laws.pkShort, laws.pkCut. -/
import Derived.Test.YtlohpmncagfecaaSq
namespace Go.Proofs.Ytlohpmncagfecaa
open Go.RowKit

def strs (xs : List ByteArray) : List Value := xs.map Value.string
def short (xs : List ByteArray) : Bool := xs.all fun s => decide (s.size ≤ 100)

theorem short1 (w : World) (s : ByteArray) : Calls Try.prog 40 #[.string s] w fun e w' => e = .returned (.bool (decide (100 < s.size))) ∧ w = w' := by
  go_enter Try.func40, Try.ntmps40
  go_wp2
  go_ret
  exact ⟨by simp; omega, rfl⟩

/-- Below k all are short. -/
def ShortTo (xs : List ByteArray) (k : Nat) : Prop := ∀ j s, j < k → xs[j]? = some s → s.size ≤ 100

set_option maxRecDepth 100000 in
theorem indexFunc (w : World) (b cap : Nat) (xs : List ByteArray) (hr : RowIs w b (strs xs)) (hn : xs.length ≤ 1000000) :
    Calls Try.prog 67 #[.slice (some ⟨b, 0, none⟩) xs.length cap, .func (.func 40) #[] #[]] w fun e w' => (∃ n : Int, e = .returned (.int .i64 n) ∧ decide (0 ≤ n) = !short xs) ∧ w = w' := by
  have HR := Lib.hid hr
  clear hr
  go_enter Try.func67, Try.ntmps67
  go_wp2_with fail
  go_loop [8] (fun vi => ∃ k : Nat, k ≤ xs.length ∧ vi = .int .i64 k ∧ ShortTo xs k) (fun vi => xs.length - (intOf vi).toNat)
  case atStart => exact ⟨0, Nat.zero_le _, rfl, fun j s h => by omega⟩
  case round =>
    obtain ⟨k, hk, rfl, hs⟩ := hrel
    by_cases hlt : k < xs.length
    · obtain ⟨x, hx⟩ : ∃ x, xs[k]? = some x := ⟨_, List.getElem?_eq_getElem hlt⟩
      have hcell := HR.out k (.string x) (by simp [strs, hx])
      have HX := Lib.hid hx
      clear hx
      by_cases h1 : 100 < x.size
      all_goals
        go_wp2_with (go_at_call 40; refine (short1 _ x).mono ?_; rintro e w1 ⟨rfl, rfl⟩)
      · go_ret
        refine ⟨⟨(k : Int), rfl, ?_⟩, rfl⟩
        have : short xs = false := by
          rw [← Bool.not_eq_true]
          intro h
          have := List.all_eq_true.1 h x (List.mem_of_getElem? HX.out)
          simp at this
          omega
        rw [this]
        simp
      · go_round
        case rel =>
          refine ⟨k + 1, by omega, by go_num, fun j s hj hjs => ?_⟩
          by_cases e : j = k
          · subst e; rw [HX.out] at hjs; obtain rfl := Option.some.inj hjs; omega
          · exact hs j s (by omega) hjs
        case measure => simp [intOf]; omega
    · go_wp2_with fail
      go_ret
      refine ⟨⟨-1, rfl, ?_⟩, rfl⟩
      have : short xs = true := by
        refine List.all_eq_true.2 fun s hs' => ?_
        obtain ⟨j, hj⟩ := List.mem_iff_getElem?.1 hs'
        have := hs j s (by have := (List.getElem?_eq_some_iff.1 hj).1; omega) hj
        simpa using this
      rw [this]
      simp

theorem containsFunc (w : World) (b cap : Nat) (xs : List ByteArray) (hr : RowIs w b (strs xs)) (hn : xs.length ≤ 1000000) :
    Calls Try.prog 39 #[.slice (some ⟨b, 0, none⟩) xs.length cap, .func (.func 40) #[] #[]] w fun e w' => e = .returned (.bool (!short xs)) ∧ w = w' := by
  go_enter Try.func39, Try.ntmps39
  go_wp2_with (go_at_call 67; refine (indexFunc _ b cap xs hr hn).mono ?_; rintro e w1 ⟨⟨n, rfl, hs⟩, rfl⟩)
  go_ret
  exact ⟨by rw [← hs]; rfl, rfl⟩

theorem pkShort (w : World) (b cap : Nat) (xs : List ByteArray) (hr : RowIs w b (strs xs)) (hn : xs.length ≤ 1000000) :
    Calls Try.prog 11 #[.slice (some ⟨b, 0, none⟩) xs.length cap] w fun e w' => e = .returned (.bool (short xs)) ∧ w = w' := by
  go_enter Try.func11, Try.ntmps11
  go_wp2_with (go_at_call 39; refine (containsFunc _ b cap xs hr hn).mono ?_; rintro e w1 ⟨rfl, rfl⟩)
  go_ret
  exact ⟨by simp, rfl⟩

set_option maxRecDepth 100000 in
theorem pkCut (w : World) (v : Value) (bs : List UInt8) (n : Nat) (h : BytesAt w v bs) (hn : 0 < bs.length) (hl : bs.length ≤ 1000000) (hu : n < 65536) :
    Calls Try.prog 17 #[v, .int .u16 n] w fun e w' => (∃ x, e = .returned x ∧ BytesAt w x (bs.take (n % bs.length)) ∧ ∀ g, x.ownBlock = some g → v.ownBlock = some g) ∧ w = w' := by
  rcases id h with ⟨-, rfl⟩ | ⟨b, off, cap, rfl, hc, hcell⟩
  · simp at hn
  · have HC := Lib.hid hcell
    clear hcell
    obtain ⟨m, hm, e1⟩ : ∃ m : Nat, m = n % bs.length ∧ ((n : Int) % (bs.length : Int)) = (m : Int) := ⟨n % bs.length, rfl, by omega⟩
    have hm1 : m < bs.length := by rw [hm]; exact Nat.mod_lt _ hn
    rw [← hm]
    clear hm
    have m0 : (0 : Int) ≤ (m : Int) := Int.natCast_nonneg _
    have m1 : (m : Int) ≤ (cap : Int) := by omega
    have hz : ((bs.length : Int) == 0) = false := by rw [beq_eq_false_iff_ne]; omega
    go_enter Try.func17, Try.ntmps17
    go_wp2_with fail
    go_ret
    refine ⟨⟨_, rfl, .inr ⟨b, off, cap, ?_, ?_, fun j hj => ?_⟩, fun g h => h⟩, rfl⟩
    · simp; omega
    · simp; omega
    · have hj' : j < bs.length := by simp at hj; omega
      rw [HC.out j hj']
      simp
end Go.Proofs.Ytlohpmncagfecaa
