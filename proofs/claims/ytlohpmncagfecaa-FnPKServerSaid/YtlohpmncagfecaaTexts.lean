/- spec.pkTexts; laws.pkWhole. -/
import Derived.Test.YtlohpmncagfecaaSet
import Derived.Test.YtlohpmncagfecaaShort
import Derived.Test.YtlohpmncagfecaaRow
namespace Go.Proofs.Ytlohpmncagfecaa
open Go.RowKit

def texts (xs : List ByteArray) : List UInt8 := xs.flatMap fun s => strBytes s.data.toList
theorem texts_take_succ {xs : List ByteArray} {k : Nat} {x : ByteArray} (h : xs[k]? = some x) : texts (xs.take (k + 1)) = texts (xs.take k) ++ strBytes x.data.toList := by
  obtain ⟨hk, rfl⟩ := List.getElem?_eq_some_iff.1 h
  unfold texts
  rw [List.take_succ_eq_append_getElem hk, List.flatMap_append]
  simp
theorem texts_le (xs : List ByteArray) (h : ∀ x ∈ xs, x.size ≤ 100) : (texts xs).length ≤ 110 * xs.length := by
  induction xs with
  | nil => simp [texts]
  | cons x xs ih =>
    have h1 := strBytes_le x (h x (by simp))
    have h2 := ih fun y hy => h y (by simp [hy])
    simp [texts] at h2 ⊢
    omega

set_option maxRecDepth 100000 in
theorem pkTexts (w : World) (b cap : Nat) (xs : List ByteArray) (hr : RowIs w b (strs xs)) (hx : ∀ x ∈ xs, x.size ≤ 100) (hn : xs.length ≤ 1000000) :
    Calls Try.prog 61 #[.slice (some ⟨b, 0, none⟩) xs.length cap] w (MadeO w (texts xs)) := by
  have HX := Lib.hid hx
  have HU : Hid (∀ k, (texts (xs.take k)).length ≤ 110000000) := by
    intro k
    have := texts_le (xs.take k) fun y hy => hx y (List.mem_of_mem_take hy)
    simp at this
    omega
  have HR := Lib.hid hr
  clear hx hr
  go_enter Try.func61, Try.ntmps61
  go_wp2_with fail
  go_loopw [3, 8] (fun vo vi wr => ∃ (k : Nat) (p : Option Addr) (c : Nat), k ≤ xs.length ∧ vi = .int .i64 k ∧ vo = .slice p (texts (xs.take k)).length c ∧ Since w wr (.slice p (texts (xs.take k)).length c) (texts (xs.take k))) (fun _ vi _ => xs.length - (intOf vi).toNat)
  case atStart => exact ⟨0, none, 0, Nat.zero_le _, rfl, rfl, ⟨fun _ => False, OwnB.nil _ _, fun _ h => h.elim⟩, Below.refl _ _⟩
  case round =>
    obtain ⟨k, p, c, hk, rfl, rfl, hs⟩ := hrel
    by_cases hlt : k < xs.length
    · obtain ⟨x, hxk⟩ : ∃ x, xs[k]? = some x := ⟨_, List.getElem?_eq_getElem hlt⟩
      have hcell : wr.cell? ⟨b, k, none⟩ = some (.string x) := (HR.out.below hs.below) k _ (by simp [strs, hxk])
      have hxb := strBytes_le x (HX.out x (List.mem_of_getElem? hxk))
      have hts := texts_take_succ hxk
      have HT := Lib.hid hts
      have hl := HU.out k
      clear hts hxk
      obtain ⟨pre, hpre⟩ : ∃ pre, pre = texts (xs.take k) := ⟨_, rfl⟩
      rw [← hpre] at hs hl
      have HP := Lib.hid hpre
      rw [← hpre]
      clear hpre
      go_wp2_with (first | (go_at_call 45; refine (pkText _ x (by omega)).mono ?_; intro e w1 hm; obtain ⟨p1, c1, rfl, s1, hb1⟩ := hm.since hs.below; clear hm) | (at_builtin; refine append_since _ w pre (strBytes x.data.toList) rfl _ _ _ rfl _ rfl (hs.later hb1) _ rfl s1.bytes.srcB (by omega) ?_; intro q2 c2 w2 s2))
      go_roundw
      case rel =>
        have e : texts (xs.take (k + 1)) = pre ++ strBytes x.data.toList := by rw [HT.out, HP.out]
        exact ⟨k + 1, q2, c2, by omega, by go_num, by rw [e]; simp, by rw [e]; simpa using s2⟩
      case measure => simp [intOf]; omega
    · obtain rfl : k = xs.length := by omega
      go_wp2_with fail
      go_ret
      have h := hs.madeO
      rw [List.take_length] at h
      simp only [List.take_length]
      exact h

/-! ### pkWhole -/
def whole (xs : List Int) : Bool := xs.all fun x => decide (0 ≤ x) && decide (x < 2147483648)
def zints (xs : List Int) : List Value := xs.map (Value.int .i64)

theorem whole1 (w : World) (x : Int) : Calls Try.prog 59 #[.int .i64 x] w fun e w' => e = .returned (.bool (decide (x < 0) || decide (2147483648 ≤ x))) ∧ w = w' := by
  by_cases h0 : x < 0
  · go_enter Try.func59, Try.ntmps59
    go_wp2
    go_ret
    exact ⟨by simp; omega, rfl⟩
  · go_enter Try.func59, Try.ntmps59
    go_wp2
    go_ret
    exact ⟨by simp; omega, rfl⟩

def WholeTo (xs : List Int) (k : Nat) : Prop := ∀ j s, j < k → xs[j]? = some s → 0 ≤ s ∧ s < 2147483648

set_option maxRecDepth 100000 in
theorem indexFuncI (w : World) (b cap : Nat) (xs : List Int) (hr : RowIs w b (zints xs)) (hn : xs.length ≤ 1000000) :
    Calls Try.prog 109 #[.slice (some ⟨b, 0, none⟩) xs.length cap, .func (.func 59) #[] #[]] w fun e w' => (∃ n : Int, e = .returned (.int .i64 n) ∧ decide (0 ≤ n) = !whole xs) ∧ w = w' := by
  have HR := Lib.hid hr
  clear hr
  go_enter Try.func109, Try.ntmps109
  go_wp2_with fail
  go_loop [8] (fun vi => ∃ k : Nat, k ≤ xs.length ∧ vi = .int .i64 k ∧ WholeTo xs k) (fun vi => xs.length - (intOf vi).toNat)
  case atStart => exact ⟨0, Nat.zero_le _, rfl, fun j s h => by omega⟩
  case round =>
    obtain ⟨k, hk, rfl, hs⟩ := hrel
    by_cases hlt : k < xs.length
    · obtain ⟨x, hx⟩ : ∃ x, xs[k]? = some x := ⟨_, List.getElem?_eq_getElem hlt⟩
      have hcell := HR.out k (.int .i64 x) (by simp [zints, hx])
      have HX := Lib.hid hx
      clear hx
      by_cases h1 : (decide (x < 0) || decide (2147483648 ≤ x)) = true
      all_goals
        go_wp2_with (go_at_call 59; refine (whole1 _ x).mono ?_; rintro e w1 ⟨rfl, rfl⟩)
      · go_ret
        refine ⟨⟨(k : Int), rfl, ?_⟩, rfl⟩
        have : whole xs = false := by
          rw [← Bool.not_eq_true]
          intro h
          have := List.all_eq_true.1 h x (List.mem_of_getElem? HX.out)
          simp at this h1
          omega
        rw [this]
        simp
      · go_round
        case rel =>
          refine ⟨k + 1, by omega, by go_num, fun j s hj hjs => ?_⟩
          by_cases e : j = k
          · subst e; rw [HX.out] at hjs; obtain rfl := Option.some.inj hjs; simp at h1; omega
          · exact hs j s (by omega) hjs
        case measure => simp [intOf]; omega
    · go_wp2_with fail
      go_ret
      refine ⟨⟨-1, rfl, ?_⟩, rfl⟩
      have : whole xs = true := by
        refine List.all_eq_true.2 fun s hs' => ?_
        obtain ⟨j, hj⟩ := List.mem_iff_getElem?.1 hs'
        have := hs j s (by have := (List.getElem?_eq_some_iff.1 hj).1; omega) hj
        simp; omega
      rw [this]
      simp

theorem containsFuncI (w : World) (b cap : Nat) (xs : List Int) (hr : RowIs w b (zints xs)) (hn : xs.length ≤ 1000000) :
    Calls Try.prog 58 #[.slice (some ⟨b, 0, none⟩) xs.length cap, .func (.func 59) #[] #[]] w fun e w' => e = .returned (.bool (!whole xs)) ∧ w = w' := by
  go_enter Try.func58, Try.ntmps58
  go_wp2_with (go_at_call 109; refine (indexFuncI _ b cap xs hr hn).mono ?_; rintro e w1 ⟨⟨n, rfl, hs⟩, rfl⟩)
  go_ret
  exact ⟨by rw [← hs]; rfl, rfl⟩

theorem pkWhole (w : World) (b cap : Nat) (xs : List Int) (hr : RowIs w b (zints xs)) (hn : xs.length ≤ 1000000) :
    Calls Try.prog 28 #[.slice (some ⟨b, 0, none⟩) xs.length cap] w fun e w' => e = .returned (.bool (whole xs)) ∧ w = w' := by
  go_enter Try.func28, Try.ntmps28
  go_wp2_with (go_at_call 58; refine (containsFuncI _ b cap xs hr hn).mono ?_; rintro e w1 ⟨rfl, rfl⟩)
  go_ret
  exact ⟨by simp, rfl⟩
end Go.Proofs.Ytlohpmncagfecaa
