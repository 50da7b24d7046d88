/- The specification's lists of numbers and of strings: pkInts, pkTexts; pkBool. -/
import Derived.Test.YtlohpmncagfecaaSp
namespace Go.Proofs.Ytlohpmncagfecaa
open Go.RowKit

/-- Cells that lie one behind the other at the head of a block. -/
def RowIs (w : World) (b : Nat) (vs : List Value) : Prop := ∀ (j : Nat) (u : Value), vs[j]? = some u → w.cell? ⟨b, j, none⟩ = some u

theorem RowIs.below {w w' : World} {b : Nat} {vs : List Value} (h : RowIs w b vs) (hb : Below w.heap.size w w') : RowIs w' b vs := fun j u hj => by
  have h1 := h j u hj
  have hlt : b < w.heap.size := by
    unfold World.cell? at h1
    cases hx : w.heap[b]? with
    | none => simp [hx] at h1
    | some o => exact (Array.getElem?_eq_some_iff.1 hx).1
  rw [hb.cell (p := ⟨b, j, none⟩) hlt]
  exact h1

theorem RowIs.lt {w : World} {b : Nat} {v : Value} {vs : List Value} (h : RowIs w b (v :: vs)) : b < w.heap.size := by
  have h1 := h 0 v rfl
  unfold World.cell? at h1
  cases hx : w.heap[b]? with
  | none => simp [hx] at h1
  | some o => exact (Array.getElem?_eq_some_iff.1 hx).1

theorem RowIs.chg {w w' : World} {F : Nat → Prop} {b : Nat} {v : Value} {vs : List Value} (h : RowIs w b (v :: vs)) (hc : Chg F w w') (hn : ¬ F b) : RowIs w' b (v :: vs) := fun j u hj => by
  rw [hc.cell (p := ⟨b, j, none⟩) h.lt hn]
  exact h j u hj

theorem rowIs_new (w : World) (vs : List Value) (T : TypeId) : RowIs (w.alloc (.cells vs.toArray T)) w.heap.size vs := fun j u hj => by
  rw [World.cell?_alloc_mark]
  simpa using hj

def ints (xs : List Nat) : List Value := xs.map fun x => Value.int .i64 ((x : Nat) : Int)
def uvs (xs : List Nat) : List UInt8 := xs.flatMap uv

/-- Behind k rounds: what has been put together. -/
def AccInv (w : World) (pre : List UInt8) (v : Value) (wr : World) : Prop :=
  ∃ F, OwnB wr F v pre ∧ (∀ k, F k → w.heap.size ≤ k ∧ k < wr.heap.size) ∧ Below w.heap.size w wr

theorem AccInv.start (w : World) : AccInv w [] (.slice none 0 0) w := ⟨fun _ => False, OwnB.nil _ _, fun _ h => h.elim, Below.refl _ _⟩

theorem uvs_take_succ {xs : List Nat} {k x : Nat} (h : xs[k]? = some x) : uvs (xs.take (k + 1)) = uvs (xs.take k) ++ uv x := by
  obtain ⟨hk, rfl⟩ := List.getElem?_eq_some_iff.1 h
  unfold uvs
  rw [List.take_succ_eq_append_getElem hk, List.flatMap_append]
  simp

theorem uvs_le (xs : List Nat) (h : ∀ x ∈ xs, x ≤ 9223372036854775807) : (uvs xs).length ≤ 10 * xs.length := by
  induction xs with
  | nil => simp [uvs]
  | cons x xs ih =>
    have h1 := uv_length_le 10 x (by have := h x (by simp); omega) (by omega)
    have h2 := ih fun y hy => h y (by simp [hy])
    simp [uvs] at h2 ⊢
    omega

set_option maxRecDepth 100000 in
theorem pkInts (w : World) (b cap : Nat) (xs : List Nat) (hr : RowIs w b (ints xs)) (hx : ∀ x ∈ xs, x ≤ 9223372036854775807) (hn : xs.length ≤ 1000000) :
    Calls Try.prog 46 #[.slice (some ⟨b, 0, none⟩) xs.length cap] w (MadeO w (uvs xs)) := by
  have HX := Lib.hid hx
  have HU : Hid (∀ k, (uvs (xs.take k)).length ≤ 10000000) := by
    intro k
    have := uvs_le (xs.take k) fun y hy => hx y (List.mem_of_mem_take hy)
    simp at this
    omega
  have HR := Lib.hid hr
  clear hx hr
  go_enter Try.func46, Try.ntmps46
  go_wp2_with fail
  go_loopw [3, 8] (fun vo vi wr => ∃ (k : Nat) (p : Option Addr) (c : Nat), k ≤ xs.length ∧ vi = .int .i64 k ∧ vo = .slice p (uvs (xs.take k)).length c ∧ AccInv w (uvs (xs.take k)) (.slice p (uvs (xs.take k)).length c) wr) (fun _ vi _ => xs.length - (intOf vi).toNat)
  case atStart => exact ⟨0, none, 0, Nat.zero_le _, rfl, rfl, AccInv.start w⟩
  case round =>
    obtain ⟨k, p, c, hk, rfl, rfl, F, hown, hF, hb⟩ := hrel
    have HF := Lib.hid hF
    clear hF
    by_cases hlt : k < xs.length
    · obtain ⟨x, hxk⟩ : ∃ x, xs[k]? = some x := ⟨_, List.getElem?_eq_getElem hlt⟩
      have hcell : wr.cell? ⟨b, k, none⟩ = some (.int .i64 (x : Int)) := (HR.out.below hb) k _ (by simp [ints, hxk])
      have hxb : x ≤ 9223372036854775807 := HX.out x (List.mem_of_getElem? hxk)
      have hts := uvs_take_succ hxk
      have HT := Lib.hid hts
      have hu10 := uv_length_le 10 x (by omega) (by omega)
      have hl := HU.out k
      clear hts hxk
      obtain ⟨pre, hpre⟩ : ∃ pre, pre = uvs (xs.take k) := ⟨_, rfl⟩
      rw [← hpre] at hown hl
      have HP := Lib.hid hpre
      rw [← hpre]
      clear hpre
      go_wp2_with (first | (go_at_call 56; refine (prVar _ x (by omega)).mono ?_; rintro e w1 ⟨p1, c1, F1, rfl, h1, hF1, hb1⟩; have HF1 := Lib.hid hF1; clear hF1) | (at_builtin; refine append_made _ F pre (uv x) rfl _ _ _ rfl _ rfl (hown.keep hb1) _ rfl h1.bytes.srcB (by omega) w (fun j hj => ⟨(HF.out j hj).1, Nat.lt_of_lt_of_le (HF.out j hj).2 hb1.size⟩) (hb.trans (hb1.mono hb.size)) ?_; intro q2 c2 w2 F2 h2 hF2 hb2; have HF2 := Lib.hid hF2; clear hF2))
      go_roundw
      case rel =>
        have e : uvs (xs.take (k + 1)) = pre ++ uv x := by rw [HT.out, HP.out]
        exact ⟨k + 1, q2, c2, by omega, by go_num, by rw [e]; simp, by rw [e]; exact ⟨F2, by simpa using h2, HF2.out, hb2⟩⟩
      case measure => simp [intOf]; omega
    · obtain rfl : k = xs.length := by omega
      go_wp2_with fail
      go_ret
      rw [List.take_length] at hown
      simp only [List.take_length]
      exact ⟨p, c, F, rfl, hown, HF.out, hb⟩
end Go.Proofs.Ytlohpmncagfecaa
