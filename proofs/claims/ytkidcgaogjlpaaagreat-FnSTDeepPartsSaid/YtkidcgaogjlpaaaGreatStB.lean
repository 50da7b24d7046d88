/- What the laws on columns of strings begin with. -/
import Derived.Test.YtkidcgaogjlpaaaGreatStK
import Derived.Test.YtkidcgaogjlpaaaGreatOpenL
import Derived.Test.YtkidcgaogjlpaaaGreatSJoin
import Derived.Deep.RegionHeld3
namespace Go.Proofs.YtkidcgaogjlpaaaGreat
open Go.RowKit
set_option linter.unusedVariables false
set_option linter.unusedSimpArgs false

/-- What the laws' first steps give. -/
structure Begun (K S : Nat) (N : Option Nat) : Prop where
  n : N = kN K S
  k : K < 12
  le : ∀ n, N = some n → n ≤ 512
  kinds : ∃ t v C, Makes (.agg #[.int .i64 K, .int .i64 S]) t v C ∧ ∀ w, Texts t (v w) (encK N) (goodK N) (C w)
theorem begun (k s : Nat) : Begun (k % 12) (stS k s) (kN (k % 12) (stS k s)) :=
  ⟨rfl, by omega, fun n h => (kN_le _ _ (by omega) (stS_le k s).1 n h).1, kinds _ _ (by omega) (stS_le k s).2⟩
theorem Begun.enc {K S : Nat} {N : Option Nat} (h : Begun K S N) (w : World) (lv : Value) (l : List (List UInt8)) (hl : ListAt w lv l) (hg : ∀ s ∈ l, goodK N s) (hs : Small l) : Calls Tryz.prog 17 #[.agg #[.int .i64 K, .int .i64 S], lv] w (Made w (encK N l)) := by
  obtain ⟨t, v, C, h1, h2⟩ := h.kinds
  exact stEncode w K S t v _ _ C h1 h2 lv l hl hg hs
theorem Begun.dec {K S : Nat} {N : Option Nat} (h : Begun K S N) (w : World) (dv : Value) (bs tail : List UInt8) (l : List (List UInt8)) (ok : Bool) (hd : BytesAt w dv bs) (hD : ∀ g, dv.ownBlock = some g → g < w.heap.size) (hr : RestE (encK N) ok l tail bs) (hg : ∀ s ∈ l, goodK N s) (hs : Small l) (hbig : bs.length ≤ 1000000000) :
    Calls Tryz.prog 19 #[.agg #[.int .i64 K, .int .i64 S], dv, .int .i64 l.length] w (Decoded w ok l tail) := by
  obtain ⟨t, v, C, h1, h2⟩ := h.kinds
  exact stDecode w K S t v _ _ C h1 h2 dv bs tail l ok hd hD hr hg hs hbig
theorem Begun.bytes {K S : Nat} {N : Option Nat} (h : Begun K S N) (w : World) (lv : Value) (l : List (List UInt8)) (hl : ListAt w lv l) (hs : Small l) : Calls Tryz.prog 18 #[.agg #[.int .i64 K, .int .i64 S], lv] w (MadeO w (encK N l)) := by
  rw [h.n]
  exact stBytesV w K S h.k lv l hl hs
theorem Begun.some {K S : Nat} {N : Option Nat} (h : Begun K S N) (w : World) (v : Value) (l : List (List UInt8)) (hv : ListAt w v l) (hl : l.length ≤ 140737488355328) : Calls Tryz.prog 16 #[.agg #[.int .i64 K, .int .i64 S], v] w fun e w' => ∃ x, e = .returned x ∧ ListAt w' x (someK N l) ∧ Below w.heap.size w w' := by
  rw [h.n]
  exact stSomeV w K S h.k (by rw [← h.n]; exact h.le) v l hv hl
theorem madeO_conv {w w' : World} {bs : List UInt8} {e : Ending} (h : MadeO w bs e w') : ∃ p c, e = .returned (.slice p bs.length c) ∧ BytesAt w' (.slice p bs.length c) bs ∧ Below w.heap.size w w' ∧ ∀ g, (Value.slice p bs.length c).ownBlock = some g → w.heap.size ≤ g ∧ g < w'.heap.size := by
  obtain ⟨p, c, F, rfl, h1, h2, h3⟩ := h
  exact ⟨p, c, rfl, h1.bytes, h3, fun g hg => h2 g (h1.2 g hg)⟩
theorem made_conv {w w' : World} {bs : List UInt8} {e : Ending} (h : Made w bs e w') : ∃ p c, e = .returned (.slice p bs.length c) ∧ BytesAt w' (.slice p bs.length c) bs ∧ Below w.heap.size w w' ∧ ∀ g, (Value.slice p bs.length c).ownBlock = some g → w.heap.size ≤ g ∧ g < w'.heap.size := by
  obtain ⟨hb, v, rfl, h1, h2⟩ := h
  obtain ⟨p, c, rfl⟩ := h1.slice
  exact ⟨p, c, rfl, h1, hb, h2⟩

theorem srcs_two {w : World} {v1 v2 : Value} {a b : List UInt8} (h1 : BytesAt w v1 a) (h2 : BytesAt w v2 b) (T : TypeId) : SrcsAt (w.alloc (.cells #[v1, v2] T)) w.heap.size [a, b] := by
  have hb : Below w.heap.size w (w.alloc (.cells #[v1, v2] T)) := (Below.refl _ w).alloc (Nat.le_refl _) _
  have hh := heap_alloc_new w (.cells #[v1, v2] T)
  intro k bs hk
  match k, hk with
  | 0, hk => obtain rfl : a = bs := by simpa using hk
             exact ⟨v1, by unfold World.cell?; simp only [hh]; rfl, h1.below hb⟩
  | 1, hk => obtain rfl : b = bs := by simpa using hk
             exact ⟨v2, by unfold World.cell?; simp only [hh]; rfl, h2.below hb⟩
/-- Two byte strings, joined. -/
theorem join_two (w : World) (v1 v2 : Value) (a b : List UInt8) (h1 : BytesAt w v1 a) (h2 : BytesAt w v2 b) (hl : a.length + b.length ≤ 1000000000) :
    Calls Tryz.prog 21 #[.slice (some ⟨w.heap.size, 0, none⟩) 2 2] (w.alloc (.cells #[v1, v2] 34)) fun e w' => MadeO (w.alloc (.cells #[v1, v2] 34)) (a ++ b) e w' := by
  have h := stJoin (w.alloc (.cells #[v1, v2] 34)) w.heap.size 2 [a, b] (srcs_two h1 h2 _) (by simp) (by simpa using hl)
  have e : [a, b].flatten = a ++ b := by simp
  rw [e] at h
  exact h
theorem stKN_pos (k s : Nat) : ∀ n, kN (k % 12) (stS k s) = some n → 0 < n := by
  intro n h
  unfold kN stS at h
  split at h
  · cases h
  · split at h
    · rename_i h4
      have h2 : 1 + s % 40 = n := by simpa [h4] using h
      omega
    · cases h
      have := Nat.two_pow_pos (k % 12 - 5)
      omega
theorem encK_pos (N : Option Nat) (hN : ∀ n, N = some n → 0 < n) (l : List (List UInt8)) (hg : ∀ s ∈ l, goodK N s) (h0 : 0 < l.length) : 0 < (encK N l).length := by
  cases l with
  | nil => simp at h0
  | cons s l =>
    cases N with
    | none =>
      have h := uv_length_pos s.length
      have e : encK none (s :: l) = (uv s.length ++ s) ++ encK none l := rfl
      rw [e, List.length_append, List.length_append]
      omega
    | some n =>
      have h1 : s.length = n := hg s List.mem_cons_self
      have h2 := hN n rfl
      show 0 < (s :: l).flatten.length
      rw [List.flatten_cons, List.length_append]
      omega
theorem short_cut {E : List UInt8} {m : Nat} (h : m < E.length) : Short (E.take m) E :=
  ⟨E.drop m, by intro e; have := congrArg List.length e; simp at this; omega, (List.take_append_drop m E).symm⟩
theorem bytes_cut {w : World} {p : Option Addr} {c : Nat} {b : List UInt8} (h : BytesAt w (.slice p b.length c) b) (m : Nat) (hm : m ≤ b.length) : BytesAt w (.slice p m c) (b.take m) := by
  rcases h with ⟨h1, rfl⟩ | ⟨g, off, cap, h1, hc, hx⟩
  · obtain rfl : m = 0 := by simpa using hm
    exact .inl ⟨h1, by simp⟩
  · obtain ⟨rfl, -, rfl⟩ : p = some ⟨g, off, none⟩ ∧ b.length = b.length ∧ c = cap := by simpa using h1
    exact .inr ⟨g, off, c, by simp [Nat.min_eq_left hm], by simp; omega, fun j hj => by
      have hj2 : j < b.length := by simp at hj; omega
      rw [hx j hj2]; simp⟩
theorem bytes_cap {w : World} {p : Option Addr} {c : Nat} {b : List UInt8} (h : BytesAt w (.slice p b.length c) b) : b.length ≤ c := by
  rcases h with ⟨h1, rfl⟩ | ⟨g, off, cap, h1, hc, hx⟩
  · simp
  · obtain ⟨-, -, rfl⟩ : p = some ⟨g, off, none⟩ ∧ b.length = b.length ∧ c = cap := by simpa using h1
    exact hc
/-- A variable of two cells, new, filled. -/
theorem filled_below (w : World) (a b c d : Value) (T : TypeId) : Below w.heap.size w (((w.alloc (.cells #[a, b] T)).setCell ⟨w.heap.size, 0, none⟩ c).setCell ⟨w.heap.size, 1, none⟩ d) :=
  Chg.below (F := fun k => k = w.heap.size) ((((Chg.refl _ w).alloc _).setCell (p := ⟨w.heap.size, 0, none⟩) (.inr (Nat.le_refl _)) _).setCell (p := ⟨w.heap.size, 1, none⟩) (.inr (Nat.le_refl _)) _) (Nat.le_refl _) (fun k hk => by omega)
end Go.Proofs.YtkidcgaogjlpaaaGreat
