/- A list of values that came in. -/
import Derived.Test.YtlohpmncagfecaaDoorOpenN
import Derived.Test.YtlohpmncagfecaaDoorPrims
namespace Go.Proofs.YtlohpmncagfecaaDoor
open Go.RowKit Go.Joins Go.ChangeShapes Go.WideShapes Go.Deep
set_option linter.unnecessarySimpa false
set_option linter.unusedVariables false

set_option maxRecDepth 100000 in
theorem open_prims {H : Type} {enc : TypeId × Value → H} {W : World} {base b0 : Nat} {spare : Nat → Bool} {held : Bool} {r : Reach} {v : Value} {d : DataW H} {p : List MemPlace} (hspare : ∀ b, spare b = true) (hv : Value.okWide Tryd.prog W r b0 22 v)
    (h : DataW.Trod enc Tryd.prog W base spare held 22 v d p) : ∃ xs, PrimsAt W W.heap.size v xs ∧ xs.length ≤ maxLen ∧ ∀ p n c, v = .slice p n c → c ≤ maxLen := by
  rcases open_structs Tryd.underlying22 Tryd.underlying28 (by kernel_rfl) (by kernel_rfl) hv hspare h with rfl | ⟨b, off, len, cap, rfl, hl, hm, hb, hi⟩
  · exact ⟨[], .inl ⟨rfl, rfl⟩, Nat.zero_le _, fun p n c h => by simp at h; omega⟩
  · have each : ∀ i, i < len → ∃ x, PrimAt W W.heap.size b (off + i * 4) x := fun i hil => by
      obtain ⟨cs, hcl, hcell, hf⟩ := hi i hil
      obtain ⟨c0, c1, c2, c3, rfl⟩ : ∃ c0 c1 c2 c3, cs = [c0, c1, c2, c3] := list4 hcl
      obtain ⟨n0, y0, t0⟩ := hf 0 _ c0 rfl rfl
      obtain ⟨n1, y1, t1⟩ := hf 1 _ c1 rfl rfl
      obtain ⟨n2, y2, t2⟩ := hf 2 _ c2 rfl rfl
      obtain ⟨n3, y3, t3⟩ := hf 3 _ c3 rfl rfl
      obtain ⟨z0, s0, -, w0⟩ := DataW.trod_int Tryd.underlying3 t0
      obtain ⟨z1, s1, -, w1⟩ := DataW.trod_int Tryd.underlying26 t1
      obtain ⟨z2, s2, -, w2⟩ := DataW.trod_int Tryd.underlying26 t2
      obtain ⟨bs, hbs, hlt, hlen⟩ := trod_bytesX hspare t3
      obtain rfl := List.head_eq_of_cons_eq s0
      obtain rfl := List.head_eq_of_cons_eq s1
      obtain rfl := List.head_eq_of_cons_eq s2
      have g1 : 0 ≤ z1 ∧ z1 ≤ 18446744073709551615 := by have h := w1; simp [Lit.wf, IntKind.min, IntKind.max, IntKind.signed, IntKind.bits] at h; omega
      have g2 : 0 ≤ z2 ∧ z2 ≤ 18446744073709551615 := by have h := w2; simp [Lit.wf, IntKind.min, IntKind.max, IntKind.signed, IntKind.bits] at h; omega
      obtain ⟨u, rfl⟩ := Int.eq_ofNat_of_zero_le g1.1
      obtain ⟨v, rfl⟩ := Int.eq_ofNat_of_zero_le g2.1
      exact ⟨⟨z0, u, v, bs⟩, c3, hcell 0 _ rfl, hcell 1 _ rfl, hcell 2 _ rfl, hcell 3 _ rfl, hbs, fun g hn => hlt hn g, by show u < _; omega, by show v < _; omega, by unfold maxLen at hlen; exact hlen⟩
    obtain ⟨xs, hxl, hx⟩ := list_of len each
    subst hxl
    exact ⟨xs, .inr ⟨b, off, cap, rfl, hl, hb, hx⟩, by omega, fun p n c h => by simp at h; omega⟩
end Go.Proofs.YtlohpmncagfecaaDoor
