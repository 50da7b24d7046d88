/- A list of values, or none, that came in. -/
import Derived.Test.YtemmhlibbihjmaaGreatOpenN
import Derived.Test.YtemmhlibbihjmaaGreatNulR
namespace Go.Proofs.YtemmhlibbihjmaaGreat
open Go.RowKit Go.Joins Go.ChangeShapes Go.WideShapes Go.Deep
set_option linter.unnecessarySimpa false
set_option linter.unusedVariables false

set_option maxRecDepth 100000 in
theorem open_mays {H : Type} {enc : TypeId × Value → H} {W : World} {base b0 : Nat} {spare : Nat → Bool} {held : Bool} {r : Reach} {v : Value} {d : DataW H} {p : List MemPlace} (hspare : ∀ b, spare b = true) (hv : Value.okWide Tryz.prog W r b0 23 v)
    (h : DataW.Trod enc Tryz.prog W base spare held 23 v d p) : ∃ ms, MayL W v ms ∧ ms.length ≤ maxLen ∧ ∀ m ∈ ms, m.2.size ≤ maxLen := by
  rcases open_structs Tryz.underlying23 Tryz.underlying52 (by kernel_rfl) (by kernel_rfl) hv hspare h with rfl | ⟨b, off, len, cap, rfl, hl, hm, hlt, each⟩
  · exact ⟨[], ⟨none, 0, rfl, Nat.zero_le _, fun h => absurd rfl h⟩, Nat.zero_le _, by simp⟩
  · have one : ∀ i, i < len → ∃ m : May, W.cell? ⟨b, off + i * 2, none⟩ = some (.bool m.1) ∧ W.cell? ⟨b, off + i * 2 + 1, none⟩ = some (.string m.2) ∧ m.2.size ≤ maxLen := fun i hil => by
      obtain ⟨cs, hcl, hat, hf⟩ := each i hil
      obtain ⟨c0, c1, rfl⟩ : ∃ c0 c1, cs = [c0, c1] := list2 (by rw [hcl]; kernel_rfl)
      obtain ⟨n0, y0, t0⟩ := hf 0 _ c0 rfl rfl
      obtain ⟨n1, y1, t1⟩ := hf 1 _ c1 rfl rfl
      obtain ⟨b0', h0, -⟩ := DataW.trod_bool Tryz.underlying4 t0
      obtain ⟨s1, h1, -, hs⟩ := DataW.trod_string Tryz.underlying9 t1
      obtain rfl := List.head_eq_of_cons_eq h0
      obtain rfl := List.head_eq_of_cons_eq h1
      have a0 := hat 0 _ rfl
      have a1 := hat 1 _ rfl
      exact ⟨(b0', s1), by simpa using a0, by simpa using a1, hs⟩
    obtain ⟨ms, hml, hms⟩ := list_of len one
    subst hml
    refine ⟨ms, ⟨some ⟨b, off, none⟩, cap, rfl, hl, fun _ => ⟨b, off, rfl, fun j x hj => ?_⟩⟩, by omega, fun m hm2 => ?_⟩
    · have hjl : j < ms.length * 2 := by rw [← mcells_length]; exact (List.getElem?_eq_some_iff.1 hj).1
      obtain ⟨k, hk⟩ : ∃ k, j = k * 2 ∨ j = k * 2 + 1 := ⟨j / 2, by omega⟩
      have hi : k < ms.length := by omega
      have hg := mcells_get ms k _ (List.getElem?_eq_getElem hi)
      have hc := hms k _ (List.getElem?_eq_getElem hi)
      rcases hk with rfl | rfl
      · rw [hg.1] at hj
        obtain rfl := Option.some.inj hj
        exact hc.1
      · rw [hg.2] at hj
        obtain rfl := Option.some.inj hj
        rw [← Nat.add_assoc]
        exact hc.2.1
    · obtain ⟨i, hi, rfl⟩ := List.getElem_of_mem hm2
      exact (hms i _ (List.getElem?_eq_getElem hi)).2.2
end Go.Proofs.YtemmhlibbihjmaaGreat
