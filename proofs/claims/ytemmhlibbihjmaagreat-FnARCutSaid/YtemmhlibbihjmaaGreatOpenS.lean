/- Lists of strings, and lists of these, that came in. -/
import Derived.Test.YtemmhlibbihjmaaGreatOpenN
import Derived.Test.YtemmhlibbihjmaaGreatLst
namespace Go.Proofs.YtemmhlibbihjmaaGreat
open Go.RowKit Go.Joins Go.ChangeShapes Go.WideShapes Go.Deep
set_option linter.unnecessarySimpa false
set_option linter.unusedVariables false

section
variable {H : Type} {enc : TypeId × Value → H} {W : World} {base : Nat} {spare : Nat → Bool} {held : Bool}
set_option maxRecDepth 100000 in
theorem trod_strL (hspare : ∀ b, spare b = true) {n : Nat} {c : Value} {y : DataW H × List MemPlace} (h : DataW.trod enc Tryz.prog W base spare held n 35 [c] = some y) : ∃ ss, StrL W c ss ∧ ss.length ≤ maxLen ∧ ∀ s ∈ ss, s.size ≤ maxLen := by
  rcases open_slice Tryz.underlying35 h with ⟨hcs, _⟩ | ⟨x, len, cap, m, n', D, Pl, hcs, _, hl, hm, hmm, _, hi⟩
  · obtain rfl : c = .slice none 0 0 := by simpa using hcs
    exact ⟨[], ⟨none, 0, rfl, Nat.zero_le _, fun h => absurd rfl h⟩, Nat.zero_le _, by simp⟩
  · obtain rfl : c = .slice (some x) len cap := by simpa using hcs
    rw [hspare, if_pos rfl] at hmm
    have hC : Tryz.prog.cellsOf 9 = 1 := by kernel_rfl
    have each : ∀ i, i < len → ∃ s : ByteArray, W.cell? (x.add i) = some (.string s) ∧ s.size ≤ maxLen := fun i hil => by
      obtain ⟨cs', hc, ht'⟩ := hi i (by omega)
      rw [hC, Nat.mul_one] at hc
      obtain ⟨_, hcl, hat⟩ := World.cells?_some hc
      obtain ⟨s, rfl, -, hs⟩ := DataW.trod_string Tryz.underlying9 ht'
      have h1 := hat 0 (by simp)
      refine ⟨s, ?_, hs⟩
      have e : (x.add i).add 0 = x.add i := by unfold Addr.add; split <;> simp_all
      rw [e] at h1
      simpa using h1
    obtain ⟨ss, hsl, hs⟩ := list_of len each
    subst hsl
    refine ⟨ss, ⟨some x, cap, rfl, hl, fun h0 => ?_⟩, by omega, fun s hss => ?_⟩
    · have h0' : 0 < ss.length := by
        rcases Nat.eq_zero_or_pos ss.length with h | h
        · exact absurd (by rw [List.length_eq_zero_iff.1 h]; rfl) h0
        · exact h
      obtain ⟨b, off, sp⟩ := x
      have h1 := (hs 0 _ (List.getElem?_eq_getElem h0')).1
      have hsp : sp = none := by simpa [Addr.add] using World.cell?_spot h1
      subst hsp
      refine ⟨b, off, rfl, fun j v hj => ?_⟩
      rw [List.getElem?_map] at hj
      obtain ⟨s, h2, rfl⟩ := Option.map_eq_some_iff.1 hj
      have := (hs j s h2).1
      rw [addr_add] at this
      exact this
    · obtain ⟨i, hi2, rfl⟩ := List.getElem_of_mem hss
      exact (hs i _ (List.getElem?_eq_getElem hi2)).2

set_option maxRecDepth 100000 in
theorem open_strss {b0 : Nat} {r : Reach} {v : Value} {d : DataW H} {p : List MemPlace} (hspare : ∀ b, spare b = true) (hv : Value.okWide Tryz.prog W r b0 22 v)
    (h : DataW.Trod enc Tryz.prog W base spare held 22 v d p) : ∃ ll, LstL W v ll ∧ ll.length ≤ maxLen ∧ ∀ ss ∈ ll, ss.length ≤ maxLen ∧ ∀ s ∈ ss, s.size ≤ maxLen := by
  obtain ⟨a, len, cap, rfl⟩ := okWide_slice Tryz.underlying22 hv
  obtain ⟨fuel, hf⟩ := h
  rcases open_slice Tryz.underlying22 hf with ⟨hcs, _⟩ | ⟨x, l, c, m, n, D, Pl, hcs, _, hl, hm, hmm, _, hi⟩
  · simp only [Value.cells, List.cons.injEq, Value.slice.injEq, and_true] at hcs
    obtain ⟨rfl, rfl, rfl⟩ := hcs
    exact ⟨[], ⟨[], rfl, ⟨none, 0, rfl, Nat.zero_le _, fun h => absurd rfl h⟩, fun i x s h => by simp at h⟩, Nat.zero_le _, by simp⟩
  · simp only [Value.cells, List.cons.injEq, Value.slice.injEq, and_true] at hcs
    obtain ⟨rfl, rfl, rfl⟩ := hcs
    obtain ⟨hsp, hlt⟩ := slice_has Tryz.underlying22 hv
    obtain ⟨b, off, sp⟩ := x
    simp only at hsp hlt
    subst hsp
    rw [hspare, if_pos rfl] at hmm
    have hC : Tryz.prog.cellsOf 35 = 1 := by kernel_rfl
    have each : ∀ i, i < len → ∃ y : Value × List ByteArray, W.cell? ⟨b, off + i, none⟩ = some y.1 ∧ StrL W y.1 y.2 ∧ y.2.length ≤ maxLen ∧ ∀ s ∈ y.2, s.size ≤ maxLen := fun i hil => by
      obtain ⟨cs', hc, ht'⟩ := hi i (by omega)
      rw [hC, addr_add] at hc
      obtain ⟨_, hcl, hat⟩ := World.cells?_some hc
      obtain ⟨c0, rfl⟩ : ∃ c0, cs' = [c0] := list1 hcl
      have h1 := hat 0 (by omega)
      rw [addr_add] at h1
      obtain ⟨ss, hss, h2, h3⟩ := trod_strL hspare ht'
      exact ⟨(c0, ss), by simpa using h1, hss, h2, h3⟩
    obtain ⟨ys, hyl, hy⟩ := list_of len each
    subst hyl
    refine ⟨ys.map (·.2), ⟨ys.map (·.1), by simp, ⟨some ⟨b, off, none⟩, cap, by simp, by simpa using hl, fun _ => ⟨b, off, rfl, fun j x hj => ?_⟩⟩, fun i x s hx hs => ?_⟩, by simp; omega, fun s hs => ?_⟩
    · rw [List.getElem?_map] at hj
      obtain ⟨y, h1, rfl⟩ := Option.map_eq_some_iff.1 hj
      exact (hy j y h1).1
    · rw [List.getElem?_map] at hx hs
      obtain ⟨y, h1, rfl⟩ := Option.map_eq_some_iff.1 hx
      rw [h1] at hs
      obtain rfl : y.2 = s := by simpa using hs
      exact (hy i y h1).2.1
    · obtain ⟨y, h1, rfl⟩ := List.mem_map.1 hs
      obtain ⟨i, hi, rfl⟩ := List.getElem_of_mem h1
      exact (hy i _ (List.getElem?_eq_getElem hi)).2.2
end
end Go.Proofs.YtemmhlibbihjmaaGreat
