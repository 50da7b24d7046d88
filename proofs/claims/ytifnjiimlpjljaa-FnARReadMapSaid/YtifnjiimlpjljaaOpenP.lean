/- Lists of lists of pairs that came in. -/
import Derived.Test.YtifnjiimlpjljaaOpenN
import Derived.Test.YtifnjiimlpjljaaPrs
namespace Go.Proofs.Ytifnjiimlpjljaa
open Go.RowKit Go.Joins Go.ChangeShapes Go.WideShapes Go.Deep
set_option linter.unnecessarySimpa false
set_option linter.unusedVariables false

section
variable {H : Type} {enc : TypeId × Value → H} {W : World} {base : Nat} {spare : Nat → Bool} {held : Bool}
theorem hone_pair : ∃ fs, Try.prog.underlying 56 = some (.struct fs) ∧ fs.size = 2 ∧ oneCellFields Try.prog fs = true ∧ (∃ f0 f1, fs[0]? = some f0 ∧ fs[1]? = some f1 ∧ f0.type = 9 ∧ f1.type = 9) := ⟨_, Try.underlying56, by kernel_rfl, by kernel_rfl, _, _, rfl, rfl, rfl, rfl⟩

set_option maxRecDepth 100000 in
theorem trod_pairL (hspare : ∀ b, spare b = true) {n : Nat} {c : Value} {y : DataW H × List MemPlace} (h : DataW.trod enc Try.prog W base spare held n 87 [c] = some y) : ∃ ps, PairL W c ps ∧ ps.length ≤ maxLen ∧ ∀ m ∈ ps, m.1.size ≤ maxLen ∧ m.2.size ≤ maxLen := by
  rcases open_slice Try.underlying87 h with ⟨hcs, _⟩ | ⟨x, len, cap, m, n', D, Pl, hcs, _, hl, hm, hmm, _, hi⟩
  · obtain rfl : c = .slice none 0 0 := by simpa using hcs
    exact ⟨[], ⟨none, 0, rfl, Nat.zero_le _, fun h => absurd rfl h⟩, Nat.zero_le _, by simp⟩
  · obtain rfl : c = .slice (some x) len cap := by simpa using hcs
    rw [hspare, if_pos rfl] at hmm
    have hC : Try.prog.cellsOf 56 = 2 := by kernel_rfl
    obtain ⟨fs, hfs, hfn, hone, f0, f1, hf0, hf1, ht0, ht1⟩ := hone_pair
    have each : ∀ i, i < len → ∃ m : Pr, W.cell? (x.add (i * 2)) = some (.string m.1) ∧ W.cell? ((x.add (i * 2)).add 1) = some (.string m.2) ∧ m.1.size ≤ maxLen ∧ m.2.size ≤ maxLen := fun i hil => by
      obtain ⟨cs', hc, ht'⟩ := hi i (by omega)
      rw [hC] at hc
      obtain ⟨ys, k', _, hy, hcl0, hyl, hfl⟩ := DataW.trod_struct hfs ht'
      obtain ⟨_, hcl, hat⟩ := World.cells?_some hc
      obtain ⟨c0, c1, rfl⟩ : ∃ c0 c1, cs' = [c0, c1] := list2 hcl
      have g0 := hfl 0 f0 hf0
      have g1 := hfl 1 f1 hf1
      obtain ⟨o0, k0⟩ := hone_of hone 0 f0 hf0
      obtain ⟨o1, k1⟩ := hone_of hone 1 f1 hf1
      rw [o0, k0, ht0] at g0
      rw [o1, k1, ht1] at g1
      have e0 : ys[0]? = some (ys[0]'(by rw [hyl, hfn]; omega)) := List.getElem?_eq_getElem _
      have e1 : ys[1]? = some (ys[1]'(by rw [hyl, hfn]; omega)) := List.getElem?_eq_getElem _
      obtain ⟨s0, h0, -, z0⟩ := DataW.trod_string Try.underlying9 (g0.trans e0)
      obtain ⟨s1, h1, -, z1⟩ := DataW.trod_string Try.underlying9 (g1.trans e1)
      obtain rfl : c0 = .string s0 := by simpa using h0
      obtain rfl : c1 = .string s1 := by simpa using h1
      have a0 := hat 0 (by simp)
      have a1 := hat 1 (by simp)
      have e : (x.add (i * 2)).add 0 = x.add (i * 2) := by unfold Addr.add; split <;> simp_all
      rw [e] at a0
      exact ⟨(s0, s1), by simpa using a0, by simpa using a1, z0, z1⟩
    obtain ⟨ps, hsl, hs⟩ := list_of len each
    subst hsl
    refine ⟨ps, ⟨some x, cap, rfl, hl, fun h0 => ?_⟩, by omega, fun s hss => ?_⟩
    · have h0' : 0 < ps.length := by
        rcases Nat.eq_zero_or_pos ps.length with h | h
        · exact absurd (by rw [List.length_eq_zero_iff.1 h]; rfl) h0
        · exact h
      obtain ⟨b, off, sp⟩ := x
      have h1 := (hs 0 _ (List.getElem?_eq_getElem h0')).1
      have hsp : sp = none := by simpa [Addr.add] using World.cell?_spot h1
      subst hsp
      refine ⟨b, off, rfl, fun j v hj => ?_⟩
      have hjl : j < ps.length * 2 := by rw [← pcells_length]; exact (List.getElem?_eq_some_iff.1 hj).1
      obtain ⟨k, hk⟩ : ∃ k, j = k * 2 ∨ j = k * 2 + 1 := ⟨j / 2, by omega⟩
      have hi2 : k < ps.length := by omega
      have hg := pcells_get ps k _ (List.getElem?_eq_getElem hi2)
      have hc := hs k _ (List.getElem?_eq_getElem hi2)
      rcases hk with rfl | rfl
      · rw [hg.1] at hj
        obtain rfl := Option.some.inj hj
        have := hc.1
        rw [addr_add] at this
        exact this
      · rw [hg.2] at hj
        obtain rfl := Option.some.inj hj
        have := hc.2.1
        rw [addr_add, addr_add] at this
        rw [← Nat.add_assoc]
        exact this
    · obtain ⟨i, hi2, rfl⟩ := List.getElem_of_mem hss
      exact (hs i _ (List.getElem?_eq_getElem hi2)).2.2

set_option maxRecDepth 100000 in
theorem open_pairss {b0 : Nat} {r : Reach} {v : Value} {d : DataW H} {p : List MemPlace} (hspare : ∀ b, spare b = true) (hv : Value.okWide Try.prog W r b0 48 v)
    (h : DataW.Trod enc Try.prog W base spare held 48 v d p) : ∃ ll, LstP W v ll ∧ ll.length ≤ maxLen ∧ ∀ ss ∈ ll, ss.length ≤ maxLen ∧ ∀ m ∈ ss, m.1.size ≤ maxLen ∧ m.2.size ≤ maxLen := by
  obtain ⟨a, len, cap, rfl⟩ := okWide_slice Try.underlying48 hv
  obtain ⟨fuel, hf⟩ := h
  rcases open_slice Try.underlying48 hf with ⟨hcs, _⟩ | ⟨x, l, c, m, n, D, Pl, hcs, _, hl, hm, hmm, _, hi⟩
  · simp only [Value.cells, List.cons.injEq, Value.slice.injEq, and_true] at hcs
    obtain ⟨rfl, rfl, rfl⟩ := hcs
    exact ⟨[], ⟨[], rfl, ⟨none, 0, rfl, Nat.zero_le _, fun h => absurd rfl h⟩, fun i x s h => by simp at h⟩, Nat.zero_le _, by simp⟩
  · simp only [Value.cells, List.cons.injEq, Value.slice.injEq, and_true] at hcs
    obtain ⟨rfl, rfl, rfl⟩ := hcs
    obtain ⟨hsp, hlt⟩ := slice_has Try.underlying48 hv
    obtain ⟨b, off, sp⟩ := x
    simp only at hsp hlt
    subst hsp
    rw [hspare, if_pos rfl] at hmm
    have hC : Try.prog.cellsOf 87 = 1 := by kernel_rfl
    have each : ∀ i, i < len → ∃ y : Value × List Pr, W.cell? ⟨b, off + i, none⟩ = some y.1 ∧ PairL W y.1 y.2 ∧ y.2.length ≤ maxLen ∧ ∀ m ∈ y.2, m.1.size ≤ maxLen ∧ m.2.size ≤ maxLen := fun i hil => by
      obtain ⟨cs', hc, ht'⟩ := hi i (by omega)
      rw [hC, addr_add] at hc
      obtain ⟨_, hcl, hat⟩ := World.cells?_some hc
      obtain ⟨c0, rfl⟩ : ∃ c0, cs' = [c0] := list1 hcl
      have h1 := hat 0 (by omega)
      rw [addr_add] at h1
      obtain ⟨ss, hss, h2, h3⟩ := trod_pairL hspare ht'
      exact ⟨(c0, ss), by simpa using h1, hss, h2, h3⟩
    obtain ⟨ys, hyl, hy⟩ := list_of len each
    subst hyl
    refine ⟨ys.map (·.2), ⟨ys.map (·.1), by simp, ⟨some ⟨b, off, none⟩, cap, by simp, by simpa using hl, fun _ => ⟨b, off, rfl, fun j x hj => ?_⟩⟩, fun i x s hx hs => ?_⟩, by simp; omega, fun s hs => ?_⟩
    · rw [List.getElem?_map] at hj
      obtain ⟨y, h1, rfl⟩ := Option.map_eq_some_iff.1 hj
      exact (hy j y h1).1
    · rw [List.getElem?_map] at hx hs
      obtain ⟨y, h1, rfl⟩ := Option.map_eq_some_iff.1 hx
      rw [h1] at hs
      obtain rfl : y.2 = s := by simpa using hs
      exact (hy i y h1).2.1
    · obtain ⟨y, h1, rfl⟩ := List.mem_map.1 hs
      obtain ⟨i, hi, rfl⟩ := List.getElem_of_mem h1
      exact (hy i _ (List.getElem?_eq_getElem hi)).2.2
end
end Go.Proofs.Ytifnjiimlpjljaa
