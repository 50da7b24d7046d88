/- How nested arguments of a law are read: bytes within other data, slices of structs, slices of one-cell elements. -/
import Derived.Test.YtgnkinhjfcbdbaaDoorOpen
import Derived.Test.YtgnkinhjfcbdbaaDoorBx
import Derived.Deep.Slices
namespace Go.Proofs.YtgnkinhjfcbdbaaDoor
open Go.RowKit Go.Joins Go.ChangeShapes Go.WideShapes Go.Deep
set_option linter.unnecessarySimpa false
set_option linter.unusedVariables false

theorem addr_add (b off j : Nat) : (⟨b, off, none⟩ : Addr).add j = ⟨b, off + j, none⟩ := by unfold Addr.add; split <;> simp_all

section
variable {H : Type} {enc : TypeId × Value → H} {W : World} {base : Nat} {spare : Nat → Bool} {held : Bool}

set_option maxRecDepth 100000 in
theorem trod_bytesX (hspare : ∀ b, spare b = true) {n : Nat} {c : Value} {y : DataW H × List MemPlace} (h : DataW.trod enc Tryd.prog W base spare held n 25 [c] = some y) :
    ∃ bs, BytesX W c bs ∧ (bs ≠ [] → ∀ g, c.ownBlock = some g → g < W.heap.size) ∧ bs.length ≤ maxLen := by
  rcases open_ints Tryd.underlying25 Tryd.underlying5 (by kernel_rfl) h with ⟨hcs, _⟩ | ⟨x, len, cap, zs, hcs, _, hl, hm, hz, _, hcell, hwz⟩
  · obtain rfl : c = .slice none 0 0 := by simpa using hcs
    exact ⟨[], .inl (.inl ⟨rfl, rfl⟩), fun h => absurd rfl h, Nat.zero_le _⟩
  · obtain rfl : c = .slice (some x) len cap := by simpa using hcs
    have hzl : len ≤ zs.length := by rw [hz]; split <;> omega
    have hbl : ((zs.take len).map fun z => UInt8.ofNat z.toNat).length = len := by simp; omega
    by_cases h0 : zs.length = 0
    · have hl0 : len = 0 := by omega
      subst hl0
      obtain ⟨b, off, sp⟩ := x
      cases sp with
      | none => exact ⟨[], .inl (.inr ⟨b, off, cap, rfl, Nat.zero_le _, fun j hj => by simp at hj⟩), fun h => absurd rfl h, Nat.zero_le _⟩
      | some s =>
        by_cases hc0 : cap = 0
        · subst hc0
          exact ⟨[], .inr ⟨rfl, _, rfl⟩, fun h => absurd rfl h, Nat.zero_le _⟩
        · rw [hspare, if_pos rfl] at hz; omega
    · have h1 := hcell 0 (by omega)
      obtain ⟨b, off, sp⟩ := x
      have hsp : sp = none := by simpa [Addr.add] using World.cell?_spot h1
      subst hsp
      have hlt : b < W.heap.size := by
        have := World.block_lt_of_cell? _ _ h1
        simpa [Addr.add] using this
      refine ⟨(zs.take len).map fun z => UInt8.ofNat z.toNat, .inl (.inr ⟨b, off, cap, by rw [hbl], by rw [hbl]; exact hl, fun j hj => ?_⟩), fun _ g hg => by simp [Value.ownBlock] at hg; omega, by rw [hbl]; omega⟩
      rw [hbl] at hj
      have h1 := hcell j (by omega)
      rw [addr_add] at h1
      have hjz : j < zs.length := by omega
      have hw := hwz zs[j] (List.getElem_mem hjz)
      have hb : 0 ≤ zs[j] ∧ zs[j] ≤ 255 := by simp [Lit.wf, IntKind.min, IntKind.max, IntKind.signed, IntKind.bits] at hw; omega
      rw [h1]
      simp only [List.getD, List.getElem?_eq_getElem hjz, Option.getD_some, List.getElem_map, List.getElem_take]
      congr 2
      simp
      omega

set_option maxRecDepth 100000 in
/-- A slice of structs of one-cell fields. -/
theorem open_structs {r : Reach} {b0 : Nat} {T E : TypeId} {fs : Array Field} {v : Value} {d : DataW H} {p : List MemPlace} (ht : Tryd.prog.underlying T = some (.slice E)) (he : Tryd.prog.underlying E = some (.struct fs)) (hone : oneCellFields Tryd.prog fs = true)
    (hC : Tryd.prog.cellsOf E = fs.size) (hv : Value.okWide Tryd.prog W r b0 T v) (hspare : ∀ b, spare b = true) (h : DataW.Trod enc Tryd.prog W base spare held T v d p) :
    v = .slice none 0 0 ∨ ∃ b off len cap, v = .slice (some ⟨b, off, none⟩) len cap ∧ len ≤ cap ∧ cap ≤ maxLen ∧ b < W.heap.size ∧ ∀ i, i < len → ∃ cs : List Value, cs.length = fs.size ∧
      (∀ (j : Nat) (c : Value), cs[j]? = some c → W.cell? ⟨b, off + i * fs.size + j, none⟩ = some c) ∧ ∀ (j : Nat) (f : Field) (c : Value), fs[j]? = some f → cs[j]? = some c → ∃ n y, DataW.trod enc Tryd.prog W base spare held n f.type [c] = some y := by
  obtain ⟨a, len, cap, rfl⟩ := okWide_slice ht hv
  obtain ⟨fuel, hf⟩ := h
  rcases open_slice ht hf with ⟨hcs, _⟩ | ⟨x, l, c, m, n, D, Pl, hcs, _, hl, hm, hmm, _, hi⟩
  · simp only [Value.cells, List.cons.injEq, Value.slice.injEq, and_true] at hcs
    obtain ⟨rfl, rfl, rfl⟩ := hcs
    exact .inl rfl
  · simp only [Value.cells, List.cons.injEq, Value.slice.injEq, and_true] at hcs
    obtain ⟨rfl, rfl, rfl⟩ := hcs
    obtain ⟨hsp, hlt⟩ := slice_has ht hv
    obtain ⟨b, off, sp⟩ := x
    simp only at hsp hlt
    subst hsp
    rw [hspare, if_pos rfl] at hmm
    refine .inr ⟨b, off, len, cap, rfl, hl, hm, hlt, fun i hil => ?_⟩
    obtain ⟨cs', hc, ht'⟩ := hi i (by omega)
    rw [hC, addr_add] at hc
    obtain ⟨ys, n', _, hy, hcl0, hyl, hfl⟩ := DataW.trod_struct he ht'
    obtain ⟨_, hcl, hat⟩ := World.cells?_some hc
    refine ⟨cs', hcl, fun j c hj => ?_, fun j f c hj hjc => ?_⟩
    · have hjl := (List.getElem?_eq_some_iff.1 hj).1
      have h1 := hat j (by omega)
      rw [addr_add, hj] at h1
      exact h1
    · obtain ⟨ho, hk⟩ := hone_of hone j f hj
      have h1 := hfl j f hj
      rw [ho, hk] at h1
      have hone' : (cs'.drop j).take 1 = [c] := by
        obtain ⟨hjj, rfl⟩ := List.getElem?_eq_some_iff.1 hjc
        rw [List.drop_eq_getElem_cons hjj]
        rfl
      rw [hone'] at h1
      have hys : ys[j]? = some (ys[j]'(by have := (Array.getElem?_eq_some_iff.1 hj).1; omega)) := List.getElem?_eq_getElem _
      exact ⟨_, _, h1.trans hys⟩

/-- A list made of what there is at each place. -/
theorem list_of {α : Type} {P : Nat → α → Prop} (n : Nat) (h : ∀ i, i < n → ∃ x, P i x) : ∃ xs : List α, xs.length = n ∧ ∀ i x, xs[i]? = some x → P i x := by
  induction n with
  | zero => exact ⟨[], rfl, fun i x hx => by simp at hx⟩
  | succ n ih =>
    obtain ⟨xs, hl, hx⟩ := ih fun i hi => h i (by omega)
    obtain ⟨y, hy⟩ := h n (by omega)
    refine ⟨xs ++ [y], by simp [hl], fun i x hi => ?_⟩
    by_cases hin : i < n
    · rw [List.getElem?_append_left (by omega)] at hi
      exact hx i x hi
    · have hi2 := (List.getElem?_eq_some_iff.1 hi).1
      simp at hi2
      obtain rfl : i = n := by omega
      rw [← hl] at hi
      simp at hi
      exact hi ▸ hy
end
end Go.Proofs.YtgnkinhjfcbdbaaDoor
