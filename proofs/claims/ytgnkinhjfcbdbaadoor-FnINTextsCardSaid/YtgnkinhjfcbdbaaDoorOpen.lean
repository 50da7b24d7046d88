/- How the arguments of a law are read. -/
import Derived.Test.YtgnkinhjfcbdbaaDoorBytes
import Derived.ProofKit
import Derived.OpenShut
import Derived.ShutString
import Derived.ChangeOld
import Derived.SizedLaws
import Derived.Carry
import Derived.Lib.SmallJoins
namespace Go.Proofs.YtgnkinhjfcbdbaaDoor
open Go.RowKit Go.Joins Go.ChangeShapes Go.WideShapes Go.Deep

section
variable {H : Type} {enc : TypeId × Value → H} {P : Program} {w : World} {base : Nat} {spare : Nat → Bool} {held : Bool}
theorem open_agg {r : Reach} {b0 : Nat} {t : TypeId} {fs : Array Field} {v : Value} {d : DataW H} {p : List MemPlace} (hs : P.underlying t = some (.struct fs)) (hone : oneCellFields P fs = true) (hC : P.cellsOf t = fs.size)
    (hv : Value.okWide P w r b0 t v) (h : DataW.Trod enc P w base spare held t v d p) :
    ∃ (cs : List Value) (n : Nat), v = .agg cs.toArray ∧ cs.length = fs.size ∧ ∀ (j : Nat) (f : Field) (c : Value), fs[j]? = some f → cs[j]? = some c → ∃ y, DataW.trod enc P w base spare held n f.type [c] = some y := by
  obtain ⟨cs, rfl, hsz⟩ := okWide_struct hs hv
  obtain ⟨l⟩ := cs
  obtain ⟨fuel, hf⟩ := h
  obtain ⟨xs, n, _, hx, _, hlen, hg⟩ := DataW.trod_struct hs hf
  refine ⟨l, n, rfl, by simpa using hsz.trans hC, fun j f c hj hc => ?_⟩
  obtain ⟨ho, hk⟩ := hone_of hone j f hj
  have hjl : j < fs.size := (Array.getElem?_eq_some_iff.1 hj).1
  have hl : l.length = fs.size := by simpa using hsz.trans hC
  have h1 := hg j f hj
  rw [ho, hk] at h1
  have hone' : ((Value.agg l.toArray).cells.toList.drop j).take 1 = [c] := by
    obtain ⟨hjj, rfl⟩ := List.getElem?_eq_some_iff.1 hc
    simp only [Value.cells]
    rw [List.drop_eq_getElem_cons (by simpa using hjj)]
    rfl
  rw [hone'] at h1
  have hys : xs[j]? = some (xs[j]'(by omega)) := List.getElem?_eq_getElem (by omega)
  exact ⟨_, h1.trans hys⟩
end

theorem list1 {α : Type} {l : List α} (h : l.length = 1) : ∃ a0, l = [a0] := by
  match l, h with
  | [a0], _ => exact ⟨a0, rfl⟩
theorem list2 {α : Type} {l : List α} (h : l.length = 2) : ∃ a0 a1, l = [a0, a1] := by
  match l, h with
  | [a0, a1], _ => exact ⟨a0, a1, rfl⟩
theorem list3 {α : Type} {l : List α} (h : l.length = 3) : ∃ a0 a1 a2, l = [a0, a1, a2] := by
  match l, h with
  | [a0, a1, a2], _ => exact ⟨a0, a1, a2, rfl⟩
theorem list4 {α : Type} {l : List α} (h : l.length = 4) : ∃ a0 a1 a2 a3, l = [a0, a1, a2, a3] := by
  match l, h with
  | [a0, a1, a2, a3], _ => exact ⟨a0, a1, a2, a3, rfl⟩
theorem list5 {α : Type} {l : List α} (h : l.length = 5) : ∃ a0 a1 a2 a3 a4, l = [a0, a1, a2, a3, a4] := by
  match l, h with
  | [a0, a1, a2, a3, a4], _ => exact ⟨a0, a1, a2, a3, a4, rfl⟩
theorem list6 {α : Type} {l : List α} (h : l.length = 6) : ∃ a0 a1 a2 a3 a4 a5, l = [a0, a1, a2, a3, a4, a5] := by
  match l, h with
  | [a0, a1, a2, a3, a4, a5], _ => exact ⟨a0, a1, a2, a3, a4, a5, rfl⟩
theorem list7 {α : Type} {l : List α} (h : l.length = 7) : ∃ a0 a1 a2 a3 a4 a5 a6, l = [a0, a1, a2, a3, a4, a5, a6] := by
  match l, h with
  | [a0, a1, a2, a3, a4, a5, a6], _ => exact ⟨a0, a1, a2, a3, a4, a5, a6, rfl⟩
theorem list8 {α : Type} {l : List α} (h : l.length = 8) : ∃ a0 a1 a2 a3 a4 a5 a6 a7, l = [a0, a1, a2, a3, a4, a5, a6, a7] := by
  match l, h with
  | [a0, a1, a2, a3, a4, a5, a6, a7], _ => exact ⟨a0, a1, a2, a3, a4, a5, a6, a7, rfl⟩
theorem list9 {α : Type} {l : List α} (h : l.length = 9) : ∃ a0 a1 a2 a3 a4 a5 a6 a7 a8, l = [a0, a1, a2, a3, a4, a5, a6, a7, a8] := by
  match l, h with
  | [a0, a1, a2, a3, a4, a5, a6, a7, a8], _ => exact ⟨a0, a1, a2, a3, a4, a5, a6, a7, a8, rfl⟩

/-- Where a slice that came in lies. -/
theorem slice_has {P : Program} {W : World} {r : Reach} {b0 : Nat} {t e : TypeId} {x : Addr} {l c : Nat} (ht : P.underlying t = some (.slice e)) (hv : Value.okWide P W r b0 t (.slice (some x) l c)) : x.spot = none ∧ x.block < W.heap.size := by
  simp only [Value.okWide, ht, Cell.okWide, Cell.ok] at hv
  obtain ⟨-, -, -, hs, row, cells, hsh, -⟩ := hv
  refine ⟨hs, ?_⟩
  unfold World.shape? at hsh
  cases hx : W.heap[x.block]? with
  | none => simp [hx] at hsh
  | some o => exact (Array.getElem?_eq_some_iff.1 hx).1

set_option maxRecDepth 100000 in
/-- A slice of bytes that came in. -/
theorem open_bytes {H : Type} {enc : TypeId × Value → H} {W : World} {base b0 : Nat} {spare : Nat → Bool} {held : Bool} {r : Reach} {v : Value} {d : DataW H} {p : List MemPlace} (hv : Value.okWide Tryd.prog W r b0 25 v)
    (h : DataW.Trod enc Tryd.prog W base spare held 25 v d p) : ∃ bs, BytesAt W v bs ∧ (∀ g, v.ownBlock = some g → g < W.heap.size) ∧ bs.length ≤ maxLen := by
  obtain ⟨a, len, cap, rfl⟩ := okWide_slice Tryd.underlying25 hv
  obtain ⟨fuel, hf⟩ := h
  rcases open_ints Tryd.underlying25 Tryd.underlying5 (by kernel_rfl) hf with ⟨hcs, _⟩ | ⟨x, l, c, zs, hcs, _, hl, hm, hz, _, hcell, hwz⟩
  · simp only [Value.cells, List.cons.injEq, Value.slice.injEq, and_true] at hcs
    obtain ⟨rfl, rfl, rfl⟩ := hcs
    exact ⟨[], .inl ⟨rfl, rfl⟩, by simp [Value.ownBlock], Nat.zero_le _⟩
  · simp only [Value.cells, List.cons.injEq, Value.slice.injEq, and_true] at hcs
    obtain ⟨rfl, rfl, rfl⟩ := hcs
    obtain ⟨hsp, hlt⟩ := slice_has Tryd.underlying25 hv
    obtain ⟨b, off, sp⟩ := x
    simp only at hsp hlt
    subst hsp
    have hzl : len ≤ zs.length := by rw [hz]; split <;> omega
    have hbl : ((zs.take len).map fun z => UInt8.ofNat z.toNat).length = len := by simp; omega
    refine ⟨(zs.take len).map fun z => UInt8.ofNat z.toNat, .inr ⟨b, off, cap, by rw [hbl], by rw [hbl]; exact hl, fun j hj => ?_⟩, fun g hg => by simp [Value.ownBlock] at hg; omega, by rw [hbl]; omega⟩
    rw [hbl] at hj
    have h1 := hcell j (by omega)
    have hadd : (⟨b, off, none⟩ : Addr).add j = ⟨b, off + j, none⟩ := by unfold Addr.add; split <;> simp_all
    rw [hadd] at h1
    have hjz : j < zs.length := by omega
    have hw := hwz zs[j] (List.getElem_mem hjz)
    have hb : 0 ≤ zs[j] ∧ zs[j] ≤ 255 := by simp [Lit.wf, IntKind.min, IntKind.max, IntKind.signed, IntKind.bits] at hw; omega
    rw [h1]
    simp only [List.getD, List.getElem?_eq_getElem hjz, Option.getD_some, List.getElem_map, List.getElem_take]
    congr 2
    simp
    omega
end Go.Proofs.YtgnkinhjfcbdbaaDoor
