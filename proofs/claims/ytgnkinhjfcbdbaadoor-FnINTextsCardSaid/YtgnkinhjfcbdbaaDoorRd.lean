/- proto.Reader: its memory; Ensure, ReadFull, readFull. -/
import Derived.Test.YtgnkinhjfcbdbaaDoorBytes
import Derived.Laws.CopyOwn
import Derived.Deep.RegionLaw
namespace Go.Proofs.YtgnkinhjfcbdbaaDoor
open Go.RowKit

/-- A buffer's variable whose slice owns a row of cells. -/
def RowAt (w : World) (F : Nat → Prop) (T : TypeId) (p : Nat) (v : Value) (xs : List Value) : Prop :=
  F p ∧ w.heap[p]? = some (.cells #[v] T (0, 0)) ∧ w.ownsRow 0 5 1 v xs.length xs ∧ ∀ g, v.ownBlock = some g → F g ∧ g ≠ p

theorem BufAt.row {w : World} {F : Nat → Prop} {T : TypeId} {p : Nat} {bs : List UInt8} (h : BufAt w F T p bs) : ∃ v, RowAt w F T p v (u8s bs) := by
  obtain ⟨hF, v, hp, hown, hv⟩ := h
  exact ⟨v, hF, hp, by simpa using hown, hv⟩

theorem RowAt.cell {w : World} {F : Nat → Prop} {T : TypeId} {p : Nat} {v : Value} {xs : List Value} (h : RowAt w F T p v xs) : w.cell? ⟨p, 0, none⟩ = some v ∧ w.frozen? ⟨p, 0, none⟩ = false ∧ p < w.heap.size :=
  ⟨cell_of_one h.2.1, free_of_one h.2.1, (Array.getElem?_eq_some_iff.1 h.2.1).1⟩

/-- The slice of a row is cut to another length within its capacity. -/
theorem RowAt.cut {w : World} {F : Nat → Prop} {T : TypeId} {p g n cap : Nat} {xs : List Value} (h : RowAt w F T p (.slice (some ⟨g, 0, none⟩) n cap) xs) (m : Nat) (hm : m ≤ cap) :
    ∃ ys, ys.length = m ∧ RowAt (w.setCell ⟨p, 0, none⟩ (.slice (some ⟨g, 0, none⟩) m cap)) F T p (.slice (some ⟨g, 0, none⟩) m cap) ys := by
  obtain ⟨hF, hp, ⟨h1, h2⟩, hv⟩ := h
  have hg := (hv g rfl).2
  rcases h2 with ⟨h2, _⟩ | ⟨g', cap', cur, h2, h3, h4, h5, h6, h7, h8⟩
  · exact absurd h2 (by simp)
  · obtain ⟨rfl, -, rfl⟩ : g = g' ∧ n = xs.length ∧ cap = cap' := by simpa using h2
    have hl : (cur.toList.take m).length = m := by simp; omega
    refine ⟨cur.toList.take m, hl, hF, setCell_one hp, ⟨by simp, .inr ⟨g, cap, cur, by rw [hl], h3, ?_, by omega, h6, h7, by rw [hl]; simp⟩⟩, fun k hk => ⟨(hv k hk).1, (hv k hk).2⟩⟩
    rw [Below.heap_setCell _ _ _ _ hg]; exact h4

theorem RowAt.cap {w : World} {F : Nat → Prop} {T : TypeId} {p : Nat} {v : Value} {xs : List Value} (h : RowAt w F T p v xs) :
    (v = .slice none 0 0 ∧ xs = []) ∨ ∃ g cap, v = .slice (some ⟨g, 0, none⟩) xs.length cap ∧ xs.length ≤ cap ∧ cap ≤ maxLen := by
  obtain ⟨hF, hp, ⟨h1, h2⟩, hv⟩ := h
  rcases h2 with ⟨h2, h3⟩ | ⟨g', cap', cur, h2, h3, h4, h5, h6, h7, h8⟩
  · exact .inl ⟨h2, List.length_eq_zero_iff.1 h3⟩
  · exact .inr ⟨g', cap', h2, h5, h6⟩

/-- What Ensure leaves. -/
def Ensured (w : World) (F : Nat → Prop) (T : TypeId) (p n : Nat) (e : Ending) (w' : World) : Prop :=
  e = .returned (.tuple #[]) ∧ ∃ F' v xs, xs.length = n ∧ RowAt w' F' T p v xs ∧ Upd w w' F F'

theorem ensured_make {w w1 : World} {F : Nat → Prop} {T : TypeId} {p n : Nat} {v : Value} {xs ys : List Value} (h : RowAt w F T p v xs) (hown : w1.ownsRow 0 5 1 (.slice (some ⟨w.heap.size, 0, none⟩) n n) n ys) (hg : w.grownBy w1 none) :
    Ensured w F T p n (.returned (.tuple #[])) (w1.setCell ⟨p, 0, none⟩ (.slice (some ⟨w.heap.size, 0, none⟩) n n)) := by
  obtain ⟨hF, hp, -, hv⟩ := h
  have hlt : p < w.heap.size := (Array.getElem?_eq_some_iff.1 hp).1
  have hp1 : w1.heap[p]? = some (.cells #[v] T (0, 0)) := by rw [hg.block p hlt (by simp)]; exact hp
  have hl : ys.length = n := by have := hown.1; simpa using this
  have hlt1 := hown.lt _ rfl
  refine ⟨rfl, fun k => F k ∨ k = w.heap.size, _, ys, hl, ⟨.inl hF, setCell_one hp1, ?_, ?_⟩, ?_, ?_⟩
  · rw [hl]
    exact ownsRow_block hown fun g hgg => Below.heap_setCell _ _ _ _ (by simp [Value.ownBlock] at hgg; simp; omega)
  · intro g hgg
    simp [Value.ownBlock] at hgg
    exact ⟨.inr hgg.symm, by omega⟩
  · exact ((Chg.refl F w).grown hg (by simp)).setCell (.inl hF) _
  · intro k hk
    rcases hk with hk | rfl
    · exact .inl hk
    · exact .inr ⟨Nat.le_refl _, by simpa [World.setCell] using hlt1.2⟩

theorem ensured_cut {w : World} {F : Nat → Prop} {T : TypeId} {p g n cap : Nat} {xs : List Value} (h : RowAt w F T p (.slice (some ⟨g, 0, none⟩) xs.length cap) xs) (hm : n ≤ cap) :
    Ensured w F T p n (.returned (.tuple #[])) (w.setCell ⟨p, 0, none⟩ (.slice (some ⟨g, 0, none⟩) n cap)) := by
  obtain ⟨ys, hl, hr⟩ := h.cut n hm
  exact ⟨rfl, F, _, ys, hl, hr, (Chg.refl F w).setCell (.inl h.1) _, fun k hk => .inl hk⟩

/-! ### The Reader -/
theorem BytesAt.cut {w : World} {b off n c : Nat} {bs : List UInt8} (hl : bs.length ≤ c) (h : ∀ (j : Nat) (h : j < bs.length), w.cell? ⟨b, off + j, none⟩ = some (.int .u8 (bs[j]).toNat)) (hn : n ≤ bs.length) :
    BytesAt w (.slice (some ⟨b, off + n, none⟩) (bs.length - n) (c - n)) (bs.drop n) :=
  .inr ⟨b, off + n, c - n, by simp, by simp; omega, fun j hj => by
    have hj' : n + j < bs.length := by simp at hj; omega
    rw [Nat.add_assoc, h (n + j) hj']
    simp⟩

theorem BytesAt.nothing (w : World) (b off c : Nat) : BytesAt w (.slice (some ⟨b, off, none⟩) 0 c) [] := .inr ⟨b, off, c, rfl, Nat.zero_le _, fun j hj => by simp at hj⟩

theorem BytesAt.src {w : World} {b off : Nat} {bs : List UInt8} (h : ∀ (j : Nat) (h : j < bs.length), w.cell? ⟨b, off + j, none⟩ = some (.int .u8 (bs[j]).toNat)) (n : Nat) :
    ∀ j v, (u8s (bs.take n))[j]? = some v → w.cell? ((⟨b, off, none⟩ : Addr).add j) = some v := by
  intro j v hv
  have hadd : (⟨b, off, none⟩ : Addr).add j = ⟨b, off + j, none⟩ := by unfold Addr.add; split <;> simp_all
  obtain ⟨x, hx, rfl⟩ : ∃ x, (bs.take n)[j]? = some x ∧ .int .u8 (x.toNat : Int) = v := by
    unfold u8s at hv; rw [List.getElem?_map] at hv; simpa using hv
  rw [List.getElem?_take] at hx
  split at hx
  · obtain ⟨hj, rfl⟩ := List.getElem?_eq_some_iff.1 hx
    rw [hadd, h j hj]
  · simp at hx

theorem one_u8s2 (l : List UInt8) : ∀ v ∈ u8s l, v.oneCell' = true := one_u8s l

theorem setRow_owns {w : World} {g n cap : Nat} {ys : List Value} {cur : Array Value} (hg : w.heap[g]? = some (.cells cur 5 (0, 0))) (hn : n ≤ cap) (hm : cap ≤ maxLen) (hs : cur.size = cap) (hy : ys.length = n) :
    (w.setRow g (ys ++ cur.toList.drop n).toArray).ownsRow 0 5 1 (.slice (some ⟨g, 0, none⟩) n cap) n ys := by
  refine ⟨by omega, .inr ⟨g, cap, _, rfl, Nat.zero_le _, setRow_heap w g _ _ 5 _ hg, hn, hm, ?_, ?_⟩⟩
  · simp; omega
  · simp [← hy]

end Go.Proofs.YtgnkinhjfcbdbaaDoor
