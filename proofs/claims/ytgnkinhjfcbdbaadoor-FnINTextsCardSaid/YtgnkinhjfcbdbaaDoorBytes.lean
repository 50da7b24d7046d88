/- Slices that read as bytes; bytes.Equal. -/
import Derived.Test.YtgnkinhjfcbdbaaDoorBuf
namespace Go.Proofs.YtgnkinhjfcbdbaaDoor
open Go.RowKit

/-- The slice reads as these bytes. -/
def BytesAt (w : World) (v : Value) (bs : List UInt8) : Prop :=
  (v = .slice none 0 0 ∧ bs = []) ∨ ∃ b off cap : Nat, v = .slice (some ⟨b, off, none⟩) bs.length cap ∧ bs.length ≤ cap ∧ ∀ (j : Nat) (h : j < bs.length), w.cell? ⟨b, off + j, none⟩ = some (.int .u8 (bs[j]).toNat)

theorem BytesAt.slice {w : World} {v : Value} {bs : List UInt8} (h : BytesAt w v bs) : ∃ p c, v = .slice p bs.length c := by
  rcases h with ⟨rfl, rfl⟩ | ⟨b, off, cap, rfl, _⟩
  · exact ⟨_, _, rfl⟩
  · exact ⟨_, _, rfl⟩

theorem BytesAt.keep {w w' : World} {v : Value} {bs : List UInt8} (h : BytesAt w v bs) (hb : ∀ g, v.ownBlock = some g → w'.heap[g]? = w.heap[g]?) : BytesAt w' v bs := by
  rcases h with h | ⟨b, off, cap, rfl, hl, h⟩
  · exact .inl h
  · refine .inr ⟨b, off, cap, rfl, hl, fun j hj => ?_⟩
    rw [World.cell?_of_block (w := w) (a := ⟨b, off + j, none⟩) (hb b rfl)]
    exact h j hj

theorem BytesAt.lt {w : World} {v : Value} {bs : List UInt8} (h : BytesAt w v bs) (hn : bs ≠ []) : ∀ g, v.ownBlock = some g → g < w.heap.size := by
  intro g hg
  rcases h with h | ⟨b, off, cap, rfl, hl, h⟩
  · exact absurd h.2 hn
  · obtain rfl : b = g := by simpa [Value.ownBlock] using hg
    have h1 := h 0 (List.length_pos_iff.2 hn)
    have h2 : (w.heap[b]?).isSome := by
      unfold World.cell? at h1
      cases hx : w.heap[b]? with
      | none => simp [hx] at h1
      | some o => rfl
    simpa using h2

theorem BytesAt.drew {w : World} {v : Value} {bs : List UInt8} (h : BytesAt w v bs) : BytesAt w.drew v bs := h

/-- What reads as bytes reads so in every world that has the same old blocks. -/
theorem BytesAt.below {w w' : World} {v : Value} {bs : List UInt8} (h : BytesAt w v bs) (hb : Below w.heap.size w w') : BytesAt w' v bs := by
  by_cases hn : bs = []
  · subst hn
    rcases h with h | ⟨b, off, cap, rfl, hl, h⟩
    · exact .inl h
    · exact .inr ⟨b, off, cap, rfl, hl, fun j hj => by simp at hj⟩
  · exact h.keep fun g hg => hb.block g (h.lt hn g hg)
theorem BytesAt.alloc {w : World} {v : Value} {bs : List UInt8} (h : BytesAt w v bs) (o : Obj) : BytesAt (w.alloc o) v bs :=
  h.below ((Below.refl _ _).alloc (Nat.le_refl _) o)

theorem ofNat_toNat {x : Nat} (hx : x < 128) : ((UInt8.ofNat x).toNat : Int) = x := by simp; omega

theorem strOfNums_bytes (bs : List UInt8) : strOfNums (bs.map fun b => (b.toNat : Int)) = ⟨bs.toArray⟩ := by
  unfold strOfNums
  congr 2
  rw [List.map_map]
  conv => rhs; rw [← List.map_id bs]
  exact List.map_congr_left fun b _ => by simp

theorem run_convert_at {w : World} {v : Value} {bs : List UInt8} (h : BytesAt w v bs) : (Go.convert 25 9 v).run Tryd.prog w = .ok (.string ⟨bs.toArray⟩) w := by
  rcases h with ⟨rfl, rfl⟩ | ⟨b, off, cap, rfl, hl, h⟩
  · exact run_convert_bytes_nil w 25 5 Tryd.underlying25 Tryd.underlying5 0 0 9 Tryd.underlying9
  · have := run_convert_bytes_arg (P := Tryd.prog) w 25 5 Tryd.underlying25 Tryd.underlying5 b off bs.length cap (bs.map fun b => (b.toNat : Int)) (by simp) (fun i hi => by rw [h i hi]; simp [List.getElem?_eq_getElem hi]) 9 Tryd.underlying9
    rw [this, strOfNums_bytes]

/-- New bytes: nothing that was there has changed. -/
def Made (w : World) (bs : List UInt8) (e : Ending) (w' : World) : Prop :=
  Below w.heap.size w w' ∧ ∃ v, e = .returned v ∧ BytesAt w' v bs ∧ ∀ g, v.ownBlock = some g → w.heap.size ≤ g ∧ g < w'.heap.size

theorem Made.of_below {w w1 w2 : World} {bs : List UInt8} {e : Ending} (hb : Below w.heap.size w w1) (h : Made w1 bs e w2) : Made w bs e w2 := by
  obtain ⟨hb2, v, he, hv, ho⟩ := h
  have := hb.size
  exact ⟨hb.trans (hb2.mono this), v, he, hv, fun g hg => ⟨Nat.le_trans this (ho g hg).1, (ho g hg).2⟩⟩
theorem Made.both {w : World} {bs : List UInt8} {e : Ending} {w' : World} (h : Made w bs e w') : ∃ v, e = .returned v ∧ BytesAt w' v bs ∧ Below w.heap.size w w' :=
  let ⟨hb, v, he, hv, _⟩ := h
  ⟨v, he, hv, hb⟩
theorem bytesAt_new (w : World) (x : UInt8) : BytesAt (w.alloc (.cells #[.int .u8 x.toNat] 5)) (.slice (some ⟨w.heap.size, 0, none⟩) 1 1) [x] :=
  .inr ⟨w.heap.size, 0, 1, rfl, by simp, fun j hj => by
    obtain rfl : j = 0 := by simpa using hj
    exact news_one w _ _ _ 0 _ rfl⟩

theorem BufAt.bytes {w : World} {F : Nat → Prop} {T : TypeId} {p : Nat} {bs : List UInt8} (h : BufAt w F T p bs) : ∃ v, w.cell? ⟨p, 0, none⟩ = some v ∧ BytesAt w v bs ∧ ∀ g, v.ownBlock = some g → F g ∧ g < w.heap.size := by
  obtain ⟨hF, v, hp, hown, hv⟩ := h
  refine ⟨v, cell_of_one hp, ?_, fun g hg => ⟨(hv g hg).1, (hown.lt g hg).2⟩⟩
  obtain ⟨h1, h2⟩ := hown
  rcases h2 with ⟨rfl, h2⟩ | ⟨g, cap, cur, rfl, hg, hh, hl, hm, hs, ht⟩
  · exact .inl ⟨rfl, List.length_eq_zero_iff.1 h2⟩
  · refine .inr ⟨g, 0, cap, rfl, hl, fun j hj => ?_⟩
    have h3 : (u8s bs)[j]? = some (.int .u8 (bs[j]).toNat) := by simp [u8s, List.getElem?_eq_getElem hj]
    rw [← ht, List.getElem?_take] at h3
    simp [hj] at h3
    simp [World.cell?, hh, h3]

theorem bufAt_new (w : World) (T : TypeId) : BufAt (w.alloc (.cells #[.slice none 0 0] T)) (· = w.heap.size) T w.heap.size [] :=
  ⟨rfl, _, heap_alloc_new _ _, World.ownsRow_nil _ _ _ _, by simp [Value.ownBlock]⟩

/-- A function of the program that has a body of its own. -/
def Own (g : FuncId) : Prop := ∀ args w, (callFunc g args).run Tryd.prog w = .ok (.enter g args) w

end Go.Proofs.YtgnkinhjfcbdbaaDoor
