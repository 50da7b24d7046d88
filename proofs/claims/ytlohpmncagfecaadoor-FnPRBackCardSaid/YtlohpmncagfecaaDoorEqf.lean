/- slices.EqualFunc of answers that are the same. -/
import Derived.Test.YtlohpmncagfecaaDoorBack2
namespace Go.Proofs.YtlohpmncagfecaaDoor
open Go.RowKit
set_option linter.unnecessarySimpa false
set_option linter.unusedVariables false
set_option linter.unusedSimpArgs false

/-- An answer lies at a place. -/
def GtAt (w : World) (b o : Nat) (g : Gt) : Prop :=
  ∃ sv, w.cell? ⟨b, o, none⟩ = some (.int .u64 (g.u : Nat)) ∧ w.cell? ⟨b, o + 1, none⟩ = some (.int .u64 (g.v : Nat)) ∧ w.cell? ⟨b, o + 2, none⟩ = some sv ∧ w.cell? ⟨b, o + 3, none⟩ = some (.bool g.err) ∧ BytesX w sv g.s ∧ (∀ k, g.s ≠ [] → sv.ownBlock = some k → k < w.heap.size)
def GtsAt (w : World) (v : Value) (gs : List Gt) : Prop :=
  ((∃ p c, v = .slice p 0 c) ∧ gs = []) ∨ ∃ b off cap, v = .slice (some ⟨b, off, none⟩) gs.length cap ∧ gs.length ≤ cap ∧ b < w.heap.size ∧ ∀ i g, gs[i]? = some g → GtAt w b (off + i * 4) g

theorem GtAt.below {w w' : World} {b o : Nat} {g : Gt} (h : GtAt w b o g) (hb : b < w.heap.size) (hB : Below w.heap.size w w') : GtAt w' b o g := by
  obtain ⟨sv, h0, h1, h2, h3, h4, h5⟩ := h
  have e := fun j => World.cell?_of_block (w := w) (w' := w') (a := ⟨b, j, none⟩) (hB.block b hb)
  exact ⟨sv, by rw [e]; exact h0, by rw [e]; exact h1, by rw [e]; exact h2, by rw [e]; exact h3, h4.keep' fun hn k hk => hB.block k (h5 k hn hk), fun k hn hk => Nat.lt_of_lt_of_le (h5 k hn hk) hB.size⟩

theorem GtsAt.below {w w' : World} {v : Value} {gs : List Gt} (h : GtsAt w v gs) (hB : Below w.heap.size w w') : GtsAt w' v gs := by
  rcases h with h | ⟨b, off, cap, rfl, hl, hb, h⟩
  · exact .inl h
  · exact .inr ⟨b, off, cap, rfl, hl, Nat.lt_of_lt_of_le hb hB.size, fun i g hg => (h i g hg).below hb hB⟩

set_option maxRecDepth 100000 in
theorem equalFunc (w : World) (v1 v2 : Value) (gs : List Gt) (h1 : GtsAt w v1 gs) (h2 : GtsAt w v2 gs) (hn : gs.length ≤ 1000000) :
    Calls Tryd.prog 15 #[v1, v2, .func (.func 17) #[] #[]] w fun e w' => e = .returned (.bool true) ∧ Below w.heap.size w w' := by
  by_cases h0 : gs = []
  · subst h0
    obtain ⟨p1, c1, rfl⟩ : ∃ p c, v1 = .slice p 0 c := by
      rcases h1 with ⟨h, -⟩ | ⟨b, off, cap, rfl, -⟩
      · exact h
      · exact ⟨_, _, rfl⟩
    obtain ⟨p2, c2, rfl⟩ : ∃ p c, v2 = .slice p 0 c := by
      rcases h2 with ⟨h, -⟩ | ⟨b, off, cap, rfl, -⟩
      · exact h
      · exact ⟨_, _, rfl⟩
    clear h1 h2
    go_enter Tryd.func15, Tryd.ntmps15
    go_wp2_with fail
    go_rounds 1
    all_goals
      go_wp2_with fail
      go_ret
      exact ⟨rfl, Below.refl _ _⟩
  · rcases h1 with ⟨-, h⟩ | ⟨b1, o1, cap1, rfl, hc1, hb1, hx1⟩
    · exact absurd h h0
    rcases h2 with ⟨-, h⟩ | ⟨b2, o2, cap2, rfl, hc2, hb2, hx2⟩
    · exact absurd h h0
    have HX1 := Lib.hid hx1
    have HX2 := Lib.hid hx2
    obtain ⟨n, hnn⟩ : ∃ n, n = gs.length := ⟨_, rfl⟩
    rw [← hnn] at hn hc1 hc2 ⊢
    have HNN := Lib.hid hnn
    clear hx1 hx2 h0 hnn
    go_enter Tryd.func15, Tryd.ntmps15
    go_wp2_with fail
    go_loopw [17] (fun vi wr => ∃ k : Nat, k ≤ n ∧ vi = .int .i64 k ∧ Below w.heap.size w wr) (fun vi _ => n - (intOf vi).toNat)
    case atStart => exact ⟨0, Nat.zero_le _, rfl, Below.refl _ _⟩
    case round =>
      obtain ⟨k, hk, rfl, hbl⟩ := hrel
      by_cases hlt : k < n
      · obtain ⟨g, hgk⟩ : ∃ g, gs[k]? = some g := ⟨_, List.getElem?_eq_getElem (by have := HNN.out; omega)⟩
        obtain ⟨s1, c0, c1, c2, c3, hs1, hk1⟩ := (HX1.out k g hgk).below hb1 hbl
        obtain ⟨s2, d0, d1, d2, d3, hs2, hk2⟩ := (HX2.out k g hgk).below hb2 hbl
        have hbb := ((Below.refl wr.heap.size wr).alloc (Nat.le_refl _) (.cells #[.int .u64 (g.u : Nat), .int .u64 (g.v : Nat), s1, .bool g.err] 40)).alloc (by simp) (.cells #[.int .u64 (g.u : Nat), .int .u64 (g.v : Nat), s2, .bool g.err] 40)
        have HS := Lib.hid (prSame_eq _ g s1 s2 (hs1.below hbb) (hs2.below hbb))
        have HBB := Lib.hid hbb
        have n1 : b1 < wr.heap.size := Nat.lt_of_lt_of_le hb1 hbl.size
        have n2 : b2 < wr.heap.size := Nat.lt_of_lt_of_le hb2 hbl.size
        have e2 : (wr.alloc (.cells #[.int .u64 (g.u : Nat), .int .u64 (g.v : Nat), s1, .bool g.err] 40)).cell? ⟨b2, o2 + k * 4, none⟩ = some (.int .u64 (g.u : Nat)) := by
          rw [World.cell?_of_block (w := wr) (Below.heap_alloc _ _ _ n2)]; exact d0
        obtain ⟨p1, q1, rfl⟩ := hs1.slice
        obtain ⟨p2, q2, rfl⟩ := hs2.slice
        clear hs1 hs2 hk1 hk2 hbb e2 hgk
        go_wp2_with (first | (go_at_call 17; refine HS.out.mono ?_; rintro e w8 ⟨rfl, hb8⟩) | fail)
        go_roundw
        case rel => exact ⟨k + 1, by omega, by go_num, (hbl.trans (HBB.out.mono hbl.size)).trans (hb8.mono (by have := hbl.size; have := HBB.out.size; omega))⟩
        case measure => simp [intOf]; omega
      · go_wp2_with fail
        go_ret
        exact ⟨rfl, hbl⟩
end Go.Proofs.YtlohpmncagfecaaDoor
