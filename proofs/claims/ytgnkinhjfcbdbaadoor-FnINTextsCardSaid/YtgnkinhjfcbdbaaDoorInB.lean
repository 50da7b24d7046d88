/- Quoting into a slice of its own, and into an array; strings.Builder: WriteRune, Write, String. -/
import Derived.Test.YtgnkinhjfcbdbaaDoorInQ
import Derived.Test.YtgnkinhjfcbdbaaDoorCt3
import Derived.Test.YtgnkinhjfcbdbaaDoorBx
import Derived.Laws.CopyRow
import Derived.OwnWalk
namespace Go.Proofs.YtgnkinhjfcbdbaaDoor
open Go.RowKit Go.Shelf
set_option linter.unusedVariables false
set_option linter.unusedSimpArgs false

theorem u8s_snoc (bs : List UInt8) (x : UInt8) : u8s (bs ++ [x]) = u8s bs ++ [.int .u8 x.toNat] := by simp [u8s]
/-- A slice of the call's own. -/
def KOwn (w0 : World) (w : World) (v : Value) (bs : List UInt8) : Prop := ∃ F, OwnB w F v bs ∧ (∀ k, F k → w0.heap.size ≤ k) ∧ Below w0.heap.size w0 w
theorem apd_own (w0 : World) : Apd (KOwn w0) where
  slice := fun ⟨F, h, _, _⟩ => h.slice
  app := by
    rintro w v bs ⟨F, h, hF, hb⟩ hl x ty
    have h2 := h.keep ((Below.refl _ w).alloc (Nat.le_refl _) (.cells #[.int .u8 x.toNat] 5))
    obtain ⟨p, c, w', F', hr, hown, hu⟩ := run_append_rows elemQ _ F v bs.length (u8s bs) h2 25 ty _ 1 [.int .u8 x.toNat] (src_new elemQ w.heap.size [.int .u8 x.toNat] _ (heap_alloc_new w _) rfl (by simp [Value.oneCell']) 1) (by omega) (by omega)
    refine ⟨_, _, hr, F', ⟨?_, hown.2⟩, fun k hk => ?_, ?_⟩
    · have := hown.1
      rw [u8s_snoc, List.length_append]
      exact this
    · rcases hu.new k hk with h | h
      · exact hF k h
      · have := hb.size
        simp at h
        omega
    · have hb2 := hb.alloc hb.size (.cells #[.int .u8 x.toNat] 5)
      exact hb2.trans (hu.chg.below hb2.size hF)

theorem add_zero_at (g j : Nat) : (⟨g, 0, none⟩ : Addr).add j = ⟨g, j, none⟩ := by unfold Addr.add; split <;> simp_all
theorem run_room (w : World) (ty : TypeId) (g n cap : Nat) (cur : Array Value) (T : TypeId) (hg : w.heap[g]? = some (.cells cur T (0, 0))) (a : Addr) (m c : Nat) (news : List Value) (hl : news.length = m)
    (hnews : ∀ j u, news[j]? = some u → w.cell? (a.add j) = some u) (h1 : ∀ u ∈ news, u.oneCell' = true) (hroom : n + m ≤ cap) (hfit : n + m ≤ cur.size) :
    (Builtin.append_ #[25, 25] ty #[.slice (some ⟨g, 0, none⟩) n cap, .slice (some a) m c]).run Tryd.prog w =
      .ok (.slice (some ⟨g, 0, none⟩) (n + m) cap) (w.setRow g (cur.toList.take n ++ news ++ cur.toList.drop (n + m)).toArray) := by
  obtain ⟨i0, hi, hz0, hz1, hz2⟩ := info_parts infoU8
  have hf := run_firstCells_some (P := Tryd.prog) w i0.size m a m c news (by rw [hz1]; omega) hnews
  have hst := run_storeCells_at Tryd.prog g n T news 0 cur w hg (by omega) h1
  simp only [Nat.add_zero, hl] at hst
  rw [hz1] at hf
  simp [Builtin.append_, run_underlying Tryd.underlying25, sizeOf, typeInfo, hi, hz1, Builtin.lenOf, hroom, hf, Addr.add_lit, hst]
theorem setRow_at (w : World) (g : Nat) (cur cs : Array Value) (T : TypeId) (hg : w.heap[g]? = some (.cells cur T (0, 0))) : (w.setRow g cs).heap[g]? = some (.cells cs T (0, 0)) := by
  simp [World.setRow, Array.getElem?_modify, hg]
theorem chg_setRow {F : Nat → Prop} {a w : World} (h : Chg F a w) (g : Nat) (hg : F g) (cs : Array Value) : Chg F a (w.setRow g cs) :=
  ⟨h.os, h.tape, h.output, by simpa [World.setRow] using h.size, fun k hk hn => by
    have : k ≠ g := fun e => hn (e ▸ hg)
    simp only [World.setRow, Array.getElem?_modify]
    rw [if_neg (fun e => this e.symm)]
    exact h.block k hk hn⟩

/-- An array of 64 bytes. -/
def KArr (w0 : World) (q : Nat) (w : World) (v : Value) (bs : List UInt8) : Prop :=
  ∃ cur : Array Value, v = .slice (some ⟨q, 0, none⟩) bs.length 64 ∧ w.heap[q]? = some (.cells cur 48 (0, 0)) ∧ cur.size = 64 ∧ cur.toList.take bs.length = u8s bs ∧ Chg (· = q) w0 w
theorem apd_arr (w0 : World) (q : Nat) : Apd (KArr w0 q) where
  slice := fun ⟨cur, h, _⟩ => ⟨_, _, h⟩
  app := by
    rintro w v bs ⟨cur, rfl, hg, hs, ht, hc⟩ hl x ty
    have hlt : q < w.heap.size := (Array.getElem?_eq_some_iff.1 hg).1
    have hg2 : (w.alloc (.cells #[.int .u8 x.toNat] 5)).heap[q]? = some (.cells cur 48 (0, 0)) := by rw [Below.heap_alloc _ _ _ hlt]; exact hg
    have hr := run_room _ ty q bs.length 64 cur _ hg2 ⟨w.heap.size, 0, none⟩ 1 1 [.int .u8 x.toNat] rfl (fun j u hj => by
      rw [add_zero_at]
      unfold World.cell?
      simp only [heap_alloc_new]
      simpa using hj) (by simp [Value.oneCell']) (by omega) (by omega)
    have hcl : cur.toList.length = 64 := by simpa using hs
    refine ⟨_, _, hr, _, by simp, setRow_at _ _ _ _ _ hg2, ?_, ?_, chg_setRow (hc.alloc _) q rfl _⟩
    · rw [List.size_toArray, List.length_append, List.length_append, List.length_take, List.length_drop, hcl, Nat.min_eq_left (by omega), List.length_singleton]
      omega
    · rw [u8s_snoc, ← ht]
      simp only [List.length_append, List.length_cons, List.length_nil]
      rw [List.append_assoc, List.take_append, List.take_take, List.length_take, show min (bs.length + (0 + 1)) bs.length = bs.length by omega]
      rw [show bs.length + (0 + 1) - min bs.length cur.toList.length = 1 by omega, List.singleton_append, List.take_succ_cons, List.take_zero]

set_option maxRecDepth 100000 in
theorem quoteWith (w : World) (l : List UInt8) (h1 : 1 ≤ l.length) (hl : l.length ≤ 20) (hx : ∀ x ∈ l, Small x) :
    Calls Tryd.prog 30 #[.string (ba l), .int .u8 34, .bool true, .bool false] w fun e w' => e = .returned (.string (ba ([34] ++ l ++ [34]))) ∧ Below w.heap.size w w' := by
  have hsz := ba_size l
  obtain ⟨c, hc, hc1, hc2⟩ : ∃ c : Nat, Int.tdiv (3 * (l.length : Int)) 2 = (c : Int) ∧ l.length ≤ c ∧ c ≤ 30 := by
    refine ⟨3 * l.length / 2, ?_, by omega, by omega⟩
    have : Int.tdiv ((3 * l.length : Nat) : Int) ((2 : Nat) : Int) = ((3 * l.length / 2 : Nat) : Int) := rfl
    rw [← this]
    simp
  have HL := Lib.hid hx
  obtain ⟨i0, hi, hz0, hz1, hz2⟩ := info_parts infoU8
  clear hx
  go_enter Tryd.func30, Tryd.ntmps30
  go_wp2_with (at_make; refine wpList_make_own _ rfl _ _ 25 rfl 0 5 i0 (.int .u8 0) 1 Tryd.underlying25 hi hz0 hz1 _ _ _ c rfl rfl (by first | rfl | assumption) (by rw [hz2]; omega) (by unfold maxLen; omega) (Nat.zero_le _) ?_; intro w1 hown hg)
  have hb1 : Below w.heap.size w w1 := (Chg.refl (fun _ => False) w).grown hg (by simp) |>.below (Nat.le_refl _) (fun _ h => h.elim)
  have HK := Lib.hid (quoted (apd_own w) w1 (some ⟨w.heap.size, 0, none⟩) c ⟨(· = w.heap.size), ⟨hown, by simp [Value.ownBlock]⟩, fun k hk => by omega, hb1⟩ l hl hc1 (by omega) HL.out)
  clear hb1 hown
  go_wp2_with fail
  refine HK.out.mono ?_
  rintro e w2 ⟨v2, rfl, F2, ho2, hF2, hb2⟩
  have hcv := run_convert_at ho2.bytes
  have HB2 := Lib.hid hb2
  clear ho2 hF2 hb2
  go_wp2
  go_ret
  exact ⟨rfl, HB2.out⟩

set_option maxRecDepth 100000 in
theorem quoteASCII (w : World) (l : List UInt8) (h1 : 1 ≤ l.length) (hl : l.length ≤ 20) (hx : ∀ x ∈ l, Small x) :
    Calls Tryd.prog 22 #[.string (ba l)] w fun e w' => e = .returned (.string (ba ([34] ++ l ++ [34]))) ∧ Below w.heap.size w w' := by
  have HQ := Lib.hid (quoteWith w l h1 hl hx)
  clear hx
  go_enter Tryd.func22, Tryd.ntmps22
  go_wp2_with (go_at_call 30; refine HQ.out.mono ?_; rintro e w1 ⟨rfl, hb⟩)
  go_ret
  exact ⟨rfl, hb⟩

set_option maxRecDepth 100000 in
theorem appendQuoteASCII {K : World → Value → List UInt8 → Prop} (HK : Apd K) (w : World) (p : Option Addr) (c : Nat) (h : K w (.slice p 0 c) []) (l : List UInt8) (hl : l.length ≤ 20) (hc : l.length ≤ c) (hcc : c ≤ 1000) (hx : ∀ x ∈ l, Small x) :
    Calls Tryd.prog 19 #[.slice p 0 c, .string (ba l)] w fun e w' => ∃ v', e = .returned v' ∧ K w' v' ([34] ++ l ++ [34]) := by
  have HQ := Lib.hid (quoted HK w p c h l hl hc hcc hx)
  clear hx h HK
  go_enter Tryd.func19, Tryd.ntmps19
  go_wp2_with (go_at_call 29; refine HQ.out.mono ?_; rintro e w1 ⟨v1, rfl, hk⟩)
  go_ret
  exact ⟨_, rfl, hk⟩
end Go.Proofs.YtgnkinhjfcbdbaaDoor
