/- Numbers of 2, 8 and 16 bytes, the least first, into a Buffer. -/
import Derived.Test.YtlohpmncagfecaaDoorLe
import Derived.Shelf.Bin.LEUint16
import Derived.Shelf.Bin.LEPutUint16
import Derived.Shelf.Bin.LEUint64
import Derived.Shelf.Bin.LEPutUint64
namespace Go.Proofs.YtlohpmncagfecaaDoor
open Go.RowKit Go.Shelf

def lays27_ren : Go.Shelf.Ren := ⟨fun | 27 => 71 | n => n, fun | 25 => 109 | 22 => 25 | 23 => 67 | 0 => 0 | 5 => 5 | 45 => 55 | n => n, fun | n => n⟩
theorem lays27 : Go.Proofs.LaysBin.n27 Tryd.prog lays27_ren := {
  mixed := by kernel_rfl
  f27 := Tryd.func71.trans (congrArg some (by kernel_rfl))
  t0 := Tryd.underlying0
  a0 := Tryd.isAgg0
  z0 := Tryd.sizeOf0
  v0 := Tryd.zeroValue0
  i0 := by kernel_rfl
  t5 := Tryd.underlying5
  a5 := Tryd.isAgg5
  z5 := Tryd.sizeOf5
  v5 := Tryd.zeroValue5
  i5 := by kernel_rfl
  t22 := Tryd.underlying25
  a22 := Tryd.isAgg25
  z22 := Tryd.sizeOf25
  v22 := Tryd.zeroValue25
  i22 := by kernel_rfl
  t23 := Tryd.underlying67
  a23 := Tryd.isAgg67
  z23 := Tryd.sizeOf67
  v23 := Tryd.zeroValue67
  i23 := by kernel_rfl
  t25 := Tryd.underlying109
  a25 := Tryd.isAgg109
  z25 := Tryd.sizeOf109
  v25 := Tryd.zeroValue109
  i25 := by kernel_rfl
  t45 := Tryd.underlying55
  a45 := Tryd.isAgg55
  z45 := Tryd.sizeOf55
  v45 := Tryd.zeroValue55
  i45 := by kernel_rfl }
def lays28_ren : Go.Shelf.Ren := ⟨fun | 28 => 61 | n => n, fun | 25 => 109 | 22 => 25 | 23 => 67 | 0 => 0 | 5 => 5 | 45 => 55 | n => n, fun | n => n⟩
theorem lays28 : Go.Proofs.LaysBin.n28 Tryd.prog lays28_ren := {
  mixed := by kernel_rfl
  f28 := Tryd.func61.trans (congrArg some (by kernel_rfl))
  t0 := Tryd.underlying0
  a0 := Tryd.isAgg0
  z0 := Tryd.sizeOf0
  v0 := Tryd.zeroValue0
  i0 := by kernel_rfl
  t5 := Tryd.underlying5
  a5 := Tryd.isAgg5
  z5 := Tryd.sizeOf5
  v5 := Tryd.zeroValue5
  i5 := by kernel_rfl
  t22 := Tryd.underlying25
  a22 := Tryd.isAgg25
  z22 := Tryd.sizeOf25
  v22 := Tryd.zeroValue25
  i22 := by kernel_rfl
  t23 := Tryd.underlying67
  a23 := Tryd.isAgg67
  z23 := Tryd.sizeOf67
  v23 := Tryd.zeroValue67
  i23 := by kernel_rfl
  t25 := Tryd.underlying109
  a25 := Tryd.isAgg109
  z25 := Tryd.sizeOf109
  v25 := Tryd.zeroValue109
  i25 := by kernel_rfl
  t45 := Tryd.underlying55
  a45 := Tryd.isAgg55
  z45 := Tryd.sizeOf55
  v45 := Tryd.zeroValue55
  i45 := by kernel_rfl }
def lays33_ren : Go.Shelf.Ren := ⟨fun | 33 => 73 | n => n, fun | 25 => 109 | 22 => 25 | 33 => 26 | 0 => 0 | 5 => 5 | 45 => 55 | n => n, fun | n => n⟩
theorem lays33 : Go.Proofs.LaysBin.n33 Tryd.prog lays33_ren := {
  mixed := by kernel_rfl
  f33 := Tryd.func73.trans (congrArg some (by kernel_rfl))
  t0 := Tryd.underlying0
  a0 := Tryd.isAgg0
  z0 := Tryd.sizeOf0
  v0 := Tryd.zeroValue0
  i0 := by kernel_rfl
  t5 := Tryd.underlying5
  a5 := Tryd.isAgg5
  z5 := Tryd.sizeOf5
  v5 := Tryd.zeroValue5
  i5 := by kernel_rfl
  t22 := Tryd.underlying25
  a22 := Tryd.isAgg25
  z22 := Tryd.sizeOf25
  v22 := Tryd.zeroValue25
  i22 := by kernel_rfl
  t25 := Tryd.underlying109
  a25 := Tryd.isAgg109
  z25 := Tryd.sizeOf109
  v25 := Tryd.zeroValue109
  i25 := by kernel_rfl
  t33 := Tryd.underlying26
  a33 := Tryd.isAgg26
  z33 := Tryd.sizeOf26
  v33 := Tryd.zeroValue26
  i33 := by kernel_rfl
  t45 := Tryd.underlying55
  a45 := Tryd.isAgg55
  z45 := Tryd.sizeOf55
  v45 := Tryd.zeroValue55
  i45 := by kernel_rfl }
def lays34_ren : Go.Shelf.Ren := ⟨fun | 34 => 63 | n => n, fun | 25 => 109 | 22 => 25 | 33 => 26 | 0 => 0 | 5 => 5 | 45 => 55 | n => n, fun | n => n⟩
theorem lays34 : Go.Proofs.LaysBin.n34 Tryd.prog lays34_ren := {
  mixed := by kernel_rfl
  f34 := Tryd.func63.trans (congrArg some (by kernel_rfl))
  t0 := Tryd.underlying0
  a0 := Tryd.isAgg0
  z0 := Tryd.sizeOf0
  v0 := Tryd.zeroValue0
  i0 := by kernel_rfl
  t5 := Tryd.underlying5
  a5 := Tryd.isAgg5
  z5 := Tryd.sizeOf5
  v5 := Tryd.zeroValue5
  i5 := by kernel_rfl
  t22 := Tryd.underlying25
  a22 := Tryd.isAgg25
  z22 := Tryd.sizeOf25
  v22 := Tryd.zeroValue25
  i22 := by kernel_rfl
  t25 := Tryd.underlying109
  a25 := Tryd.isAgg109
  z25 := Tryd.sizeOf109
  v25 := Tryd.zeroValue109
  i25 := by kernel_rfl
  t33 := Tryd.underlying26
  a33 := Tryd.isAgg26
  z33 := Tryd.sizeOf26
  v33 := Tryd.zeroValue26
  i33 := by kernel_rfl
  t45 := Tryd.underlying55
  a45 := Tryd.isAgg55
  z45 := Tryd.sizeOf55
  v45 := Tryd.zeroValue55
  i45 := by kernel_rfl }

abbrev leB (k x : Nat) : List UInt8 := Lib.leBytes k x
@[simp] theorem leB_length (k x : Nat) : (Lib.leBytes k x).length = k := by
  induction k generalizing x with
  | zero => rfl
  | succ k ih => simp [Lib.leBytes, ih]

theorem setCells_full (g : Nat) (e : TypeId) : ∀ (vs : List Value) (o : Nat) (w : World) (cur : List Value), w.heap[g]? = some (.cells cur.toArray e (0, 0)) → o + vs.length ≤ cur.length →
    (w.setCells g o vs).heap[g]? = some (.cells (cur.take o ++ vs ++ cur.drop (o + vs.length)).toArray e (0, 0)) ∧ Chg (· = g) w (w.setCells g o vs)
  | [], o, w, cur, hg, _ => ⟨by simpa [World.setCells] using hg, Chg.refl _ _⟩
  | v :: r, o, w, cur, hg, hl => by
    have hs : (w.setCell ⟨g, o, none⟩ v).heap[g]? = some (.cells (cur.set o v).toArray e (0, 0)) := by simp [World.setCell, Array.getElem?_modify, hg]
    obtain ⟨h1, h4⟩ := setCells_full g e r (o + 1) (w.setCell ⟨g, o, none⟩ v) _ hs (by simp at hl ⊢; omega)
    refine ⟨?_, ((Chg.refl (· = g) w).setCell (.inl rfl) v).trans h4 (fun _ _ h => h)⟩
    have ho : o < cur.length := by simp at hl; omega
    have : cur.take o ++ (v :: r) ++ cur.drop (o + (v :: r).length) = (cur.set o v).take (o + 1) ++ r ++ (cur.set o v).drop (o + 1 + r.length) := by
      rw [List.drop_set_of_lt (by omega), List.take_set, List.take_succ_eq_append_getElem ho, List.set_append_right _ _ (by simp; omega)]
      simp [Nat.min_eq_left (Nat.le_of_lt ho), Nat.add_assoc, Nat.add_comm 1]
    rw [this]
    exact h1

theorem cells_of {w : World} {g : Nat} {cur : List Value} {T : TypeId} (hg : w.heap[g]? = some (.cells cur.toArray T (0, 0))) (j : Nat) : w.cell? ⟨g, j, none⟩ = cur[j]? ∧ w.frozen? ⟨g, j, none⟩ = false := by
  constructor
  · simp [World.cell?, hg]
  · simp [World.frozen?, hg]

theorem lePut8At (w : World) (g o n c x : Nat) (hx : x < 18446744073709551616) (cur : List Value) (T : TypeId) (hg : w.heap[g]? = some (.cells cur.toArray T (0, 0))) (ho : o + 8 ≤ cur.length) (hn : 8 ≤ n) :
    Calls Tryd.prog 63 #[.agg #[], .slice (some ⟨g, o, none⟩) n c, .int .u64 x] w fun e w' => e = .returned (.tuple #[]) ∧ w'.heap[g]? = some (.cells (cur.take o ++ u8s (leB 8 x) ++ cur.drop (o + 8)).toArray T (0, 0)) ∧ Chg (· = g) w w' := by
  have hc : ∀ i, i < 8 → w.cell? ⟨g, o + i, none⟩ = some (cur[o + i]?.getD undef) := fun i hi => by
    rw [(cells_of hg (o + i)).1, List.getElem?_eq_getElem (by omega)]; rfl
  have hf : ∀ j, w.frozen? ⟨g, j, none⟩ = false := fun j => (cells_of hg j).2
  have hl := (Array.getElem?_eq_some_iff.1 hg).1
  have hg2 : (w.alloc (.cells #[] 109)).heap[g]? = some (.cells cur.toArray T (0, 0)) := by rw [Below.heap_alloc _ _ _ hl]; exact hg
  refine (Any.binary_LE_PutUint64 lays34 g o n c x hx _ _ _ _ _ _ _ _ w hn (hc 0 (by omega)) (hc 1 (by omega)) (hc 2 (by omega)) (hc 3 (by omega)) (hc 4 (by omega)) (hc 5 (by omega)) (hc 6 (by omega)) (hc 7 (by omega)) (hf _) (hf _) (hf _) (hf _) (hf _) (hf _) (hf _) (hf _)).mono ?_
  rintro e w' ⟨rfl, rfl⟩
  obtain ⟨h1, h2⟩ := setCells_full g T (Lib.byteCells (Lib.leBytes 8 x)) o _ _ hg2 (by rw [Lib.byteCells_length, leB_length]; exact ho)
  refine ⟨rfl, ?_, ((Chg.refl (· = g) w).alloc _).trans h2 fun _ _ h => h⟩
  rw [Lib.byteCells_length, leB_length] at h1
  exact h1

theorem lePut2At (w : World) (g o n c x : Nat) (hx : x < 65536) (cur : List Value) (T : TypeId) (hg : w.heap[g]? = some (.cells cur.toArray T (0, 0))) (ho : o + 2 ≤ cur.length) (hn : 2 ≤ n) :
    Calls Tryd.prog 61 #[.agg #[], .slice (some ⟨g, o, none⟩) n c, .int .u16 x] w fun e w' => e = .returned (.tuple #[]) ∧ w'.heap[g]? = some (.cells (cur.take o ++ u8s (leB 2 x) ++ cur.drop (o + 2)).toArray T (0, 0)) ∧ Chg (· = g) w w' := by
  have hc : ∀ i, i < 2 → w.cell? ⟨g, o + i, none⟩ = some (cur[o + i]?.getD undef) := fun i hi => by
    rw [(cells_of hg (o + i)).1, List.getElem?_eq_getElem (by omega)]; rfl
  have hf : ∀ j, w.frozen? ⟨g, j, none⟩ = false := fun j => (cells_of hg j).2
  have hl := (Array.getElem?_eq_some_iff.1 hg).1
  have hg2 : (w.alloc (.cells #[] 109)).heap[g]? = some (.cells cur.toArray T (0, 0)) := by rw [Below.heap_alloc _ _ _ hl]; exact hg
  refine (Any.binary_LE_PutUint16 lays28 g o n c x hx _ _ w hn (hc 0 (by omega)) (hc 1 (by omega)) (hf _) (hf _)).mono ?_
  rintro e w' ⟨rfl, rfl⟩
  obtain ⟨h1, h2⟩ := setCells_full g T (Lib.byteCells (Lib.leBytes 2 x)) o _ _ hg2 (by rw [Lib.byteCells_length, leB_length]; exact ho)
  refine ⟨rfl, ?_, ((Chg.refl (· = g) w).alloc _).trans h2 fun _ _ h => h⟩
  rw [Lib.byteCells_length, leB_length] at h1
  exact h1

theorem bytes_of_block {w : World} {g : Nat} {bs : List UInt8} {T : TypeId} (h : w.heap[g]? = some (.cells (u8s bs).toArray T (0, 0))) (c n : Nat) (hn : n = bs.length) (hc : n ≤ c) : BytesAt w (.slice (some ⟨g, 0, none⟩) n c) bs := by
  subst hn
  refine .inr ⟨g, 0, c, rfl, hc, fun j hj => ?_⟩
  rw [Nat.zero_add, (cells_of h j).1]
  simp [u8s, hj]

set_option maxRecDepth 100000 in
theorem putUInt16 (w : World) (F : Nat → Prop) (p : Nat) (bs : List UInt8) (x : Nat) (hx : x < 65536) (h : BufAt w F 57 p bs) (hF : In F w) (hl : bs.length + 2 ≤ 140737488355328) :
    Calls Tryd.prog 36 #[.pointer (some ⟨p, 0, none⟩), .int .u16 x] w (Put w F 57 p (bs ++ leB 2 x)) := by
  obtain ⟨v, hc, hf, hlt⟩ := h.cell
  go_enter Tryd.func36, Tryd.ntmps36
  go_wp2_with fail
  have hP := lePut2At ((w.alloc (.cells #[.int .u8 0, .int .u8 0] 107)).drew) w.heap.size 0 2 2 x hx [.int .u8 0, .int .u8 0] 107 (heap_alloc_new _ _) (by simp) (Nat.le_refl _)
  have HP := Lib.hid hP
  clear hP
  go_region_held3 (fun _ => True) (trivial) (first | (go_at_call 61; refine HP.out.mono ?_; rintro e w2 ⟨rfl, hn, hd1⟩) | fail)
  all_goals
    have hn2 : BytesAt w2 (.slice (some ⟨w.heap.size, 0, none⟩) 2 2) (leB 2 x) := bytes_of_block (by simpa using hn) 2 2 (by simp) (Nat.le_refl _)
    have hc1 : w2.cell? ⟨p, 0, none⟩ = some v := by rw [hd1.cell (by simp; omega) (by simp; omega)]; go_simp
    have hB1 : BufAt w2 F 57 p bs := (h.alloc _).drew.upd hd1 (fun k hk e => by have := hF k hk; omega)
    have hU : Upd w w2 F F := ⟨(((Chg.refl F w).alloc (.cells #[.int .u8 0, .int .u8 0] 107)).trans (Chg.of_below (F := F) (below_d' _)) (fun _ _ h => h)).trans hd1 (fun i hi e => by omega), fun k hk => .inl hk⟩
    clear hn
    go_wp2_with fail
    go_region_law ((refine step_append_bufs _ F _ p bs (leB 2 x) (by rfl) _ _ _ (by rfl) hB1.drew v hc1 (by rfl) _ (by rfl) (hn2.below (below_d' _)).srcB hl ?_; intro g cap w3 hc2 hf2 hst))
    all_goals
      go_returns
      exact hst.put hU.drew

set_option maxRecDepth 100000 in
theorem putUInt64 (w : World) (F : Nat → Prop) (p : Nat) (bs : List UInt8) (x : Nat) (hx : x < 18446744073709551616) (h : BufAt w F 57 p bs) (hF : In F w) (hl : bs.length + 8 ≤ 140737488355328) :
    Calls Tryd.prog 38 #[.pointer (some ⟨p, 0, none⟩), .int .u64 x] w (Put w F 57 p (bs ++ leB 8 x)) := by
  obtain ⟨v, hc, hf, hlt⟩ := h.cell
  have HX := Lib.hid hx
  clear hx
  go_enter Tryd.func38, Tryd.ntmps38
  go_wp2_with fail
  have hP := lePut8At ((w.alloc (.cells #[.int .u8 0, .int .u8 0, .int .u8 0, .int .u8 0, .int .u8 0, .int .u8 0, .int .u8 0, .int .u8 0] 113)).drew) w.heap.size 0 8 8 x HX.out [.int .u8 0, .int .u8 0, .int .u8 0, .int .u8 0, .int .u8 0, .int .u8 0, .int .u8 0, .int .u8 0] 113 (heap_alloc_new _ _) (by simp) (Nat.le_refl _)
  have HP := Lib.hid hP
  clear hP
  go_region_held3 (fun _ => True) (trivial) (first | (go_at_call 63; refine HP.out.mono ?_; rintro e w2 ⟨rfl, hn, hd1⟩) | fail)
  all_goals
    have hn2 : BytesAt w2 (.slice (some ⟨w.heap.size, 0, none⟩) 8 8) (leB 8 x) := bytes_of_block (by simpa using hn) 8 8 (by simp) (Nat.le_refl _)
    have hc1 : w2.cell? ⟨p, 0, none⟩ = some v := by rw [hd1.cell (by simp; omega) (by simp; omega)]; go_simp
    have hB1 : BufAt w2 F 57 p bs := (h.alloc _).drew.upd hd1 (fun k hk e => by have := hF k hk; omega)
    have hU : Upd w w2 F F := ⟨(((Chg.refl F w).alloc (.cells #[.int .u8 0, .int .u8 0, .int .u8 0, .int .u8 0, .int .u8 0, .int .u8 0, .int .u8 0, .int .u8 0] 113)).trans (Chg.of_below (F := F) (below_d' _)) (fun _ _ h => h)).trans hd1 (fun i hi e => by omega), fun k hk => .inl hk⟩
    clear hn
    go_wp2_with fail
    go_region_law ((refine step_append_bufs _ F _ p bs (leB 8 x) (by rfl) _ _ _ (by rfl) hB1.drew v hc1 (by rfl) _ (by rfl) (hn2.below (below_d' _)).srcB hl ?_; intro g cap w3 hc2 hf2 hst))
    all_goals
      go_returns
      exact hst.put hU.drew

set_option maxRecDepth 100000 in
theorem binPut16 (w : World) (g lo hi : Nat) (hlo : lo < 18446744073709551616) (hhi : hi < 18446744073709551616) (cur : List Value) (T : TypeId) (hg : w.heap[g]? = some (.cells cur.toArray T (0, 0))) (hc : cur.length = 16) :
    Calls Tryd.prog 66 #[.slice (some ⟨g, 0, none⟩) 16 16, .agg #[.int .u64 lo, .int .u64 hi]] w fun e w' => e = .returned (.tuple #[]) ∧ BytesAt w' (.slice (some ⟨g, 0, none⟩) 16 16) (leB 8 lo ++ leB 8 hi) ∧ Chg (· = g) w w' := by
  have hgl : g < w.heap.size := (Array.getElem?_eq_some_iff.1 hg).1
  have H1 := Lib.hid (lePut8At ((w.alloc (.cells #[.int .u64 lo, .int .u64 hi] 81)).drew) g 8 8 8 hi hhi cur T (by show (w.alloc _).heap[g]? = _; rw [Below.heap_alloc _ _ _ hgl]; exact hg) (by omega) (Nat.le_refl _))
  have HC := Lib.hid hc
  have HLO := Lib.hid hlo
  have HG := Lib.hid hgl
  clear hg hc hlo hhi hgl
  go_enter Tryd.func66, Tryd.ntmps66
  go_wp2_with fail
  go_region_held3 (fun w' => w'.cell? ⟨w.heap.size, 0, none⟩ = some (.int .u64 lo) ∧ w'.cell? ⟨w.heap.size, 1, none⟩ = some (.int .u64 hi)) (first | go_keep | (go_split_ands; refine ⟨?_, ?_⟩ <;> assumption)) (first | (go_at_call 63; refine H1.out.mono ?_; rintro e w2 ⟨rfl, hn, hd1⟩; have y0 : w2.cell? ⟨w.heap.size, 0, none⟩ = some (.int .u64 lo) := (by rw [hd1.cell (by simp) (by have := HG.out; simp; omega)]; go_simp); have y1 : w2.cell? ⟨w.heap.size, 1, none⟩ = some (.int .u64 hi) := (by rw [hd1.cell (by simp) (by have := HG.out; simp; omega)]; go_simp); have HN := Lib.hid hn; clear hn) | fail)
  all_goals
    have H2 := Lib.hid (lePut8At w2.drew g 0 8 16 lo HLO.out _ T HN.out (by simp [HC.out]) (Nat.le_refl _))
    go_wp2_with fail
    go_region_held3 (fun w' => w'.cell? ⟨w.heap.size, 0, none⟩ = some (.int .u64 lo)) (first | go_keep | assumption) (first | (go_at_call 63; refine H2.out.mono ?_; rintro e w3 ⟨rfl, hn3, hd3⟩; have z0 : w3.cell? ⟨w.heap.size, 0, none⟩ = some (.int .u64 lo) := (by rw [hd3.cell (by have := hd1.size; simp at this ⊢; omega) (by have := HG.out; simp; omega)]; exact y0)) | fail)
    all_goals
      go_returns
      refine ⟨rfl, ?_, ?_⟩
      · refine bytes_of_block (T := T) ?_ 16 16 (by simp) (Nat.le_refl _)
        rw [u8s_append]
        have e : (cur.take 8 ++ u8s (leB 8 hi) ++ cur.drop 16).drop 8 = u8s (leB 8 hi) := by
          rw [List.drop_append_of_le_length (by simp [HC.out])]
          rw [List.drop_append_of_le_length (by simp [HC.out])]
          simp [HC.out]
        have hn4 := hn3
        simp only [List.take_zero, List.nil_append, Nat.zero_add] at hn4
        rw [e] at hn4
        exact hn4
      · exact ((((Chg.refl (· = g) w).alloc (.cells #[.int .u64 lo, .int .u64 hi] 81)).drew).trans hd1 (fun _ _ h => h)).drew.trans hd3 (fun _ _ h => h)
end Go.Proofs.YtlohpmncagfecaaDoor
