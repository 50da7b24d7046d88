/- Numbers of 4 bytes, the least first: PutInt32, Int32. -/
import Derived.Test.YtlohpmncagfecaaDoorRow
import Derived.Shelf.Bin.LEUint32
import Derived.Shelf.Bin.LEPutUint32
namespace Go.Proofs.YtlohpmncagfecaaDoor
open Go.RowKit Go.Shelf

def lays30_ren : Go.Shelf.Ren := ⟨fun | 30 => 72 | n => n, fun | 25 => 109 | 22 => 25 | 29 => 69 | 0 => 0 | 5 => 5 | 45 => 55 | n => n, fun | n => n⟩
theorem lays30 : Go.Proofs.LaysBin.n30 Tryd.prog lays30_ren := {
  mixed := by kernel_rfl
  f30 := Tryd.func72.trans (congrArg some (by kernel_rfl))
  t0 := Tryd.underlying0
  a0 := Tryd.isAgg0
  z0 := Tryd.sizeOf0
  v0 := Tryd.zeroValue0
  i0 := by kernel_rfl
  t5 := Tryd.underlying5
  a5 := Tryd.isAgg5
  z5 := Tryd.sizeOf5
  v5 := Tryd.zeroValue5
  i5 := by kernel_rfl
  t22 := Tryd.underlying25
  a22 := Tryd.isAgg25
  z22 := Tryd.sizeOf25
  v22 := Tryd.zeroValue25
  i22 := by kernel_rfl
  t25 := Tryd.underlying109
  a25 := Tryd.isAgg109
  z25 := Tryd.sizeOf109
  v25 := Tryd.zeroValue109
  i25 := by kernel_rfl
  t29 := Tryd.underlying69
  a29 := Tryd.isAgg69
  z29 := Tryd.sizeOf69
  v29 := Tryd.zeroValue69
  i29 := by kernel_rfl
  t45 := Tryd.underlying55
  a45 := Tryd.isAgg55
  z45 := Tryd.sizeOf55
  v45 := Tryd.zeroValue55
  i45 := by kernel_rfl }
def lays31_ren : Go.Shelf.Ren := ⟨fun | 31 => 62 | n => n, fun | 25 => 109 | 22 => 25 | 29 => 69 | 0 => 0 | 5 => 5 | 45 => 55 | n => n, fun | n => n⟩
theorem lays31 : Go.Proofs.LaysBin.n31 Tryd.prog lays31_ren := {
  mixed := by kernel_rfl
  f31 := Tryd.func62.trans (congrArg some (by kernel_rfl))
  t0 := Tryd.underlying0
  a0 := Tryd.isAgg0
  z0 := Tryd.sizeOf0
  v0 := Tryd.zeroValue0
  i0 := by kernel_rfl
  t5 := Tryd.underlying5
  a5 := Tryd.isAgg5
  z5 := Tryd.sizeOf5
  v5 := Tryd.zeroValue5
  i5 := by kernel_rfl
  t22 := Tryd.underlying25
  a22 := Tryd.isAgg25
  z22 := Tryd.sizeOf25
  v22 := Tryd.zeroValue25
  i22 := by kernel_rfl
  t25 := Tryd.underlying109
  a25 := Tryd.isAgg109
  z25 := Tryd.sizeOf109
  v25 := Tryd.zeroValue109
  i25 := by kernel_rfl
  t29 := Tryd.underlying69
  a29 := Tryd.isAgg69
  z29 := Tryd.sizeOf69
  v29 := Tryd.zeroValue69
  i29 := by kernel_rfl
  t45 := Tryd.underlying55
  a45 := Tryd.isAgg55
  z45 := Tryd.sizeOf55
  v45 := Tryd.zeroValue55
  i45 := by kernel_rfl }

def le4 (x : Nat) : List UInt8 := Lib.leBytes 4 x
theorem le4_length (x : Nat) : (le4 x).length = 4 := rfl

theorem leUint32 (g o n c : Nat) (b0 b1 b2 b3 : UInt8) (w : World) (hn : 4 ≤ n) (c0 : w.cell? ⟨g, o, none⟩ = some (.int .u8 b0.toNat)) (c1 : w.cell? ⟨g, o + 1, none⟩ = some (.int .u8 b1.toNat)) (c2 : w.cell? ⟨g, o + 2, none⟩ = some (.int .u8 b2.toNat)) (c3 : w.cell? ⟨g, o + 3, none⟩ = some (.int .u8 b3.toNat)) :
    Calls Tryd.prog 72 #[.agg #[], .slice (some ⟨g, o, none⟩) n c] w fun e w' => e = .returned (.int .u32 (Lib.leNat [b0, b1, b2, b3])) ∧ Below w.heap.size w w' :=
  Any.binary_LE_Uint32 lays30 g o n c b0 b1 b2 b3 w hn c0 c1 c2 c3

theorem lePutUint32 (g o n c v : Nat) (hv : v < 4294967296) (x0 x1 x2 x3 : Value) (w : World) (hn : 4 ≤ n)
    (c0 : w.cell? ⟨g, o, none⟩ = some x0) (c1 : w.cell? ⟨g, o + 1, none⟩ = some x1) (c2 : w.cell? ⟨g, o + 2, none⟩ = some x2) (c3 : w.cell? ⟨g, o + 3, none⟩ = some x3)
    (f0 : w.frozen? ⟨g, o, none⟩ = false) (f1 : w.frozen? ⟨g, o + 1, none⟩ = false) (f2 : w.frozen? ⟨g, o + 2, none⟩ = false) (f3 : w.frozen? ⟨g, o + 3, none⟩ = false) :
    Calls Tryd.prog 62 #[.agg #[], .slice (some ⟨g, o, none⟩) n c, .int .u32 v] w fun e w' => e = .returned (.tuple #[]) ∧ w' = (w.alloc (.cells #[] 109)).setCells g o (Lib.byteCells (Lib.leBytes 4 v)) :=
  Any.binary_LE_PutUint32 lays31 g o n c v hv x0 x1 x2 x3 w hn c0 c1 c2 c3 f0 f1 f2 f3

theorem below_d' (w : World) : Below w.heap.size w w.drew := ⟨rfl, rfl, rfl, Nat.le_refl _, fun _ _ => rfl⟩

theorem lePut4 (w : World) (g x : Nat) (hx : x < 4294967296) (a b c d : Value) (T : TypeId) (hg : w.heap[g]? = some (.cells #[a, b, c, d] T (0, 0))) :
    Calls Tryd.prog 62 #[.agg #[], .slice (some ⟨g, 0, none⟩) 4 4, .int .u32 x] w fun e w' => e = .returned (.tuple #[]) ∧ BytesAt w' (.slice (some ⟨g, 0, none⟩) 4 4) (le4 x) ∧ Chg (· = g) w w' := by
  have hr : ∀ j u, [a, b, c, d][j]? = some u → w.cell? ⟨g, j, none⟩ = some u := fun j u h => by simpa [World.cell?, hg] using h
  have hf : ∀ j, w.frozen? ⟨g, j, none⟩ = false := fun j => by simp [World.frozen?, hg]
  refine (lePutUint32 g 0 4 4 x hx a b c d w (Nat.le_refl _) (hr 0 _ rfl) (hr 1 _ rfl) (hr 2 _ rfl) (hr 3 _ rfl) (hf 0) (hf 1) (hf 2) (hf 3)).mono ?_
  rintro e w' ⟨rfl, rfl⟩
  have hl := (Array.getElem?_eq_some_iff.1 hg).1
  have hg2 : (w.alloc (.cells #[] 109)).heap[g]? = some (.cells #[a, b, c, d] T (0, 0)) := by rw [Below.heap_alloc _ _ _ hl]; exact hg
  obtain ⟨cur, h1, h2, h3, h4⟩ := setCells_block g T (Lib.byteCells (Lib.leBytes 4 x)) 0 _ _ hg2 (by simp [Lib.byteCells, Lib.leBytes])
  refine ⟨rfl, .inr ⟨g, 0, 4, rfl, Nat.le_refl _, fun j hj => ?_⟩, ((Chg.refl (· = g) w).alloc _).trans h4 fun _ _ h => h⟩
  have hj' : j < 4 := hj
  have h5 : (Lib.byteCells (Lib.leBytes 4 x))[j]? = some (.int .u8 ((le4 x)[j]).toNat) := by
    unfold Lib.byteCells
    rw [List.getElem?_map, show (Lib.leBytes 4 x)[j]? = some ((le4 x)[j]) from List.getElem?_eq_getElem hj]
    rfl
  have h6 : cur.toList.take 4 = Lib.byteCells (Lib.leBytes 4 x) := by simpa [Lib.byteCells, Lib.leBytes] using h3
  rw [← h6, List.getElem?_take, if_pos hj'] at h5
  have h7 : cur[j]? = some (.int .u8 ((le4 x)[j]).toNat) := by simpa using h5
  simp only [World.cell?, h1, Nat.zero_add]
  exact h7

set_option maxRecDepth 100000 in
theorem putUInt32 (w : World) (F : Nat → Prop) (p : Nat) (bs : List UInt8) (x : Nat) (hx : x < 4294967296) (h : BufAt w F 57 p bs) (hF : In F w) (hl : bs.length + 4 ≤ 140737488355328) :
    Calls Tryd.prog 37 #[.pointer (some ⟨p, 0, none⟩), .int .u32 x] w (Put w F 57 p (bs ++ le4 x)) := by
  obtain ⟨v, hc, hf, hlt⟩ := h.cell
  go_enter Tryd.func37, Tryd.ntmps37
  go_wp2_with fail
  have hP := lePut4 ((w.alloc (.cells #[.int .u8 0, .int .u8 0, .int .u8 0, .int .u8 0] 111)).drew) w.heap.size x hx _ _ _ _ 111 (heap_alloc_new _ _)
  have HP := Lib.hid hP
  clear hP
  go_region_held3 (fun _ => True) (trivial) (first | (go_at_call 62; refine HP.out.mono ?_; rintro e w2 ⟨rfl, hn, hd1⟩) | fail)
  all_goals
    have hc1 : w2.cell? ⟨p, 0, none⟩ = some v := by rw [hd1.cell (by simp; omega) (by simp; omega)]; go_simp
    have hB1 : BufAt w2 F 57 p bs := (h.alloc _).drew.upd hd1 (fun k hk e => by have := hF k hk; omega)
    have hU : Upd w w2 F F := ⟨(((Chg.refl F w).alloc (.cells #[.int .u8 0, .int .u8 0, .int .u8 0, .int .u8 0] 111)).trans (Chg.of_below (F := F) (below_d' _)) (fun _ _ h => h)).trans hd1 (fun i hi e => by omega), fun k hk => .inl hk⟩
    go_wp2_with fail
    go_region_law ((refine step_append_bufs _ F _ p bs (le4 x) (by rfl) _ _ _ (by rfl) hB1.drew v hc1 (by rfl) _ (by rfl) (hn.below (below_d' _)).srcB hl ?_; intro g cap w3 hc2 hf2 hst))
    all_goals
      go_returns
      exact hst.put hU.drew

theorem putInt32 (w : World) (F : Nat → Prop) (p : Nat) (bs : List UInt8) (x : Nat) (hx : x ≤ 2147483647) (h : BufAt w F 57 p bs) (hF : In F w) (hl : bs.length + 4 ≤ 140737488355328) :
    Calls Tryd.prog 33 #[.pointer (some ⟨p, 0, none⟩), .int .i32 x] w (Put w F 57 p (bs ++ le4 x)) := by
  go_enter Tryd.func33, Tryd.ntmps33
  go_wp2_with (go_at_call 37; refine (putUInt32 _ F p bs x (by omega) h hF hl).mono ?_; rintro e w1 ⟨rfl, hp⟩)
  go_returns
  exact ⟨rfl, hp⟩

theorem leUint32' (g cap x : Nat) (hx : x < 4294967296) (w : World) (hg : ∀ (j : Nat) (u : UInt8), (le4 x)[j]? = some u → w.cell? ⟨g, j, none⟩ = some (.int .u8 u.toNat)) :
    Calls Tryd.prog 72 #[.agg #[], .slice (some ⟨g, 0, none⟩) 4 cap] w fun e w' => e = .returned (.int .u32 x) ∧ Below w.heap.size w w' :=
  (leUint32 g 0 4 cap _ _ _ _ w (Nat.le_refl _) (hg 0 _ rfl) (hg 1 _ rfl) (hg 2 _ rfl) (hg 3 _ rfl)).mono fun _ _ h => ⟨h.1.trans (congrArg (fun n : Nat => Ending.returned (.int .u32 n)) (Lib.leNat_leBytes 4 x hx)), h.2⟩

set_option maxRecDepth 100000 in
theorem rdUInt32 (w : World) (F D : Nat → Prop) (r x : Nat) (hx : x < 4294967296) (rest cur : List UInt8) (h : RdAt w F D r (le4 x ++ rest) cur) (hm : (le4 x ++ rest).length ≤ 140737488355328) :
    Calls Tryd.prog 58 #[.pointer (some ⟨r, 0, none⟩)] w (GotE w F D r (.tuple #[.int .u32 x, .nilIface]) rest) := by
  go_enter Tryd.func58, Tryd.ntmps58
  go_wp2_with fail
  refine (readFull _ F D r (le4 x ++ rest) cur h 4 (by simp [le4_length]) hm).mono ?_
  rintro e w1 ⟨rfl, F1, h1, hu⟩
  rw [List.drop_left' (le4_length x), List.take_left' (le4_length x)] at h1
  obtain ⟨b, g, cap, hc1, hc2, hcap, hg⟩ := h1.view (by intro e; have := congrArg List.length e; simp [le4_length] at this)
  have hP := leUint32' g cap x hx w1.drew hg
  have HP := Lib.hid hP
  rw [le4_length] at hc2 hcap
  clear hg hP
  go_wp2_with fail
  go_region_held3 (fun w' => w'.cell? ⟨r, 1, none⟩ = some (.pointer (some ⟨b, 0, none⟩)) ∧ w'.cell? ⟨b, 0, none⟩ = some (.slice (some ⟨g, 0, none⟩) 4 cap)) (first | go_keep | (go_split_ands; refine ⟨?_, ?_⟩ <;> assumption)) (first | (go_at_call 72; refine HP.out.mono ?_; rintro e w2 ⟨rfl, hb2⟩; have hb3 := Below.trans (below_d' w1) hb2; have y1 : w2.cell? ⟨r, 1, none⟩ = some (.pointer (some ⟨b, 0, none⟩)) := (by rw [hb3.cell (World.block_lt_of_cell? _ _ hc1)]; exact hc1); have y2 : w2.cell? ⟨b, 0, none⟩ = some (.slice (some ⟨g, 0, none⟩) 4 cap) := (by rw [hb3.cell (World.block_lt_of_cell? _ _ hc2)]; exact hc2)) | fail)
  all_goals
    go_wp2_with fail
    go_ret2
    exact ⟨rfl, F1, _, h1.below hb3, hu.below hb3⟩

theorem rdUInt32_short (w : World) (F D : Nat → Prop) (r x : Nat) (rest cur : List UInt8) (h : RdAt w F D r rest cur) (hs : Short rest (le4 x)) :
    Calls Tryd.prog 58 #[.pointer (some ⟨r, 0, none⟩)] w (Fell w F D r fun v => .tuple #[.int .u32 0, v]) := by
  have hl := hs.lt
  rw [le4_length] at hl
  go_enter Tryd.func58, Tryd.ntmps58
  go_wp2_with (first | (go_at_call 70; refine (readFull_short _ F D r rest cur h 4 hl).mono ?_; rintro e w1 ⟨a, F1, cur1, rfl, h1, hu⟩) | (go_at_call 68; refine (wrapErr _ _ _ _).mono ?_; rintro e w2 ⟨⟨a2, rfl⟩, hb2⟩))
  go_ret2
  exact ⟨_, F1, cur1, rfl, h1.below hb2, hu.below hb2⟩

theorem rdInt32 (w : World) (F D : Nat → Prop) (r x : Nat) (rest cur : List UInt8) (hx : x ≤ 2147483647) (h : RdAt w F D r (le4 x ++ rest) cur) (hm : (le4 x ++ rest).length ≤ 140737488355328) :
    Calls Tryd.prog 54 #[.pointer (some ⟨r, 0, none⟩)] w (GotE w F D r (.tuple #[.int .i32 x, .nilIface]) rest) := by
  go_enter Tryd.func54, Tryd.ntmps54
  go_wp2_with (go_at_call 58; refine (rdUInt32 _ F D r x (by omega) rest cur h hm).mono ?_; rintro e w1 ⟨rfl, F1, cur1, h1, hu⟩)
  go_ret2
  exact ⟨rfl, F1, cur1, h1, hu⟩

theorem rdInt32_short (w : World) (F D : Nat → Prop) (r x : Nat) (rest cur : List UInt8) (h : RdAt w F D r rest cur) (hs : Short rest (le4 x)) :
    Calls Tryd.prog 54 #[.pointer (some ⟨r, 0, none⟩)] w (Fell w F D r fun v => .tuple #[.int .i32 0, v]) := by
  go_enter Tryd.func54, Tryd.ntmps54
  go_wp2_with (go_at_call 58; refine (rdUInt32_short _ F D r x rest cur h hs).mono ?_; rintro e w1 ⟨a, F1, cur1, rfl, h1, hu⟩)
  go_ret2
  exact ⟨_, F1, cur1, rfl, h1, hu⟩

theorem wrap32_small {k : Nat} (h : k ≤ 2147483647) : wrap32 (k : Int) = (k : Int) := by unfold wrap32; omega
theorem wrap64_small {k : Nat} (h : k ≤ 2147483647) : wrap64 (k : Int) = (k : Int) := by unfold wrap64; omega
end Go.Proofs.YtlohpmncagfecaaDoor
