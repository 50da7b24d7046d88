/- What a Reader reads: numbers of 1, 2, 8 and 16 bytes, signed ones, floating-point numbers. -/
import Derived.Test.YtlohpmncagfecaaDoorAsk2
namespace Go.Proofs.YtlohpmncagfecaaDoor
open Go.RowKit Go.Shelf
set_option linter.unnecessarySimpa false
set_option linter.unusedVariables false
set_option linter.unusedSimpArgs false

theorem leB1_eq (x : Nat) (hx : x < 256) : ∃ b : UInt8, leB 1 x = [b] ∧ b.toNat = x := ⟨_, rfl, by show (UInt8.ofNat _).toNat = x; simp; omega⟩

theorem rdU8 (w : World) (F D : Nat → Prop) (r x : Nat) (hx : x < 256) (rest cur : List UInt8) (h : RdAt w F D r (leB 1 x ++ rest) cur) (hm : (leB 1 x ++ rest).length ≤ 140737488355328) :
    Calls Tryd.prog 56 #[.pointer (some ⟨r, 0, none⟩)] w (GotE w F D r (.tuple #[.int .u8 x, .nilIface]) rest) := by
  obtain ⟨b, hb, rfl⟩ := leB1_eq x hx
  rw [hb] at h hm
  refine (uint8 w F D r b rest cur h hm).mono ?_
  rintro e w1 ⟨rfl, F1, h1, hu⟩
  exact ⟨rfl, F1, _, h1, hu⟩

theorem rdByte (w : World) (F D : Nat → Prop) (r x : Nat) (hx : x < 256) (rest cur : List UInt8) (h : RdAt w F D r (leB 1 x ++ rest) cur) (hm : (leB 1 x ++ rest).length ≤ 140737488355328) :
    Calls Tryd.prog 50 #[.pointer (some ⟨r, 0, none⟩)] w (GotE w F D r (.tuple #[.int .u8 x, .nilIface]) rest) := by
  have HX := Lib.hid hx
  clear hx
  go_enter Tryd.func50, Tryd.ntmps50
  go_wp2_with (go_at_call 56; refine (rdU8 _ F D r x HX.out rest cur h hm).mono ?_; rintro e w1 ⟨rfl, F1, cur1, h1, hu⟩)
  go_ret2
  exact ⟨rfl, F1, cur1, h1, hu⟩

theorem leUint16' (g cap x : Nat) (hx : x < 65536) (w : World) (hg : ∀ (j : Nat) (u : UInt8), (leB 2 x)[j]? = some u → w.cell? ⟨g, j, none⟩ = some (.int .u8 u.toNat)) (n : Nat) (hn : 2 ≤ n) :
    Calls Tryd.prog 71 #[.agg #[], .slice (some ⟨g, 0, none⟩) n cap] w fun e w' => e = .returned (.int .u16 x) ∧ Below w.heap.size w w' :=
  (Any.binary_LE_Uint16 lays27 g 0 n cap _ _ w hn (hg 0 _ rfl) (hg 1 _ rfl)).mono fun _ _ h => ⟨h.1.trans (congrArg (fun n : Nat => Ending.returned (.int .u16 n)) (Lib.leNat_leBytes 2 x hx)), h.2⟩

set_option maxRecDepth 100000 in
theorem rdU16 (w : World) (F D : Nat → Prop) (r x : Nat) (hx : x < 65536) (rest cur : List UInt8) (h : RdAt w F D r (leB 2 x ++ rest) cur) (hm : (leB 2 x ++ rest).length ≤ 140737488355328) :
    Calls Tryd.prog 57 #[.pointer (some ⟨r, 0, none⟩)] w (GotE w F D r (.tuple #[.int .u16 x, .nilIface]) rest) := by
  have HX := Lib.hid hx
  clear hx
  go_enter Tryd.func57, Tryd.ntmps57
  go_wp2_with fail
  refine (readFull _ F D r (leB 2 x ++ rest) cur h 2 (by simp) hm).mono ?_
  rintro e w1 ⟨rfl, F1, h1, hu⟩
  rw [List.drop_left' (leB_length 2 x), List.take_left' (leB_length 2 x)] at h1
  obtain ⟨b, g, cap, hc1, hc2, hcap, hg⟩ := h1.view (by intro e; have := congrArg List.length e; simp at this)
  have hP := leUint16' g cap x HX.out w1.drew hg 2 (Nat.le_refl _)
  have HP := Lib.hid hP
  rw [leB_length] at hc2 hcap
  clear hg hP
  go_wp2_with fail
  go_region_held3 (fun w' => w'.cell? ⟨r, 1, none⟩ = some (.pointer (some ⟨b, 0, none⟩)) ∧ w'.cell? ⟨b, 0, none⟩ = some (.slice (some ⟨g, 0, none⟩) 2 cap)) (first | go_keep | (go_split_ands; refine ⟨?_, ?_⟩ <;> assumption)) (first | (go_at_call 71; refine HP.out.mono ?_; rintro e w2 ⟨rfl, hb2⟩; have hb3 := Below.trans (below_d' w1) hb2; have y1 : w2.cell? ⟨r, 1, none⟩ = some (.pointer (some ⟨b, 0, none⟩)) := (by rw [hb3.cell (World.block_lt_of_cell? _ _ hc1)]; exact hc1); have y2 : w2.cell? ⟨b, 0, none⟩ = some (.slice (some ⟨g, 0, none⟩) 2 cap) := (by rw [hb3.cell (World.block_lt_of_cell? _ _ hc2)]; exact hc2)) | fail)
  all_goals
    go_wp2_with fail
    go_ret2
    exact ⟨rfl, F1, _, h1.below hb3, hu.below hb3⟩

theorem leUint64' (g cap x : Nat) (hx : x < 18446744073709551616) (w : World) (hg : ∀ (j : Nat) (u : UInt8), (leB 8 x)[j]? = some u → w.cell? ⟨g, j, none⟩ = some (.int .u8 u.toNat)) (n : Nat) (hn : 8 ≤ n) :
    Calls Tryd.prog 73 #[.agg #[], .slice (some ⟨g, 0, none⟩) n cap] w fun e w' => e = .returned (.int .u64 x) ∧ Below w.heap.size w w' :=
  (Any.binary_LE_Uint64 lays33 g 0 n cap _ _ _ _ _ _ _ _ w hn (hg 0 _ rfl) (hg 1 _ rfl) (hg 2 _ rfl) (hg 3 _ rfl) (hg 4 _ rfl) (hg 5 _ rfl) (hg 6 _ rfl) (hg 7 _ rfl)).mono fun _ _ h => ⟨h.1.trans (congrArg (fun n : Nat => Ending.returned (.int .u64 n)) (Lib.leNat_leBytes 8 x hx)), h.2⟩

set_option maxRecDepth 100000 in
theorem rdU64 (w : World) (F D : Nat → Prop) (r x : Nat) (hx : x < 18446744073709551616) (rest cur : List UInt8) (h : RdAt w F D r (leB 8 x ++ rest) cur) (hm : (leB 8 x ++ rest).length ≤ 140737488355328) :
    Calls Tryd.prog 59 #[.pointer (some ⟨r, 0, none⟩)] w (GotE w F D r (.tuple #[.int .u64 x, .nilIface]) rest) := by
  have HX := Lib.hid hx
  clear hx
  go_enter Tryd.func59, Tryd.ntmps59
  go_wp2_with fail
  refine (readFull _ F D r (leB 8 x ++ rest) cur h 8 (by simp) hm).mono ?_
  rintro e w1 ⟨rfl, F1, h1, hu⟩
  rw [List.drop_left' (leB_length 8 x), List.take_left' (leB_length 8 x)] at h1
  obtain ⟨b, g, cap, hc1, hc2, hcap, hg⟩ := h1.view (by intro e; have := congrArg List.length e; simp at this)
  have hP := leUint64' g cap x HX.out w1.drew hg 8 (Nat.le_refl _)
  have HP := Lib.hid hP
  rw [leB_length] at hc2 hcap
  clear hg hP
  go_wp2_with fail
  go_region_held3 (fun w' => w'.cell? ⟨r, 1, none⟩ = some (.pointer (some ⟨b, 0, none⟩)) ∧ w'.cell? ⟨b, 0, none⟩ = some (.slice (some ⟨g, 0, none⟩) 8 cap)) (first | go_keep | (go_split_ands; refine ⟨?_, ?_⟩ <;> assumption)) (first | (go_at_call 73; refine HP.out.mono ?_; rintro e w2 ⟨rfl, hb2⟩; have hb3 := Below.trans (below_d' w1) hb2; have y1 : w2.cell? ⟨r, 1, none⟩ = some (.pointer (some ⟨b, 0, none⟩)) := (by rw [hb3.cell (World.block_lt_of_cell? _ _ hc1)]; exact hc1); have y2 : w2.cell? ⟨b, 0, none⟩ = some (.slice (some ⟨g, 0, none⟩) 8 cap) := (by rw [hb3.cell (World.block_lt_of_cell? _ _ hc2)]; exact hc2)) | fail)
  all_goals
    go_wp2_with fail
    go_ret2
    exact ⟨rfl, F1, _, h1.below hb3, hu.below hb3⟩

theorem rdU32 (w : World) (F D : Nat → Prop) (r x : Nat) (hx : x < 4294967296) (rest cur : List UInt8) (h : RdAt w F D r (leB 4 x ++ rest) cur) (hm : (leB 4 x ++ rest).length ≤ 140737488355328) :
    Calls Tryd.prog 58 #[.pointer (some ⟨r, 0, none⟩)] w (GotE w F D r (.tuple #[.int .u32 x, .nilIface]) rest) := rdUInt32 w F D r x hx rest cur h hm

theorem rdI8 (w : World) (F D : Nat → Prop) (r x : Nat) (hx : x < 256) (rest cur : List UInt8) (h : RdAt w F D r (leB 1 x ++ rest) cur) (hm : (leB 1 x ++ rest).length ≤ 140737488355328) :
    Calls Tryd.prog 52 #[.pointer (some ⟨r, 0, none⟩)] w (GotE w F D r (.tuple #[.int .i8 (IntKind.i8.wrap (x : Int)), .nilIface]) rest) := by
  have HX := Lib.hid hx
  clear hx
  go_enter Tryd.func52, Tryd.ntmps52
  go_wp2_with (go_at_call 56; refine (rdU8 _ F D r x HX.out rest cur h hm).mono ?_; rintro e w1 ⟨rfl, F1, cur1, h1, hu⟩)
  go_ret2
  exact ⟨rfl, F1, cur1, h1, hu⟩

theorem rdI16 (w : World) (F D : Nat → Prop) (r x : Nat) (hx : x < 65536) (rest cur : List UInt8) (h : RdAt w F D r (leB 2 x ++ rest) cur) (hm : (leB 2 x ++ rest).length ≤ 140737488355328) :
    Calls Tryd.prog 53 #[.pointer (some ⟨r, 0, none⟩)] w (GotE w F D r (.tuple #[.int .i16 (IntKind.i16.wrap (x : Int)), .nilIface]) rest) := by
  have HX := Lib.hid hx
  clear hx
  go_enter Tryd.func53, Tryd.ntmps53
  go_wp2_with (go_at_call 57; refine (rdU16 _ F D r x HX.out rest cur h hm).mono ?_; rintro e w1 ⟨rfl, F1, cur1, h1, hu⟩)
  go_ret2
  exact ⟨rfl, F1, cur1, h1, hu⟩

theorem rdI32 (w : World) (F D : Nat → Prop) (r x : Nat) (hx : x < 4294967296) (rest cur : List UInt8) (h : RdAt w F D r (leB 4 x ++ rest) cur) (hm : (leB 4 x ++ rest).length ≤ 140737488355328) :
    Calls Tryd.prog 54 #[.pointer (some ⟨r, 0, none⟩)] w (GotE w F D r (.tuple #[.int .i32 (wrap32 (x : Int)), .nilIface]) rest) := by
  have HX := Lib.hid hx
  clear hx
  go_enter Tryd.func54, Tryd.ntmps54
  go_wp2_with (go_at_call 58; refine (rdU32 _ F D r x HX.out rest cur h hm).mono ?_; rintro e w1 ⟨rfl, F1, cur1, h1, hu⟩)
  go_ret2
  exact ⟨rfl, F1, cur1, h1, hu⟩

theorem rdI64 (w : World) (F D : Nat → Prop) (r x : Nat) (hx : x < 18446744073709551616) (rest cur : List UInt8) (h : RdAt w F D r (leB 8 x ++ rest) cur) (hm : (leB 8 x ++ rest).length ≤ 140737488355328) :
    Calls Tryd.prog 55 #[.pointer (some ⟨r, 0, none⟩)] w (GotE w F D r (.tuple #[.int .i64 (wrap64 (x : Int)), .nilIface]) rest) := by
  have HX := Lib.hid hx
  clear hx
  go_enter Tryd.func55, Tryd.ntmps55
  go_wp2_with (go_at_call 59; refine (rdU64 _ F D r x HX.out rest cur h hm).mono ?_; rintro e w1 ⟨rfl, F1, cur1, h1, hu⟩)
  go_ret2
  exact ⟨rfl, F1, cur1, h1, hu⟩

theorem rdIntG (w : World) (F D : Nat → Prop) (r x : Nat) (tail cur : List UInt8) (hx : x < 18446744073709551616) (h : RdAt w F D r (uv x ++ tail) cur) (hm : (uv x ++ tail).length ≤ 140737488355328) :
    Calls Tryd.prog 79 #[.pointer (some ⟨r, 0, none⟩)] w (GotE w F D r (.tuple #[.int .i64 (wrap64 (x : Int)), .nilIface]) tail) := by
  have HX := Lib.hid hx
  clear hx
  go_enter Tryd.func79, Tryd.ntmps79
  go_wp2_with (go_at_call 78; refine (uvarint _ F D r x tail cur HX.out h hm).mono ?_; rintro e w1 ⟨rfl, F1, cur1, h1, hu1⟩)
  go_ret2
  exact ⟨rfl, F1, cur1, h1, hu1⟩

theorem rdF32 (w : World) (F D : Nat → Prop) (r x : Nat) (hx : x < 4294967296) (rest cur : List UInt8) (h : RdAt w F D r (leB 4 x ++ rest) cur) (hm : (leB 4 x ++ rest).length ≤ 140737488355328) :
    Calls Tryd.prog 74 #[.pointer (some ⟨r, 0, none⟩)] w (GotE w F D r (.tuple #[.float .f32 x, .nilIface]) rest) := by
  have HX := Lib.hid hx
  have hf := fun (n : Int) (w : World) => (by kernel_rfl : (callFunc 40 #[.int .u32 n]).run Tryd.prog w = .ok (.value (.float .f32 n.toNat)) w)
  clear hx
  go_enter Tryd.func74, Tryd.ntmps74
  go_wp2_with (go_at_call 58; refine (rdU32 _ F D r x HX.out rest cur h hm).mono ?_; rintro e w1 ⟨rfl, F1, cur1, h1, hu⟩)
  go_ret2
  exact ⟨rfl, F1, cur1, h1, hu⟩

theorem rdF64 (w : World) (F D : Nat → Prop) (r x : Nat) (hx : x < 18446744073709551616) (rest cur : List UInt8) (h : RdAt w F D r (leB 8 x ++ rest) cur) (hm : (leB 8 x ++ rest).length ≤ 140737488355328) :
    Calls Tryd.prog 75 #[.pointer (some ⟨r, 0, none⟩)] w (GotE w F D r (.tuple #[.float .f64 x, .nilIface]) rest) := by
  have HX := Lib.hid hx
  have hf := fun (n : Int) (w : World) => (by kernel_rfl : (callFunc 42 #[.int .u64 n]).run Tryd.prog w = .ok (.value (.float .f64 n.toNat)) w)
  clear hx
  go_enter Tryd.func75, Tryd.ntmps75
  go_wp2_with (go_at_call 59; refine (rdU64 _ F D r x HX.out rest cur h hm).mono ?_; rintro e w1 ⟨rfl, F1, cur1, h1, hu⟩)
  go_ret2
  exact ⟨rfl, F1, cur1, h1, hu⟩

end Go.Proofs.YtlohpmncagfecaaDoor
