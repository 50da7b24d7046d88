/- proto.ColArr[string]: its memory, rows, DecodeColumn. -/
import Derived.Test.YtemmhlibbihjmaaGreatLsB
import Derived.Test.YtemmhlibbihjmaaGreatMeth
namespace Go.Proofs.YtemmhlibbihjmaaGreat
open Go.RowKit
set_option linter.unusedVariables false
set_option linter.unusedSimpArgs false

theorem load_twoA {w : World} {q : Nat} {v u : Value} {T ty : TypeId} {fs : Array Field} (h : w.heap[q]? = some (.cells #[v, u] T (0, 0))) (hu : Tryz.prog.underlying ty = some (.struct fs)) (hi : (Tryz.prog.info? ty).map (·.size) = some 2) : (loadVar ty ⟨q, 0, none⟩).run Tryz.prog w = .ok (.agg #[v, u]) w :=
  run_loadVar_row w q T ty #[v, u] (0, 0) _ h hu rfl hi

def ofS1 (s : List UInt8) : ByteArray := ⟨s.toArray⟩
theorem ofS1_to (s : ByteArray) : ofS1 s.data.toList = s := by
  unfold ofS1
  simp
/-- Where an element of a row lies among all. -/
theorem flat_get {α : Type} : ∀ (ll : List (List α)) (i j : Nat) (ss : List α) (s : α), ll[i]? = some ss → ss[j]? = some s → ll.flatten[((ll.take i).map (·.length)).sum + j]? = some s
  | [], i, j, ss, s, h, _ => by simp at h
  | x :: ll, 0, j, ss, s, h, hj => by
    obtain rfl : x = ss := by simpa using h
    obtain ⟨hl, -⟩ := List.getElem?_eq_some_iff.1 hj
    simp only [List.take_zero, List.map_nil, List.sum_nil, Nat.zero_add, List.flatten_cons]
    rw [List.getElem?_append_left hl]; exact hj
  | x :: ll, i + 1, j, ss, s, h, hj => by
    have ih := flat_get ll i j ss s (by simpa using h) hj
    simp only [List.take_succ_cons, List.map_cons, List.sum_cons, List.flatten_cons]
    rw [List.getElem?_append_right (by omega), show x.length + ((ll.take i).map (·.length)).sum + j - x.length = ((ll.take i).map (·.length)).sum + j by omega]
    exact ih
def lensOf (ll : List (List ByteArray)) : List Nat := ll.map (·.length)
def offsOf (ll : List (List ByteArray)) : List Nat := sumsOf 0 (lensOf ll)
theorem lensOf_sum (ll : List (List ByteArray)) : (lensOf ll).sum = ll.flatten.length := by simp [lensOf, List.length_flatten]
theorem offsOf_length (ll : List (List ByteArray)) : (offsOf ll).length = ll.length := by simp [offsOf, sumsOf_length, lensOf]
theorem lensOf_take (ll : List (List ByteArray)) (i : Nat) : (lensOf ll).take i = lensOf (ll.take i) := by simp [lensOf, List.map_take]
theorem offsOf_get (ll : List (List ByteArray)) (i : Nat) (h : i < ll.length) : (offsOf ll)[i]? = some (lensOf (ll.take (i + 1))).sum := by
  have := sumsOf_get 0 (lensOf ll) i (by simpa [lensOf] using h)
  rw [Nat.zero_add, lensOf_take] at this
  exact this
theorem lens_le (ll : List (List ByteArray)) (i : Nat) : (lensOf (ll.take i)).sum ≤ ll.flatten.length := by
  rw [← lensOf_sum, ← lensOf_take]
  exact sum_take_le _ _
theorem lens_succ {ll : List (List ByteArray)} {i : Nat} {ss : List ByteArray} (h : ll[i]? = some ss) : (lensOf (ll.take (i + 1))).sum = (lensOf (ll.take i)).sum + ss.length := by
  rw [takeSnoc h]
  simp [lensOf]

def arrY (d : Nat) : List Value := [.iface 74 (.pointer (some ⟨d, 0, none⟩))]
/-- A ColArr[string]: offsets, strings. -/
structure ArrX (w : World) (Fq Fd : Nat → Prop) (q d : Nat) (offs : List Nat) (l : List (List UInt8)) : Prop where
  off : HeadCol w Fq 124 57 1 q (arrY d) offs.length (u64s offs)
  col : StrCol w Fd 77 d l
  inq : In Fq w
  ind : In Fd w
  dis : Disj Fq Fd
theorem ArrX.chg {w w' : World} {Fq Fd G : Nat → Prop} {q d : Nat} {offs : List Nat} {l : List (List UInt8)} (h : ArrX w Fq Fd q d offs l) (hc : Chg G w w') (hq : Disj Fq G) (hd : Disj Fd G) : ArrX w' Fq Fd q d offs l :=
  ⟨h.off.chg hc hq, h.col.chg hc hd, h.inq.mono hc.size, h.ind.mono hc.size, h.dis⟩
theorem ArrX.keep {w w' : World} {Fq Fd : Nat → Prop} {q d : Nat} {offs : List Nat} {l : List (List UInt8)} (h : ArrX w Fq Fd q d offs l) (hb : Below w.heap.size w w') : ArrX w' Fq Fd q d offs l :=
  h.chg (Chg.of_below (F := fun _ => False) hb) (fun _ _ h => h) fun _ _ h => h

set_option maxRecDepth 100000 in
theorem strArray (w : World) (d : Nat) : Calls Tryz.prog 45 #[.pointer (some ⟨d, 0, none⟩)] w fun e w' => e = .returned (.pointer (some ⟨w.heap.size, 0, none⟩)) ∧ w' = w.alloc (.cells (.slice none 0 0 :: arrY d).toArray 124) := by
  go_enter Tryz.func45, Tryz.ntmps45
  go_wp2_with fail
  go_ret
  exact ⟨rfl, rfl⟩
set_option maxRecDepth 100000 in
theorem strsNew (w : World) : Calls Tryz.prog 28 #[] w fun e w' => e = .returned (.pointer (some ⟨w.heap.size + 1, 0, none⟩)) ∧ Below w.heap.size w w' ∧ w'.heap.size = w.heap.size + 2 ∧
    ArrX w' (· = w.heap.size + 1) (· = w.heap.size) (w.heap.size + 1) w.heap.size [] [] := by
  go_enter Tryz.func28, Tryz.ntmps28
  go_wp2_with (go_at_call 45; refine (strArray _ _).mono ?_; rintro e w1 ⟨rfl, hw1⟩)
  go_ret
  subst hw1
  refine ⟨by simp, below_alloc ((Below.refl _ w).alloc (Nat.le_refl _) _) (Nat.le_refl _) _, by simp, ?_, ?_, ?_, ?_, ?_⟩
  · have h := headCol_new (w.alloc (.cells #[.slice none 0 0, .slice none 0 0] 77)) 124 57 1 (arrY w.heap.size) (by decide)
    rw [World.size_alloc] at h
    exact h
  · exact (strCol_new w 77 (by decide)).keep ((Below.refl _ _).alloc (Nat.le_refl _) _)
  · intro k hk; subst hk; simp
  · intro k hk; subst hk; simp; omega
  · intro k hk e; omega

set_option maxRecDepth 100000 in
theorem u64Rows (w : World) (p : Option Addr) (n c : Nat) : Calls Tryz.prog 50 #[.slice p n c] w fun e w' => e = .returned (.int .i64 n) ∧ w = w' := by
  go_enter Tryz.func50, Tryz.ntmps50
  go_wp2_with fail
  go_ret
  exact ⟨rfl, rfl⟩
set_option maxRecDepth 100000 in
theorem arrRows (w : World) (p : Option Addr) (n c : Nat) (y : Value) : Calls Tryz.prog 78 #[.agg #[.slice p n c, y]] w fun e w' => e = .returned (.int .i64 n) ∧ Below w.heap.size w w' := by
  go_enter Tryz.func78, Tryz.ntmps78
  go_wp2_with (go_at_call 50; refine (u64Rows _ _ _ _).mono ?_; rintro e w1 ⟨rfl, rfl⟩)
  go_ret
  exact ⟨rfl, (Below.refl _ w).alloc (Nat.le_refl _) _⟩
set_option maxRecDepth 100000 in
theorem checkRowsV (w : World) (n : Nat) (hn : n ≤ 100000000) : Calls Tryz.prog 49 #[.int .i64 n] w fun e w' => e = .returned .nilIface ∧ w = w' := by
  go_enter Tryz.func49, Tryz.ntmps49
  go_wp2_with fail
  go_ret
  exact ⟨rfl, rfl⟩

theorem mStrRow : MRow 74 "Row" [] (some (90, false)) := mRow_of (by kernel_rfl)
theorem mStrDec : MRow 74 "DecodeColumn" [] (some (88, true)) := mRow_of (by kernel_rfl)
theorem oStr : Own 90 ∧ Own 88 := ⟨fun _ _ => by kernel_rfl, fun _ _ => by kernel_rfl⟩

set_option maxRecDepth 100000 in
set_option maxHeartbeats 2000000 in
theorem arrRowAppend (w : World) (v : Value) (d : Nat) (Fd : Nat → Prop) (ll : List (List ByteArray)) (hv : FlatAt w v ll.length (u64s (offsOf ll))) (hd : StrCol w Fd 77 d (bytesOf ll.flatten)) (hl : ll.length ≤ 100000000) (hf : ll.flatten.length ≤ 100000000) (i : Nat) (ss : List ByteArray) (hi : ll[i]? = some ss) :
    Calls Tryz.prog 79 #[.agg #[v, .iface 74 (.pointer (some ⟨d, 0, none⟩))], .int .i64 i, .slice none 0 0] w (MadeS w ss) := by
  obtain ⟨p, c, rfl, hc⟩ := hv.slice
  obtain ⟨hil, -⟩ := List.getElem?_eq_some_iff.1 hi
  have hsum := lens_succ hi
  have hle1 := lens_le ll (i + 1)
  obtain ⟨S, hS⟩ : ∃ S, S = (lensOf (ll.take i)).sum := ⟨_, rfl⟩
  rw [hsum, ← hS] at hle1
  obtain ⟨g, o, rfl, -, hend⟩ := hv.get (j := i) (x := .int .u64 ((S + ss.length : Nat) : Int)) (by unfold u64s; rw [List.getElem?_map, offsOf_get ll i hil, hsum, ← hS]; rfl)
  have HSTART : Hid (∀ m, i = m + 1 → w.cell? ⟨g, o + m, none⟩ = some (.int .u64 (S : Int))) := Lib.hid fun m hm => by
    obtain ⟨g', o', he, -, h⟩ := hv.get (j := m) (x := .int .u64 (S : Int)) (by unfold u64s; rw [List.getElem?_map, offsOf_get ll m (by omega), ← hm, ← hS]; rfl)
    obtain ⟨rfl, rfl⟩ : g = g' ∧ o = o' := by simpa using he
    exact h
  obtain ⟨vd, ud, hdh, -, -, hdl, hsv, -⟩ := hd.view
  have hgl : g < w.heap.size := World.block_lt_of_cell? _ _ hend
  have HGET : Hid (∀ j s, ss[j]? = some s → (bytesOf ll.flatten)[S + j]? = some s.data.toList) := Lib.hid fun j s hj => by
    have h := flat_get ll i j ss s hi hj
    unfold bytesOf
    rw [List.getElem?_map, hS, show (lensOf (ll.take i)).sum = ((ll.take i).map (·.length)).sum from rfl, h]
    rfl
  have HS0 : Hid (i = 0 → S = 0) := Lib.hid fun e => by rw [hS, e]; rfl
  have HV := Lib.hid (And.intro hdh (And.intro hsv hdl))
  have HBL : Hid ((bytesOf ll.flatten).length ≤ 8796093022208) := Lib.hid (by unfold bytesOf; rw [List.length_map]; omega)
  obtain ⟨W, hW⟩ : ∃ W, W = w.alloc (.cells #[.slice (some ⟨g, o, none⟩) ll.length c, .iface 74 (.pointer (some ⟨d, 0, none⟩))] 124) := ⟨_, rfl⟩
  have hbW : Below w.heap.size w W := by rw [hW]; exact (Below.refl _ w).alloc (Nat.le_refl _) _
  have hsW : W.heap.size = w.heap.size + 1 := by rw [hW]; simp
  have k1 : W.cell? ⟨w.heap.size, 1, none⟩ = some (.iface 74 (.pointer (some ⟨d, 0, none⟩))) := by rw [hW]; go_simp
  have HB := Lib.hid (And.intro hbW (And.intro hsW k1))
  have HW := Lib.hid hW
  have hw1 : IntKind.i64.wrap ((S + ss.length : Nat) : Int) = ((S + ss.length : Nat) : Int) := by rw [IntKind.wrap_i64]; omega
  have hw2 : IntKind.i64.wrap (S : Int) = (S : Int) := by rw [IntKind.wrap_i64]; omega
  have hSb : S + ss.length ≤ 100000000 := by omega
  clear hv hd hdh hsv hi hsum hle1 hS hW hbW hsW k1
  by_cases h0 : i = 0
  · subst h0
    have HS00 := Lib.hid (HS0.out rfl)
    rw [Nat.add_zero] at hend
    go_enter Tryz.func79, Tryz.ntmps79
    go_wp2_with fail
    go_loopw [2, 9] (fun vo vi wr => ∃ (j : Nat) (F : Nat → Prop), j ≤ ss.length ∧ vi = .int .i64 ((S + j : Nat) : Int) ∧ Acc W F 9 1 vo j ((ss.take j).map Value.string) wr) (fun _ vi _ => S + ss.length - (intOf vi).toNat)
    case atStart => exact ⟨0, _, Nat.zero_le _, by rw [HS00.out]; rfl, by rw [HW.out]; exact Acc.start _ _ _⟩
    case round =>
      obtain ⟨j, F, hj, rfl, hA⟩ := hrel
      obtain ⟨po, co, rfl⟩ := hA.slice
      by_cases hlt : j < ss.length
      · obtain ⟨s, hsi⟩ : ∃ s, ss[j]? = some s := ⟨_, List.getElem?_eq_getElem hlt⟩
        obtain ⟨hdh, hsv, hdl⟩ := HV.out
        obtain ⟨hbW, hsW, k1⟩ := HB.out
        have hbr := hbW.trans (hA.below.mono (by omega : w.heap.size ≤ W.heap.size))
        have hld := load_twoA (w := wr) (by rw [hbr.block d hdl]; exact hdh) Tryz.underlying77 (by kernel_rfl)
        have hmm := meth_val 292 mStrRow Tryz.underlying74 ⟨d, 0, none⟩ wr (.agg #[vd, ud]) hld
        have hoo := fun a W => oStr.1 #[.agg #[vd, ud], a] W
        have k1r : wr.cell? ⟨w.heap.size, 1, none⟩ = some (.iface 74 (.pointer (some ⟨d, 0, none⟩))) := by rw [hA.below.cell (show w.heap.size < W.heap.size by omega)]; exact k1
        have HR := Lib.hid (strRow wr vd ud _ (hsv.below hbr) (S + j) s.data.toList (HGET.out j s hsi) HBL.out)
        rw [show (⟨s.data.toList.toArray⟩ : ByteArray) = s from ofS1_to s] at HR
        have HS : Hid ((ss.take (j + 1)).map Value.string = (ss.take j).map Value.string ++ [.string s]) := Lib.hid (by rw [takeSnoc hsi]; simp)
        have HA := Lib.hid hA
        have hjl : S + j < S + ss.length := by omega
        have hjI : ((S + j : Nat) : Int) < ((S + ss.length : Nat) : Int) := by omega
        have HOWN : Hid (∀ W2, Below wr.heap.size wr W2 → OwnR (W2.alloc (.cells #[.string s] 9)) F 9 1 (.slice po j co) j ((ss.take j).map Value.string)) := Lib.hid fun W2 hb => (hA.own.keep hb).keep ((Below.refl _ _).alloc (Nat.le_refl _) _)
        have HSR : Hid (∀ W2 : World, Src Tryz.prog 1 35 (.slice (some ⟨W2.heap.size, 0, none⟩) 1 1) 1 [.string s] (W2.alloc (.cells #[.string s] 9))) := Lib.hid fun W2 => src_new elemStrs W2.heap.size [.string s] _ (heap_alloc_new W2 _) rfl (by simp [Value.oneCell']) 1
        clear hA hsi hld hdh hsv hdl hbW hsW k1 hbr
        go_wp2_with fail
        refine HR.out.mono ?_
        rintro e w4 ⟨rfl, hb4⟩
        go_wp2_with (at_builtin; refine append_rows elemStrs _ F j 1 _ _ rfl _ _ _ rfl _ rfl (HOWN.out w4 hb4) _ rfl (HSR.out w4) (by omega) (by omega) ?_; intro p5 c5 w5 F5 hown5 hu5)
        go_roundw
        case rel => exact ⟨j + 1, F5, hlt, by go_num, by rw [HS.out]; exact (HA.out.keep (below_alloc hb4 (Nat.le_refl _) _)).next hown5 hu5⟩
        case measure => simp [intOf]; omega
      · obtain rfl : j = ss.length := by omega
        have HA := Lib.hid hA
        clear hA
        go_wp2_with fail
        go_ret
        have h := HA.out
        rw [List.take_length] at h
        obtain ⟨x, h1, h2, h3, h4⟩ := h.made
        obtain ⟨hbW, hsW, k1⟩ := HB.out
        exact ⟨x, h1, h2, hbW.trans (h3.mono (by omega)), fun g hg => by have := h4 g hg; omega⟩
  · have h0I : (0 : Int) < (i : Int) := by omega
    obtain ⟨m, hm⟩ : ∃ m, i = m + 1 := ⟨i - 1, by omega⟩
    have hst := HSTART.out m hm
    have hmI : IntKind.i64.wrap ((i : Int) - 1) = (m : Int) := by rw [IntKind.wrap_i64]; omega
    have hmJ : ((i : Int) - 1) = (m : Int) := by omega
    have hml : m < ll.length := by omega
    have h0N : 0 < i := by omega
    have h0D : decide (0 < i) = true := decide_eq_true h0N
    clear hm
    go_enter Tryz.func79, Tryz.ntmps79
    go_wp2_with fail
    go_loopw [2, 9] (fun vo vi wr => ∃ (j : Nat) (F : Nat → Prop), j ≤ ss.length ∧ vi = .int .i64 ((S + j : Nat) : Int) ∧ Acc W F 9 1 vo j ((ss.take j).map Value.string) wr) (fun _ vi _ => S + ss.length - (intOf vi).toNat)
    case atStart => exact ⟨0, _, Nat.zero_le _, by simp, by rw [HW.out]; exact Acc.start _ _ _⟩
    case round =>
      obtain ⟨j, F, hj, rfl, hA⟩ := hrel
      obtain ⟨po, co, rfl⟩ := hA.slice
      by_cases hlt : j < ss.length
      · obtain ⟨s, hsi⟩ : ∃ s, ss[j]? = some s := ⟨_, List.getElem?_eq_getElem hlt⟩
        obtain ⟨hdh, hsv, hdl⟩ := HV.out
        obtain ⟨hbW, hsW, k1⟩ := HB.out
        have hbr := hbW.trans (hA.below.mono (by omega : w.heap.size ≤ W.heap.size))
        have hld := load_twoA (w := wr) (by rw [hbr.block d hdl]; exact hdh) Tryz.underlying77 (by kernel_rfl)
        have hmm := meth_val 292 mStrRow Tryz.underlying74 ⟨d, 0, none⟩ wr (.agg #[vd, ud]) hld
        have hoo := fun a W => oStr.1 #[.agg #[vd, ud], a] W
        have k1r : wr.cell? ⟨w.heap.size, 1, none⟩ = some (.iface 74 (.pointer (some ⟨d, 0, none⟩))) := by rw [hA.below.cell (show w.heap.size < W.heap.size by omega)]; exact k1
        have HR := Lib.hid (strRow wr vd ud _ (hsv.below hbr) (S + j) s.data.toList (HGET.out j s hsi) HBL.out)
        rw [show (⟨s.data.toList.toArray⟩ : ByteArray) = s from ofS1_to s] at HR
        have HS : Hid ((ss.take (j + 1)).map Value.string = (ss.take j).map Value.string ++ [.string s]) := Lib.hid (by rw [takeSnoc hsi]; simp)
        have HA := Lib.hid hA
        have hjl : S + j < S + ss.length := by omega
        have hjI : ((S + j : Nat) : Int) < ((S + ss.length : Nat) : Int) := by omega
        have HOWN : Hid (∀ W2, Below wr.heap.size wr W2 → OwnR (W2.alloc (.cells #[.string s] 9)) F 9 1 (.slice po j co) j ((ss.take j).map Value.string)) := Lib.hid fun W2 hb => (hA.own.keep hb).keep ((Below.refl _ _).alloc (Nat.le_refl _) _)
        have HSR : Hid (∀ W2 : World, Src Tryz.prog 1 35 (.slice (some ⟨W2.heap.size, 0, none⟩) 1 1) 1 [.string s] (W2.alloc (.cells #[.string s] 9))) := Lib.hid fun W2 => src_new elemStrs W2.heap.size [.string s] _ (heap_alloc_new W2 _) rfl (by simp [Value.oneCell']) 1
        clear hA hsi hld hdh hsv hdl hbW hsW k1 hbr
        go_wp2_with fail
        refine HR.out.mono ?_
        rintro e w4 ⟨rfl, hb4⟩
        go_wp2_with (at_builtin; refine append_rows elemStrs _ F j 1 _ _ rfl _ _ _ rfl _ rfl (HOWN.out w4 hb4) _ rfl (HSR.out w4) (by omega) (by omega) ?_; intro p5 c5 w5 F5 hown5 hu5)
        go_roundw
        case rel => exact ⟨j + 1, F5, hlt, by go_num, by rw [HS.out]; exact (HA.out.keep (below_alloc hb4 (Nat.le_refl _) _)).next hown5 hu5⟩
        case measure => simp [intOf]; omega
      · obtain rfl : j = ss.length := by omega
        have HA := Lib.hid hA
        clear hA
        go_wp2_with fail
        go_ret
        have h := HA.out
        rw [List.take_length] at h
        obtain ⟨x, h1, h2, h3, h4⟩ := h.made
        obtain ⟨hbW, hsW, k1⟩ := HB.out
        exact ⟨x, h1, h2, hbW.trans (h3.mono (by omega)), fun g hg => by have := h4 g hg; omega⟩

set_option maxRecDepth 100000 in
theorem arrRow (w : World) (v : Value) (d : Nat) (Fd : Nat → Prop) (ll : List (List ByteArray)) (hv : FlatAt w v ll.length (u64s (offsOf ll))) (hd : StrCol w Fd 77 d (bytesOf ll.flatten)) (hl : ll.length ≤ 100000000) (hf : ll.flatten.length ≤ 100000000) (i : Nat) (ss : List ByteArray) (hi : ll[i]? = some ss) :
    Calls Tryz.prog 77 #[.agg #[v, .iface 74 (.pointer (some ⟨d, 0, none⟩))], .int .i64 i] w (MadeS w ss) := by
  obtain ⟨p, c, rfl, hc⟩ := hv.slice
  have hb : Below w.heap.size w (w.alloc (.cells #[.slice p ll.length c, .iface 74 (.pointer (some ⟨d, 0, none⟩))] 124)) := (Below.refl _ w).alloc (Nat.le_refl _) _
  have HR := Lib.hid (arrRowAppend _ _ d Fd ll (hv.below hb) (hd.keep hb) hl hf i ss hi)
  have HB := Lib.hid hb
  clear hv hd hi hb
  go_enter Tryz.func77, Tryz.ntmps77
  go_wp2_with fail
  refine HR.out.mono ?_
  rintro e w2 ⟨x, rfl, hx, hb2, ho2⟩
  obtain ⟨px, cx, rfl, -⟩ := hx.slice
  have HX := Lib.hid (And.intro hx (And.intro hb2 ho2))
  clear hx hb2 ho2
  go_wp2_with fail
  go_ret
  obtain ⟨hx, hb2, ho2⟩ := HX.out
  exact ⟨_, rfl, hx, HB.out.trans (hb2.mono HB.out.size), fun g hg => by have := ho2 g hg; have := HB.out.size; omega⟩
end Go.Proofs.YtemmhlibbihjmaaGreat
