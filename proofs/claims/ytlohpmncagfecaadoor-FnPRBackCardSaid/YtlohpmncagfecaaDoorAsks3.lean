/- laws.prAsks: its loop. -/
import Derived.Test.YtlohpmncagfecaaDoorAsks2
import Derived.Deep.LoopGhost
import Derived.Deep.Cut
import Derived.Deep.CutRange
import Derived.Deep.DeepCutAuto
import Derived.Deep.CutBlock
namespace Go.Proofs.YtlohpmncagfecaaDoor
open Go.RowKit
set_option linter.unnecessarySimpa false
set_option linter.unusedVariables false
set_option linter.unusedSimpArgs false

/-- Behind the switch: what is to be appended lies. -/
def AskMid (w wr : World) (x : Pr) (wx : World) : Prop :=
  Below wr.heap.size wr wx ∧ wr.heap.size + 2 < wx.heap.size ∧ wx.heap[wr.heap.size + 2]? = some (.cells (askCells x).toArray 28 (0, 0)) ∧
    ∃ sv, wx.heap[wr.heap.size + 1]? = some (.cells (gtCells (gotOf x) sv).toArray 40 (0, 0)) ∧ BytesX w sv (gotOf x).s ∧ ∀ g, (gotOf x).s ≠ [] → sv.ownBlock = some g → g < w.heap.size

theorem rowList4 {w : World} {b : Nat} {l : List Value} {T : TypeId} {a0 a1 a2 a3 : Value} (h : w.heap[b]? = some (.cells l.toArray T (0, 0))) (hl : l = [a0, a1, a2, a3] := by rfl) :
    w.cell? ⟨b, 0, none⟩ = some a0 ∧ w.cell? ⟨b, 1, none⟩ = some a1 ∧ w.cell? ⟨b, 2, none⟩ = some a2 ∧ w.cell? ⟨b, 3, none⟩ = some a3 := by
  subst hl
  simp [World.cell?, h]
theorem one_gt {w : World} {g : Gt} {sv : Value} {s : List UInt8} (h : BytesX w sv s) : ∀ u ∈ gtCells g sv, u.oneCell' = true := by
  obtain ⟨q, c, rfl⟩ := h.slice
  simp [gtCells, Value.oneCell']

theorem mid_of {w wr : World} {x : Pr} (X : Obj) (gv av : List Value) (sv : Value) (hg : gv = gtCells (gotOf x) sv) (ha : av = askCells x) (hs : BytesX w sv (gotOf x).s) (ho : ∀ g, (gotOf x).s ≠ [] → sv.ownBlock = some g → g < w.heap.size) :
    AskMid w wr x (((wr.alloc X).alloc (.cells gv.toArray 40)).alloc (.cells av.toArray 28)) := by
  subst hg ha
  refine ⟨(((Below.refl _ wr).alloc (Nat.le_refl _) _).alloc (by simp) _).alloc (by simp; omega) _, by simp, ?_, sv, ?_, hs, ho⟩
  · have := heap_alloc_new ((wr.alloc X).alloc (.cells (gtCells (gotOf x) sv).toArray 40)) (.cells (askCells x).toArray 28)
    simpa using this
  · rw [Below.heap_alloc _ _ _ (by simp)]
    have := heap_alloc_new (wr.alloc X) (.cells (gtCells (gotOf x) sv).toArray 40)
    simpa using this
theorem mid_drew {w wr : World} {x : Pr} {wx : World} (h : AskMid w wr x wx) : AskMid w wr x wx.drew :=
  ⟨h.1.trans ⟨rfl, rfl, rfl, Nat.le_refl _, fun _ _ => rfl⟩, h.2⟩

set_option maxRecDepth 100000 in
set_option maxHeartbeats 8000000 in
theorem prAsks (w : World) (hW : Wid w) (B : Nat) (lv : Value) (xs : List Pr) (h : PrimsAt w B lv xs) (hB : B ≤ w.heap.size) (hn : xs.length ≤ 30) (hok : ∀ x ∈ xs, okPr x = true) :
    Calls Tryd.prog 14 #[lv] w fun e w' => ∃ va vw, e = .returned (.tuple #[va, vw]) ∧ AskInv w w' xs xs.length va vw := by
  rcases id h with ⟨rfl, rfl⟩ | ⟨b, off, cap, rfl, hcap, hb, hx⟩
  · have HI := AskInv.start w []
    go_enter Tryd.func14, Tryd.ntmps14
    go_wp2_with fail
    go_loopg [4, 5, 13] 0 (fun g va vw vi wr => vi = .int .i64 0 ∧ AskInv w wr [] 0 va vw)
    case atStart => exact ⟨rfl, HI⟩
    case round =>
      obtain ⟨rfl, hinv⟩ := hrel
      have HINV := Lib.hid hinv
      clear hinv HI
      go_wp2_with fail
      go_ret2
      exact ⟨_, _, rfl, HINV.out⟩
  · have HX := Lib.hid hx
    have HW := Lib.hid hW
    have HOK := Lib.hid hok
    clear hx h hW hok
    go_enter Tryd.func14, Tryd.ntmps14
    go_wp2_with fail
    go_loopg [4, 5, 13] xs.length (fun g va vw vi wr => ∃ k : Nat, k ≤ xs.length ∧ g = xs.length - k ∧ vi = .int .i64 k ∧ AskInv w wr xs k va vw)
    case atStart => exact ⟨0, Nat.zero_le _, rfl, rfl, AskInv.start w xs⟩
    case round =>
      obtain ⟨k, hk, rfl, rfl, hinv⟩ := hrel
      have HINV := Lib.hid hinv
      obtain ⟨Fa, Fw, svs, hl, hoa, how, hold, hFa, hFw, hbl⟩ := id hinv
      by_cases hlt : k < xs.length
      · obtain ⟨x, hxk⟩ : ∃ x, xs[k]? = some x := ⟨_, List.getElem?_eq_getElem hlt⟩
        have hkx := HOK.out x (List.mem_of_getElem? hxk)
        obtain ⟨sv, d0, d1, d2, d3, hs, hg, hu, hv, hsl⟩ := HX.out k x hxk
        have c0 : wr.cell? ⟨b, off + k * 4, none⟩ = some (.int .i64 x.op) := by rw [hbl.cell (p := ⟨b, off + k * 4, none⟩) (by show b < _; omega)]; exact d0
        have c1 : wr.cell? ⟨b, off + k * 4 + 1, none⟩ = some (.int .u64 (x.u : Nat)) := by rw [hbl.cell (p := ⟨b, off + k * 4 + 1, none⟩) (by show b < _; omega)]; exact d1
        have c2 : wr.cell? ⟨b, off + k * 4 + 2, none⟩ = some (.int .u64 (x.v : Nat)) := by rw [hbl.cell (p := ⟨b, off + k * 4 + 2, none⟩) (by show b < _; omega)]; exact d2
        have c3 : wr.cell? ⟨b, off + k * 4 + 3, none⟩ = some sv := by rw [hbl.cell (p := ⟨b, off + k * 4 + 3, none⟩) (by show b < _; omega)]; exact d3
        obtain ⟨q, cq, rfl⟩ := hs.slice
        have HWr := Lib.hid (HW.out.below hbl)
        obtain ⟨p1, q1, rfl⟩ := hoa.slice
        obtain ⟨p2, q2, rfl⟩ := how.slice
        have HXK := Lib.hid hxk
        have HKX := Lib.hid hkx
        have HSV := Lib.hid (And.intro hs (show ∀ g, x.s ≠ [] → (Value.slice q x.s.length cq).ownBlock = some g → g < w.heap.size from fun g h1 h2 => Nat.lt_of_lt_of_le (hg g h1 h2) hB))
        clear hoa how hold hFa hFw hxk hs hg hinv hkx d0 d1 d2 d3
        obtain ⟨o, ho, ho1, ho2⟩ : ∃ o : Nat, x.op = (o : Int) ∧ 1 ≤ o ∧ o ≤ 19 := by
          have := HKX.out
          simp [okPr] at this
          exact ⟨x.op.toNat, by omega, by omega, by omega⟩
        obtain ⟨n, hw⟩ : ∃ n, widths[o]? = some n := ⟨_, List.getElem?_eq_getElem (by simp [widths]; omega)⟩
        have HO := Lib.hid ho
        rw [ho] at c0
        clear ho
        have HWI := Lib.hid hw
        clear hw
        go_upto_block 2 with (go_at_call 19; refine (prWidth _ ((HWr.out.alloc _).alloc _) o n HWI.out).mono ?_; rintro e w1 ⟨rfl, rfl⟩)
        go_cut [8, 9, 10, 13] (fun s8 s9 s10 s13 wx => s8 = .pointer (some ⟨wr.heap.size + 1, 0, none⟩) ∧ s10 = .pointer (some ⟨wr.heap.size + 2, 0, none⟩) ∧ s13 = .int .i64 k ∧ AskMid w wr x wx)
        case first =>
          have hw := HWI.out
          have hop := HO.out
          clear HWI
          rcases (by omega : o = 1 ∨ o = 2 ∨ o = 3 ∨ o = 4 ∨ o = 5 ∨ o = 6 ∨ o = 7 ∨ o = 8 ∨ o = 9 ∨ o = 10 ∨ o = 11 ∨ o = 12 ∨ o = 13 ∨ o = 14 ∨ o = 15 ∨ o = 16 ∨ o = 17 ∨ o = 18 ∨ o = 19) with ho | ho | ho | ho | ho | ho | ho | ho | ho | ho | ho | ho | ho | ho | ho | ho | ho | ho | ho
          · subst ho
            simp [widths] at hw
            subst hw
            go_wp2_with fail
            go_meet
            exact ⟨rfl, rfl, rfl, mid_of _ [_, _, _, _] [_, _, _, _] (.slice none 0 0) (by simp [gtCells, gotOf, hop, IntKind.wrap, IntKind.signed, IntKind.bits]; omega) (by simp [askCells, askOf, hop]) (.inl (.inl ⟨rfl, by simp [gotOf, hop]⟩)) (fun g _ hg => by simp [Value.ownBlock] at hg)⟩
          · subst ho
            simp [widths] at hw
            subst hw
            by_cases hz : x.u = 0
            · have hz2 : ((x.u : Int) != 0) = false := by simp [hz]
              go_wp2_with fail
              go_meet
              exact ⟨rfl, rfl, rfl, mid_of _ [_, _, _, _] [_, _, _, _] (.slice none 0 0) (by simp [gtCells, gotOf, hop, hz]) (by simp [askCells, askOf, hop]) (.inl (.inl ⟨rfl, by simp [gotOf, hop]⟩)) (fun g _ hg => by simp [Value.ownBlock] at hg)⟩
            · have hz2 : ((x.u : Int) != 0) = true := by simp [hz]
              go_wp2_with fail
              go_meet
              exact ⟨rfl, rfl, rfl, mid_of _ [_, _, _, _] [_, _, _, _] (.slice none 0 0) (by simp [gtCells, gotOf, hop, hz]) (by simp [askCells, askOf, hop]) (.inl (.inl ⟨rfl, by simp [gotOf, hop]⟩)) (fun g _ hg => by simp [Value.ownBlock] at hg)⟩
          · subst ho
            simp [widths] at hw
            subst hw
            go_wp2_with fail
            go_meet
            exact ⟨rfl, rfl, rfl, mid_of _ [_, _, _, _] [_, _, _, _] (.slice none 0 0) (by simp [gtCells, gotOf, hop, IntKind.wrap, IntKind.signed, IntKind.bits]; omega) (by simp [askCells, askOf, hop]) (.inl (.inl ⟨rfl, by simp [gotOf, hop]⟩)) (fun g _ hg => by simp [Value.ownBlock] at hg)⟩
          · subst ho
            simp [widths] at hw
            subst hw
            go_wp2_with fail
            go_meet
            exact ⟨rfl, rfl, rfl, mid_of _ [_, _, _, _] [_, _, _, _] (.slice none 0 0) (by simp [gtCells, gotOf, hop, IntKind.wrap, IntKind.signed, IntKind.bits]; omega) (by simp [askCells, askOf, hop]) (.inl (.inl ⟨rfl, by simp [gotOf, hop]⟩)) (fun g _ hg => by simp [Value.ownBlock] at hg)⟩
          · subst ho
            simp [widths] at hw
            subst hw
            go_wp2_with fail
            go_meet
            exact ⟨rfl, rfl, rfl, mid_of _ [_, _, _, _] [_, _, _, _] (.slice none 0 0) (by simp [gtCells, gotOf, hop, IntKind.wrap, IntKind.signed, IntKind.bits]; omega) (by simp [askCells, askOf, hop]) (.inl (.inl ⟨rfl, by simp [gotOf, hop]⟩)) (fun g _ hg => by simp [Value.ownBlock] at hg)⟩
          · subst ho
            simp [widths] at hw
            subst hw
            go_wp2_with fail
            go_meet
            exact ⟨rfl, rfl, rfl, mid_of _ [_, _, _, _] [_, _, _, _] (.slice none 0 0) (by simp [gtCells, gotOf, hop]) (by simp [askCells, askOf, hop]) (.inl (.inl ⟨rfl, by simp [gotOf, hop]⟩)) (fun g _ hg => by simp [Value.ownBlock] at hg)⟩
          · subst ho
            simp [widths] at hw
            subst hw
            go_wp2_with fail
            go_meet
            exact ⟨rfl, rfl, rfl, mid_of _ [_, _, _, _] [_, _, _, _] (.slice none 0 0) (by simp [gtCells, gotOf, hop, IntKind.wrap, IntKind.signed, IntKind.bits]; omega) (by simp [askCells, askOf, hop]) (.inl (.inl ⟨rfl, by simp [gotOf, hop]⟩)) (fun g _ hg => by simp [Value.ownBlock] at hg)⟩
          · subst ho
            simp [widths] at hw
            subst hw
            go_wp2_with fail
            go_meet
            exact ⟨rfl, rfl, rfl, mid_of _ [_, _, _, _] [_, _, _, _] (.slice none 0 0) (by simp [gtCells, gotOf, hop, IntKind.wrap, IntKind.signed, IntKind.bits]; omega) (by simp [askCells, askOf, hop]) (.inl (.inl ⟨rfl, by simp [gotOf, hop]⟩)) (fun g _ hg => by simp [Value.ownBlock] at hg)⟩
          · subst ho
            simp [widths] at hw
            subst hw
            go_wp2_with fail
            go_meet
            exact ⟨rfl, rfl, rfl, mid_of _ [_, _, _, _] [_, _, _, _] (.slice none 0 0) (by simp [gtCells, gotOf, hop, IntKind.wrap, IntKind.signed, IntKind.bits]; omega) (by simp [askCells, askOf, hop]) (.inl (.inl ⟨rfl, by simp [gotOf, hop]⟩)) (fun g _ hg => by simp [Value.ownBlock] at hg)⟩
          · subst ho
            simp [widths] at hw
            subst hw
            go_wp2_with fail
            go_meet
            exact ⟨rfl, rfl, rfl, mid_of _ [_, _, _, _] [_, _, _, _] (.slice none 0 0) (by simp [gtCells, gotOf, hop]) (by simp [askCells, askOf, hop]) (.inl (.inl ⟨rfl, by simp [gotOf, hop]⟩)) (fun g _ hg => by simp [Value.ownBlock] at hg)⟩
          · subst ho
            simp [widths] at hw
            subst hw
            go_wp2_with fail
            go_meet
            exact ⟨rfl, rfl, rfl, mid_of _ [_, _, _, _] [_, _, _, _] (.slice none 0 0) (by simp [gtCells, gotOf, hop, IntKind.wrap, IntKind.signed, IntKind.bits]; omega) (by simp [askCells, askOf, hop]) (.inl (.inl ⟨rfl, by simp [gotOf, hop]⟩)) (fun g _ hg => by simp [Value.ownBlock] at hg)⟩
          · subst ho
            simp [widths] at hw
            subst hw
            go_wp2_with fail
            go_meet
            exact ⟨rfl, rfl, rfl, mid_of _ [_, _, _, _] [_, _, _, _] (.slice none 0 0) (by simp [gtCells, gotOf, hop]) (by simp [askCells, askOf, hop]) (.inl (.inl ⟨rfl, by simp [gotOf, hop]⟩)) (fun g _ hg => by simp [Value.ownBlock] at hg)⟩
          · subst ho
            simp [widths] at hw
            subst hw
            go_wp2_with fail
            go_region
            all_goals
              go_wp2_with fail
              go_meet
              exact ⟨rfl, rfl, rfl, mid_drew (mid_of _ [_, _, _, _] [_, _, _, _] (.slice none 0 0) (by simp [gtCells, gotOf, hop]) (by simp [askCells, askOf, hop]) (.inl (.inl ⟨rfl, by simp [gotOf, hop]⟩)) (fun g _ hg => by simp [Value.ownBlock] at hg))⟩
          · subst ho
            simp [widths] at hw
            subst hw
            go_wp2_with fail
            go_region
            all_goals
              go_wp2_with fail
              go_meet
              exact ⟨rfl, rfl, rfl, mid_drew (mid_of _ [_, _, _, _] [_, _, _, _] (.slice none 0 0) (by simp [gtCells, gotOf, hop]) (by simp [askCells, askOf, hop]) (.inl (.inl ⟨rfl, by simp [gotOf, hop]⟩)) (fun g _ hg => by simp [Value.ownBlock] at hg))⟩
          · subst ho
            simp [widths] at hw
            subst hw
            go_wp2_with fail
            go_meet
            exact ⟨rfl, rfl, rfl, mid_of _ [_, _, _, _] [_, _, _, _] (.slice none 0 0) (by simp [gtCells, gotOf, hop]) (by simp [askCells, askOf, hop]) (.inl (.inl ⟨rfl, by simp [gotOf, hop]⟩)) (fun g _ hg => by simp [Value.ownBlock] at hg)⟩
          · subst ho
            simp [widths] at hw
            subst hw
            go_wp2_with fail
            go_meet
            exact ⟨rfl, rfl, rfl, mid_of _ [_, _, _, _] [_, _, _, _] (.slice none 0 0) (by simp [gtCells, gotOf, hop]) (by simp [askCells, askOf, hop]) (.inl (.inl ⟨rfl, by simp [gotOf, hop]⟩)) (fun g _ hg => by simp [Value.ownBlock] at hg)⟩
          · subst ho
            simp [widths] at hw
            subst hw
            go_wp2_with fail
            go_meet
            exact ⟨rfl, rfl, rfl, mid_of _ [_, _, _, _] [_, _, _, _] (.slice none 0 0) (by simp [gtCells, gotOf, hop]) (by simp [askCells, askOf, hop]) (.inl (.inl ⟨rfl, by simp [gotOf, hop]⟩)) (fun g _ hg => by simp [Value.ownBlock] at hg)⟩
          · subst ho
            simp [widths] at hw
            subst hw
            go_wp2_with fail
            go_meet
            exact ⟨rfl, rfl, rfl, mid_of _ [_, _, _, _] [_, _, _, _] (.slice q x.s.length cq) (by simp [gtCells, gotOf, hop]) (by simp [askCells, askOf, hop]) (by simp only [gotOf, hop]; exact HSV.out.1) (by simp only [gotOf, hop]; exact HSV.out.2)⟩
          · subst ho
            simp [widths] at hw
            subst hw
            go_wp2_with fail
            go_meet
            exact ⟨rfl, rfl, rfl, mid_of _ [_, _, _, _] [_, _, _, _] (.slice q x.s.length cq) (by simp [gtCells, gotOf, hop]) (by simp [askCells, askOf, hop]) (by simp only [gotOf, hop]; exact HSV.out.1) (by simp only [gotOf, hop]; exact HSV.out.2)⟩
        case rest =>
          obtain ⟨rfl, rfl, rfl, hm⟩ := hcut
          obtain ⟨hbm, hsz, hask, sv2, hgot, hsv2, hsvg⟩ := hm
          obtain ⟨HA0, HA1, HA2, HA3⟩ := rowList4 hask
          obtain ⟨HG0, HG1, HG2, HG3⟩ := rowList4 hgot
          have hin := HINV.out
          obtain ⟨Fa, Fw, svs, hl, hoa, how, hold, hFa, hFw, hbl⟩ := id hin
          have C1 : Hid (∀ o, Chg (fun _ => False) wc (wc.alloc o).drew) := Lib.hid fun o => ((Chg.refl _ wc).alloc o).drew
          have C2 : Hid (∀ o o', Chg (fun _ => False) wc ((wc.alloc o).alloc o').drew) := Lib.hid fun o o' => (((Chg.refl _ wc).alloc o).alloc o').drew
          have B1 : Hid (∀ o, Below wr.heap.size wr (wc.alloc o).drew) := Lib.hid fun o => (hbm.alloc hbm.size o).trans ⟨rfl, rfl, rfl, Nat.le_refl _, fun _ _ => rfl⟩
          have B2 : Hid (∀ o o', Below wr.heap.size wr ((wc.alloc o).alloc o').drew) := Lib.hid fun o o' => ((hbm.alloc hbm.size o).alloc (by have := hbm.size; simp; omega) o').trans ⟨rfl, rfl, rfl, Nat.le_refl _, fun _ _ => rfl⟩
          have hoc := hoa.keep hbm
          have hwc := how.keep hbm
          have HOA1 : Hid (∀ o, OwnR (wc.alloc o).drew Fa 28 4 (.slice p1 k q1) k ((xs.take k).map askCells).flatten) := Lib.hid fun o => hoc.upd (C1.out o) fun _ _ h => h
          have HOA2 : Hid (∀ o o', OwnR ((wc.alloc o).alloc o').drew Fa 28 4 (.slice p1 k q1) k ((xs.take k).map askCells).flatten) := Lib.hid fun o o' => hoc.upd (C2.out o o') fun _ _ h => h
          have hgl : ∀ (o : Obj), (wc.alloc o).heap[wc.heap.size]? = some o := fun o => heap_alloc_new wc o
          have hgl2 : ∀ (o o' : Obj), ((wc.alloc o).alloc o').heap[wc.heap.size]? = some o := fun o o' => by rw [Below.heap_alloc _ _ _ (by simp)]; exact heap_alloc_new wc o
          have hgl3 : ∀ (o o' : Obj), ((wc.alloc o).alloc o').heap[wc.heap.size + 1]? = some o' := fun o o' => by have := heap_alloc_new (wc.alloc o) o'; simpa using this
          have S1 : Hid (Src Tryd.prog 4 22 (.slice (some ⟨wc.heap.size, 0, none⟩) 1 1) 1 (askCells x) (wc.alloc (.cells (askCells x).toArray 28)).drew) := Lib.hid (src_new elemPrim (w := (wc.alloc (.cells (askCells x).toArray 28)).drew) _ (askCells x) 28 (hgl _) rfl (by simp [askCells, Value.oneCell']) 1)
          have S2 : Hid (∀ o, Src Tryd.prog 4 22 (.slice (some ⟨wc.heap.size, 0, none⟩) 1 1) 1 (askCells x) ((wc.alloc (.cells (askCells x).toArray 28)).alloc o).drew) := Lib.hid fun o => src_new elemPrim (w := ((wc.alloc (.cells (askCells x).toArray 28)).alloc o).drew) _ (askCells x) 28 (hgl2 _ _) rfl (by simp [askCells, Value.oneCell']) 1
          have S3 : Hid (∀ o, Src Tryd.prog 4 22 (.slice (some ⟨wc.heap.size + 1, 0, none⟩) 1 1) 1 (askCells x) ((wc.alloc o).alloc (.cells (askCells x).toArray 28)).drew) := Lib.hid fun o => src_new elemPrim (w := ((wc.alloc o).alloc (.cells (askCells x).toArray 28)).drew) _ (askCells x) 28 (hgl3 _ _) rfl (by simp [askCells, Value.oneCell']) 1
          have SG : Hid (∀ W : World, Src Tryd.prog 4 35 (.slice (some ⟨W.heap.size, 0, none⟩) 1 1) 1 (gtCells (gotOf x) sv2) (W.alloc (.cells (gtCells (gotOf x) sv2).toArray 40))) := Lib.hid fun W => src_new elemGot _ (gtCells (gotOf x) sv2) 40 (heap_alloc_new _ _) rfl (one_gt hsv2) 1
          have hlt' : ∀ j, Fa j → j < wc.heap.size := fun j hj => by have := (hFa j hj).2.1; have := hbm.size; omega
          have SG2 : Hid (∀ (W1 w5 : World) (Fa5 : Nat → Prop) (g : Nat), wc.heap.size ≤ g → W1.heap[g]? = some (.cells (gtCells (gotOf x) sv2).toArray 40 (0, 0)) → Upd W1 w5 Fa Fa5 → Src Tryd.prog 4 35 (.slice (some ⟨g, 0, none⟩) 1 1) 1 (gtCells (gotOf x) sv2) w5) :=
            Lib.hid fun W1 w5 Fa5 g hg hr hu => src_new elemGot g (gtCells (gotOf x) sv2) 40 (by rw [hu.chg.block g (Array.getElem?_eq_some_iff.1 hr).1 fun h => by have := hlt' g h; omega]; exact hr) rfl (one_gt hsv2) 1
          have HW5 : Hid (∀ (W1 w5 : World) (Fa5 : Nat → Prop), Chg (fun _ => False) wc W1 → Upd W1 w5 Fa Fa5 → (∀ o, OwnR (w5.alloc o) Fw 40 4 (.slice p2 k q2) k (List.zipWith gtCells ((xs.take k).map gotOf) svs).flatten) ∧ OwnR w5 Fw 40 4 (.slice p2 k q2) k (List.zipWith gtCells ((xs.take k).map gotOf) svs).flatten) :=
            Lib.hid fun W1 w5 Fa5 hc hu => by
              have h1 := (hwc.upd hc fun _ _ h => h).upd hu.chg fun j hj e => (hFa j e).2.2 hj
              exact ⟨fun o => h1.keep ((Below.refl _ _).alloc (Nat.le_refl _) o), h1⟩
          have HFIN : Hid (∀ (W1 w5 : World) (Fa5 : Nat → Prop) (va' : Value), Below wr.heap.size wr W1 → OwnR w5 Fa5 28 4 va' (k + 1) (((xs.take k).map askCells).flatten ++ askCells x) → Upd W1 w5 Fa Fa5 → ∀ (w3 w6 : World) (Fw6 : Nat → Prop) (vw' : Value), Below w5.heap.size w5 w3 → OwnR w6 Fw6 40 4 vw' (k + 1) ((List.zipWith gtCells ((xs.take k).map gotOf) svs).flatten ++ gtCells (gotOf x) sv2) → Upd w3 w6 Fw Fw6 → AskInv w w6 xs (k + 1) va' vw') :=
            Lib.hid fun W1 w5 Fa5 va' h1 ha hua w3 w6 Fw6 vw' h3 hw hu => AskInv.push HXK.out hl hold ⟨hsv2, hsvg⟩ hFa hFw hbl h1 ha hua h3 hw hu
          have GC : Hid (∀ (W1 w5 : World) (Fa5 : Nat → Prop), Chg (fun _ => False) wc W1 → Upd W1 w5 Fa Fa5 → w5.heap[wr.heap.size + 1]? = some (.cells (gtCells (gotOf x) sv2).toArray 40 (0, 0))) :=
            Lib.hid fun W1 w5 Fa5 hc hu => by
              have h1 := hc.size
              rw [hu.chg.block _ (by omega) fun h => by have := (hFa _ h).2.1; omega, hc.block _ (by omega) (fun h => h)]
              exact hgot
          have hg2 := Lib.hid hgl2
          have hg3 := Lib.hid hgl3
          have hk1 : k + 1 ≤ 140737488355328 := by omega
          have hk2 : (k + 1) * 48 ≤ 140737488355328 := by omega
          have e1 : ∀ (o : Obj) (j : Nat), (wc.alloc o).cell? ⟨wr.heap.size + 1, j, none⟩ = wc.cell? ⟨wr.heap.size + 1, j, none⟩ := fun o j => (Below.cell (p := ⟨wr.heap.size + 1, j, none⟩) ((Below.refl wc.heap.size wc).alloc (Nat.le_refl _) o) (by show wr.heap.size + 1 < _; omega))
          have e2 : ∀ (o : Obj) (j : Nat), (wc.alloc o).cell? ⟨wr.heap.size + 2, j, none⟩ = wc.cell? ⟨wr.heap.size + 2, j, none⟩ := fun o j => (Below.cell (p := ⟨wr.heap.size + 2, j, none⟩) ((Below.refl wc.heap.size wc).alloc (Nat.le_refl _) o) (by show wr.heap.size + 2 < _; omega))
          clear hask hgot hsv2 hsvg hin hl hoa how hold hFa hFw hbl hoc hwc hgl hgl2 hgl3 hlt' hbm hsz
          simp only [askCells, gtCells] at HA0 HA1 HA2 HA3 HG0 HG1 HG2 HG3 S1 S2 S3 SG SG2
          go_wp2_with fail
          go_region_law (first
            | (refine step_append_rows elemGot _ Fw k 1 _ _ rfl _ _ _ rfl (.slice p2 k q2) rfl (hw5.out.1 _) (.slice (some ⟨w5.heap.size, 0, none⟩) 1 1) rfl (SG.out w5) hk1 hk2 ?_; intro p6 c6 w6 Fw6 hown6 hu6)
            | (refine step_append_rows elemGot _ Fw k 1 _ _ rfl _ _ _ rfl (.slice p2 k q2) rfl (hw5.out.2) (.slice (some ⟨wc.heap.size + 1, 0, none⟩) 1 1) rfl (hsg.out) hk1 hk2 ?_; intro p6 c6 w6 Fw6 hown6 hu6)
            | (refine step_append_rows elemGot _ Fw k 1 _ _ rfl _ _ _ rfl (.slice p2 k q2) rfl (hw5.out.2) (.slice (some ⟨wc.heap.size, 0, none⟩) 1 1) rfl (hsg.out) hk1 hk2 ?_; intro p6 c6 w6 Fw6 hown6 hu6)
            | (refine step_append_rows elemPrim _ Fa k 1 _ _ rfl _ _ _ rfl (.slice p1 k q1) rfl (HOA1.out _) (.slice (some ⟨wc.heap.size, 0, none⟩) 1 1) rfl (S1.out) hk1 hk2 ?_; intro p5 c5 w5 Fa5 hown5 hu5; have hw5 := Lib.hid (HW5.out _ _ _ (C1.out _) hu5); have hfn := Lib.hid (HFIN.out _ _ _ _ (B1.out _) hown5 hu5); obtain ⟨y0, y1, y2, y3⟩ := rowList4 (GC.out _ _ _ (C1.out _) hu5); clear hown5 hu5)
            | (refine step_append_rows elemPrim _ Fa k 1 _ _ rfl _ _ _ rfl (.slice p1 k q1) rfl (HOA2.out _ _) (.slice (some ⟨wc.heap.size, 0, none⟩) 1 1) rfl (S2.out _) hk1 hk2 ?_; intro p5 c5 w5 Fa5 hown5 hu5; have hw5 := Lib.hid (HW5.out _ _ _ (C2.out _ _) hu5); have hfn := Lib.hid (HFIN.out _ _ _ _ (B2.out _ _) hown5 hu5); have hsg := Lib.hid (SG2.out _ _ _ (wc.heap.size + 1) (Nat.le_succ _) (by exact hg3.out _ _) hu5); clear hown5 hu5)
            | (refine step_append_rows elemPrim _ Fa k 1 _ _ rfl _ _ _ rfl (.slice p1 k q1) rfl (HOA2.out _ _) (.slice (some ⟨wc.heap.size + 1, 0, none⟩) 1 1) rfl (S3.out _) hk1 hk2 ?_; intro p5 c5 w5 Fa5 hown5 hu5; have hw5 := Lib.hid (HW5.out _ _ _ (C2.out _ _) hu5); have hfn := Lib.hid (HFIN.out _ _ _ _ (B2.out _ _) hown5 hu5); have hsg := Lib.hid (SG2.out _ _ _ wc.heap.size (Nat.le_refl _) (by exact hg2.out _ _) hu5); clear hown5 hu5))
          all_goals
            go_wp2_with fail
            go_roundg (xs.length - (k + 1))
            case measure => omega
            case rel => exact ⟨k + 1, by omega, rfl, by go_num, hfn.out _ _ _ _ (by first | exact Below.refl _ _ | exact (Below.refl _ _).alloc (Nat.le_refl _) _) hown6 hu6⟩
      · have hke : k = xs.length := by omega
        subst hke
        clear hinv hoa how hold hFa hFw
        go_wp2_with fail
        go_ret2
        exact ⟨_, _, rfl, HINV.out⟩
end Go.Proofs.YtlohpmncagfecaaDoor
