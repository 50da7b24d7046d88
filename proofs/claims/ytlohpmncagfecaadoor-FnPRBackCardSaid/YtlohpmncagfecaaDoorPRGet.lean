/- impl.PRGet. -/
import Derived.Test.YtlohpmncagfecaaDoorGets
namespace Go.Proofs.YtlohpmncagfecaaDoor
open Go.RowKit
set_option linter.unnecessarySimpa false
set_option linter.unusedVariables false
set_option linter.unusedSimpArgs false

/-- Behind k rounds. -/
def GetInv (w : World) (xs : List Pr) (gs : List Gt) (D : Nat → Prop) (r : Nat) (k : Nat) (f : Bool) (ov : Value) (wr : World) : Prop :=
  ∃ (pre suf : List Gt) (F Fo : Nat → Prop), gs = pre ++ suf ∧ pre.length = k ∧ Outs w.heap.size wr Fo F ov pre ∧ Below w.heap.size w wr ∧ (∀ j, F j → w.heap.size ≤ j ∧ j < wr.heap.size) ∧
    (f = false → ∃ bs cur, RdAt wr F D r bs cur ∧ Run (xs.drop k) bs suf ∧ bs.length ≤ 100000) ∧ (f = true → suf = (xs.drop k).map fun _ => errG)

def MadeGots (w : World) (gs : List Gt) (e : Ending) (w' : World) : Prop := ∃ v Fo, e = .returned v ∧ Outs w.heap.size w' Fo (fun _ => False) v gs ∧ Below w.heap.size w w'

theorem Outs.less {B : Nat} {w : World} {Fo F : Nat → Prop} {v : Value} {gs : List Gt} (h : Outs B w Fo F v gs) : Outs B w Fo (fun _ => False) v gs := by
  obtain ⟨svs, h1, h2, h3, h4⟩ := h
  exact ⟨svs, h1, h2, fun i g sv hg hs => ⟨(h3 i g sv hg hs).1, fun k hk => have h := (h3 i g sv hg hs).2 k hk; ⟨h.1, h.2.1, fun e => e, h.2.2.2⟩⟩, fun k hk => ⟨(h4 k hk).1, (h4 k hk).2.1, fun e => e⟩⟩

theorem Outs.later {B : Nat} {w w' : World} {Fo F F' : Nat → Prop} {v : Value} {gs : List Gt} (h : Outs B w Fo F v gs) (hc : Chg F w w') (hF' : ∀ k, F' k → F k ∨ w.heap.size ≤ k) : Outs B w' Fo F' v gs := by
  obtain ⟨svs, h1, h2, h3, h4⟩ := h
  have hsz := hc.size
  have hnew : ∀ k, k < w.heap.size → ¬ F k → ¬ F' k := fun k hk hn e => by
    rcases hF' k e with h | h
    · exact hn h
    · omega
  refine ⟨svs, h1, h2.upd hc fun k hk e => (h4 k hk).2.2 e, fun i g sv hg hs => ?_, fun k hk => ⟨(h4 k hk).1, by have := (h4 k hk).2.1; omega, hnew k (h4 k hk).2.1 (h4 k hk).2.2⟩⟩
  obtain ⟨hb, hk⟩ := h3 i g sv hg hs
  exact ⟨hb.keep fun k hkk => hc.block k (hk k hkk).2.1 (hk k hkk).2.2.1, fun k hkk => ⟨(hk k hkk).1, by have := (hk k hkk).2.1; omega, hnew k (hk k hkk).2.1 (hk k hkk).2.2.1, (hk k hkk).2.2.2⟩⟩

theorem getInv_next {w wr W : World} {xs : List Pr} {gs pre suf : List Gt} {g : Gt} {D F F1 Fo : Nat → Prop} {r k : Nat} {ov sv : Value} (hgs : gs = pre ++ g :: suf) (hpre : pre.length = k) (hout : Outs w.heap.size wr Fo F ov pre) (hbl : Below w.heap.size w wr)
    (hF : ∀ j, F j → w.heap.size ≤ j ∧ j < wr.heap.size) (hCW : Chg F wr W) (hF1 : ∀ j, F1 j → (F j ∨ wr.heap.size ≤ j) ∧ j < W.heap.size) (hs : BytesAt W sv g.s) (hsv : ∀ k, sv.ownBlock = some k → wr.heap.size ≤ k ∧ k < W.heap.size ∧ ¬ F1 k) :
    ∃ cells : List Value, OwnR W Fo 40 4 ov k cells ∧ ∀ v' w6 Fo', OwnR w6 Fo' 40 4 v' (k + 1) (cells ++ gtCells g sv) → Upd W w6 Fo Fo' →
      ∀ f' : Bool, (f' = false → ∃ bs cur, RdAt W F1 D r bs cur ∧ Run (xs.drop (k + 1)) bs suf ∧ bs.length ≤ 100000) → (f' = true → suf = (xs.drop (k + 1)).map fun _ => errG) → (∀ j, D j → j < w.heap.size) → GetInv w xs gs D r (k + 1) f' v' w6 := by
  subst hpre
  have houtW := hout.later (F' := F1) hCW fun j hj => (hF1 j hj).1
  obtain ⟨svs, h1, h2, h3, h4⟩ := id houtW
  obtain ⟨-, -, -, -, h40⟩ := id hout
  have hszb := hbl.size
  have hszW := hCW.size
  refine ⟨_, h2, fun v' w6 Fo' hown hu f' hok hbad hD => ⟨pre ++ [g], suf, F1, Fo', by simp [hgs], by simp, ?_, ?_, fun j hj => ?_, fun hf => ?_, hbad⟩⟩
  · exact houtW.push hs (fun k hk => ⟨by have := hsv k hk; omega, (hsv k hk).2.1, (hsv k hk).2.2, fun e => by have := (h40 k e).2.1; have := hsv k hk; omega⟩) (by omega) (fun k hk => (hF1 k hk).2) svs h1 h3 hown hu
  · exact hbl.trans ((hCW.below hszb fun k hk => (hF k hk).1).trans (hu.chg.below (by omega) fun k hk => (h4 k hk).1))
  · have := hu.chg.size
    rcases (hF1 j hj).1 with h | h
    · exact ⟨(hF j h).1, by have := (hF1 j hj).2; omega⟩
    · exact ⟨by omega, by have := (hF1 j hj).2; omega⟩
  · obtain ⟨bs, cur, hr, hrun, hl⟩ := hok hf
    exact ⟨bs, cur, hr.upd hu.chg (fun k hk e => (h4 k e).2.2 hk) (fun k hk e => by have := hD k hk; have := (h4 k e).1; omega), hrun, hl⟩

theorem hUAof {wr WA w2 : World} {F F1 : Nat → Prop} (h : Upd wr WA F F) (h1 : Upd WA w2 F F1) : Chg F wr w2 := (h.trans h1).chg

/-- The cells of what was read, ahead of its append. -/
theorem got_cells (g : Gt) (sv : Value) (h : sv.oneCell' = true) : ∀ u ∈ gtCells g sv, u.oneCell' = true := by
  intro u hu
  simp [gtCells] at hu
  rcases hu with rfl | rfl | rfl | rfl <;> first | rfl | exact h

set_option maxRecDepth 100000 in
set_option maxHeartbeats 1000000 in
theorem prGet (w : World) (B : Nat) (v lv : Value) (bs : List UInt8) (xs : List Pr) (gs : List Gt) (hv : BytesAt w v bs) (hD : ∀ g, v.ownBlock = some g → g < w.heap.size) (h : PrimsAt w B lv xs) (hB : B ≤ w.heap.size) (hn : xs.length ≤ 1000) (hl : bs.length ≤ 100000) (hrun : Run xs bs gs) :
    Calls Tryd.prog 16 #[v, lv] w (MadeGots w gs) := by
  obtain ⟨pv, cv, rfl⟩ := hv.slice
  have HV := Lib.hid (newReader w _ bs hv hD)
  have HRUN := Lib.hid hrun
  have HDD := Lib.hid hD
  rcases id h with ⟨rfl, rfl⟩ | ⟨b, off, cap, rfl, hcap, hb, hx⟩
  · cases hrun
    go_enter Tryd.func16, Tryd.ntmps16
    go_wp2_with fail
    refine HV.out.mono ?_
    rintro e w1 ⟨rfl, hb1, hs1, hr1⟩
    go_wp2_with fail
    go_rounds 1
    all_goals
      go_wp2_with fail
      go_ret
      exact ⟨_, fun _ => False, rfl, Outs.start _ _ _, hb1⟩
  · have HX := Lib.hid hx
    clear hx h hrun hD hv
    go_enter Tryd.func16, Tryd.ntmps16
    go_wp2_with fail
    refine HV.out.mono ?_
    rintro e w1 ⟨rfl, hb1, hs1, hr1⟩
    have HB1 := Lib.hid hb1
    have HS1 := Lib.hid hs1
    have HR1 := Lib.hid hr1
    clear hb1 hs1 hr1
    go_wp2_with fail
    go_loopw [6, 7, 15] (fun vo vf vi wr => ∃ (k : Nat) (f : Bool), k ≤ xs.length ∧ vi = .int .i64 k ∧ vf = .bool f ∧ GetInv w xs gs (fun k => (Value.slice pv bs.length cv).ownBlock = some k) (w.heap.size + 1) k f vo wr) (fun _ _ vi _ => xs.length - (intOf vi).toNat)
    case atStart =>
      refine ⟨0, false, Nat.zero_le _, rfl, rfl, [], gs, _, _, rfl, rfl, Outs.start _ _ _, HB1.out, ?_, fun _ => ⟨bs, [], HR1.out, HRUN.out, hl⟩, fun h => by simp at h⟩
      rintro j (rfl | rfl) <;> have := HS1.out <;> omega
    case round =>
      obtain ⟨k, f, hk, rfl, rfl, hinv⟩ := hrel
      obtain ⟨pre, suf, F, Fo, hgs, hpre, hout, hbl, hFk, hok, hbad⟩ := hinv
      have HI := Lib.hid (And.intro hgs (And.intro hpre (And.intro hout (And.intro hFk (And.intro hok hbad)))))
      obtain ⟨po, co, rfl⟩ := hout.slice
      rw [hpre]
      clear hgs hpre hout hFk hok hbad
      by_cases hlt : k < xs.length
      · obtain ⟨x, hxk⟩ : ∃ x, xs[k]? = some x := ⟨_, List.getElem?_eq_getElem hlt⟩
        obtain ⟨sv, c0, c1, c2, c3, hs, hg, hux, hvx, hsl⟩ := (HX.out k x hxk).keep hb (w' := wr) fun j hj => hbl.block j (by omega)
        obtain ⟨q, cq, rfl⟩ := hs.slice
        have HXK := Lib.hid hxk
        have HSV := Lib.hid (And.intro hs hg)
        clear hxk hux hvx hs hg
        cases f
        · obtain ⟨hgs, hpre, hout, hFk, hok, -⟩ := HI.out
          obtain ⟨bsk, curk, hrd, hrun, hlk⟩ := hok rfl
          have hdrop : xs.drop k = x :: xs.drop (k + 1) := by
            obtain ⟨hk', he⟩ := List.getElem?_eq_some_iff.1 HXK.out
            rw [List.drop_eq_getElem_cons hk', he]
          rw [hdrop] at hrun
          have hbA : Below wr.heap.size wr ((wr.alloc (.cells #[.int .i64 x.op, .int .u64 (x.u : Nat), .int .u64 (x.v : Nat), .slice q x.s.length cq] 28)).alloc (.cells #[.int .u64 0, .int .u64 0, .slice none 0 0, .bool true] 40)) := ((Below.refl _ wr).alloc (Nat.le_refl _) _).alloc (by simp) _
          have hUA := (Upd.refl F wr).below hbA
          have hrA := hrd.below hbA
          have hsA := HSV.out.1.below hbA
          have hgA : x.s ≠ [] → ∀ k, (Value.slice q x.s.length cq).ownBlock = some k → k < ((wr.alloc (.cells #[.int .i64 x.op, .int .u64 (x.u : Nat), .int .u64 (x.v : Nat), .slice q x.s.length cq] 28)).alloc (.cells #[.int .u64 0, .int .u64 0, .slice none 0 0, .bool true] 40)).heap.size ∧ ¬ F k := fun hn k hk => by
            have h1 := HSV.out.2 k hn hk
            have h2 := hbl.size
            exact ⟨by simp; omega, fun e => by have := (hFk k e).1; omega⟩
          have hgot0 : ((wr.alloc (.cells #[.int .i64 x.op, .int .u64 (x.u : Nat), .int .u64 (x.v : Nat), .slice q x.s.length cq] 28)).alloc (.cells #[.int .u64 0, .int .u64 0, .slice none 0 0, .bool true] 40)).heap[wr.heap.size + 1]? = some (.cells #[.int .u64 0, .int .u64 0, .slice none 0 0, .bool true] 40 (0, 0)) := by
            have := heap_alloc_new (wr.alloc (.cells #[.int .i64 x.op, .int .u64 (x.u : Nat), .int .u64 (x.v : Nat), .slice q x.s.length cq] 28)) (.cells #[.int .u64 0, .int .u64 0, .slice none 0 0, .bool true] 40)
            simpa using this
          have HF := Lib.hid hFk
          have HOUT := Lib.hid (hout.upd hUA)
          have HGOT := Lib.hid hgot0
          have HUA := Lib.hid hUA
          have HHEAD := Lib.hid (And.intro hgs hpre)
          have hask : (∃ g rest gs', suf = g :: gs' ∧ g.err = false ∧ AskOk 28 x bsk g rest ∧ rest.length ≤ bsk.length ∧ Run (xs.drop (k + 1)) rest gs') ∨ (suf = errG :: (xs.drop (k + 1)).map (fun _ => errG) ∧ AskBad 28 x bsk) := by
            cases hrun with
            | ok _ _ _ rest g gs' h1 h2 h3 h4 => exact .inl ⟨g, rest, gs', rfl, h1, h2, h3, h4⟩
            | bad _ _ _ h => exact .inr ⟨rfl, h⟩
          have hsufhid := Lib.hid hask
          clear hask hrun hdrop hFk hout hok hgot0 hUA hbA hgs hpre hrd
          rcases hsufhid.out with ⟨⟨gu, gv, gS, gE⟩, rest, gs', hsuf, herr, hask, hrl, hrun⟩ | ⟨hsuf, hask⟩
          · obtain rfl : gE = false := herr
            have HASK := Lib.hid (hask _ F _ _ curk _ hrA hsA hgA hlk)
            have HSUF := Lib.hid (And.intro hsuf (And.intro hrl (And.intro hrun hlk)))
            unfold askV at HASK
            clear hask hsuf hrl hrun hrA hsA hgA hsufhid
            go_wp2_with fail
            refine HASK.out.mono ?_
            rintro e w2 ⟨sv1, F1, cur1, rfl, hs1, hsv1, hr1, hu1⟩
            obtain ⟨hgs, hpre, hout, hFk, -, -⟩ := HI.out
            rw [hpre] at hout
            obtain ⟨hsuf, hrl, hrun, hlk⟩ := HSUF.out
            subst hsuf
            simp only [World.size_alloc] at hsv1
            have hnF : ¬ F (wr.heap.size + 1) := fun e => by have := (HF.out _ e).2; omega
            have hnF1 : ¬ F1 (wr.heap.size + 1) := fun e => by
              rcases hu1.new _ e with h1 | h1
              · exact hnF h1
              · simp at h1; omega
            have hszu := hu1.chg.size
            simp only [World.size_alloc] at hszu
            have hg2 : w2.heap[wr.heap.size + 1]? = some (.cells ([.int .u64 0, .int .u64 0, .slice none 0 0, .bool true] : List Value).toArray 40 (0, 0)) := by rw [hu1.chg.block _ (by simp) hnF]; exact HGOT.out
            obtain ⟨⟨e0, e1, e2, e3⟩, f0, f1, f2, f3⟩ := row4 hg2
            obtain ⟨p1, c1', rfl⟩ := hs1.slice
            obtain ⟨W5, hW5⟩ : ∃ W5 : World, W5 = (((((w2.setCell ⟨wr.heap.size + 1, 0, none⟩ (.int .u64 (gu : Nat))).setCell ⟨wr.heap.size + 1, 1, none⟩ (.int .u64 (gv : Nat))).setCell ⟨wr.heap.size + 1, 2, none⟩ (.slice p1 gS.length c1')).setCell ⟨wr.heap.size + 1, 3, none⟩ (.bool false)).alloc (.cells #[.int .u64 (gu : Nat), .int .u64 (gv : Nat), .slice p1 gS.length c1', .bool false] 40)) := ⟨_, rfl⟩
            have hC5 : Chg (· = wr.heap.size + 1) w2 W5 := by rw [hW5]; exact (((((Chg.refl (· = wr.heap.size + 1) w2).setCell (.inl rfl) _).setCell (.inl rfl) _).setCell (.inl rfl) _).setCell (.inl rfl) _).alloc _
            have hsz5 : W5.heap.size = w2.heap.size + 1 := by rw [hW5]; simp
            have hnew5 : W5.heap[w2.heap.size]? = some (.cells ([.int .u64 (gu : Nat), .int .u64 (gv : Nat), .slice p1 gS.length c1', .bool false] : List Value).toArray 40 (0, 0)) := by
              have := heap_alloc_new ((((w2.setCell ⟨wr.heap.size + 1, 0, none⟩ (.int .u64 (gu : Nat))).setCell ⟨wr.heap.size + 1, 1, none⟩ (.int .u64 (gv : Nat))).setCell ⟨wr.heap.size + 1, 2, none⟩ (.slice p1 gS.length c1')).setCell ⟨wr.heap.size + 1, 3, none⟩ (.bool false)) (.cells #[.int .u64 (gu : Nat), .int .u64 (gv : Nat), .slice p1 gS.length c1', .bool false] 40)
              rw [hW5]; simpa using this
            have hsrc := src_new elemGot w2.heap.size _ _ hnew5 rfl (got_cells ⟨gu, gv, gS, false⟩ _ rfl) 1
            have hCW : Chg F wr W5 := (hUAof HUA.out hu1).trans hC5 fun i hi e => by omega
            obtain ⟨cells, hown, hfin⟩ := getInv_next (xs := xs) (D := fun k => (Value.slice pv bs.length cv).ownBlock = some k) (r := w.heap.size + 1) (F1 := F1) (W := W5) hgs hpre hout hbl hFk hCW (fun j hj => ⟨by
                rcases hu1.new j hj with h1 | h1
                · exact .inl h1
                · simp at h1; exact .inr (by omega), by
                rcases hu1.new j hj with h1 | h1
                · have := (hFk j h1).2; omega
                · omega⟩) (hs1.keep fun k hk => hC5.block k (hsv1 k hk).2.1 (by have := hsv1 k hk; omega)) (fun k hk => ⟨by have := hsv1 k hk; omega, by have := hsv1 k hk; omega, (hsv1 k hk).2.2⟩)
            have hrd5 : RdAt W5 F1 (fun k => (Value.slice pv bs.length cv).ownBlock = some k) (w.heap.size + 1) rest cur1 := hr1.upd hC5 (fun k hk e => hnF1 (e ▸ hk)) (fun k hk e => by have := HDD.out k hk; have := hbl.size; omega)
            subst hW5
            have HOWN := Lib.hid hown
            have HFIN := Lib.hid hfin
            have HSRC := Lib.hid hsrc
            have HRD := Lib.hid (And.intro hrd5 (And.intro hrun (Nat.le_trans hrl hlk)))
            clear hs1 hsv1 hr1 hu1 hgs hpre hout hFk hrl hrun hnF hnF1 hg2 hC5 hsz5 hnew5 hsrc hCW hown hfin hrd5 hlk hszu
            go_wp2_with (at_builtin; refine append_rows elemGot _ Fo k 1 cells _ rfl _ _ _ rfl _ rfl HOWN.out _ rfl HSRC.out (by omega) (by omega) ?_; intro p6 c6 w6 Fo6 hown6 hu6)
            go_roundw
            case rel => exact ⟨k + 1, false, by omega, by go_num, rfl, HFIN.out _ _ _ hown6 hu6 false (fun _ => ⟨_, _, HRD.out.1, HRD.out.2.1, HRD.out.2.2⟩) (fun h => by simp at h) HDD.out⟩
            case measure => simp [intOf]; omega
          · have HASK := Lib.hid (hask _ F _ _ curk _ hrA hsA hgA hlk)
            have HSUF := Lib.hid hsuf
            unfold askV at HASK
            clear hask hsuf hrA hsA hgA hsufhid
            go_wp2_with fail
            refine HASK.out.mono ?_
            rintro e w2 ⟨rfl, F1, hu1⟩
            obtain ⟨hgs, hpre, hout, hFk, -, -⟩ := HI.out
            rw [hpre] at hout
            have hsuf := HSUF.out
            subst hsuf
            have hnF : ¬ F (wr.heap.size + 1) := fun e => by have := (HF.out _ e).2; omega
            have hszu := hu1.chg.size
            simp only [World.size_alloc] at hszu
            have hg2 : w2.heap[wr.heap.size + 1]? = some (.cells ([.int .u64 0, .int .u64 0, .slice none 0 0, .bool true] : List Value).toArray 40 (0, 0)) := by rw [hu1.chg.block _ (by simp) hnF]; exact HGOT.out
            obtain ⟨⟨e0, e1, e2, e3⟩, f0, f1, f2, f3⟩ := row4 hg2
            obtain ⟨W5, hW5⟩ : ∃ W5 : World, W5 = (((((w2.setCell ⟨wr.heap.size + 1, 0, none⟩ (.int .u64 0)).setCell ⟨wr.heap.size + 1, 1, none⟩ (.int .u64 0)).setCell ⟨wr.heap.size + 1, 2, none⟩ (.slice none 0 0)).setCell ⟨wr.heap.size + 1, 3, none⟩ (.bool true)).alloc (.cells #[.int .u64 0, .int .u64 0, .slice none 0 0, .bool true] 40)) := ⟨_, rfl⟩
            have hC5 : Chg (· = wr.heap.size + 1) w2 W5 := by rw [hW5]; exact (((((Chg.refl (· = wr.heap.size + 1) w2).setCell (.inl rfl) _).setCell (.inl rfl) _).setCell (.inl rfl) _).setCell (.inl rfl) _).alloc _
            have hsz5 : W5.heap.size = w2.heap.size + 1 := by rw [hW5]; simp
            have hnew5 : W5.heap[w2.heap.size]? = some (.cells ([.int .u64 0, .int .u64 0, .slice none 0 0, .bool true] : List Value).toArray 40 (0, 0)) := by
              have := heap_alloc_new ((((w2.setCell ⟨wr.heap.size + 1, 0, none⟩ (.int .u64 0)).setCell ⟨wr.heap.size + 1, 1, none⟩ (.int .u64 0)).setCell ⟨wr.heap.size + 1, 2, none⟩ (.slice none 0 0)).setCell ⟨wr.heap.size + 1, 3, none⟩ (.bool true)) (.cells #[.int .u64 0, .int .u64 0, .slice none 0 0, .bool true] 40)
              rw [hW5]; simpa using this
            have hsrc := src_new elemGot w2.heap.size _ _ hnew5 rfl (got_cells errG _ rfl) 1
            have hCW : Chg F wr W5 := (hUAof HUA.out hu1).trans hC5 fun i hi e => by omega
            obtain ⟨cells, hown, hfin⟩ := getInv_next (g := errG) (sv := .slice none 0 0) (xs := xs) (D := fun k => (Value.slice pv bs.length cv).ownBlock = some k) (r := w.heap.size + 1) (F1 := F1) (W := W5) hgs hpre hout hbl hFk hCW (fun j hj => ⟨by
                rcases hu1.new j hj with h1 | h1
                · exact .inl h1
                · simp at h1; exact .inr (by omega), by
                rcases hu1.new j hj with h1 | h1
                · have := (hFk j h1).2; omega
                · omega⟩) (.inl ⟨rfl, rfl⟩) (by simp [Value.ownBlock])
            subst hW5
            have HOWN := Lib.hid hown
            have HFIN := Lib.hid hfin
            have HSRC := Lib.hid hsrc
            clear hu1 hgs hpre hout hFk hnF hg2 hC5 hsz5 hnew5 hsrc hCW hown hfin hszu
            go_wp2_with (at_builtin; refine append_rows elemGot _ Fo k 1 cells _ rfl _ _ _ rfl _ rfl HOWN.out _ rfl HSRC.out (by omega) (by omega) ?_; intro p6 c6 w6 Fo6 hown6 hu6)
            go_roundw
            case rel => exact ⟨k + 1, true, by omega, by go_num, rfl, HFIN.out _ _ _ hown6 hu6 true (fun h => by simp at h) (by simp) HDD.out⟩
            case measure => simp [intOf]; omega
        · obtain ⟨hgs, hpre, hout, hFk, -, hbad⟩ := HI.out
          rw [hpre] at hout
          have hdrop : xs.drop k = x :: xs.drop (k + 1) := by
            obtain ⟨hk', he⟩ := List.getElem?_eq_some_iff.1 HXK.out
            rw [List.drop_eq_getElem_cons hk', he]
          have hsuf := hbad rfl
          rw [hdrop, List.map_cons] at hsuf
          subst hsuf
          obtain ⟨W5, hW5⟩ : ∃ W5 : World, W5 = (((wr.alloc (.cells #[.int .i64 x.op, .int .u64 (x.u : Nat), .int .u64 (x.v : Nat), .slice q x.s.length cq] 28)).alloc (.cells #[.int .u64 0, .int .u64 0, .slice none 0 0, .bool true] 40)).alloc (.cells #[.int .u64 0, .int .u64 0, .slice none 0 0, .bool true] 40)) := ⟨_, rfl⟩
          have hC5 : Chg F wr W5 := by rw [hW5]; exact (((Chg.refl F wr).alloc _).alloc _).alloc _
          have hsz5 : W5.heap.size = wr.heap.size + 3 := by rw [hW5]; simp
          have hnew5 : W5.heap[wr.heap.size + 1 + 1]? = some (.cells ([.int .u64 0, .int .u64 0, .slice none 0 0, .bool true] : List Value).toArray 40 (0, 0)) := by
            have := heap_alloc_new ((wr.alloc (.cells #[.int .i64 x.op, .int .u64 (x.u : Nat), .int .u64 (x.v : Nat), .slice q x.s.length cq] 28)).alloc (.cells #[.int .u64 0, .int .u64 0, .slice none 0 0, .bool true] 40)) (.cells #[.int .u64 0, .int .u64 0, .slice none 0 0, .bool true] 40)
            rw [hW5]; simpa using this
          have hsrc := src_new elemGot (wr.heap.size + 1 + 1) _ _ hnew5 rfl (got_cells errG _ rfl) 1
          obtain ⟨cells, hown, hfin⟩ := getInv_next (g := errG) (sv := .slice none 0 0) (xs := xs) (D := fun k => (Value.slice pv bs.length cv).ownBlock = some k) (r := w.heap.size + 1) (F1 := F) (W := W5) hgs hpre hout hbl hFk hC5 (fun j hj => ⟨.inl hj, by have := (hFk j hj).2; omega⟩) (.inl ⟨rfl, rfl⟩) (by simp [Value.ownBlock])
          subst hW5
          have HOWN := Lib.hid hown
          have HFIN := Lib.hid hfin
          have HSRC := Lib.hid hsrc
          clear hgs hpre hout hFk hbad hdrop hC5 hsz5 hnew5 hsrc hown hfin
          go_wp2_with (at_builtin; refine append_rows elemGot _ Fo k 1 cells _ rfl _ _ _ rfl _ rfl HOWN.out _ rfl HSRC.out (by omega) (by omega) ?_; intro p6 c6 w6 Fo6 hown6 hu6)
          go_roundw
          case rel => exact ⟨k + 1, true, by omega, by go_num, rfl, HFIN.out _ _ _ hown6 hu6 true (fun h => by simp at h) (by simp) HDD.out⟩
          case measure => simp [intOf]; omega
      · obtain ⟨hgs, hpre, hout, hFk, hok, hbad⟩ := HI.out
        rw [hpre] at hout
        have hd : xs.drop k = [] := List.drop_eq_nil_of_le (by omega)
        have hsuf : suf = [] := by
          cases f
          · obtain ⟨_, _, _, hr, _⟩ := hok rfl
            rw [hd] at hr
            cases hr
            rfl
          · have := hbad rfl
            rw [hd] at this
            exact this
        rw [hsuf, List.append_nil] at hgs
        have HO := Lib.hid (And.intro hgs hout.less)
        clear hgs hpre hout hFk hok hbad hd hsuf
        cases f
        all_goals
          go_wp2_with fail
          go_ret
          obtain ⟨rfl, ho⟩ := HO.out
          exact ⟨_, Fo, rfl, ho, hbl⟩
end Go.Proofs.YtlohpmncagfecaaDoor
