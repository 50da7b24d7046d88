/- Lists of values in memory; laws.prFew, laws.zzFits23; impl.PRPut. -/
import Derived.Test.YtlohpmncagfecaaDoorPrim
import Derived.Test.YtlohpmncagfecaaDoorGot2
namespace Go.Proofs.YtlohpmncagfecaaDoor
open Go.RowKit
set_option linter.unnecessarySimpa false
set_option linter.unusedVariables false
set_option linter.unusedSimpArgs false

structure Pr where
  op : Int
  u : Nat
  v : Nat
  s : List UInt8

/-- A value lies at a place; what it leads to lies below B. -/
def PrimAt (w : World) (B b o : Nat) (x : Pr) : Prop :=
  ∃ sv, w.cell? ⟨b, o, none⟩ = some (.int .i64 x.op) ∧ w.cell? ⟨b, o + 1, none⟩ = some (.int .u64 (x.u : Nat)) ∧ w.cell? ⟨b, o + 2, none⟩ = some (.int .u64 (x.v : Nat)) ∧ w.cell? ⟨b, o + 3, none⟩ = some sv ∧
    BytesX w sv x.s ∧ (∀ g, x.s ≠ [] → sv.ownBlock = some g → g < B) ∧ x.u < 18446744073709551616 ∧ x.v < 18446744073709551616 ∧ x.s.length ≤ 9223372036854775807

def PrimsAt (w : World) (B : Nat) (lv : Value) (xs : List Pr) : Prop :=
  (lv = .slice none 0 0 ∧ xs = []) ∨ ∃ b off cap, lv = .slice (some ⟨b, off, none⟩) xs.length cap ∧ xs.length ≤ cap ∧ b < B ∧ ∀ i x, xs[i]? = some x → PrimAt w B b (off + i * 4) x

theorem PrimAt.keep {w w' : World} {B b o : Nat} {x : Pr} (h : PrimAt w B b o x) (hb : b < B) (hk : ∀ k, k < B → w'.heap[k]? = w.heap[k]?) : PrimAt w' B b o x := by
  obtain ⟨sv, h0, h1, h2, h3, h4, h5, h6⟩ := h
  have e := fun j => World.cell?_of_block (w := w) (w' := w') (a := ⟨b, j, none⟩) (hk b hb)
  exact ⟨sv, by rw [e]; exact h0, by rw [e]; exact h1, by rw [e]; exact h2, by rw [e]; exact h3, h4.keep' fun hn g hg => hk g (h5 g hn hg), h5, h6⟩

theorem PrimsAt.keep {w w' : World} {B : Nat} {lv : Value} {xs : List Pr} (h : PrimsAt w B lv xs) (hk : ∀ k, k < B → w'.heap[k]? = w.heap[k]?) : PrimsAt w' B lv xs := by
  rcases h with h | ⟨b, off, cap, rfl, hl, hb, h⟩
  · exact .inl h
  · exact .inr ⟨b, off, cap, rfl, hl, hb, fun i x hx => (h i x hx).keep hb hk⟩

theorem PrimsAt.below {w w' : World} {B : Nat} {lv : Value} {xs : List Pr} (h : PrimsAt w B lv xs) (hB : B ≤ w.heap.size) (hb : Below w.heap.size w w') : PrimsAt w' B lv xs :=
  h.keep fun k hk => hb.block k (by omega)
theorem PrimsAt.chg {w w' : World} {F : Nat → Prop} {B : Nat} {lv : Value} {xs : List Pr} (h : PrimsAt w B lv xs) (hB : B ≤ w.heap.size) (hc : Chg F w w') (hF : ∀ k, F k → B ≤ k) : PrimsAt w' B lv xs :=
  h.keep fun k hk => hc.block k (by omega) fun e => by have := hF k e; omega

theorem PrimsAt.slice {w : World} {B : Nat} {lv : Value} {xs : List Pr} (h : PrimsAt w B lv xs) : ∃ p c, lv = .slice p xs.length c := by
  rcases h with ⟨rfl, rfl⟩ | ⟨b, off, cap, rfl, -⟩
  · exact ⟨_, _, rfl⟩
  · exact ⟨_, _, rfl⟩

def goodPr (x : Pr) : Bool := decide (1 ≤ x.op ∧ x.op ≤ 19 ∧ x.s.length ≤ 100)
def few (xs : List Pr) : Bool := xs.all goodPr && decide (xs.length ≤ 30)
/-- Values that are put: few ones, of kinds that there are. -/
def okPr (x : Pr) : Bool := decide (1 ≤ x.op ∧ x.op ≤ 19 ∧ x.s.length ≤ 1000)
def Few (xs : List Pr) : Prop := (∀ x ∈ xs, okPr x = true) ∧ xs.length ≤ 30
theorem few_Few {xs : List Pr} (h : few xs = true) : Few xs := by
  simp [few] at h
  exact ⟨fun x hx => by have := h.1 x hx; simp [goodPr] at this; simp [okPr]; omega, h.2⟩
def fitsPr (xs : List Pr) : Bool := xs.all (fun x => decide (x.s.length ≤ 2147483647)) && decide (xs.length ≤ 2147483647)

set_option maxRecDepth 100000 in
theorem prFew (w : World) (B : Nat) (lv : Value) (xs : List Pr) (h : PrimsAt w B lv xs) (hB : B ≤ w.heap.size) (hn : xs.length ≤ 9223372036854775807) :
    Calls Tryd.prog 6 #[lv, .int .i64 19] w fun e w' => e = .returned (.bool (few xs)) ∧ Below w.heap.size w w' := by
  rcases id h with ⟨rfl, rfl⟩ | ⟨b, off, cap, rfl, hcap, hb, hx⟩
  · go_enter Tryd.func6, Tryd.ntmps6
    go_wp2_with fail
    go_rounds 1
    all_goals
      go_wp2_with fail
      go_ret
      exact ⟨rfl, Below.refl _ _⟩
  · have HX := Lib.hid hx
    clear hx h
    go_enter Tryd.func6, Tryd.ntmps6
    go_wp2_with fail
    go_loopw [9] (fun vi wr => ∃ k : Nat, k ≤ xs.length ∧ vi = .int .i64 k ∧ (∀ j x, j < k → xs[j]? = some x → goodPr x = true) ∧ Below w.heap.size w wr) (fun vi _ => xs.length - (intOf vi).toNat)
    case atStart => exact ⟨0, Nat.zero_le _, rfl, fun j x hj => by omega, Below.refl _ _⟩
    case round =>
      obtain ⟨k, hk, rfl, hgood, hbl⟩ := hrel
      have HG := Lib.hid hgood
      clear hgood
      by_cases hlt : k < xs.length
      · obtain ⟨x, hxk⟩ : ∃ x, xs[k]? = some x := ⟨_, List.getElem?_eq_getElem hlt⟩
        obtain ⟨sv, c0, c1, c2, c3, hs, hg, hu, hv, hsl⟩ := (HX.out k x hxk).keep hb (w' := wr) fun j hj => hbl.block j (by omega)
        obtain ⟨q, cq, rfl⟩ := hs.slice
        have HXK := Lib.hid hxk
        have HUV := Lib.hid (And.intro hu hv)
        clear hxk hu hv hs hg
        have hfalse : goodPr x = false → few xs = false := fun h1 => by
          have : xs.all goodPr = false := by rw [List.all_eq_false]; exact ⟨x, List.mem_of_getElem? HXK.out, by simp [h1]⟩
          simp [few, this]
        have HFA := Lib.hid hfalse
        clear hfalse
        by_cases h1 : x.op < 1
        · go_wp2_with fail
          go_ret
          exact ⟨by rw [HFA.out (by simp [goodPr]; omega)]; rfl, hbl.alloc hbl.size _⟩
        · by_cases h2 : 19 < x.op
          · go_wp2_with fail
            go_ret
            exact ⟨by rw [HFA.out (by simp [goodPr]; omega)]; rfl, hbl.alloc hbl.size _⟩
          · by_cases h3 : 100 < x.s.length
            · go_wp2_with fail
              go_ret
              exact ⟨by rw [HFA.out (by simp [goodPr]; omega)]; rfl, hbl.alloc hbl.size _⟩
            · go_wp2_with fail
              go_roundw
              case rel =>
                refine ⟨k + 1, by omega, by go_num, fun j y hj hy => ?_, hbl.alloc hbl.size _⟩
                by_cases e : j = k
                · subst e
                  rw [HXK.out] at hy
                  obtain rfl := Option.some.inj hy
                  simp [goodPr]; omega
                · exact HG.out j y (by omega) hy
              case measure => simp [intOf]; omega
      · go_wp2_with fail
        go_ret
        refine ⟨?_, hbl⟩
        have : xs.all goodPr = true := List.all_eq_true.2 fun y hy => by
          obtain ⟨j, hj⟩ := List.mem_iff_getElem?.1 hy
          exact HG.out j y (by have := (List.getElem?_eq_some_iff.1 hj).1; omega) hj
        simp [few, this]
        omega

theorem fits24 (w : World) (x : Pr) (q : Option Addr) (cq : Nat) (b : Bool) (hb : b = decide (x.s.length ≤ 2147483647)) :
    Calls Tryd.prog 18 #[.agg #[.int .i64 x.op, .int .u64 (x.u : Nat), .int .u64 (x.v : Nat), .slice q x.s.length cq]] w fun e w' => e = .returned (.bool b) ∧ Below w.heap.size w w' := by
  cases b
  · have h : 2147483647 < x.s.length := by simpa using hb.symm
    clear hb
    go_enter Tryd.func18, Tryd.ntmps18
    go_wp2
    go_ret
    exact ⟨rfl, (Below.refl _ w).alloc (Nat.le_refl _) _⟩
  · have h : x.s.length ≤ 2147483647 := by simpa using hb.symm
    clear hb
    go_enter Tryd.func18, Tryd.ntmps18
    go_wp2
    go_ret
    exact ⟨rfl, (Below.refl _ w).alloc (Nat.le_refl _) _⟩

set_option maxRecDepth 100000 in
theorem fits23 (w : World) (B : Nat) (lv : Value) (xs : List Pr) (h : PrimsAt w B lv xs) (hB : B ≤ w.heap.size) (hn : xs.length ≤ 9223372036854775807) :
    Calls Tryd.prog 5 #[lv] w fun e w' => e = .returned (.bool (fitsPr xs)) ∧ Below w.heap.size w w' := by
  rcases id h with ⟨rfl, rfl⟩ | ⟨b, off, cap, rfl, hcap, hb, hx⟩
  · go_enter Tryd.func5, Tryd.ntmps5
    go_wp2_with fail
    go_rounds 1
    all_goals
      go_wp2_with fail
      go_ret
      exact ⟨rfl, Below.refl _ _⟩
  · have HX := Lib.hid hx
    clear hx h
    by_cases hbig : 2147483647 < xs.length
    · go_enter Tryd.func5, Tryd.ntmps5
      go_wp2_with fail
      go_ret
      exact ⟨by simp [fitsPr]; omega, Below.refl _ _⟩
    · go_enter Tryd.func5, Tryd.ntmps5
      go_wp2_with fail
      go_loopw [10] (fun vi wr => ∃ k : Nat, k ≤ xs.length ∧ vi = .int .i64 k ∧ (∀ j x, j < k → xs[j]? = some x → x.s.length ≤ 2147483647) ∧ Below w.heap.size w wr) (fun vi _ => xs.length - (intOf vi).toNat)
      case atStart => exact ⟨0, Nat.zero_le _, rfl, fun j x hj => by omega, Below.refl _ _⟩
      case round =>
        obtain ⟨k, hk, rfl, hgood, hbl⟩ := hrel
        have HG := Lib.hid hgood
        clear hgood
        by_cases hlt : k < xs.length
        · obtain ⟨x, hxk⟩ : ∃ x, xs[k]? = some x := ⟨_, List.getElem?_eq_getElem hlt⟩
          obtain ⟨sv, c0, c1, c2, c3, hs, hg, hu, hv, hsl⟩ := (HX.out k x hxk).keep hb (w' := wr) fun j hj => hbl.block j (by omega)
          obtain ⟨q, cq, rfl⟩ := hs.slice
          have HXK := Lib.hid hxk
          clear hxk hu hv hs hg
          by_cases h1 : 2147483647 < x.s.length
          · have hfa : fitsPr xs = false := by
              have : xs.all (fun x => decide (x.s.length ≤ 2147483647)) = false := by rw [List.all_eq_false]; exact ⟨x, List.mem_of_getElem? HXK.out, by simp; omega⟩
              simp [fitsPr, this]
            have HFA := Lib.hid hfa
            clear hfa
            go_wp2_with fail
            refine (fits24 _ x q cq false (by simp; omega)).mono ?_
            rintro e w1 ⟨rfl, hb1⟩
            go_wp2_with fail
            go_ret
            exact ⟨by rw [HFA.out]; rfl, (hbl.alloc hbl.size _).trans (hb1.mono (by have := hbl.size; simp; omega))⟩
          · go_wp2_with fail
            refine (fits24 _ x q cq true (by simp; omega)).mono ?_
            rintro e w1 ⟨rfl, hb1⟩
            go_wp2_with fail
            go_roundw
            case rel =>
              refine ⟨k + 1, by omega, by go_num, fun j y hj hy => ?_, (hbl.alloc hbl.size _).trans (hb1.mono (by have := hbl.size; simp; omega))⟩
              by_cases e : j = k
              · subst e
                rw [HXK.out] at hy
                obtain rfl := Option.some.inj hy
                omega
              · exact HG.out j y (by omega) hy
            case measure => simp [intOf]; omega
        · go_wp2_with fail
          go_ret
          refine ⟨?_, hbl⟩
          have : xs.all (fun x => decide (x.s.length ≤ 2147483647)) = true := List.all_eq_true.2 fun y hy => by
            obtain ⟨j, hj⟩ := List.mem_iff_getElem?.1 hy
            simpa using HG.out j y (by have := (List.getElem?_eq_some_iff.1 hj).1; omega) hj
          have h2 : fitsPr xs = true := by simp [fitsPr, this]; omega
          rw [h2]
          rfl
/-- The bytes of values, one behind the other. -/
def prBytes (x : Pr) : List UInt8 := primBytes x.op.toNat x.u x.v x.s
def prsBytes (xs : List Pr) : List UInt8 := xs.flatMap prBytes

theorem prsBytes_le (xs : List Pr) (h : ∀ x ∈ xs, x.u < 18446744073709551616 ∧ okPr x = true) : (prsBytes xs).length ≤ 1010 * xs.length := by
  induction xs with
  | nil => simp [prsBytes]
  | cons x xs ih =>
    have h0 := h x (by simp)
    have h1 := primBytes_le x.op.toNat x.u x.v x.s h0.1 (by have := h0.2; simp [okPr] at this; omega)
    have h2 := ih fun y hy => h y (by simp [hy])
    simp [prsBytes, prBytes] at h2 ⊢
    omega

theorem prsBytes_take_succ {xs : List Pr} {k : Nat} {x : Pr} (h : xs[k]? = some x) : prsBytes (xs.take (k + 1)) = prsBytes (xs.take k) ++ prBytes x := by
  obtain ⟨hk, rfl⟩ := List.getElem?_eq_some_iff.1 h
  unfold prsBytes
  rw [List.take_succ_eq_append_getElem hk, List.flatMap_append]
  simp

set_option maxRecDepth 100000 in
theorem prPutLoop (w : World) (F : Nat → Prop) (p pl B : Nat) (lv : Value) (xs : List Pr) (T : TypeId) (hpl : w.heap[pl]? = some (.cells #[lv] T (0, 0))) (h : PrimsAt w B lv xs) (hB : B ≤ w.heap.size) (hplF : ¬ F pl) (hF : ∀ k, F k → B ≤ k) (hFi : In F w)
    (hb : BufAt w F 57 p []) (hfew : Few xs) :
    Calls Tryd.prog 24 #[.pointer (some ⟨p, 0, none⟩), .pointer (some ⟨pl, 0, none⟩)] w (Put w F 57 p (prsBytes xs)) := by
  have hc := cell_of_one hpl
  have hpll : pl < w.heap.size := (Array.getElem?_eq_some_iff.1 hpl).1
  have hall := hfew.1
  have hlen := hfew.2
  have HALL := Lib.hid hall
  have HF := Lib.hid hF
  clear hfew hall hF
  rcases id h with ⟨rfl, rfl⟩ | ⟨b, off, cap, rfl, hcap, hbb, hx⟩
  · go_enter Tryd.func24, Tryd.ntmps24
    go_wp2_with fail
    go_rounds 1
    all_goals
      go_wp2_with fail
      go_returns
      exact ⟨rfl, F, hb, Upd.refl _ _⟩
  · have HX := Lib.hid hx
    clear hx h hpl
    go_enter Tryd.func24, Tryd.ntmps24
    go_wp2_with fail
    go_loopw [7] (fun vi wr => ∃ k : Nat, k ≤ xs.length ∧ vi = .int .i64 k ∧ ∃ F', BufAt wr F' 57 p (prsBytes (xs.take k)) ∧ Upd w wr F F') (fun vi _ => xs.length - (intOf vi).toNat)
    case atStart => exact ⟨0, Nat.zero_le _, rfl, F, hb, Upd.refl _ _⟩
    case round =>
      obtain ⟨k, hk, rfl, F', hbk, hu⟩ := hrel
      have HBK := Lib.hid hbk
      have HU := Lib.hid hu
      clear hbk hu
      by_cases hlt : k < xs.length
      · obtain ⟨x, hxk⟩ : ∃ x, xs[k]? = some x := ⟨_, List.getElem?_eq_getElem hlt⟩
        obtain ⟨sv, c0, c1, c2, c3, hs, hg, hux, hvx, hsl⟩ := (HX.out k x hxk).keep hbb (w' := wr) fun j hj => HU.out.chg.block j (by omega) fun e => by have := HF.out j e; omega
        obtain ⟨q, cq, rfl⟩ := hs.slice
        have hgood := HALL.out x (List.mem_of_getElem? hxk)
        have hop : 1 ≤ x.op ∧ x.op ≤ 19 ∧ x.s.length ≤ 1000 := by simpa [okPr] using hgood
        obtain ⟨op, hop0⟩ := Int.eq_ofNat_of_zero_le (show 0 ≤ x.op by omega)
        have hpl2 : (prsBytes (xs.take k)).length ≤ 100000 := by
          have h1 := prsBytes_le (xs.take k) fun y hy => ⟨by
            obtain ⟨j, hj⟩ := List.mem_iff_getElem?.1 (List.mem_of_mem_take hy)
            obtain ⟨_, _, _, _, _, _, _, h6, _⟩ := HX.out j y hj
            exact h6, HALL.out y (List.mem_of_mem_take hy)⟩
          simp at h1; omega
        have hts : prsBytes (xs.take (k + 1)) = prsBytes (xs.take k) ++ primBytes op x.u x.v x.s := by
          rw [prsBytes_take_succ hxk]; unfold prBytes; rw [hop0]; rfl
        rw [hop0] at c0
        have HT := Lib.hid hts
        have HXU := Lib.hid (And.intro hux hvx)
        have HOP := Lib.hid (show 1 ≤ op ∧ op ≤ 19 ∧ x.s.length ≤ 1000 by omega)
        clear hts hop0 hop hgood hxk hux hvx hsl hg
        have hr := HU.out.chg.size
        go_wp2_with fail
        refine (primPut op HOP.out.1 HOP.out.2.1 _ F' p (prsBytes (xs.take k)) x.u x.v x.s _ HXU.out.1 HXU.out.2 (hs.alloc _) HOP.out.2.2 (HBK.out.alloc _) ((HU.out.inn hFi).mono (by simp)) hpl2).mono ?_
        rintro e w1 ⟨rfl, F1, h1, hu1⟩
        go_wp2_with fail
        go_roundw
        case rel => exact ⟨k + 1, by omega, by go_num, F1, by rw [HT.out]; exact h1, (HU.out.alloc _).trans hu1⟩
        case measure => simp [intOf]; omega
      · obtain rfl : k = xs.length := by omega
        go_wp2_with fail
        go_returns
        rw [List.take_length] at HBK
        exact ⟨rfl, F', HBK.out, HU.out⟩
theorem own_put : Own 24 := fun _ _ => by kernel_rfl

theorem encoded1 (w : World) (g : FuncId) (c1 : Value) (bs : List UInt8) (hg : Own g)
    (H : ∀ w1 F p, BufAt w1 F 57 p [] → In F w1 → (∀ k, F k → w.heap.size ≤ k) → Below w.heap.size w w1 → Calls Tryd.prog g #[.pointer (some ⟨p, 0, none⟩), c1] w1 (Put w1 F 57 p bs)) :
    Calls Tryd.prog 23 #[.func (.func g) #[] #[c1]] w (Made w bs) := by
  have HH := Lib.hid H
  clear H
  have h1 := hg #[Value.pointer (some { block := w.heap.size, off := 0 }), c1] (w.alloc (Obj.cells #[Value.slice none 0 0] 57))
  go_enter Tryd.func23, Tryd.ntmps23
  go_wp2_with fail
  refine (HH.out _ _ _ (bufAt_new _ _) (fun k hk => by simp [hk]) (fun k hk => by omega) ((Below.refl _ _).alloc (Nat.le_refl _) _)).mono ?_
  rintro e w1 ⟨rfl, F', hb, hu⟩
  obtain ⟨v, hc, hbv, hown⟩ := hb.bytes
  have HO := Lib.hid hown
  have hbl := hu.chg
  clear hown
  go_wp2
  go_ret
  refine ⟨?_, v, rfl, hbv, fun k hk => ⟨?_, (HO.out k hk).2⟩⟩
  · exact (((Chg.refl (· = w.heap.size) w).alloc _).trans hbl (fun _ _ h => h)).below (Nat.le_refl _) (fun k hk => by omega)
  · rcases hu.new k (HO.out k hk).1 with h | h
    · omega
    · simp at h; omega

theorem prPut (w : World) (B : Nat) (lv : Value) (xs : List Pr) (h : PrimsAt w B lv xs) (hB : B ≤ w.heap.size) (hfew : Few xs) :
    Calls Tryd.prog 10 #[lv] w (Made w (prsBytes xs)) := by
  obtain ⟨p0, c0, rfl⟩ := id h.slice
  have HL := Lib.hid (h.below hB ((Below.refl _ w).alloc (Nat.le_refl _) (.cells #[.slice p0 xs.length c0] 22)))
  have HH : Hid (∀ w1 F p, BufAt w1 F 57 p [] → In F w1 → (∀ k, F k → w.heap.size + 1 ≤ k) → Below (w.heap.size + 1) (w.alloc (.cells #[.slice p0 xs.length c0] 22)) w1 → Calls Tryd.prog 24 #[.pointer (some ⟨p, 0, none⟩), .pointer (some ⟨w.heap.size, 0, none⟩)] w1 (Put w1 F 57 p (prsBytes xs))) := by
    intro w1 F p hb hF hk hbl
    refine prPutLoop w1 F p w.heap.size B _ xs 22 ?_ (HL.out.below (by simp; omega) (by simpa using hbl)) (by have := hbl.size; simp at this; omega) (fun e => by have := hk _ e; omega) (fun k e => by have := hk k e; omega) hF hb hfew
    rw [hbl.block _ (by omega)]
    exact heap_alloc_new _ _
  have hcf := fun W a b => own_put #[a, b] W
  go_enter Tryd.func10, Tryd.ntmps10
  go_wp2_with fail
  refine (encoded1 _ _ _ (prsBytes xs) own_put (by simpa using HH.out)).mono ?_
  intro e w1 hm
  obtain ⟨hb1, v1, rfl, hv1, ho1⟩ := hm
  have HO := Lib.hid ho1
  clear ho1
  go_wp2_with fail
  go_ret
  exact Made.of_below ((Below.refl _ w).alloc (Nat.le_refl _) _) ⟨hb1, v1, rfl, hv1, HO.out⟩
end Go.Proofs.YtlohpmncagfecaaDoor
