/- proto.Input.Columns. -/
import Derived.Test.YtgnkinhjfcbdbaaDoorInD
namespace Go.Proofs.YtgnkinhjfcbdbaaDoor
open Go.RowKit
set_option linter.unusedVariables false
set_option linter.unusedSimpArgs false

def quo (l : List UInt8) : List UInt8 := [34] ++ l ++ [34]
/-- Names in quotation marks, with commas, behind an opening parenthesis. -/
def cols (ls : List (List UInt8)) : List UInt8 := [40] ++ Lib.join (ls.map quo) [44]
theorem cols_nil : cols [] = [40] := rfl
theorem cols_snoc (ls : List (List UInt8)) (l : List UInt8) : cols (ls ++ [l]) = (if ls = [] then cols ls else cols ls ++ [44]) ++ quo l := by
  cases ls with
  | nil => simp [cols, Lib.join_nil, Lib.join_one]
  | cons a r =>
    rw [if_neg (by simp)]
    have e : ((a :: r) ++ [l]).map quo = quo a :: (r.map quo ++ [quo l]) := by simp
    unfold cols
    rw [e, Lib.join_cons, joinTail_snoc, List.map_cons, Lib.join_cons]
    simp
theorem cols_len : ∀ (ls : List (List UInt8)), (∀ l ∈ ls, l.length ≤ 20) → (cols ls).length ≤ 1 + 23 * ls.length := by
  intro ls h
  have key : ∀ ps : List (List UInt8), (∀ p ∈ ps, p.length ≤ 22) → (Lib.join ps [44]).length ≤ 23 * ps.length := by
    intro ps hp
    cases ps with
    | nil => exact Nat.le_refl _
    | cons p r =>
      have ht : ∀ r : List (List UInt8), (∀ p ∈ r, p.length ≤ 22) → (Lib.joinTail [44] r).length ≤ 23 * r.length := by
        intro r
        induction r with
        | nil => intro _; exact Nat.le_refl _
        | cons q r ih =>
          intro hr
          have h1 := hr q (by simp)
          have h2 := ih fun p hp => hr p (by simp [hp])
          simp only [Lib.joinTail, List.map_cons, List.flatten_cons, List.length_append, List.length_cons, List.length_nil] at h2 ⊢
          omega
      have h1 := hp p (by simp)
      have h2 := ht r fun q hq => hp q (by simp [hq])
      rw [Lib.join_cons, List.length_append, List.length_cons]
      omega
  have := key (ls.map quo) (by
    intro p hp
    obtain ⟨l, hl, rfl⟩ := List.mem_map.1 hp
    have := h l hl
    simp [quo]
    omega)
  rw [List.length_map] at this
  unfold cols
  rw [List.length_append]
  simp only [List.length_cons, List.length_nil]
  omega
/-- What the builder holds ahead of the name i. -/
def pre (ls : List (List UInt8)) (i : Nat) : List UInt8 := if 0 < i ∧ i < ls.length then cols (ls.take i) ++ [44] else cols (ls.take i)
theorem pre_quo (ls : List (List UInt8)) (i : Nat) (l : List UInt8) (h : ls[i]? = some l) : pre ls i ++ quo l = cols (ls.take (i + 1)) := by
  have hi := (List.getElem?_eq_some_iff.1 h).1
  rw [takeSnoc h, cols_snoc]
  unfold pre
  by_cases h0 : i = 0
  · subst h0
    simp
  · rw [if_pos ⟨by omega, hi⟩, if_neg (by
      intro e
      have := congrArg List.length e
      simp only [List.length_take, List.length_nil] at this
      omega)]
theorem pre_len (ls : List (List UInt8)) (i : Nat) (hn : ls.length ≤ 8) (h : ∀ l ∈ ls, l.length ≤ 20) : (pre ls i).length ≤ 200 := by
  have h1 := cols_len (ls.take i) fun l hl => h l (List.mem_of_mem_take hl)
  have h2 : (ls.take i).length ≤ 8 := by simp; omega
  unfold pre
  split
  · simp; omega
  · omega

theorem Bld.upd {w w' : World} {F G : Nat → Prop} {b : Nat} {bs : List UInt8} (h : BldA w F b bs) (hc : Chg G w w') (hd : Disj F G) : BldA w' F b bs := by
  obtain ⟨p, hp, hF, v, F5, hb, hown, hF5⟩ := h
  exact ⟨p, hp, hF, v, F5, by rw [hc.block b (Array.getElem?_eq_some_iff.1 hb).1 (hd b hF)]; exact hb, hown.upd hc fun k h1 h2 => hd k (hF5 k h1).1 h2, hF5⟩
theorem arr_bytes {w0 w : World} {q : Nat} {v : Value} {bs : List UInt8} (h : KArr w0 q w v bs) : BytesAt w v bs ∧ (∀ g, v.ownBlock = some g → g = q) := by
  obtain ⟨cur, rfl, hg, hs, ht, -⟩ := h
  have hl : bs.length ≤ 64 := by
    have := congrArg List.length ht
    simp at this
    omega
  refine ⟨.inr ⟨q, 0, 64, rfl, hl, fun j hj => ?_⟩, fun g hg => by simpa [Value.ownBlock] using hg.symm⟩
  have h1 : (u8s bs)[j]? = some (.int .u8 (bs[j].toNat)) := by simp [u8s, List.getElem?_eq_getElem hj]
  rw [← ht, List.getElem?_take, if_pos hj] at h1
  rw [Nat.zero_add]
  unfold World.cell?
  rw [hg]
  simpa using h1

/-- Ahead of the name i: the builder, the array, and nothing else that was there has changed. -/
def ColInv (w : World) (b q : Nat) (bs : List UInt8) (wr : World) : Prop :=
  ∃ F : Nat → Prop, BldA wr F b bs ∧ (∀ k, F k → w.heap.size ≤ k ∧ k ≠ q ∧ k < wr.heap.size) ∧ (∃ cur : Array Value, wr.heap[q]? = some (.cells cur 48 (0, 0)) ∧ cur.size = 64) ∧ w.heap.size ≤ q ∧ Below w.heap.size w wr
theorem ColInv.rune {w wr w2 : World} {b q : Nat} {bs2 : List UInt8} {F F2 : Nat → Prop} (hF : ∀ k, F k → w.heap.size ≤ k ∧ k ≠ q ∧ k < wr.heap.size) (hq : ∃ cur : Array Value, wr.heap[q]? = some (.cells cur 48 (0, 0)) ∧ cur.size = 64) (hwq : w.heap.size ≤ q) (hb : Below w.heap.size w wr) (hB : BldA w2 F2 b bs2) (hu : Upd wr w2 F F2) : ColInv w b q bs2 w2 := by
  obtain ⟨cur, hg, hs⟩ := hq
  have hqlt : q < wr.heap.size := (Array.getElem?_eq_some_iff.1 hg).1
  refine ⟨F2, hB, fun k hk => ?_, ⟨cur, by rw [hu.chg.block q hqlt fun h => (hF q h).2.1 rfl]; exact hg, hs⟩, hwq, hb.trans (hu.chg.below hb.size fun k hk => (hF k hk).1)⟩
  have := hb.size
  have := hu.chg.size
  rcases hu.new k hk with h | h
  · have := (hF k h).2.2
    exact ⟨(hF k h).1, (hF k h).2.1, by omega⟩
  · exact ⟨by omega, by omega, by omega⟩

theorem bld_start (w : World) (o : Obj) : BldA ((w.alloc (.cells #[.pointer none, .slice none 0 0] 47)).alloc o) (· = w.heap.size) w.heap.size [] := by
  refine ⟨.pointer none, .inl rfl, rfl, .slice none 0 0, fun _ => False, ?_, OwnB.nil _ _, fun _ h => h.elim⟩
  rw [Below.heap_alloc _ _ _ (by simp)]
  exact heap_alloc_new w _
theorem rune40 (w : World) (F : Nat → Prop) (b : Nat) (bs : List UInt8) (h : BldA w F b bs) (hl : bs.length ≤ 1000) : Calls Tryd.prog 18 #[.pointer (some ⟨b, 0, none⟩), .int .i32 40] w fun e w' => (∃ n : Int, e = .returned (.tuple #[.int .i64 n, .nilIface])) ∧ ∃ F', BldA w' F' b (bs ++ [40]) ∧ Upd w w' F F' := writeRune w F b bs h 40 (by decide) hl
theorem rune44 (w : World) (F : Nat → Prop) (b : Nat) (bs : List UInt8) (h : BldA w F b bs) (hl : bs.length ≤ 1000) : Calls Tryd.prog 18 #[.pointer (some ⟨b, 0, none⟩), .int .i32 44] w fun e w' => (∃ n : Int, e = .returned (.tuple #[.int .i64 n, .nilIface])) ∧ ∃ F', BldA w' F' b (bs ++ [44]) ∧ Upd w w' F F' := writeRune w F b bs h 44 (by decide) hl
theorem rune41 (w : World) (F : Nat → Prop) (b : Nat) (bs : List UInt8) (h : BldA w F b bs) (hl : bs.length ≤ 1000) : Calls Tryd.prog 18 #[.pointer (some ⟨b, 0, none⟩), .int .i32 41] w fun e w' => (∃ n : Int, e = .returned (.tuple #[.int .i64 n, .nilIface])) ∧ ∃ F', BldA w' F' b (bs ++ [41]) ∧ Upd w w' F F' := writeRune w F b bs h 41 (by decide) hl

theorem icells_at {w : World} {g o n c : Nat} {ss : List ByteArray} (h : FlatAt w (.slice (some ⟨g, o, none⟩) n c) n (icells ss)) {i : Nat} {s : ByteArray} (hs : ss[i]? = some s) : w.cell? ⟨g, o + i * 2, none⟩ = some (.string s) ∧ w.cell? ⟨g, o + i * 2 + 1, none⟩ = some .nilIface := by
  obtain ⟨h1, h2⟩ := icells_get ss i s hs
  obtain ⟨g1, o1, e1, -, c1⟩ := FlatAt.get h h1
  obtain ⟨g2, o2, e2, -, c2⟩ := FlatAt.get h h2
  obtain ⟨rfl, rfl⟩ : g = g1 ∧ o = o1 := by simpa using e1
  obtain ⟨rfl, rfl⟩ : g = g2 ∧ o = o2 := by simpa using e2
  exact ⟨c1, by rw [Nat.add_assoc]; exact c2⟩

set_option maxHeartbeats 1000000 in
set_option maxRecDepth 100000 in
theorem columns (w : World) (v : Value) (ls : List (List UInt8)) (h : FlatAt w v ls.length (icells (ls.map ba))) (h1 : 1 ≤ ls.length) (h8 : ls.length ≤ 8) (hx : ∀ l ∈ ls, l.length ≤ 20 ∧ ∀ x ∈ l, Small x) :
    Calls Tryd.prog 13 #[v] w fun e w' => e = .returned (.string (ba (cols ls ++ [41]))) ∧ Below w.heap.size w w' := by
  obtain ⟨p, c, rfl, hc⟩ := h.slice
  obtain ⟨g, o, rfl⟩ : ∃ g o, p = some ⟨g, o, none⟩ := by
    obtain ⟨a, ha⟩ : ∃ a, (ls.map ba)[0]? = some a := ⟨_, List.getElem?_eq_getElem (by simp; omega)⟩
    obtain ⟨g, o, e, -⟩ := FlatAt.get h (icells_get _ 0 a ha).1
    exact ⟨g, o, e⟩
  have HL := Lib.hid h
  have HX := Lib.hid hx
  clear h hx
  go_enter Tryd.func13, Tryd.ntmps13
  go_wp2_with fail
  refine (rune40 _ (· = w.heap.size) w.heap.size [] (bld_start w _) (by simp)).mono ?_
  rintro e w1 ⟨⟨n1, rfl⟩, F1, hB1, hu1⟩
  have HI : Hid (ColInv w w.heap.size (w.heap.size + 1) (pre ls 0) w1) := Lib.hid (ColInv.rune (F := (· = w.heap.size)) (fun k hk => by subst hk; exact ⟨Nat.le_refl _, by omega, by simp; omega⟩) ⟨_, (by have := heap_alloc_new (w.alloc (.cells #[.pointer none, .slice none 0 0] 47)); simp only [World.size_alloc] at this; exact this _), rfl⟩ (by omega) (((Below.refl _ w).alloc (Nat.le_refl _) _).alloc (by simp) _) (by
    rw [show pre ls 0 = [] ++ [40] by simp [pre, cols_nil]]
    exact hB1) hu1)
  clear hB1 hu1
  generalize w.heap.size + 1 = q at *
  go_wp2_with fail
  go_loopw [11] (fun vi wr => ∃ i : Nat, i ≤ ls.length ∧ vi = .int .i64 i ∧ Hid (ColInv w w.heap.size q (pre ls i) wr)) (fun vi _ => ls.length - (intOf vi).toNat)
  case atStart => exact ⟨0, Nat.zero_le _, rfl, HI⟩
  case round =>
    obtain ⟨i, hi, rfl, hI⟩ := hrel
    obtain ⟨F, hB, hF, ⟨cur, hg, hs⟩, hq, hb⟩ := hI.out
    by_cases hlt : i < ls.length
    · have hltI : (i : Int) < (ls.length : Int) := by omega
      obtain ⟨l, hl⟩ : ∃ l, ls[i]? = some l := ⟨_, List.getElem?_eq_getElem hlt⟩
      obtain ⟨hxl, hxs⟩ := HX.out l (List.mem_of_getElem? hl)
      obtain ⟨c0, c1⟩ := icells_at (HL.out.below hb) (i := i) (s := ba l) (by rw [List.getElem?_map, hl]; rfl)
      have hqlt : q < wr.heap.size := (Array.getElem?_eq_some_iff.1 hg).1
      have hgW : (wr.alloc (.cells #[.string (ba l), .nilIface] 44)).heap[q]? = some (.cells cur 48 (0, 0)) := by rw [Below.heap_alloc _ _ _ hqlt]; exact hg
      have HQ := Lib.hid (fun m => appendQuoteASCII (apd_arr ((wr.alloc (.cells #[.string (ba l), .nilIface] 44)).drewN m) q) ((wr.alloc (.cells #[.string (ba l), .nilIface] 44)).drewN m) (some ⟨q, 0, none⟩) 64 ⟨cur, rfl, hgW, hs, rfl, Chg.refl _ _⟩ l hxl (by omega) (by omega) hxs)
      have cW : (wr.alloc (.cells #[.string (ba l), .nilIface] 44)).cell? ⟨wr.heap.size, 0, none⟩ = some (.string (ba l)) := by
        unfold World.cell?
        simp only [heap_alloc_new]
        rfl
      have HB := Lib.hid hB
      have HF := Lib.hid hF
      have HG := Lib.hid (And.intro hgW (And.intro hs (And.intro hq hb)))
      clear hB hF hg hs hq hb hI
      go_wp2_with fail
      go_region_with (first | (go_at_call 19; refine (HQ.out _).mono ?_; rintro e w6 ⟨v6, rfl, hk6⟩) | fail)
      obtain ⟨hb6, ho6⟩ := arr_bytes hk6
      obtain ⟨cur6, -, hg6, hs6, -, hc6⟩ := hk6
      have hch : Chg (· = q) wr w6 := (((Chg.refl (· = q) wr).alloc _).drewN _).trans hc6 fun _ _ h => h
      have hFb : F w.heap.size := by obtain ⟨p, -, hF, -⟩ := HB.out; exact hF
      have hnb := (HF.out _ hFb).2.1
      have hplen := pre_len ls i h8 fun l hl => (HX.out l hl).1
      have hqlen : (quo l).length ≤ 22 := by simp [quo]; omega
      have HWB := Lib.hid (writeB w6 F w.heap.size (pre ls i) (quo l) (Bld.upd HB.out hch fun k k1 k2 => (HF.out k k1).2.1 k2) v6 hb6 (fun g hg e => hnb (by rw [← e, ho6 g hg])) (by omega) (by simp [quo]))
      have HI7 := Lib.hid (fun (w7 : World) (F7 : Nat → Prop) (hB7 : BldA w7 F7 w.heap.size (pre ls i ++ quo l)) (hu7 : Upd w6 w7 F F7) => ColInv.rune (w := w) (q := q) (fun k hk => by
        have := HF.out k hk
        have := hch.size
        exact ⟨by omega, by omega, by omega⟩) ⟨cur6, hg6, hs6⟩ HG.out.2.2.1 (HG.out.2.2.2.trans (hch.below HG.out.2.2.2.size fun k hk => by subst hk; exact HG.out.2.2.1)) hB7 hu7)
      rw [pre_quo ls i l hl] at HI7 HWB
      obtain ⟨p6, c6, rfl⟩ := hb6.slice
      rw [show ([34] ++ l ++ [34] : List UInt8).length = l.length + 1 + 1 by simp] at HWB
      clear hb6 ho6 hg6 hs6 hc6 hch c0 c1 cW hxs hl
      go_wp2_with fail
      with_reducible refine HWB.out.mono ?_
      rintro e w7 ⟨⟨n7, rfl⟩, F7, hB7, hu7⟩
      have HC7 := Lib.hid (HI7.out w7 F7 hB7 hu7)
      clear hB7 hu7
      by_cases hlast : i + 1 < ls.length
      · have hne : ((i : Int) == (ls.length : Int) - 1) = false := by simp; omega
        obtain ⟨F8, hB8, hF8, hq8, hwq8, hb8⟩ := HC7.out
        have hcl := cols_len (ls.take (i + 1)) fun l hl => (HX.out l (List.mem_of_mem_take hl)).1
        have htl : (ls.take (i + 1)).length ≤ 8 := by simp; omega
        have HR := Lib.hid (rune44 w7 F8 w.heap.size _ hB8 (by omega))
        have HI9 := Lib.hid (fun (w9 : World) (F9 : Nat → Prop) (hB9 : BldA w9 F9 w.heap.size (cols (ls.take (i + 1)) ++ [44])) (hu9 : Upd w7 w9 F8 F9) => ColInv.rune (w := w) (q := q) hF8 hq8 hwq8 hb8 hB9 hu9)
        clear hB8 hF8 hq8 hwq8 hb8
        go_wp2_with fail
        refine HR.out.mono ?_
        rintro e w9 ⟨⟨n9, rfl⟩, F9, hB9, hu9⟩
        have HC9 := Lib.hid (HI9.out w9 F9 hB9 hu9)
        clear hB9 hu9
        have HP : Hid (pre ls (i + 1) = cols (ls.take (i + 1)) ++ [44]) := Lib.hid (if_pos ⟨by omega, hlast⟩)
        go_wp2_with fail
        go_roundw
        case rel => exact ⟨i + 1, by omega, by go_num, Lib.hid (by rw [HP.out]; exact HC9.out)⟩
        case measure => simp [intOf]; omega
      · have hne : ((i : Int) == (ls.length : Int) - 1) = true := by simp; omega
        have HP : Hid (pre ls (i + 1) = cols (ls.take (i + 1))) := Lib.hid (if_neg fun h => hlast h.2)
        go_wp2_with fail
        go_roundw
        case rel => exact ⟨i + 1, by omega, by go_num, Lib.hid (by rw [HP.out]; exact HC7.out)⟩
        case measure => simp [intOf]; omega
    · obtain rfl : i = ls.length := by omega
      have hltI : ¬ (ls.length : Int) < (ls.length : Int) := by omega
      have hpre : pre ls ls.length = cols ls := by unfold pre; rw [if_neg (by omega), List.take_length]
      rw [hpre] at hB
      have hcl := cols_len ls fun l hl => (HX.out l hl).1
      have HR := Lib.hid (rune41 wr F w.heap.size _ hB (by omega))
      have HF := Lib.hid (And.intro hF hb)
      clear hB hF hg hs hq hb hI
      go_wp2_with fail
      refine HR.out.mono ?_
      rintro e w2 ⟨⟨n2, rfl⟩, F2, hB2, hu2⟩
      have hb2 := HF.out.2.trans (hu2.chg.below HF.out.2.size fun k hk => (HF.out.1 k hk).1)
      have HS := Lib.hid (bldString w2 F2 w.heap.size w.heap.size _ hB2 (by simp) fun k hk => by
        have := HF.out.2.size
        rcases hu2.new k hk with h | h
        · exact (HF.out.1 k h).1
        · omega)
      have HB2 := Lib.hid hb2
      clear hB2 hu2 hb2
      go_wp2_with (go_at_call 21; refine HS.out.mono ?_; rintro e w3 ⟨rfl, hb3⟩)
      go_ret
      exact ⟨rfl, HB2.out.trans hb3⟩
end Go.Proofs.YtgnkinhjfcbdbaaDoor
