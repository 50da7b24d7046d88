/- laws.zzFits5, laws.arMaybes, spec.ARNulls; laws.FnARReadNull. -/
import Derived.Test.YtemmhlibbihjmaaGreatNulT
import Derived.Test.YtemmhlibbihjmaaGreatArS
namespace Go.Proofs.YtemmhlibbihjmaaGreat
open Go.RowKit
set_option linter.unusedVariables false
set_option linter.unusedSimpArgs false

set_option maxRecDepth 100000 in
theorem fits6V (w : World) (b : Bool) (s : ByteArray) (hs : s.size ≤ 9223372036854775807) : Calls Tryz.prog 19 #[.agg #[.bool b, .string s]] w fun e w' => Below w.heap.size w w' ∧ e = .returned (.bool (decide (s.size ≤ 2147483647))) := by
  by_cases h : 2147483647 < s.size
  · have hI : (2147483647 : Int) < (s.size : Int) := by omega
    rw [decide_eq_false (by omega)]
    go_enter Tryz.func19, Tryz.ntmps19
    go_wp2_with fail
    go_ret
    exact ⟨(Below.refl _ w).alloc (Nat.le_refl _) _, rfl⟩
  · have hI : ¬ (2147483647 : Int) < (s.size : Int) := by omega
    rw [decide_eq_true (by omega)]
    go_enter Tryz.func19, Tryz.ntmps19
    go_wp2_with fail
    go_ret
    exact ⟨(Below.refl _ w).alloc (Nat.le_refl _) _, rfl⟩

def FitM (ms : List May) : Prop := ms.length ≤ 2147483647 ∧ ∀ m ∈ ms, m.2.size ≤ 2147483647
set_option maxRecDepth 100000 in
theorem fits5V (w : World) (v : Value) (ms : List May) (h : MayL w v ms) (hl : ms.length ≤ 9223372036854775807) (hb : ∀ m ∈ ms, m.2.size ≤ 9223372036854775807) :
    Calls Tryz.prog 5 #[v] w fun e w' => Below w.heap.size w w' ∧ ∃ b, e = .returned (.bool b) ∧ (b = true → FitM ms) := by
  obtain ⟨p, c, rfl, hc⟩ := h.slice
  by_cases h0 : 2147483647 < ms.length
  · have h0I : (2147483647 : Int) < (ms.length : Int) := by omega
    go_enter Tryz.func5, Tryz.ntmps5
    go_wp2_with fail
    go_ret
    exact ⟨Below.refl _ _, _, rfl, fun h => by simp at h⟩
  · have h0I : ¬ (2147483647 : Int) < (ms.length : Int) := by omega
    have HL := Lib.hid h
    have HB := Lib.hid hb
    clear h hb
    go_enter Tryz.func5, Tryz.ntmps5
    go_wp2_with fail
    go_loopw [10] (fun vi wr => ∃ i : Nat, i ≤ ms.length ∧ vi = .int .i64 i ∧ Below w.heap.size w wr ∧ ∀ m ∈ ms.take i, m.2.size ≤ 2147483647) (fun vi _ => ms.length - (intOf vi).toNat)
    case atStart => exact ⟨0, Nat.zero_le _, rfl, Below.refl _ _, by simp⟩
    case round =>
      obtain ⟨i, hi, rfl, hbr, hall⟩ := hrel
      by_cases hlt : i < ms.length
      · obtain ⟨m, hsi⟩ : ∃ m, ms[i]? = some m := ⟨_, List.getElem?_eq_getElem hlt⟩
        obtain ⟨g, o, rfl, -, -, -, hcx, hcy⟩ := (HL.out.below hbr).row hsi
        have HALL := Lib.hid (And.intro hall (And.intro hsi hbr))
        have HSZ := Lib.hid (HB.out m (List.mem_of_getElem? hsi))
        obtain ⟨bm, sm⟩ := m
        simp only at hcx hcy
        clear hsi hall hbr
        by_cases hbig : sm.size ≤ 2147483647
        · have HF := Lib.hid (fun W => fits6V W bm sm HSZ.out)
          rw [decide_eq_true hbig] at HF
          have HBIG := Lib.hid hbig
          clear hbig
          go_wp2_with (go_at_call 19; refine (HF.out _).mono ?_; rintro e w2 ⟨hb2, rfl⟩)
          have hbr2 : Below wr.heap.size wr w2 := Below.trans ((Below.refl _ wr).alloc (Nat.le_refl _) _) (hb2.mono (by simp))
          have HB2 := Lib.hid (HALL.out.2.2.trans (hbr2.mono HALL.out.2.2.size))
          clear hb2 hbr2
          go_roundw
          case rel =>
            refine ⟨i + 1, hlt, by go_num, HB2.out, fun t ht => ?_⟩
            rw [takeSnoc HALL.out.2.1] at ht
            rcases List.mem_append.1 ht with ht | ht
            · exact HALL.out.1 t ht
            · rw [List.mem_singleton.1 ht]; exact HBIG.out
          case measure => simp [intOf]; omega
        · have HF := Lib.hid (fun W => fits6V W bm sm HSZ.out)
          rw [decide_eq_false hbig] at HF
          clear hbig
          go_wp2_with (go_at_call 19; refine (HF.out _).mono ?_; rintro e w2 ⟨hb2, rfl⟩)
          have hbr2 : Below wr.heap.size wr w2 := Below.trans ((Below.refl _ wr).alloc (Nat.le_refl _) _) (hb2.mono (by simp))
          have HB2 := Lib.hid (HALL.out.2.2.trans (hbr2.mono HALL.out.2.2.size))
          clear hb2 hbr2
          go_ret
          exact ⟨HB2.out, _, rfl, fun h => by simp at h⟩
      · obtain rfl : i = ms.length := by omega
        rw [List.take_length] at hall
        have HALL := Lib.hid (And.intro hall hbr)
        clear hall hbr
        go_wp2_with fail
        go_ret
        exact ⟨HALL.out.2, _, rfl, fun _ => ⟨by omega, HALL.out.1⟩⟩

def mayCut (m : May) : May := (m.1, if m.1 then cut60 m.2 else ⟨#[]⟩)
def sSet : ByteArray := ⟨#[115, 101, 116]⟩
def maybesOf (ms : List May) : List May := (ms.take 40).map mayCut ++ [(true, sSet), (false, ⟨#[]⟩)]

theorem strL_one (w : World) (s : ByteArray) : StrL (w.alloc (.cells #[.string s] 9)) (.slice (some ⟨w.heap.size, 0, none⟩) 1 1) [s] :=
  ⟨_, _, rfl, Nat.le_refl _, fun _ => ⟨_, 0, rfl, fun j x hj => by
    have h := heap_alloc_new w (.cells #[.string s] 9)
    rw [Nat.zero_add]
    simp only [World.cell?, h]
    match j, hj with
    | 0, hj => simpa using hj⟩⟩
theorem fourNew (w : World) : ∀ j u, (mcells [(true, sSet), (false, ⟨#[]⟩)])[j]? = some u → (w.alloc (.cells #[.bool true, .string ⟨#[115, 101, 116]⟩, .bool false, .string ⟨#[]⟩] 52)).cell? ((⟨w.heap.size, 0, none⟩ : Addr).add j) = some u := fun j u hj => by
  have h := heap_alloc_new w (.cells #[.bool true, .string ⟨#[115, 101, 116]⟩, .bool false, .string ⟨#[]⟩] 52)
  have e : mcells [(true, sSet), (false, ⟨#[]⟩)] = [.bool true, .string ⟨#[115, 101, 116]⟩, .bool false, .string ⟨#[]⟩] := rfl
  rw [e] at hj
  rw [← addrMid, Nat.zero_add]
  simp only [World.cell?, h]
  simpa using hj
theorem src_four (w : World) : Src Tryz.prog 2 23 (.slice (some ⟨w.heap.size, 0, none⟩) 2 2) 2 (mcells [(true, sSet), (false, ⟨#[]⟩)]) (w.alloc (.cells #[.bool true, .string ⟨#[115, 101, 116]⟩, .bool false, .string ⟨#[]⟩] 52)) :=
  Src.ofSlice _ elemMay.under ⟨w.heap.size, 0, none⟩ 2 2 _ rfl (fourNew w) (by simp [mcells, mayC, Value.oneCell'])

set_option maxRecDepth 100000 in
set_option maxHeartbeats 1000000 in
theorem arMaybesV (w : World) (v : Value) (ms : List May) (h : MayL w v ms) (hl : FitM ms) :
    Calls Tryz.prog 7 #[v] w fun e w' => ∃ x, e = .returned x ∧ MayL w' x (maybesOf ms) ∧ Below w.heap.size w w' := by
  obtain ⟨p, c, rfl, hc⟩ := h.slice
  have HL := Lib.hid h
  have HFIT := Lib.hid hl
  have hll := hl.1
  clear h hl
  go_enter Tryz.func7, Tryz.ntmps7
  go_wp2_with fail
  go_loopw [3, 4] (fun vo vi wr => ∃ (i : Nat) (F : Nat → Prop), i ≤ ms.length ∧ i ≤ 40 ∧ vi = .int .i64 i ∧ Acc w F 52 2 vo i (mcells ((ms.take i).map mayCut)) wr) (fun _ vi _ => 40 - (intOf vi).toNat)
  case atStart => exact ⟨0, _, Nat.zero_le _, Nat.zero_le _, rfl, Acc.start _ _ _⟩
  case round =>
    obtain ⟨i, F, hi, him, rfl, hA⟩ := hrel
    obtain ⟨po, co, rfl⟩ := hA.slice
    have HA := Lib.hid hA
    by_cases hgo : i < ms.length ∧ i < 40
    · obtain ⟨hlt, hlt2⟩ := hgo
      have hltI : (i : Int) < (ms.length : Int) := by omega
      have hlt2I : (i : Int) < 40 := by omega
      obtain ⟨m, hsi⟩ : ∃ m, ms[i]? = some m := ⟨_, List.getElem?_eq_getElem hlt⟩
      obtain ⟨g, o, rfl, -, -, -, hcx, hcy⟩ := (HL.out.below hA.below).row hsi
      have hgl : g < wr.heap.size := World.block_lt_of_cell? _ _ hcx
      have HS : Hid (mcells ((ms.take (i + 1)).map mayCut) = mcells ((ms.take i).map mayCut) ++ mayC (mayCut m)) := Lib.hid (by rw [takeSnoc hsi, List.map_append, ← mcells_snoc]; rfl)
      have HSZ := Lib.hid (HFIT.out.2 m (List.mem_of_getElem? hsi))
      obtain ⟨bm, sm⟩ := m
      simp only at hcx hcy
      have HOWN : Hid (∀ (W2 : World) (z : ByteArray), Below wr.heap.size wr W2 → OwnR (W2.alloc (.cells #[.bool bm, .string z] 52)) F 52 2 (.slice po i co) i (mcells ((ms.take i).map mayCut))) := Lib.hid fun W2 z hb => (HA.out.own.keep hb).keep ((Below.refl _ _).alloc (Nat.le_refl _) _)
      have HSR : Hid (∀ (W2 : World) (z : ByteArray), Src Tryz.prog 2 23 (.slice (some ⟨W2.heap.size, 0, none⟩) 1 1) 1 [.bool bm, .string z] (W2.alloc (.cells #[.bool bm, .string z] 52))) := Lib.hid fun W2 z => src_new elemMay W2.heap.size [.bool bm, .string z] _ (heap_alloc_new W2 _) rfl (by simp [Value.oneCell']) 1
      clear hA hsi
      cases bm
      · have HE : Hid (mayC (mayCut (false, sm)) = [.bool false, .string ⟨#[]⟩]) := Lib.hid rfl
        have HSR1 := Lib.hid (HSR.out (wr.alloc (.cells #[.bool false, .string ⟨#[]⟩] 52)) ⟨#[]⟩)
        rw [World.size_alloc] at HSR1
        go_wp2_with (at_builtin; refine append_rows elemMay _ F i 1 _ _ rfl _ _ _ rfl _ rfl (HOWN.out _ _ ((Below.refl _ wr).alloc (Nat.le_refl _) _)) _ rfl HSR1.out (by omega) (by omega) ?_; intro p5 c5 w5 F5 hown5 hu5)
        go_roundw
        case rel => exact ⟨i + 1, F5, hlt, hlt2, by go_num, by rw [HS.out, HE.out]; exact (HA.out.keep (below_alloc ((Below.refl _ wr).alloc (Nat.le_refl _) _) (Nat.le_refl _) _)).next hown5 hu5⟩
        case measure => simp [intOf]; omega
      · have HE : Hid (mayC (mayCut (true, sm)) = [.bool true, .string (cut60 sm)]) := Lib.hid rfl
        obtain ⟨WX, hWX⟩ : ∃ WX, WX = wr.alloc (.cells #[.bool true, .string ⟨#[]⟩] 52) := ⟨_, rfl⟩
        have hsX : WX.heap.size = wr.heap.size + 1 := by rw [hWX]; simp
        have hbX : Below wr.heap.size wr WX := by rw [hWX]; exact (Below.refl _ wr).alloc (Nat.le_refl _) _
        have hq0 : WX.cell? ⟨wr.heap.size, 0, none⟩ = some (.bool true) := by rw [hWX]; go_simp
        have hq1 : WX.cell? ⟨wr.heap.size, 1, none⟩ = some (.string ⟨#[]⟩) := by rw [hWX]; go_simp
        have hq2 : WX.frozen? ⟨wr.heap.size, 1, none⟩ = false := by rw [hWX]; go_simp
        have hW1 := arWordsV _ _ [sm] (strL_one WX sm) 1 (by omega) (by simp) (fun s hs => by rw [List.mem_singleton.1 hs]; have := HSZ.out; simp at this; omega)
        rw [hsX, show wordsOf [sm] 1 = [cut60 sm] from rfl] at hW1
        have hbXa : Below WX.heap.size WX (WX.alloc (.cells #[.string sm] 9)) := (Below.refl _ WX).alloc (Nat.le_refl _) _
        have HW1 := Lib.hid hW1
        have HWX := Lib.hid (And.intro hbX (And.intro hbXa (And.intro hq0 (And.intro hq1 (And.intro hq2 hsX)))))
        have HWE := Lib.hid hWX
        rw [hWX] at HW1
        clear hW1 hbX hbXa hq0 hq1 hq2 hsX hWX
        go_wp2_with fail
        refine HW1.out.mono ?_
        rw [← HWE.out]
        rintro e w3 ⟨x3, rfl, hx3, hb3, -⟩
        obtain ⟨hbX, hbXa, hq0, hq1, hq2, hsX⟩ := HWX.out
        have hb3' := hbXa.trans (hb3.mono hbXa.size)
        have hltX : wr.heap.size < WX.heap.size := by omega
        obtain ⟨p3, c3, rfl, hn3⟩ := hx3.slice
        obtain ⟨g3, o3, rfl, -, -, -, hc3⟩ := hx3.row (i := 0) (s := cut60 sm) rfl
        rw [Nat.add_zero] at hc3
        have hc31 : 1 ≤ c3 := hn3
        have q0 : w3.cell? ⟨wr.heap.size, 0, none⟩ = some (.bool true) := by rw [hb3'.cell (p := ⟨wr.heap.size, 0, none⟩) hltX]; exact hq0
        have q1 : w3.cell? ⟨wr.heap.size, 1, none⟩ = some (.string ⟨#[]⟩) := by rw [hb3'.cell (p := ⟨wr.heap.size, 1, none⟩) hltX]; exact hq1
        have q2 : w3.frozen? ⟨wr.heap.size, 1, none⟩ = false := by rw [hb3'.frozen (p := ⟨wr.heap.size, 1, none⟩) hltX]; exact hq2
        have hbr3 : Below wr.heap.size wr w3 := hbX.trans (hb3'.mono hbX.size)
        generalize cut60 sm = sc at hc3 HE
        obtain ⟨W4, hW4⟩ : ∃ W4, W4 = w3.setCell ⟨wr.heap.size, 1, none⟩ (.string sc) := ⟨_, rfl⟩
        have hb4 : Below wr.heap.size wr W4 := by
          rw [hW4]
          exact ((Chg.of_below (F := fun k => wr.heap.size ≤ k) hbr3).setCell (p := ⟨wr.heap.size, 1, none⟩) (.inl (Nat.le_refl _)) _).below (Nat.le_refl _) fun _ h => h
        have HOWN4 := Lib.hid (HOWN.out W4 sc hb4)
        have HSR4 := Lib.hid (HSR.out W4 sc)
        have hs4 : W4.heap.size = w3.heap.size := by rw [hW4]; simp [World.setCell]
        rw [hs4] at HSR4
        have HB4 := Lib.hid (below_alloc hb4 (Nat.le_refl _) (.cells #[.bool true, .string sc] 52))
        rw [hW4] at HOWN4 HSR4 HB4
        clear hbX hbXa hq0 hq1 hq2 hsX hb3 hb3' hx3 hn3 hbr3 hb4 hW4 hs4
        go_wp2_with (at_builtin; refine append_rows elemMay _ F i 1 _ _ rfl _ _ _ rfl _ rfl HOWN4.out _ rfl HSR4.out (by omega) (by omega) ?_; intro p5 c5 w5 F5 hown5 hu5)
        go_roundw
        case rel => exact ⟨i + 1, F5, hlt, hlt2, by go_num, by rw [HS.out, HE.out]; exact (HA.out.keep HB4.out).next hown5 hu5⟩
        case measure => simp [intOf]; omega
    · have HOWN := Lib.hid (hA.own.keep ((Below.refl _ wr).alloc (Nat.le_refl _) (.cells #[.bool true, .string ⟨#[115, 101, 116]⟩, .bool false, .string ⟨#[]⟩] 52)))
      have HSR := Lib.hid (src_four wr)
      have HS : Hid (mcells ((ms.take i).map mayCut) ++ mcells [(true, sSet), (false, ⟨#[]⟩)] = mcells (maybesOf ms) ∧ (maybesOf ms).length = i + 2) := Lib.hid (by
        have e : (ms.take i).map mayCut = (ms.take 40).map mayCut := by
          by_cases h40 : i = 40
          · rw [h40]
          · have : i = ms.length := by omega
            rw [this, List.take_length, List.take_of_length_le (by omega)]
        refine ⟨by rw [e]; simp [maybesOf, mcells], ?_⟩
        unfold maybesOf
        rw [← e]
        simp
        omega)
      clear hA
      by_cases hlt : i < ms.length
      · have hltI : (i : Int) < (ms.length : Int) := by omega
        have hlt2I : ¬ (i : Int) < 40 := by omega
        clear hgo
        go_wp2_with (at_builtin; refine append_rows elemMay _ F i 2 _ _ rfl _ _ _ rfl _ rfl HOWN.out _ rfl HSR.out (by omega) (by omega) ?_; intro p5 c5 w5 F5 hown5 hu5)
        go_ret
        have h := (HA.out.keep ((Below.refl _ wr).alloc (Nat.le_refl _) _)).next hown5 hu5
        rw [HS.out.1] at h
        exact ⟨_, rfl, by unfold MayL; rw [HS.out.2]; exact h.own.flat, h.below⟩
      · have hltI : ¬ (i : Int) < (ms.length : Int) := by omega
        clear hgo
        go_wp2_with (at_builtin; refine append_rows elemMay _ F i 2 _ _ rfl _ _ _ rfl _ rfl HOWN.out _ rfl HSR.out (by omega) (by omega) ?_; intro p5 c5 w5 F5 hown5 hu5)
        go_ret
        have h := (HA.out.keep ((Below.refl _ wr).alloc (Nat.le_refl _) _)).next hown5 hu5
        rw [HS.out.1] at h
        exact ⟨_, rfl, by unfold MayL; rw [HS.out.2]; exact h.own.flat, h.below⟩

theorem madeO_convA {w w' : World} {bs : List UInt8} {e : Ending} (h : MadeO w bs e w') : ∃ p c, e = .returned (.slice p bs.length c) ∧ BytesAt w' (.slice p bs.length c) bs ∧ Below w.heap.size w w' ∧ ∀ g, (Value.slice p bs.length c).ownBlock = some g → w.heap.size ≤ g ∧ g < w'.heap.size := by
  obtain ⟨p, c, F, rfl, h1, h2, h3⟩ := h
  exact ⟨p, c, rfl, h1.bytes, h3, fun g hg => h2 g (h1.2 g hg)⟩
theorem maybesOf_len (ms : List May) : (maybesOf ms).length ≤ 42 := by unfold maybesOf; simp; omega
theorem maybesOf_each (ms : List May) : ∀ m ∈ maybesOf ms, m.2.size ≤ 60 ∧ valOf m = m.2 := by
  intro m hm
  unfold maybesOf at hm
  rcases List.mem_append.1 hm with hm | hm
  · obtain ⟨x, -, rfl⟩ := List.mem_map.1 hm
    obtain ⟨b, s⟩ := x
    cases b
    · exact ⟨Nat.zero_le _, rfl⟩
    · exact ⟨cut60_size s, rfl⟩
  · rcases List.mem_cons.1 hm with rfl | hm
    · exact ⟨by decide, rfl⟩
    · obtain rfl := List.mem_singleton.1 hm
      exact ⟨by decide, rfl⟩
theorem norm_self (ms : List May) (h : ∀ m ∈ ms, valOf m = m.2) : normOf ms = ms := by
  induction ms with
  | nil => rfl
  | cons m ms ih =>
    have e : normOf (m :: ms) = (m.1, valOf m) :: normOf ms := rfl
    rw [e, ih fun x hx => h x (List.mem_cons_of_mem _ hx), h m List.mem_cons_self]

theorem maskB_snoc (ms : List May) (m : May) : maskB (ms ++ [m]) = maskB ms ++ [if m.1 then 0 else 1] := by simp [maskB]

theorem nulls_step {w wr w2 W1 w5 W2 w6 : World} {F1 F2 F5 F6 : Nat → Prop} {o1 o2 : Obj} {i : Nat} {vm vv p5 p6 : Value} {xs1 xs2 ys1 ys2 : List Value} (hb : Below w.heap.size w wr) (h1 : OwnR wr F1 5 1 vm i xs1) (h2 : OwnR wr F2 9 1 vv i xs2) (i1 : In F1 wr) (i2 : In F2 wr) (hd : Disj F1 F2) (hlow : ∀ k, F1 k ∨ F2 k → w.heap.size ≤ k)
    (hw2 : Below wr.heap.size wr w2) (hW1 : W1 = w2.alloc o1) (hown5 : OwnR w5 F5 5 1 p5 (i + 1) ys1) (hu5 : Upd W1 w5 F1 F5) :
    OwnR w5 F2 9 1 vv i xs2 ∧ In F5 w5 ∧ In F2 w5 ∧ Disj F5 F2 ∧ (∀ k, F5 k ∨ F2 k → w.heap.size ≤ k) ∧ Below w.heap.size w w5 := by
  have hb1 : Below wr.heap.size wr W1 := by rw [hW1]; exact below_alloc hw2 (Nat.le_refl _) _
  have hs1 := hb1.size
  have hs5 := hu5.chg.size
  have hbw := hb.size
  refine ⟨(h2.keep hb1).upd hu5.chg hd.symm, hu5.inn (i1.mono hs1), i2.mono (by omega), fun k hk h => ?_, fun k hk => ?_, (hb.trans (hb1.mono hbw)).trans (hu5.chg.below (by omega) fun k hk => hlow k (.inl hk))⟩
  · rcases hu5.new k hk with h5 | h5
    · exact hd k h5 h
    · have := i2 k h; omega
  · rcases hk with h | h
    · rcases hu5.new k h with h5 | h5
      · exact hlow k (.inl h5)
      · omega
    · exact hlow k (.inr h)
theorem nulls_step2 {w wr w2 W1 w5 : World} {F1 F2 F5 : Nat → Prop} {o1 : Obj} {n i : Nat} {vm vv p5 : Value} {xs1 xs2 ys2 : List Value} (hb : Below w.heap.size w wr) (h1 : OwnR wr F1 5 1 vm n xs1) (i1 : In F1 wr) (i2 : In F2 wr) (hd : Disj F1 F2) (hlow : ∀ k, F1 k ∨ F2 k → w.heap.size ≤ k)
    (hw2 : Below wr.heap.size wr w2) (hW1 : W1 = w2.alloc o1) (hown5 : OwnR w5 F5 9 1 p5 (i + 1) ys2) (hu5 : Upd W1 w5 F2 F5) :
    OwnR w5 F1 5 1 vm n xs1 ∧ In F1 w5 ∧ In F5 w5 ∧ Disj F1 F5 ∧ (∀ k, F1 k ∨ F5 k → w.heap.size ≤ k) ∧ Below w.heap.size w w5 := by
  have hb1 : Below wr.heap.size wr W1 := by rw [hW1]; exact below_alloc hw2 (Nat.le_refl _) _
  have hs1 := hb1.size
  have hs5 := hu5.chg.size
  have hbw := hb.size
  refine ⟨(h1.keep hb1).upd hu5.chg hd, i1.mono (by omega), hu5.inn (i2.mono hs1), fun k hk h => ?_, fun k hk => ?_, (hb.trans (hb1.mono hbw)).trans (hu5.chg.below (by omega) fun k hk => hlow k (.inr hk))⟩
  · rcases hu5.new k h with h5 | h5
    · exact hd k hk h5
    · have := i1 k hk; omega
  · rcases hk with h | h
    · exact hlow k (.inl h)
    · rcases hu5.new k h with h5 | h5
      · exact hlow k (.inr h5)
      · omega

set_option maxRecDepth 100000 in
set_option maxHeartbeats 1000000 in
theorem arNullsV (w : World) (v : Value) (ms : List May) (h : MayL w v ms) (hl : ms.length ≤ 1000) (hs : Small (bytesOf (ms.map valOf))) :
    Calls Tryz.prog 13 #[v] w (Made w (maskB ms ++ encS (bytesOf (ms.map valOf)))) := by
  obtain ⟨p, c, rfl, hc⟩ := h.slice
  have HL := Lib.hid h
  have HSM := Lib.hid hs
  clear h hs
  go_enter Tryz.func13, Tryz.ntmps13
  go_wp2_with fail
  go_loopw [3, 4, 5] (fun vm vv vi wr => ∃ (i : Nat) (F1 F2 : Nat → Prop), i ≤ ms.length ∧ vi = .int .i64 i ∧ OwnR wr F1 5 1 vm i (u8s (maskB (ms.take i))) ∧ OwnR wr F2 9 1 vv i (((ms.take i).map valOf).map Value.string) ∧ In F1 wr ∧ In F2 wr ∧ Disj F1 F2 ∧ (∀ k, F1 k ∨ F2 k → w.heap.size ≤ k) ∧ Below w.heap.size w wr) (fun _ _ vi _ => ms.length - (intOf vi).toNat)
  case atStart => exact ⟨0, fun _ => False, fun _ => False, Nat.zero_le _, rfl, OwnR.nil _ _ _ _, OwnR.nil _ _ _ _, fun _ h => h.elim, fun _ h => h.elim, fun _ h => h.elim, fun _ h => (h.elim id id).elim, Below.refl _ _⟩
  case round =>
    obtain ⟨i, F1, F2, hi, rfl, h1, h2, i1, i2, hd, hlow, hb⟩ := hrel
    obtain ⟨pm, cm, rfl⟩ := h1.slice
    obtain ⟨pv, cv, rfl⟩ := h2.slice
    by_cases hlt : i < ms.length
    · obtain ⟨m, hsi⟩ : ∃ m, ms[i]? = some m := ⟨_, List.getElem?_eq_getElem hlt⟩
      obtain ⟨g, o, rfl, -, -, -, hcx, hcy⟩ := (HL.out.below hb).row hsi
      have HS : Hid (u8s (maskB (ms.take (i + 1))) = u8s (maskB (ms.take i)) ++ u8s [if m.1 then 0 else 1] ∧ ((ms.take (i + 1)).map valOf).map Value.string = ((ms.take i).map valOf).map Value.string ++ [.string (valOf m)]) := Lib.hid (by rw [takeSnoc hsi, maskB_snoc, u8s_append]; simp)
      have HH := Lib.hid (And.intro h1 (And.intro h2 (And.intro i1 (And.intro i2 (And.intro hd (And.intro hlow hb))))))
      obtain ⟨bm, sm⟩ := m
      simp only at hcx hcy
      have HSRB : Hid (∀ (W : World) (x : Int), Src Tryz.prog 1 29 (.slice (some ⟨W.heap.size, 0, none⟩) 1 1) 1 [.int .u8 x] (W.alloc (.cells #[.int .u8 x] 5))) := Lib.hid fun W x => src_new elemB W.heap.size [.int .u8 x] _ (heap_alloc_new W _) rfl (by simp [Value.oneCell']) 1
      have HSRS : Hid (∀ (W : World) (z : ByteArray), Src Tryz.prog 1 35 (.slice (some ⟨W.heap.size, 0, none⟩) 1 1) 1 [.string z] (W.alloc (.cells #[.string z] 9))) := Lib.hid fun W z => src_new elemStrs W.heap.size [.string z] _ (heap_alloc_new W _) rfl (by simp [Value.oneCell']) 1
      clear h1 h2 i1 i2 hd hlow hb hsi
      cases bm
      · have HE : Hid (u8s [if (false, sm).1 then 0 else 1] = [.int .u8 1] ∧ valOf (false, sm) = ⟨#[]⟩) := Lib.hid ⟨rfl, rfl⟩
        go_wp2_with (first
          | (at_builtin; refine append_rows elemB _ F1 i 1 _ _ rfl _ _ _ rfl _ rfl ((HH.out.1).keep ((Below.refl _ wr).alloc (Nat.le_refl _) _)) _ rfl (HSRB.out wr 1) (by omega) (by omega) ?_; intro p5 c5 w5 F5 hown5 hu5)
          | (at_builtin; refine append_rows elemStrs _ F2 i 1 _ _ rfl _ _ _ rfl _ rfl ((nulls_step (w6 := w5) (W2 := w5) (F6 := F5) (o2 := .cells #[] 5) (p6 := .nilIface) (ys2 := []) HH.out.2.2.2.2.2.2 HH.out.1 HH.out.2.1 HH.out.2.2.1 HH.out.2.2.2.1 HH.out.2.2.2.2.1 HH.out.2.2.2.2.2.1 (Below.refl _ wr) rfl hown5 hu5).1.keep ((Below.refl _ w5).alloc (Nat.le_refl _) _)) _ rfl (HSRS.out w5 ⟨#[]⟩) (by omega) (by omega) ?_; intro p6 c6 w6 F6 hown6 hu6))
        go_roundw
        case rel =>
          obtain ⟨h1, h2, i1, i2, hd, hlow, hb⟩ := HH.out
          obtain ⟨a1, a2, a3, a4, a5, a6⟩ := nulls_step (w6 := w5) (W2 := w5) (F6 := F5) (o2 := .cells #[] 5) (p6 := .nilIface) (ys2 := []) hb h1 h2 i1 i2 hd hlow (Below.refl _ wr) rfl hown5 hu5
          obtain ⟨b1, b2, b3, b4, b5, b6⟩ := nulls_step2 (vv := .nilIface) (xs2 := []) a6 hown5 a2 a3 a4 a5 (Below.refl _ w5) rfl hown6 hu6
          exact ⟨i + 1, F5, F6, hlt, by go_num, by rw [HS.out.1, HE.out.1]; exact b1, by rw [HS.out.2, HE.out.2]; exact hown6, b2, b3, b4, b5, b6⟩
        case measure => simp [intOf]; omega
      · have HE : Hid (u8s [if (true, sm).1 then 0 else 1] = [.int .u8 0] ∧ valOf (true, sm) = sm) := Lib.hid ⟨rfl, rfl⟩
        go_wp2_with fail
        go_quiet (fail)
        have hbq : Below wr.heap.size wr (wr.drewN nq) := drewN_below wr nq
        have HBQ := Lib.hid hbq
        go_wp2_with (first
          | (at_builtin; refine append_rows elemB _ F1 i 1 _ _ rfl _ _ _ rfl _ rfl (((HH.out.1).keep HBQ.out).keep ((Below.refl _ _).alloc (Nat.le_refl _) _)) _ rfl (HSRB.out (wr.drewN nq) 0) (by omega) (by omega) ?_; intro p5 c5 w5 F5 hown5 hu5)
          | (at_builtin; refine append_rows elemStrs _ F2 i 1 _ _ rfl _ _ _ rfl _ rfl ((nulls_step (w6 := w5) (W2 := w5) (F6 := F5) (o2 := .cells #[] 5) (p6 := .nilIface) (ys2 := []) HH.out.2.2.2.2.2.2 HH.out.1 HH.out.2.1 HH.out.2.2.1 HH.out.2.2.2.1 HH.out.2.2.2.2.1 HH.out.2.2.2.2.2.1 HBQ.out rfl hown5 hu5).1.keep ((Below.refl _ w5).alloc (Nat.le_refl _) _)) _ rfl (HSRS.out w5 sm) (by omega) (by omega) ?_; intro p6 c6 w6 F6 hown6 hu6))
        go_roundw
        case rel =>
          obtain ⟨h1, h2, i1, i2, hd, hlow, hb⟩ := HH.out
          obtain ⟨a1, a2, a3, a4, a5, a6⟩ := nulls_step (w6 := w5) (W2 := w5) (F6 := F5) (o2 := .cells #[] 5) (p6 := .nilIface) (ys2 := []) hb h1 h2 i1 i2 hd hlow HBQ.out rfl hown5 hu5
          obtain ⟨b1, b2, b3, b4, b5, b6⟩ := nulls_step2 (vv := .nilIface) (xs2 := []) a6 hown5 a2 a3 a4 a5 (Below.refl _ w5) rfl hown6 hu6
          exact ⟨i + 1, F5, F6, hlt, by go_num, by rw [HS.out.1, HE.out.1]; exact b1, by rw [HS.out.2, HE.out.2]; exact hown6, b2, b3, b4, b5, b6⟩
        case measure => simp [intOf]; omega
    · obtain rfl : i = ms.length := by omega
      rw [List.take_length] at h1 h2
      have hstr : StrL wr (.slice pv ms.length cv) (ms.map valOf) := by unfold StrL; rw [List.length_map]; exact h2.flat
      have HST := Lib.hid (stStringsV wr _ _ hstr HSM.out)
      have HH := Lib.hid (And.intro h1 (And.intro i1 (And.intro hlow hb)))
      obtain ⟨E, hE⟩ : ∃ E, E = encS (bytesOf (ms.map valOf)) := ⟨_, rfl⟩
      obtain ⟨M, hM⟩ : ∃ M, M = maskB ms := ⟨_, rfl⟩
      have hMl : M.length = ms.length := by rw [hM]; simp [maskB]
      have hEl : E.length ≤ 300000000 := by
        rw [hE]
        have h1 := encS_small (bytesOf (ms.map valOf))
        have h2 := HSM.out
        have h3 := h2.1
        have h4 := h2.2
        omega
      rw [← hE] at HST ⊢
      rw [← hM] at HH ⊢
      have HML := Lib.hid hMl
      have HEE := Lib.hid (And.intro hE hM)
      clear h1 h2 i1 i2 hd hlow hb hstr hE hM hMl
      go_wp2_with (first
        | (go_at_call 11; refine HST.out.mono ?_; intro e w3 hm3; obtain ⟨p3, c3, rfl, hB3, hb3, -⟩ := madeO_convA hm3)
        | (at_builtin; refine append_rows elemB _ F1 ms.length E.length _ _ rfl _ _ _ rfl _ rfl (HH.out.1.keep hb3) _ rfl hB3.srcB (by omega) (by omega) ?_; intro p5 c5 w5 F5 hown5 hu5))
      go_ret
      obtain ⟨h1, i1, hlow, hb⟩ := HH.out
      have s3 := hb3.size
      have s5 := hu5.chg.size
      have sb := hb.size
      rw [← u8s_append] at hown5
      have hl5 : (M ++ E).length = ms.length + E.length := by rw [List.length_append, HML.out]
      obtain ⟨rfl, rfl⟩ := HEE.out
      refine ⟨(hb.trans (hb3.mono sb)).trans (hu5.chg.below (by omega) fun k hk => hlow k (.inl hk)), _, rfl, ?_, fun g hg => ?_⟩
      · have h5 := hown5.1
        rw [← hl5] at h5 ⊢
        exact ownsRow_bytes h5
      · have h5 := hown5.2 g hg
        have h6 := hown5.lt g hg
        rcases hu5.new g h5 with h7 | h7
        · exact ⟨hlow g (.inl h7), h6⟩
        · exact ⟨by omega, h6⟩

theorem srcs_twoA {w : World} {v1 v2 : Value} {a b : List UInt8} (h1 : BytesAt w v1 a) (h2 : BytesAt w v2 b) (T : TypeId) : SrcsAt (w.alloc (.cells #[v1, v2] T)) w.heap.size [a, b] := by
  have hb : Below w.heap.size w (w.alloc (.cells #[v1, v2] T)) := (Below.refl _ w).alloc (Nat.le_refl _) _
  have hh := heap_alloc_new w (.cells #[v1, v2] T)
  intro k bs hk
  match k, hk with
  | 0, hk => obtain rfl : a = bs := by simpa using hk
             exact ⟨v1, by unfold World.cell?; simp only [hh]; rfl, h1.below hb⟩
  | 1, hk => obtain rfl : b = bs := by simpa using hk
             exact ⟨v2, by unfold World.cell?; simp only [hh]; rfl, h2.below hb⟩
theorem join_twoA (w : World) (v1 v2 : Value) (a b : List UInt8) (h1 : BytesAt w v1 a) (h2 : BytesAt w v2 b) (hl : a.length + b.length ≤ 1000000000) :
    Calls Tryz.prog 8 #[.slice (some ⟨w.heap.size, 0, none⟩) 2 2] (w.alloc (.cells #[v1, v2] 29)) (MadeO (w.alloc (.cells #[v1, v2] 29)) (a ++ b)) := by
  have h := stJoin (w.alloc (.cells #[v1, v2] 29)) w.heap.size 2 [a, b] (srcs_twoA h1 h2 _) (by simp) (by simpa using hl)
  have e : [a, b].flatten = a ++ b := by simp
  rw [e] at h
  exact h

theorem may_small (ms : List May) (hn : ms.length ≤ 42) (h : ∀ m ∈ ms, m.2.size ≤ 60 ∧ valOf m = m.2) : Small (bytesOf (ms.map valOf)) ∧ (encS (bytesOf (ms.map valOf))).length ≤ 100000000 := by
  have hl : (bytesOf (ms.map valOf)).length = ms.length := by simp [bytesOf]
  have hb : (bytesOf (ms.map valOf)).flatten.length ≤ (bytesOf (ms.map valOf)).length * 60 := flat_bound 60 _ fun s hs => by
    unfold bytesOf at hs
    obtain ⟨x, hx, rfl⟩ := List.mem_map.1 hs
    obtain ⟨m, h1, rfl⟩ := List.mem_map.1 hx
    have := h m h1
    rw [Array.length_toList, this.2]
    exact this.1
  have he := encS_small (bytesOf (ms.map valOf))
  exact ⟨⟨by omega, by omega⟩, by omega⟩

end Go.Proofs.YtemmhlibbihjmaaGreat
