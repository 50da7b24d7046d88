/- laws.zzFits8, laws.arPairs. -/
import Derived.Test.YtifnjiimlpjljaaPrs
import Derived.Test.YtifnjiimlpjljaaLsA
import Derived.StillTailTactics
namespace Go.Proofs.Ytifnjiimlpjljaa
open Go.RowKit
set_option linter.unusedVariables false
set_option linter.unusedSimpArgs false

def fitP (m : Pr) : Bool := decide (m.1.size ≤ 2147483647) && decide (m.2.size ≤ 2147483647)
set_option maxRecDepth 100000 in
theorem fits10V (w : World) (a b : ByteArray) (ha : a.size ≤ 9223372036854775807) (hb : b.size ≤ 9223372036854775807) : Calls Try.prog 66 #[.agg #[.string a, .string b]] w fun e w' => Below w.heap.size w w' ∧ e = .returned (.bool (fitP (a, b))) := by
  unfold fitP
  by_cases h : 2147483647 < a.size
  · have hI : (2147483647 : Int) < (a.size : Int) := by omega
    rw [show decide ((a, b).1.size ≤ 2147483647) = false from decide_eq_false (by show ¬ a.size ≤ 2147483647; omega), Bool.false_and]
    go_enter Try.func66, Try.ntmps66
    go_wp2_with fail
    go_ret
    exact ⟨(Below.refl _ w).alloc (Nat.le_refl _) _, rfl⟩
  · have hI : ¬ (2147483647 : Int) < (a.size : Int) := by omega
    rw [show decide ((a, b).1.size ≤ 2147483647) = true from decide_eq_true (by show a.size ≤ 2147483647; omega), Bool.true_and]
    by_cases h2 : 2147483647 < b.size
    · have h2I : (2147483647 : Int) < (b.size : Int) := by omega
      rw [show decide ((a, b).2.size ≤ 2147483647) = false from decide_eq_false (by show ¬ b.size ≤ 2147483647; omega)]
      go_enter Try.func66, Try.ntmps66
      go_wp2_with fail
      go_ret
      exact ⟨(Below.refl _ w).alloc (Nat.le_refl _) _, rfl⟩
    · have h2I : ¬ (2147483647 : Int) < (b.size : Int) := by omega
      rw [show decide ((a, b).2.size ≤ 2147483647) = true from decide_eq_true (by show b.size ≤ 2147483647; omega)]
      go_enter Try.func66, Try.ntmps66
      go_wp2_with fail
      go_ret
      exact ⟨(Below.refl _ w).alloc (Nat.le_refl _) _, rfl⟩

def FitPs (ms : List Pr) : Prop := ms.length ≤ 2147483647 ∧ ∀ m ∈ ms, m.1.size ≤ 2147483647 ∧ m.2.size ≤ 2147483647
set_option maxRecDepth 100000 in
theorem fits9V (w : World) (v : Value) (ms : List Pr) (h : PairL w v ms) (hl : ms.length ≤ 9223372036854775807) (hb : ∀ m ∈ ms, m.1.size ≤ 9223372036854775807 ∧ m.2.size ≤ 9223372036854775807) :
    Calls Try.prog 45 #[v] w fun e w' => Below w.heap.size w w' ∧ ∃ b, e = .returned (.bool b) ∧ (b = true → FitPs ms) := by
  obtain ⟨p, c, rfl, hc⟩ := h.slice
  by_cases h0 : 2147483647 < ms.length
  · have h0I : (2147483647 : Int) < (ms.length : Int) := by omega
    go_enter Try.func45, Try.ntmps45
    go_wp2_with fail
    go_ret
    exact ⟨Below.refl _ _, _, rfl, fun h => by simp at h⟩
  · have h0I : ¬ (2147483647 : Int) < (ms.length : Int) := by omega
    have HL := Lib.hid h
    have HB := Lib.hid hb
    clear h hb
    go_enter Try.func45, Try.ntmps45
    go_wp2_with fail
    go_loopw [10] (fun vi wr => ∃ i : Nat, i ≤ ms.length ∧ vi = .int .i64 i ∧ Below w.heap.size w wr ∧ ∀ m ∈ ms.take i, m.1.size ≤ 2147483647 ∧ m.2.size ≤ 2147483647) (fun vi _ => ms.length - (intOf vi).toNat)
    case atStart => exact ⟨0, Nat.zero_le _, rfl, Below.refl _ _, by simp⟩
    case round =>
      obtain ⟨i, hi, rfl, hbr, hall⟩ := hrel
      by_cases hlt : i < ms.length
      · obtain ⟨m, hsi⟩ : ∃ m, ms[i]? = some m := ⟨_, List.getElem?_eq_getElem hlt⟩
        obtain ⟨g, o, rfl, -, -, -, hcx, hcy⟩ := (HL.out.below hbr).row hsi
        have HALL := Lib.hid (And.intro hall (And.intro hsi hbr))
        have HSZ := Lib.hid (HB.out m (List.mem_of_getElem? hsi))
        obtain ⟨bm, sm⟩ := m
        simp only at hcx hcy
        clear hsi hall hbr
        cases hbig : fitP (bm, sm)
        · have HF := Lib.hid (fun W => fits10V W bm sm HSZ.out.1 HSZ.out.2)
          rw [hbig] at HF
          clear hbig
          go_wp2_with (go_at_call 66; refine (HF.out _).mono ?_; rintro e w2 ⟨hb2, rfl⟩)
          have hbr2 : Below wr.heap.size wr w2 := Below.trans ((Below.refl _ wr).alloc (Nat.le_refl _) _) (hb2.mono (by simp))
          have HB2 := Lib.hid (HALL.out.2.2.trans (hbr2.mono HALL.out.2.2.size))
          clear hb2 hbr2
          go_ret
          exact ⟨HB2.out, _, rfl, fun h => by simp at h⟩
        · have HF := Lib.hid (fun W => fits10V W bm sm HSZ.out.1 HSZ.out.2)
          rw [hbig] at HF
          have HBIG : Hid (bm.size ≤ 2147483647 ∧ sm.size ≤ 2147483647) := Lib.hid (by unfold fitP at hbig; simpa using hbig)
          clear hbig
          go_wp2_with (go_at_call 66; refine (HF.out _).mono ?_; rintro e w2 ⟨hb2, rfl⟩)
          have hbr2 : Below wr.heap.size wr w2 := Below.trans ((Below.refl _ wr).alloc (Nat.le_refl _) _) (hb2.mono (by simp))
          have HB2 := Lib.hid (HALL.out.2.2.trans (hbr2.mono HALL.out.2.2.size))
          clear hb2 hbr2
          go_roundw
          case rel =>
            refine ⟨i + 1, hlt, by go_num, HB2.out, fun t ht => ?_⟩
            rw [takeSnoc HALL.out.2.1] at ht
            rcases List.mem_append.1 ht with ht | ht
            · exact HALL.out.1 t ht
            · rw [List.mem_singleton.1 ht]; exact HBIG.out
          case measure => simp [intOf]; omega
      · obtain rfl : i = ms.length := by omega
        rw [List.take_length] at hall
        have HALL := Lib.hid (And.intro hall hbr)
        clear hall hbr
        go_wp2_with fail
        go_ret
        exact ⟨HALL.out.2, _, rfl, fun _ => ⟨by omega, HALL.out.1⟩⟩

def FitLP (ll : List (List Pr)) : Prop := ll.length ≤ 2147483647 ∧ ∀ ps ∈ ll, FitPs ps
set_option maxRecDepth 100000 in
theorem fits8V (w : World) (v : Value) (ll : List (List Pr)) (h : LstP w v ll) (hl : ll.length ≤ 9223372036854775807) (hb : ∀ ss ∈ ll, ss.length ≤ 9223372036854775807 ∧ ∀ m ∈ ss, m.1.size ≤ 9223372036854775807 ∧ m.2.size ≤ 9223372036854775807) :
    Calls Try.prog 22 #[v] w fun e w' => Below w.heap.size w w' ∧ ∃ b, e = .returned (.bool b) ∧ (b = true → FitLP ll) := by
  obtain ⟨p, c, rfl, hc⟩ := h.slice
  by_cases h0 : 2147483647 < ll.length
  · have h0I : (2147483647 : Int) < (ll.length : Int) := by omega
    go_enter Try.func22, Try.ntmps22
    go_wp2_with fail
    go_ret
    exact ⟨Below.refl _ _, _, rfl, fun h => by simp at h⟩
  · have h0I : ¬ (2147483647 : Int) < (ll.length : Int) := by omega
    have HL := Lib.hid h
    have HB := Lib.hid hb
    clear h hb
    go_enter Try.func22, Try.ntmps22
    go_wp2_with fail
    go_loopw [10] (fun vi wr => ∃ i : Nat, i ≤ ll.length ∧ vi = .int .i64 i ∧ Below w.heap.size w wr ∧ ∀ ss ∈ ll.take i, FitPs ss) (fun vi _ => ll.length - (intOf vi).toNat)
    case atStart => exact ⟨0, Nat.zero_le _, rfl, Below.refl _ _, by simp⟩
    case round =>
      obtain ⟨i, hi, rfl, hbr, hall⟩ := hrel
      by_cases hlt : i < ll.length
      · obtain ⟨ss, hsi⟩ : ∃ ss, ll[i]? = some ss := ⟨_, List.getElem?_eq_getElem hlt⟩
        obtain ⟨g, o, x, rfl, -, -, -, hcx, hx⟩ := (HL.out.below pairL_stable hbr).row hsi
        obtain ⟨px, cx, rfl, -⟩ := PairL.slice hx
        have hsl := HB.out ss (List.mem_of_getElem? hsi)
        have HF := Lib.hid (fits9V wr _ ss hx hsl.1 hsl.2)
        have HALL := Lib.hid (And.intro hall (And.intro hsi hbr))
        clear hsi hall hx hsl hbr
        go_wp2_with fail
        refine HF.out.mono ?_
        rintro e w1 ⟨hb1, b, rfl, hfit⟩
        have HFIT := Lib.hid hfit
        have HB1 := Lib.hid (HALL.out.2.2.trans (hb1.mono HALL.out.2.2.size))
        clear hfit hb1
        cases b
        · go_wp2_with fail
          go_ret
          exact ⟨HB1.out, _, rfl, fun h => by simp at h⟩
        · go_wp2_with fail
          go_roundw
          case rel =>
            refine ⟨i + 1, hlt, by go_num, HB1.out, fun t ht => ?_⟩
            rw [takeSnoc HALL.out.2.1] at ht
            rcases List.mem_append.1 ht with ht | ht
            · exact HALL.out.1 t ht
            · rw [List.mem_singleton.1 ht]; exact HFIT.out (by trivial)
          case measure => simp [intOf]; omega
      · obtain rfl : i = ll.length := by omega
        rw [List.take_length] at hall
        have HALL := Lib.hid (And.intro hall hbr)
        clear hall hbr
        go_wp2_with fail
        go_ret
        exact ⟨HALL.out.2, _, rfl, fun _ => ⟨by omega, HALL.out.1⟩⟩

def cutP (m : Pr) : Pr := (cut60 m.1, cut60 m.2)
def sK : ByteArray := ⟨#[107]⟩
def sV : ByteArray := ⟨#[118]⟩
def rowP (ps : List Pr) : List Pr := (ps.take 8).map cutP
def pairsOf (ll : List (List Pr)) : List (List Pr) := (ll.take 12).map rowP ++ [[(sK, sV)]]
theorem strL_two (w : World) (a b : ByteArray) : StrL (w.alloc (.cells #[.string a, .string b] 9)) (.slice (some ⟨w.heap.size, 0, none⟩) 2 2) [a, b] :=
  ⟨_, _, rfl, Nat.le_refl _, fun _ => ⟨_, 0, rfl, fun j x hj => by
    have h := heap_alloc_new w (.cells #[.string a, .string b] 9)
    rw [Nat.zero_add]
    simp only [World.cell?, h]
    match j, hj with
    | 0, hj => simpa using hj
    | 1, hj => simpa using hj⟩⟩
theorem pairL_one (w : World) : PairL (w.alloc (.cells #[.string ⟨#[107]⟩, .string ⟨#[118]⟩] 56)) (.slice (some ⟨w.heap.size, 0, none⟩) 1 1) [(sK, sV)] :=
  ⟨_, _, rfl, Nat.le_refl _, fun _ => ⟨_, 0, rfl, fun j x hj => by
    have h := heap_alloc_new w (.cells #[.string ⟨#[107]⟩, .string ⟨#[118]⟩] 56)
    have e : pcells [(sK, sV)] = [.string ⟨#[107]⟩, .string ⟨#[118]⟩] := rfl
    rw [e] at hj
    rw [Nat.zero_add]
    simp only [World.cell?, h]
    match j, hj with
    | 0, hj => simpa using hj
    | 1, hj => simpa using hj⟩⟩

set_option maxRecDepth 100000 in
set_option maxHeartbeats 2000000 in
theorem arPairsV (w : World) (v : Value) (ll : List (List Pr)) (h : LstP w v ll) (hl : FitLP ll) :
    Calls Try.prog 23 #[v] w fun e w' => ∃ x, e = .returned x ∧ LstP w' x (pairsOf ll) ∧ Below w.heap.size w w' := by
  obtain ⟨p, c, rfl, hc⟩ := h.slice
  have HL := Lib.hid h
  have HFIT := Lib.hid hl
  have hll := hl.1
  clear h hl
  go_enter Try.func23, Try.ntmps23
  go_wp2_with fail
  go_loopw [3, 4] (fun vo vi wr => ∃ (i : Nat) (F : Nat → Prop), i ≤ ll.length ∧ i ≤ 12 ∧ vi = .int .i64 i ∧ AccL PairL w F 87 vo ((ll.take i).map rowP) wr) (fun _ vi _ => 12 - (intOf vi).toNat)
  case atStart => exact ⟨0, _, Nat.zero_le _, Nat.zero_le _, rfl, by simpa using AccL.start PairL w 87⟩
  case round =>
    obtain ⟨wo, rfl⟩ : ∃ wo, wo = wr := ⟨_, rfl⟩
    obtain ⟨i, F, hi, him, rfl, hA⟩ := hrel
    have hlen : ((ll.take i).map rowP).length = i := by simp; omega
    obtain ⟨po, co, rfl⟩ := hA.slice
    rw [hlen] at hA ⊢
    have HLEN := Lib.hid hlen
    by_cases hgo : i < ll.length ∧ i < 12
    · obtain ⟨hlt, hlt2⟩ := hgo
      have hltI : (i : Int) < (ll.length : Int) := by omega
      have hlt2I : (i : Int) < 12 := by omega
      obtain ⟨ps, hsi⟩ : ∃ ps, ll[i]? = some ps := ⟨_, List.getElem?_eq_getElem hlt⟩
      obtain ⟨g, o, x, rfl, -, -, -, hcx, hx⟩ := (HL.out.below pairL_stable hA.below).row hsi
      obtain ⟨px, cx, rfl, hcxl⟩ := PairL.slice hx
      have hsl := HFIT.out.2 ps (List.mem_of_getElem? hsi)
      have HS : Hid ((ll.take (i + 1)).map rowP = (ll.take i).map rowP ++ [rowP ps]) := Lib.hid (by rw [takeSnoc hsi]; simp)
      have HA := Lib.hid hA
      have HX := Lib.hid (And.intro hx hsl)
      have hpl := hsl.1
      have hgl : g < wo.heap.size := World.block_lt_of_cell? _ _ hcx
      have HCX := Lib.hid hcx
      clear hA hsi hx hsl hlen
      go_wp2_with fail
      go_loopw [5, 6] (fun vo vi wr => ∃ (j : Nat) (F2 : Nat → Prop), j ≤ ps.length ∧ j ≤ 8 ∧ vi = .int .i64 j ∧ Acc wo F2 56 2 vo j (pcells ((ps.take j).map cutP)) wr) (fun _ vi _ => 8 - (intOf vi).toNat)
      case atStart => exact ⟨0, _, Nat.zero_le _, Nat.zero_le _, rfl, Acc.start _ _ _⟩
      case round =>
        obtain ⟨j, F2, hj, hj8, rfl, hA2⟩ := hrel
        obtain ⟨p2, c2, rfl⟩ := hA2.slice
        have HA2 := Lib.hid hA2
        have hcq : wr.cell? ⟨g, o + i, none⟩ = some (.slice px ps.length cx) := by rw [hA2.below.cell (p := ⟨g, o + i, none⟩) hgl]; exact HCX.out
        by_cases hg2 : j < ps.length ∧ j < 8
        · obtain ⟨hjl, hjl8⟩ := hg2
          have hjI : (j : Int) < (ps.length : Int) := by omega
          have hj8I : (j : Int) < 8 := by omega
          obtain ⟨m, hmi⟩ : ∃ m, ps[j]? = some m := ⟨_, List.getElem?_eq_getElem hjl⟩
          obtain ⟨gp, op, rfl, -, -, -, hck, hcv⟩ := PairL.row (HX.out.1.below hA2.below) hmi
          have HSZ := Lib.hid (HX.out.2.2 m (List.mem_of_getElem? hmi))
          have HS2 : Hid (pcells ((ps.take (j + 1)).map cutP) = pcells ((ps.take j).map cutP) ++ [.string (cut60 m.1), .string (cut60 m.2)]) := Lib.hid (by rw [takeSnoc hmi, List.map_append, ← show prC (cutP m) = [.string (cut60 m.1), .string (cut60 m.2)] from rfl, ← pcells_snoc]; rfl)
          obtain ⟨kx, vx⟩ := m
          simp only at hck hcv HS2 HSZ
          have HW1 := Lib.hid (arWordsV _ _ [kx, vx] (strL_two wr.drew kx vx) 2 (by omega) (by simp) (fun s hs => by
            have h1 := HSZ.out
            rcases List.mem_cons.1 hs with rfl | hs
            · omega
            · rw [List.mem_singleton.1 hs]; omega))
          rw [show wordsOf [kx, vx] 2 = [cut60 kx, cut60 vx] from rfl] at HW1
          generalize cut60 kx = kc at HW1 HS2
          generalize cut60 vx = vc at HW1 HS2
          have hbq : Below wr.heap.size wr (wr.drew.alloc (.cells #[.string kx, .string vx] 9)) := below_alloc (drewBelow wr) (Nat.le_refl _) _
          have HBQ := Lib.hid hbq
          clear hA2 hmi hbq
          go_wp2_with fail
          refine wp_region_still_tail 16 (by kernel_rfl) (by kernel_rfl) ?_
          simp only [List.take_succ_cons, List.take_zero, List.drop_succ_cons, List.drop_zero]
          change wpStill _ _ (World.drew _) _ _ _
          repeat still_step
          refine wpStill_nil ?_
          change wpList _ _ _ _ _ (World.drew _)
          go_wp2_with fail
          refine HW1.out.mono ?_
          rintro e w3 ⟨x3, rfl, hx3, hb3, ho3⟩
          have hbq3 : Below wr.heap.size wr w3 := HBQ.out.trans (hb3.mono HBQ.out.size)
          obtain ⟨p3, c3, rfl, hn3⟩ := hx3.slice
          obtain ⟨g3, o3, rfl, -, -, -, h30⟩ := hx3.row (i := 0) (s := kc) rfl
          obtain ⟨g4, o4, he4, -, -, -, h31⟩ := hx3.row (i := 1) (s := vc) rfl
          obtain ⟨rfl, rfl⟩ : g3 = g4 ∧ o3 = o4 := by simpa using he4
          rw [Nat.add_zero] at h30
          have hc32 : 2 ≤ c3 := hn3
          have HOWN := Lib.hid ((HA2.out.own.keep (hbq3.trans ((drewBelow w3).mono hbq3.size))).keep ((Below.refl _ _).alloc (Nat.le_refl _) (.cells #[.string kc, .string vc] 56)))
          have HSR := Lib.hid (src_new elemPair w3.drew.heap.size [.string kc, .string vc] _ (heap_alloc_new w3.drew (.cells #[.string kc, .string vc] 56)) rfl (by simp [Value.oneCell']) 1)
          have HB3 := Lib.hid (below_alloc (hbq3.trans ((drewBelow w3).mono hbq3.size)) (Nat.le_refl _) (.cells #[.string kc, .string vc] 56))
          have HBD : Hid (j + 1 ≤ 140737488355328 ∧ (j + 1) * 32 ≤ 140737488355328) := Lib.hid (by omega)
          have hg3l : g3 < w3.heap.size := World.block_lt_of_cell? _ _ h30
          have hg3n : ¬ F2 g3 := fun e => by
            have h1 := HA2.out.inn g3 e
            have h2 := (ho3 g3 rfl).1
            have h3 := HBQ.out.size
            omega
          have HG3 : Hid (∀ (w5 : World) (F5 : Nat → Prop), Upd (w3.drew.alloc (.cells #[.string kc, .string vc] 56)) w5 F2 F5 → w5.cell? ⟨g3, o3, none⟩ = some (.string kc) ∧ w5.cell? ⟨g3, o3 + 1, none⟩ = some (.string vc)) := Lib.hid fun w5 F5 hu => by
            have hba : Below w3.heap.size w3 (w3.drew.alloc (.cells #[.string kc, .string vc] 56)) := below_alloc (drewBelow w3) (Nat.le_refl _) _
            have hl2 : g3 < (w3.drew.alloc (.cells #[.string kc, .string vc] 56)).heap.size := Nat.lt_of_lt_of_le hg3l hba.size
            rw [hu.chg.cell (p := ⟨g3, o3, none⟩) hl2 hg3n, hu.chg.cell (p := ⟨g3, o3 + 1, none⟩) hl2 hg3n, hba.cell (p := ⟨g3, o3, none⟩) hg3l, hba.cell (p := ⟨g3, o3 + 1, none⟩) hg3l]
            exact ⟨h30, h31⟩
          clear hx3 hb3 hbq3 he4 hn3 HW1 ho3 hg3n
          go_wp2_with fail
          go_region_held3 (fun w' => w'.cell? ⟨g3, o3, none⟩ = some (.string kc) ∧ w'.cell? ⟨g3, o3 + 1, none⟩ = some (.string vc)) (first | exact ⟨x0, x1⟩ | exact ⟨h30, h31⟩ | go_keep)
            (first | (refine step_append_rows elemPair _ F2 j 1 _ _ (by rfl) _ _ _ (by rfl) _ (by rfl) HOWN.out _ (by rfl) HSR.out HBD.out.1 HBD.out.2 ?_; intro p5 c5 w5 F5 hown5 hu5; obtain ⟨x0, x1⟩ := HG3.out w5 F5 hu5))
          all_goals
            go_wp2_with fail
            go_roundw
            case rel => exact ⟨j + 1, F5, hjl, hjl8, by go_num, by rw [HS2.out]; exact (HA2.out.keep HB3.out).next hown5 hu5⟩
            case measure => simp [intOf]; omega
        · obtain ⟨x, hx1, hx2, hx3, hx4⟩ := hA2.made
          obtain rfl : Value.slice p2 j c2 = x := by simpa using hx1
          have hRP : (ps.take j).map cutP = rowP ps := by
            unfold rowP
            by_cases h8 : j = 8
            · rw [h8]
            · have : j = ps.length := by omega
              rw [this, List.take_length, List.take_of_length_le (by omega)]
          have hPL : PairL wr (.slice p2 j c2) (rowP ps) := by
            unfold PairL
            rw [← hRP]
            have e : ((ps.take j).map cutP).length = j := by simp; omega
            rw [e]
            exact hx2
          obtain ⟨xs, hown, hmore⟩ := HA.out.more pairL_stable hx3 hPL (fun g hg => ⟨(hx4 g hg).2, fun e => by have h1 := HA.out.inn.1 g e; have := hx4 g hg; omega⟩) (.cells #[.slice p2 j c2] 87)
          rw [HLEN.out] at hown hmore
          have HOWN := Lib.hid hown
          have HMORE := Lib.hid hmore
          have HSR := Lib.hid (src_new elemPairs wr.heap.size [.slice p2 j c2] _ (heap_alloc_new wr (.cells #[.slice p2 j c2] 87)) rfl (by simp [Value.oneCell']) 1)
          clear hown hmore hA2 hx1 hx2 hx3 hx4 hRP hPL
          by_cases hjl : j < ps.length
          · have hjI : (j : Int) < (ps.length : Int) := by omega
            have hj8I : ¬ (j : Int) < 8 := by omega
            clear hg2
            go_wp2_with (at_builtin; refine append_rows elemPairs _ F i 1 xs _ rfl _ _ _ rfl _ rfl HOWN.out _ rfl HSR.out (by omega) (by omega) ?_; intro p5 c5 w5 F5 hown5 hu5)
            go_roundw
            case rel => exact ⟨i + 1, F5, hlt, hlt2, by go_num, by rw [HS.out]; exact HMORE.out p5 c5 w5 F5 hown5 hu5⟩
            case measure => simp [intOf]; omega
          · have hjI : ¬ (j : Int) < (ps.length : Int) := by omega
            clear hg2
            go_wp2_with (at_builtin; refine append_rows elemPairs _ F i 1 xs _ rfl _ _ _ rfl _ rfl HOWN.out _ rfl HSR.out (by omega) (by omega) ?_; intro p5 c5 w5 F5 hown5 hu5)
            go_roundw
            case rel => exact ⟨i + 1, F5, hlt, hlt2, by go_num, by rw [HS.out]; exact HMORE.out p5 c5 w5 F5 hown5 hu5⟩
            case measure => simp [intOf]; omega
    · have HA := Lib.hid hA
      have HS : Hid ((ll.take i).map rowP = (ll.take 12).map rowP) := Lib.hid (by
        by_cases h12 : i = 12
        · rw [h12]
        · have : i = ll.length := by omega
          rw [this, List.take_length, List.take_of_length_le (by omega)])
      obtain ⟨xs, hown, hmore⟩ := hA.more pairL_stable ((Below.refl _ wo).alloc (Nat.le_refl _) _) (pairL_one wo) (fun g hg => ⟨by rw [← own_new hg]; simp, fun e => by have h1 := own_new hg; have h2 := HA.out.inn.1 g e; omega⟩) (.cells #[.slice (some ⟨wo.heap.size, 0, none⟩) 1 1] 87)
      rw [hlen] at hown hmore
      have HOWN := Lib.hid hown
      have HMORE := Lib.hid hmore
      have HSR := Lib.hid (src_new elemPairs (wo.alloc (.cells #[.string ⟨#[107]⟩, .string ⟨#[118]⟩] 56)).heap.size [.slice (some ⟨wo.heap.size, 0, none⟩) 1 1] _ (heap_alloc_new (wo.alloc (.cells #[.string ⟨#[107]⟩, .string ⟨#[118]⟩] 56)) (.cells #[.slice (some ⟨wo.heap.size, 0, none⟩) 1 1] 87)) rfl (by simp [Value.oneCell']) 1)
      rw [World.size_alloc] at HSR
      clear hown hmore hA hlen
      by_cases hlt : i < ll.length
      · have hltI : (i : Int) < (ll.length : Int) := by omega
        have hlt2I : ¬ (i : Int) < 12 := by omega
        clear hgo
        go_wp2_with (at_builtin; refine append_rows elemPairs _ F i 1 xs _ rfl _ _ _ rfl _ rfl HOWN.out _ rfl HSR.out (by omega) (by omega) ?_; intro p5 c5 w5 F5 hown5 hu5)
        go_ret
        have h := HMORE.out p5 c5 w5 F5 hown5 hu5
        rw [HS.out] at h
        exact ⟨_, rfl, h.each, h.below⟩
      · have hltI : ¬ (i : Int) < (ll.length : Int) := by omega
        clear hgo
        go_wp2_with (at_builtin; refine append_rows elemPairs _ F i 1 xs _ rfl _ _ _ rfl _ rfl HOWN.out _ rfl HSR.out (by omega) (by omega) ?_; intro p5 c5 w5 F5 hown5 hu5)
        go_ret
        have h := HMORE.out p5 c5 w5 F5 hown5 hu5
        rw [HS.out] at h
        exact ⟨_, rfl, h.each, h.below⟩
end Go.Proofs.Ytifnjiimlpjljaa
