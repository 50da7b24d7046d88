/- proto.ColArr[string].RowLen; impl.ARLens, impl.ARRanges; laws.FnARRows. -/
import Derived.Test.YtifnjiimlpjljaaArrP
import Derived.Test.YtifnjiimlpjljaaArS
namespace Go.Proofs.Ytifnjiimlpjljaa
open Go.RowKit
set_option linter.unusedVariables false
set_option linter.unusedSimpArgs false

set_option maxRecDepth 100000 in
theorem arrRowLen (w : World) (v y : Value) (ll : List (List ByteArray)) (hv : FlatAt w v ll.length (u64s (offsOf ll))) (hf : ll.flatten.length ≤ 100000000) (hl : ll.length ≤ 100000000) (i : Nat) (ss : List ByteArray) (hi : ll[i]? = some ss) :
    Calls Try.prog 59 #[.agg #[v, y], .int .i64 i] w fun e w' => e = .returned (.int .i64 ss.length) ∧ Below w.heap.size w w' := by
  obtain ⟨p, c, rfl, hc⟩ := hv.slice
  obtain ⟨hil, -⟩ := List.getElem?_eq_some_iff.1 hi
  have hsum := lens_succ hi
  have hle1 := lens_le ll (i + 1)
  obtain ⟨S, hS⟩ : ∃ S, S = (lensOf (ll.take i)).sum := ⟨_, rfl⟩
  rw [hsum, ← hS] at hle1
  obtain ⟨g, o, rfl, -, hend⟩ := hv.get (j := i) (x := .int .u64 ((S + ss.length : Nat) : Int)) (by unfold u64s; rw [List.getElem?_map, offsOf_get ll i hil, hsum, ← hS]; rfl)
  have HSTART : Hid (∀ m, i = m + 1 → w.cell? ⟨g, o + m, none⟩ = some (.int .u64 (S : Int))) := Lib.hid fun m hm => by
    obtain ⟨g', o', he, -, h⟩ := hv.get (j := m) (x := .int .u64 (S : Int)) (by unfold u64s; rw [List.getElem?_map, offsOf_get ll m (by omega), ← hm, ← hS]; rfl)
    obtain ⟨rfl, rfl⟩ : g = g' ∧ o = o' := by simpa using he
    exact h
  have HS0 : Hid (i = 0 → S = 0) := Lib.hid fun e => by rw [hS, e]; rfl
  have hgl : g < w.heap.size := World.block_lt_of_cell? _ _ hend
  obtain ⟨n, hn⟩ : ∃ n, n = ss.length := ⟨_, rfl⟩
  rw [← hn] at hend hle1 ⊢
  have hw1 : IntKind.i64.wrap ((S + n : Nat) : Int) = ((S + n : Nat) : Int) := by rw [IntKind.wrap_i64]; omega
  have hw2 : IntKind.i64.wrap (S : Int) = (S : Int) := by rw [IntKind.wrap_i64]; omega
  have hw3 : IntKind.i64.wrap (((S + n : Nat) : Int) - (S : Int)) = (n : Int) := by rw [IntKind.wrap_i64]; omega
  have hw4 : IntKind.i64.wrap ((S : Int) + (n : Int)) = (S : Int) + (n : Int) := by rw [IntKind.wrap_i64]; omega
  have hw5 : (S : Int) + (n : Int) - (S : Int) = (n : Int) := by omega
  have hSb : S + n ≤ 100000000 := by omega
  clear hv hi hsum hle1 hS hn
  by_cases h0 : i = 0
  · subst h0
    obtain rfl : S = 0 := HS0.out rfl
    rw [Nat.add_zero] at hend
    go_enter Try.func59, Try.ntmps59
    go_wp2_with fail
    go_ret
    exact ⟨by simp, (Below.refl _ w).alloc (Nat.le_refl _) _⟩
  · have h0I : (0 : Int) < (i : Int) := by omega
    obtain ⟨m, hm⟩ : ∃ m, i = m + 1 := ⟨i - 1, by omega⟩
    have hst := HSTART.out m hm
    have hmI : IntKind.i64.wrap ((i : Int) - 1) = (m : Int) := by rw [IntKind.wrap_i64]; omega
    have hmJ : ((i : Int) - 1) = (m : Int) := by omega
    have hml : m < ll.length := by omega
    have h0N : 0 < i := by omega
    clear hm
    go_enter Try.func59, Try.ntmps59
    go_wp2_with fail
    go_ret
    exact ⟨rfl, (Below.refl _ w).alloc (Nat.le_refl _) _⟩

theorem ArrL.head {w : World} {Fq Fd : Nat → Prop} {q d : Nat} {ll : List (List ByteArray)} (h : ArrL w Fq Fd q d ll) : ∃ v, w.heap[q]? = some (.cells #[v, .iface 80 (.pointer (some ⟨d, 0, none⟩))] 140 (0, 0)) ∧ q < w.heap.size ∧ FlatAt w v ll.length (u64s (offsOf ll)) ∧ StrCol w Fd 83 d (bytesOf ll.flatten) := by
  obtain ⟨v, hX, hF⟩ := ArrX.off h
  refine ⟨v, hX.at_, hX.lt, ?_, ArrX.col h⟩
  have h2 : OwnR w (fun _ => True) 67 1 v (offsOf ll).length (u64s (offsOf ll)) := ⟨hX.own, fun _ _ => trivial⟩
  have := h2.flat
  rwa [offsOf_length] at this

set_option maxRecDepth 100000 in
set_option maxHeartbeats 1000000 in
theorem arLens (w : World) (v : Value) (ll : List (List ByteArray)) (hv : LstL w v ll) (hl : ll.length ≤ 100000) (hf : ll.flatten.length ≤ 100000) (hs : (bytesOf ll.flatten).flatten.length ≤ 100000000) :
    Calls Try.prog 28 #[v] w (MadeF w ll.length (intsN (lensOf ll))) := by
  obtain ⟨p, c, rfl, hc⟩ := hv.slice
  have HV := Lib.hid hv
  have HTK := Lib.hid (flat_take_bytes ll)
  have HN := Lib.hid (strsNew w)
  clear hv
  go_enter Try.func28, Try.ntmps28
  go_wp2_with fail
  refine HN.out.mono ?_
  rintro e w1 ⟨rfl, hb1, hs1, hX1⟩
  have HX1 : Hid (Below w.heap.size w w1 ∧ w1.heap.size = w.heap.size + 2 ∧ ArrL w1 (· = w.heap.size + 1) (· = w.heap.size) (w.heap.size + 1) w.heap.size []) := Lib.hid ⟨hb1, hs1, hX1⟩
  clear hb1 hs1 hX1 HN
  obtain ⟨q, hq⟩ : ∃ q, q = w.heap.size + 1 := ⟨_, rfl⟩
  obtain ⟨d, hd⟩ : ∃ d, d = w.heap.size := ⟨_, rfl⟩
  rw [← hq] at HX1 ⊢
  have HQ := Lib.hid (And.intro hq hd)
  clear hq hd
  go_wp2_with fail
  go_loopw [4, 10] (fun vo vi wr => ∃ (i : Nat) (Fq Fd F : Nat → Prop), i ≤ ll.length ∧ vi = .int .i64 i ∧ ArrL wr Fq Fd q d (ll.take i) ∧ OwnR wr F 3 1 vo i (intsN (lensOf (ll.take i))) ∧ In F wr ∧ Disj F (fun k => Fq k ∨ Fd k) ∧ (∀ k, F k ∨ Fq k ∨ Fd k → w.heap.size ≤ k) ∧ Below w.heap.size w wr) (fun _ vi _ => ll.length - (intOf vi).toNat)
  case atStart =>
    obtain ⟨hb1, hs1, hX1⟩ := HX1.out
    obtain ⟨hq, hd⟩ := HQ.out
    exact ⟨0, _, _, fun _ => False, Nat.zero_le _, rfl, hd ▸ hX1, OwnR.nil _ _ _ _, fun _ h => h.elim, fun _ h => h.elim, fun k h => by rcases h with h | h | h <;> (try simp at h) <;> omega, hb1⟩
  case round =>
    obtain ⟨i, Fq, Fd, F, hi, rfl, hX, hown, hin, hdis, hlow, hbw⟩ := hrel
    obtain ⟨po, co, rfl⟩ := hown.slice
    by_cases hlt : i < ll.length
    · obtain ⟨ss, hsi⟩ : ∃ ss, ll[i]? = some ss := ⟨_, List.getElem?_eq_getElem hlt⟩
      obtain ⟨g, o, x, rfl, -, -, -, hcx0, hx⟩ := HV.out.row hsi
      have hcx : wr.cell? ⟨g, o + i, none⟩ = some x := by rw [hbw.cell (World.block_lt_of_cell? _ _ hcx0)]; exact hcx0
      obtain ⟨px, cx, rfl, -⟩ := hx.slice
      have hsn : ll.take (i + 1) = ll.take i ++ [ss] := takeSnoc hsi
      have hTK := HTK.out (i + 1)
      rw [hsn, bytesOf_snoc] at hTK
      have hlen1 : (bytesOf (ll.take i).flatten).length + ss.length ≤ 100000 := by
        have h := hTK.2
        rw [List.flatten_append, List.length_append] at h
        have h2 : ([ss] : List (List ByteArray)).flatten.length = ss.length := by simp
        unfold bytesOf
        rw [List.length_map]
        omega
      have hAP := arrAppend wr Fq Fd q d (offsOf (ll.take i)) (bytesOf (ll.take i).flatten) (.slice px ss.length cx) ss hX (fun W hcW => hx.below (hbw.trans (hcW.below hbw.size fun k hk => hlow k (.inr (.inr hk))))) (by omega) (by omega) (by rw [offsOf_length]; simp; omega)
      rw [← offsOf_snoc, ← bytesOf_snoc, ← hsn] at hAP
      have HAP := Lib.hid hAP
      have HH := Lib.hid (And.intro hX (And.intro hown (And.intro hin (And.intro hdis (And.intro hlow hbw)))))
      have HSI : Hid ((ll.take (i + 1))[i]? = some ss ∧ intsN (lensOf (ll.take (i + 1))) = intsN (lensOf (ll.take i)) ++ [.int .i64 (ss.length : Int)]) := Lib.hid ⟨by rw [hsn, List.getElem?_append_right (by simp; omega)]; simp [Nat.min_eq_left (Nat.le_of_lt hlt)], by rw [hsn]; simp [lensOf, intsN]⟩
      have HFL : Hid ((ll.take (i + 1)).flatten.length ≤ 100000000 ∧ (ll.take (i + 1)).length ≤ 100000000) := Lib.hid ⟨by have := (HTK.out (i + 1)).2; omega, by simp; omega⟩
      clear hX hown hin hdis hlow hbw hcx0 hx hsn hTK hlen1 hsi hAP
      go_wp2_with fail
      refine HAP.out.mono ?_
      rintro e w2 ⟨rfl, Fq2, Fd2, hX2, hU2⟩
      have hX2' : ArrL w2 Fq2 Fd2 q d (ll.take (i + 1)) := hX2
      obtain ⟨v2, hh2, hq2, hfl2, hc2⟩ := hX2'.head
      obtain ⟨p2, k2, rfl, -⟩ := hfl2.slice
      obtain ⟨hX, hown, hin, hdis, hlow, hbw⟩ := HH.out
      have hb2 : Below w.heap.size w w2 := hbw.trans (hU2.chg.below hbw.size fun k hk => hlow k (.inr hk))
      have hown2 := hown.upd hU2.chg hdis
      have hdis2 : Disj F (fun k => Fq2 k ∨ Fd2 k) := hU2.disj hdis hin
      have hin2 := hin.mono hU2.chg.size
      have hlow2 : ∀ k, F k ∨ Fq2 k ∨ Fd2 k → w.heap.size ≤ k := fun k hk => by
        rcases hk with h | h
        · exact hlow k (.inl h)
        · rcases hU2.new k h with h | h
          · exact hlow k (.inr h)
          · have := hbw.size; omega
      have hld := load_twoA (w := w2) (T := 140) hh2 Try.underlying140 (by kernel_rfl)
      have e0 : w2.cell? ⟨q, 0, none⟩ = some (.slice p2 (ll.take (i + 1)).length k2) := by simp [World.cell?, hh2]
      have e1 : w2.cell? ⟨q, 1, none⟩ = some (.iface 80 (.pointer (some ⟨d, 0, none⟩))) := by simp [World.cell?, hh2]
      have HRL := Lib.hid (arrRowLen w2 (.slice p2 (ll.take (i + 1)).length k2) (.iface 80 (.pointer (some ⟨d, 0, none⟩))) (ll.take (i + 1)) hfl2 HFL.out.1 HFL.out.2 i ss HSI.out.1)
      have H2 := Lib.hid (And.intro hX2' (And.intro hown2 (And.intro hin2 (And.intro hdis2 (And.intro hlow2 hb2)))))
      generalize (ll.take (i + 1)).length = tl at e0 HRL hld
      clear hX hown hin hdis hlow hbw hb2 hown2 hdis2 hin2 hlow2 hX2 hX2' hU2 hh2 hfl2 hc2
      go_wp2_with fail
      refine HRL.out.mono ?_
      rintro e w3 ⟨rfl, hb3⟩
      have HB3 := Lib.hid hb3
      have HOWN := Lib.hid ((H2.out.2.1.keep hb3).keep ((Below.refl _ w3).alloc (Nat.le_refl _) (.cells #[.int .i64 ss.length] 3)))
      have HSR := Lib.hid (src_new elemInt w3.heap.size [.int .i64 ss.length] _ (heap_alloc_new w3 (.cells #[.int .i64 ss.length] 3)) rfl (by simp [Value.oneCell']) 1)
      clear hb3 hld
      go_wp2_with (at_builtin; refine append_rows elemInt _ F i 1 _ _ rfl _ _ _ rfl _ rfl HOWN.out _ rfl HSR.out (by omega) (by omega) ?_; intro p5 c5 w5 F5 hown5 hu5)
      go_roundw
      case rel =>
        obtain ⟨hX2, hown2, hin2, hdis2, hlow2, hb2⟩ := H2.out
        have hba := below_alloc HB3.out (Nat.le_refl _) (.cells #[.int .i64 (ss.length : Int)] 3)
        have hs5 := hu5.chg.size
        have hsa := hba.size
        have hXa : ArrL (w3.alloc (.cells #[.int .i64 (ss.length : Int)] 3)) Fq2 Fd2 q d (ll.take (i + 1)) := ArrX.keep hX2 hba
        have hnew : ∀ k, F5 k → F k ∨ (w2.heap.size ≤ k) := fun k hk => (hu5.new k hk).imp id fun h => by omega
        refine ⟨i + 1, Fq2, Fd2, F5, hlt, by go_num, ArrX.chg hXa hu5.chg (fun k hk e => hdis2 k e (.inl hk)) (fun k hk e => hdis2 k e (.inr hk)), by rw [HSI.out.2]; exact hown5, hu5.inn (hin2.mono hba.size), fun k hk h => ?_, fun k hk => ?_, (hb2.trans (hba.mono hb2.size)).trans (hu5.chg.below (by have := hb2.size; omega) fun k hk => hlow2 k (.inl hk))⟩
        · rcases hnew k hk with h5 | h5
          · exact hdis2 k h5 h
          · rcases h with h | h
            · have := ArrX.inq hX2 k h; omega
            · have := ArrX.ind hX2 k h; omega
        · rcases hk with h | h
          · rcases hnew k h with h5 | h5
            · exact hlow2 k (.inl h5)
            · have := hb2.size; omega
          · exact hlow2 k (.inr h)
      case measure => simp [intOf]; omega
    · obtain rfl : i = ll.length := by omega
      rw [List.take_length] at hown
      have HH := Lib.hid (And.intro hown (And.intro hlow hbw))
      clear hX hown hin hdis hlow hbw
      go_wp2_with fail
      go_ret
      obtain ⟨hown, hlow, hbw⟩ := HH.out
      exact ⟨_, rfl, hown.flat, hbw, fun g hg => ⟨hlow g (.inl (hown.2 g hg)), hown.lt g hg⟩⟩

set_option maxRecDepth 100000 in
theorem arSameIntsV (w : World) (va vb : Value) (l : List Nat) (ha : FlatAt w va l.length (intsN l)) (hb : FlatAt w vb l.length (intsN l)) (hs : l.length ≤ 100000000) :
    Calls Try.prog 27 #[va, vb] w fun e w' => e = .returned (.bool true) ∧ ∃ m, w' = w.drewN m := by
  obtain ⟨pa, ca, rfl, hac⟩ := ha.slice
  obtain ⟨pb, cb, rfl, hbc⟩ := hb.slice
  have HA := Lib.hid ha
  have HB := Lib.hid hb
  clear ha hb
  go_enter Try.func27, Try.ntmps27
  go_wp2_with fail
  go_loopw [5] (fun vi wr => ∃ i m : Nat, i ≤ l.length ∧ vi = .int .i64 i ∧ wr = w.drewN m) (fun vi _ => l.length - (intOf vi).toNat)
  case atStart => exact ⟨0, 0, Nat.zero_le _, rfl, rfl⟩
  case round =>
    obtain ⟨i, m, hi, rfl, rfl⟩ := hrel
    by_cases hlt : i < l.length
    · obtain ⟨s, hsi⟩ : ∃ s, l[i]? = some s := ⟨_, List.getElem?_eq_getElem hlt⟩
      obtain ⟨g, o, rfl, -, hcx⟩ := HA.out.get (j := i) (x := .int .i64 (s : Int)) (by unfold intsN; simp [hsi])
      obtain ⟨g2, o2, rfl, -, hcx2⟩ := HB.out.get (j := i) (x := .int .i64 (s : Int)) (by unfold intsN; simp [hsi])
      clear hsi
      go_wp2_with fail
      go_quiet (fail)
      go_wp2_with fail
      go_roundw
      case rel => exact ⟨i + 1, _, hlt, by go_num, rfl⟩
      case measure => simp [intOf]; omega
    · obtain rfl : i = l.length := by omega
      go_wp2_with fail
      go_ret
      exact ⟨rfl, m, rfl⟩

set_option maxRecDepth 100000 in
set_option maxHeartbeats 1000000 in
theorem arRanges (w : World) (v : Value) (ll : List (List ByteArray)) (hv : LstL w v ll) (hl : ll.length ≤ 100000) (hf : ll.flatten.length ≤ 100000) (hs : (bytesOf ll.flatten).flatten.length ≤ 100000000) (hss : ∀ ss ∈ ll, ss.length ≤ 100000000) :
    Calls Try.prog 29 #[v] w fun e w' => ∃ x, e = .returned x ∧ LstL w' x ll ∧ Below w.heap.size w w' := by
  obtain ⟨p, c, rfl, hc⟩ := hv.slice
  have HV := Lib.hid hv
  have HN := Lib.hid (strsNew w)
  have HSS := Lib.hid hss
  clear hv hss
  go_enter Try.func29, Try.ntmps29
  go_wp2_with fail
  refine HN.out.mono ?_
  rintro e w1 ⟨rfl, hb1, hs1, hX1⟩
  obtain ⟨q, hq⟩ : ∃ q, q = w.heap.size + 1 := ⟨_, rfl⟩
  obtain ⟨d, hd⟩ : ∃ d, d = w.heap.size := ⟨_, rfl⟩
  rw [← hq] at hX1 ⊢
  have HAP := Lib.hid (arrAppendArr w w1 _ _ q w.heap.size _ ll hb1 (fun k h => by rcases h with h | h <;> (try simp at h) <;> omega) hX1 HV.out hl hf hs)
  have HB1 := Lib.hid (And.intro hb1 (And.intro hs1 hq))
  rw [← hd] at HAP
  have HD := Lib.hid hd
  clear hb1 hs1 hX1 HN hq hd
  go_wp2_with fail
  refine HAP.out.mono ?_
  rintro e w2 ⟨rfl, Fq, Fd, hX2, hU2⟩
  have hbw2 : Below w.heap.size w w2 := by
    obtain ⟨hb1, hs1, hq⟩ := HB1.out
    have hd := HD.out
    exact hb1.trans (hU2.chg.below hb1.size fun k h => by rcases h with h | h <;> (try simp at h) <;> omega)
  obtain ⟨v2, hh2, hq2, hfl2, hc2⟩ := hX2.head
  obtain ⟨p2, k2, rfl, -⟩ := hfl2.slice
  have HBW := Lib.hid hbw2
  have HC : Hid (∀ W, Below w2.heap.size w2 W → W.cell? ⟨q, 0, none⟩ = some (.slice p2 ll.length k2) ∧ W.cell? ⟨q, 1, none⟩ = some (.iface 80 (.pointer (some ⟨d, 0, none⟩)))) := Lib.hid fun W hb => by
    rw [hb.cell hq2, hb.cell hq2]
    exact ⟨by simp [World.cell?, hh2], by simp [World.cell?, hh2]⟩
  have HRA : Hid (∀ W, Below w2.heap.size w2 W → ∀ (i : Nat) (ss : List ByteArray), ll[i]? = some ss → Calls Try.prog 61 #[.agg #[.slice p2 ll.length k2, .iface 80 (.pointer (some ⟨d, 0, none⟩))], .int .i64 (i : Int), .slice none 0 0] W (MadeS W ss)) := Lib.hid fun W hb i ss hi => arrRowAppend W _ d Fd ll (hfl2.below hb) (hc2.keep hb) (by omega) (by omega) i ss hi
  have HRO : Hid (∀ W, Below w2.heap.size w2 W → ∀ (i : Nat) (ss : List ByteArray), ll[i]? = some ss → Calls Try.prog 62 #[.agg #[.slice p2 ll.length k2, .iface 80 (.pointer (some ⟨d, 0, none⟩))], .int .i64 (i : Int)] W (MadeS W ss)) := Lib.hid fun W hb i ss hi => arrRow W _ d Fd ll (hfl2.below hb) (hc2.keep hb) (by omega) (by omega) i ss hi
  clear hX2 hU2 hbw2 hh2 hfl2 hc2 HAP
  go_wp2_with fail
  go_loopw [4, 15] (fun vo vi wr => ∃ (i : Nat) (F : Nat → Prop), i ≤ ll.length ∧ vi = .int .i64 i ∧ AccL StrL w2 F 34 vo (ll.take i) wr) (fun _ vi _ => ll.length - (intOf vi).toNat)
  case atStart => exact ⟨0, _, Nat.zero_le _, rfl, AccL.start _ w2 34⟩
  case round =>
    obtain ⟨i, F, hi, rfl, hA⟩ := hrel
    have hlen : (ll.take i).length = i := by simp; omega
    obtain ⟨po, co, rfl⟩ := hA.slice
    rw [hlen] at hA ⊢
    have HLEN := Lib.hid hlen
    have HA := Lib.hid hA
    clear hA hlen
    by_cases hlt : i < ll.length
    · obtain ⟨ss, hsi⟩ : ∃ ss, ll[i]? = some ss := ⟨_, List.getElem?_eq_getElem hlt⟩
      have hbwr := HA.out.below
      obtain ⟨e0, e1⟩ := HC.out wr hbwr
      have hssl := HSS.out ss (List.mem_of_getElem? hsi)
      have HS := Lib.hid (takeSnoc hsi)
      have HSI := Lib.hid hsi
      have HBR := Lib.hid hbwr
      have hqr : q < wr.heap.size := World.block_lt_of_cell? _ _ e0
      have hd0 : Below w2.heap.size w2 wr.drew := hbwr.trans ((drewBelow wr).mono hbwr.size)
      clear hsi hbwr
      go_wp2_with fail
      go_region_held3 (fun w' => w'.cell? ⟨q, 0, none⟩ = some (.slice p2 ll.length k2) ∧ w'.cell? ⟨q, 1, none⟩ = some (.iface 80 (.pointer (some ⟨d, 0, none⟩)))) (first | exact ⟨z0, z1⟩ | exact ⟨y0, y1⟩ | exact ⟨e0, e1⟩ | go_keep)
        (first
          | (go_at_call 61; refine (HRA.out wr.drew hd0 i ss HSI.out).mono ?_; rintro e w3 ⟨x3, rfl, hx3, hb3, ho3⟩; obtain ⟨p3, c3, rfl, -⟩ := hx3.slice; have hb3' := HBR.out.trans ((drewTrans hb3).mono HBR.out.size); obtain ⟨y0, y1⟩ := HC.out w3 hb3')
          | (go_at_call 62; refine (HRO.out w3 hb3' i ss HSI.out).mono ?_; rintro e w4 ⟨x4, rfl, hx4, hb4, ho4⟩; obtain ⟨p4, c4, rfl, -⟩ := hx4.slice; have hb4' := hb3'.trans (hb4.mono hb3'.size); obtain ⟨z0, z1⟩ := HC.out w4 hb4'))
      have HX := Lib.hid (And.intro (hx3.below hb4) (And.intro hx4 (And.intro ho3 (And.intro (drewTrans hb3) hb4))))
      clear hx3 hx4 hb3 ho3 hb4 ho4 hb3' hb4' y0 y1 z0 z1 e0 e1
      go_wp2_with fail
      go_loopw [35] (fun vj wq => ∃ j m : Nat, j ≤ ss.length ∧ vj = .int .i64 j ∧ wq = w4.drewN m) (fun vj _ => ss.length - (intOf vj).toNat)
      case atStart => exact ⟨0, 0, Nat.zero_le _, rfl, rfl⟩
      case round =>
        obtain ⟨j, m, hj, rfl, rfl⟩ := hrel
        by_cases hjl : j < ss.length
        · obtain ⟨s, hsj⟩ : ∃ s, ss[j]? = some s := ⟨_, List.getElem?_eq_getElem hjl⟩
          obtain ⟨g, o, rfl, -, -, -, hcx⟩ := HX.out.1.row hsj
          obtain ⟨g2, o2, rfl, -, -, -, hcx2⟩ := HX.out.2.1.row hsj
          clear hsj
          go_wp2_with fail
          go_quiet (fail)
          go_wp2_with fail
          go_roundw
          case rel => exact ⟨j + 1, _, hjl, by go_num, rfl⟩
          case measure => simp [intOf]; omega
        · obtain rfl : j = ss.length := by omega
          obtain ⟨hx3, hx4, ho3, hb3, hb4⟩ := HX.out
          have hbm := drewN_below w4 m
          have hbr4 := hb3.trans (hb4.mono hb3.size)
          have hbrm := hbr4.trans (hbm.mono hbr4.size)
          have hsm : (w4.drewN m).heap.size = w4.heap.size := rfl
          obtain ⟨xs, hown, hmore⟩ := HA.out.more strL_stable hbrm (hx3.below hbm) (fun g hg => ⟨by have := ho3 g hg; have := hb4.size; omega, fun e => by have h1 := HA.out.inn.1 g e; have := ho3 g hg; have : wr.heap.size ≤ g := this.1; omega⟩) (.cells #[.slice p3 ss.length c3] 34)
          rw [HLEN.out] at hown hmore
          have HOWN := Lib.hid hown
          have HMORE := Lib.hid hmore
          have HSR := Lib.hid (src_new elemStrss (w4.drewN m).heap.size [.slice p3 ss.length c3] _ (heap_alloc_new (w4.drewN m) (.cells #[.slice p3 ss.length c3] 34)) rfl (by simp [Value.oneCell']) 1)
          clear hown hmore hx3 hx4 ho3 hb3 hb4 hbm hbr4 hbrm
          go_wp2_with (at_builtin; refine append_rows elemStrss _ F i 1 xs _ rfl _ _ _ rfl _ rfl HOWN.out _ rfl HSR.out (by omega) (by omega) ?_; intro p5 c5 w6 F5 hown5 hu5)
          go_roundw
          case rel => exact ⟨i + 1, F5, hlt, by go_num, by rw [HS.out]; exact HMORE.out p5 c5 w6 F5 hown5 hu5⟩
          case measure => simp [intOf]; omega
    · obtain rfl : i = ll.length := by omega
      go_wp2_with fail
      go_ret
      have h := HA.out
      rw [List.take_length] at h
      exact ⟨_, rfl, h.each, HBW.out.trans (h.below.mono HBW.out.size)⟩

theorem bytes_bound (ll : List (List ByteArray)) (h : Little ll) : (bytesOf ll.flatten).flatten.length ≤ 100000000 := h.small.1

set_option maxRecDepth 100000 in
set_option maxHeartbeats 1000000 in
theorem lawRows (w : World) (v : Value) (rows : List (List ByteArray)) (h : LstL w v rows) (hl : rows.length ≤ 9223372036854775807) (hb : ∀ ss ∈ rows, ss.length ≤ 9223372036854775807 ∧ ∀ s ∈ ss, s.size ≤ 9223372036854775807) :
    Calls Try.prog 6 #[v] w fun e w' => e = .returned (.bool true) ∧ Below w.heap.size w w' := by
  obtain ⟨p, c, rfl, hlc⟩ := h.slice
  have HL := Lib.hid h
  have HFIT := Lib.hid (fits1V w _ rows h hl hb)
  clear h hb
  go_enter Try.func6, Try.ntmps6
  go_wp2_with fail
  refine HFIT.out.mono ?_
  rintro e w1 ⟨rfl, b, rfl, hfit⟩
  cases b
  · clear hfit
    go_wp2_with fail
    go_ret
    exact ⟨rfl, Below.refl _ _⟩
  · have HLS := Lib.hid (arListsV w _ rows HL.out (hfit rfl))
    obtain ⟨L, hL⟩ : ∃ L, L = listsOf rows := ⟨_, rfl⟩
    have HLIT := Lib.hid (listsOf_little rows)
    rw [← hL] at HLS HLIT
    have hlen := HLIT.out.len
    clear hfit HFIT hL
    go_wp2_with fail
    refine HLS.out.mono ?_
    rintro e w1 ⟨x, rfl, hx, hb1⟩
    obtain ⟨px, cx, rfl, hcx⟩ := hx.slice
    have HX := Lib.hid (And.intro hx hb1)
    have HA := Lib.hid (arLens w1 _ L hx (by omega) (by have := HLIT.out.flat; omega) (bytes_bound _ HLIT.out))
    clear hx hb1 HLS
    go_wp2_with fail
    refine HA.out.mono ?_
    rintro e w2 ⟨y2, rfl, hy2, hb2, -⟩
    have HB := Lib.hid (arLensV w2 _ L (HX.out.1.below strL_stable hb2) (by omega))
    obtain ⟨p2, c2, rfl, -⟩ := hy2.slice
    have H2 := Lib.hid (And.intro hy2 hb2)
    clear hy2 hb2 HA
    go_wp2_with fail
    refine HB.out.mono ?_
    rintro e w3 ⟨y3, rfl, hy3, hb3, -⟩
    obtain ⟨p3, c3, rfl, -⟩ := hy3.slice
    have hll : (lensOf L).length = L.length := by simp [lensOf]
    have HSM := Lib.hid (arSameIntsV w3 _ _ (lensOf L) (by rw [hll]; exact H2.out.1.below hb3) (by rw [hll]; exact hy3) (by omega))
    have H3 := Lib.hid (H2.out.2.trans (hb3.mono H2.out.2.size))
    clear hy3 hb3 HB hll
    go_wp2_with fail
    refine HSM.out.mono ?_
    rintro e w4 ⟨rfl, m, rfl⟩
    have hb4 := H3.out.trans ((drewN_below w3 m).mono H3.out.size)
    have HR := Lib.hid (arRanges (w3.drewN m) _ L (HX.out.1.below strL_stable hb4) (by omega) (by have := HLIT.out.flat; omega) (bytes_bound _ HLIT.out) HLIT.out.each)
    have H4 := Lib.hid hb4
    clear hb4 HSM
    go_wp2_with fail
    refine HR.out.mono ?_
    rintro e w5 ⟨x5, rfl, hx5, hb5⟩
    have hb15 := H4.out.trans (hb5.mono H4.out.size)
    have HSS := Lib.hid (arSameV w5 x5 _ L hx5 (HX.out.1.below strL_stable hb15) (by omega) HLIT.out.each)
    obtain ⟨p5, c5, rfl, -⟩ := hx5.slice
    have HB5 := Lib.hid (HX.out.2.trans (hb15.mono HX.out.2.size))
    clear hx5 hb5 hb15 HR
    go_wp2_with fail
    refine HSS.out.mono ?_
    rintro e w6 ⟨rfl, m2, rfl⟩
    go_wp2_with fail
    go_ret
    exact ⟨rfl, HB5.out.trans ((drewN_below w5 m2).mono HB5.out.size)⟩
end Go.Proofs.Ytifnjiimlpjljaa
