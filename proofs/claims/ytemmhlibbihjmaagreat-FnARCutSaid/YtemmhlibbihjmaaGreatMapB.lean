/- proto.ColMap[string, string].DecodeColumn over bytes that are cut off; impl.ARReadMap over them. -/
import Derived.Test.YtemmhlibbihjmaaGreatMapR
namespace Go.Proofs.YtemmhlibbihjmaaGreat
open Go.RowKit
set_option linter.unusedVariables false
set_option linter.unusedSimpArgs false

set_option maxRecDepth 100000 in
set_option maxHeartbeats 1000000 in
/-- Bytes that are cut off are refused. -/
theorem mapDecodeBad (w : World) (Fr D Fq Fd Fe : Nat → Prop) (r q d e : Nat) (ll : List (List Pr)) (rest cur : List UInt8) (hR : RdAt w Fr D r rest cur) (hX : MapX w Fq Fd Fe q d e [] [] []) (hFq : ∀ k, Fq k → ¬ Fr k ∧ ¬ D k) (hFd : ∀ k, Fd k → ¬ Fr k ∧ ¬ D k) (hFe : ∀ k, Fe k → ¬ Fr k ∧ ¬ D k)
    (hrest : Short rest ((offsOf (kk ll)).flatMap le8 ++ (encS (bytesOf (kk ll).flatten) ++ encS (bytesOf (vv ll).flatten)))) (hbig : rest.length ≤ 1000000000) (hn : 0 < ll.length) (hl : ll.length ≤ 100000) (hf : ll.flatten.length ≤ 100000000) (hE1 : (encS (bytesOf (kk ll).flatten)).length ≤ 1000000000) (hE2 : (encS (bytesOf (vv ll).flatten)).length ≤ 1000000000) :
    Calls Tryz.prog 37 #[.pointer (some ⟨q, 0, none⟩), .pointer (some ⟨r, 0, none⟩), .int .i64 ll.length] w fun e' w' => (∃ a, e' = .returned (.iface 131 (.pointer (some a)))) ∧ Chg (fun k => Fr k ∨ (Fq k ∨ Fd k) ∨ Fe k) w w' := by
  have hIr : In Fr w := by obtain ⟨_, _, _, h⟩ := hR; exact h.inF
  have hoff : HeadCol w Fq 119 57 1 q (mapY d e) 0 [] := hX.off
  have hlen : (offsOf (kk ll)).length = ll.length := by rw [offsOf_length, kk_length]
  have hkf : (kk ll).flatten.length = ll.flatten.length := by rw [kk_flat, List.length_map]
  have hvf : (vv ll).flatten.length = ll.flatten.length := by rw [vv_flat, List.length_map]
  have h64 : ∀ x ∈ offsOf (kk ll), x < 18446744073709551616 := fun x hx => by
    have := sumsOf_le _ x hx
    rw [lensOf_sum, hkf] at this
    omega
  have hlast : ∀ m, ll.length = m + 1 → (offsOf (kk ll))[m]? = some ll.flatten.length := fun m hm => by
    rw [offsOf_get (kk ll) m (by rw [kk_length]; omega), ← hm, ← kk_length, List.take_length, lensOf_sum, hkf]
  have hKl : (bytesOf (kk ll).flatten).length = ll.flatten.length := by unfold bytesOf; rw [List.length_map, hkf]
  have hVl : (bytesOf (vv ll).flatten).length = ll.flatten.length := by unfold bytesOf; rw [List.length_map, hvf]
  generalize offsOf (kk ll) = offs at *
  generalize bytesOf (kk ll).flatten = K at *
  generalize bytesOf (vv ll).flatten = V at *
  obtain ⟨S, hS⟩ : ∃ S, S = ll.flatten.length := ⟨_, rfl⟩
  rw [← hS] at hf hKl hVl hlast
  obtain ⟨n, hnn⟩ : ∃ n, n = ll.length := ⟨_, rfl⟩
  rw [← hnn] at hl hlen hlast hn ⊢
  have hcase : Short rest (offs.flatMap le8) ∨ ∃ r2, rest = offs.flatMap le8 ++ r2 ∧ (Short r2 (encS K) ∨ ∃ r3, r2 = encS K ++ r3 ∧ Short r3 (encS V)) := by
    rcases hrest.split with h | ⟨r2, h, h2⟩
    · exact .inl h
    · exact .inr ⟨r2, h, h2.split⟩
  clear hrest
  rcases hcase with hA | ⟨r2, hr, hB⟩
  · have H1 := Lib.hid (u64Decode w Fr D Fq _ (mapY d e) r q n offs [] rest cur false hR hoff hFq (.inr ⟨rfl, hA.lt⟩) hlen hbig (by omega) h64)
    have hn0 : ¬ (n : Int) = 0 := by omega
    clear hR hX hFq hFd hFe hIr hoff hlen hkf hvf h64 hlast hKl hVl hE1 hE2 hS hnn hA
    go_enter Tryz.func37, Tryz.ntmps37
    go_wp2_with fail
    refine H1.out.mono ?_
    rintro e1 w1 ⟨-, h1⟩
    obtain ⟨⟨a, rfl⟩, hc⟩ := h1 rfl
    have HC := Lib.hid hc
    clear h1 hc
    go_wp2_with (go_at_call 48; refine (wrapErr _ _ _ _).mono ?_; rintro e9 w9 ⟨⟨a2, rfl⟩, hb9⟩)
    go_ret
    exact ⟨⟨_, rfl⟩, (HC.out.mono fun _ _ h => h.elim .inl fun h => .inr (.inl (.inl h))).trans (Chg.of_below hb9) fun _ _ h => h⟩
  · rcases hB with hB | ⟨r3, hr3e, hB⟩
    · skip
      have hr2 : r2.length ≤ 1000000000 := by rw [hr, List.length_append] at hbig; omega
      have H1 := Lib.hid (u64Decode w Fr D Fq _ (mapY d e) r q n offs r2 rest cur true hR hoff hFq (.inl ⟨rfl, hr⟩) hlen hbig (by omega) h64)
      have HX := Lib.hid (And.intro hX (And.intro hFq (And.intro hFd (And.intro hFe (And.intro hIr hlen)))))
      have HE := Lib.hid (And.intro hE1 (And.intro hE2 (And.intro hr2 (And.intro hKl hVl))))
      obtain ⟨m, hm⟩ : ∃ m, n = m + 1 := ⟨n - 1, by omega⟩
      have HLAST := Lib.hid (hlast m hm)
      have hmm := fun W => meth_ptr 292 mStrDec Tryz.underlying74 (.pointer (some ⟨d, 0, none⟩)) W
      have hmm2 := fun W => meth_ptr 292 mStrDec Tryz.underlying74 (.pointer (some ⟨e, 0, none⟩)) W
      have hoo := fun W => oStr.2 #[.pointer (some ⟨d, 0, none⟩), .pointer (some ⟨r, 0, none⟩), .int .i64 (S : Int)] W
      have hoo2 := fun W => oStr.2 #[.pointer (some ⟨e, 0, none⟩), .pointer (some ⟨r, 0, none⟩), .int .i64 (S : Int)] W
      have hwS : IntKind.i64.wrap (S : Int) = (S : Int) := by rw [IntKind.wrap_i64]; omega
      have hn0 : ¬ (n : Int) = 0 := by omega
      have hmI : IntKind.i64.wrap ((n : Int) - 1) = (m : Int) := by rw [IntKind.wrap_i64]; omega
      have hmJ : ((n : Int) - 1) = (m : Int) := by omega
      have hml : m < n := by omega
      have HKS := Lib.hid hB
      clear hR hX hFq hFd hFe hIr hoff hlen hkf hvf h64 hlast hKl hVl hr hr2 hE1 hE2 hS hnn hm hB
      go_enter Tryz.func37, Tryz.ntmps37
      go_wp2_with fail
      refine H1.out.mono ?_
      rintro e1 w1 ⟨h1, -⟩
      obtain ⟨rfl, Fr1, cur1, F1, hR1, hH1, hU1, hD1⟩ := h1 rfl
      obtain ⟨hX, hFq, hFd, hFe, hIr, hlen⟩ := HX.out
      obtain ⟨hE1, hE2, hr2, hKl, hVl⟩ := HE.out
      obtain ⟨v1, hX1, hF1⟩ := id hH1
      obtain ⟨p1, k1, rfl⟩ := hX1.slice
      obtain ⟨c0, cs, -, hq1⟩ := hX1.cell
      have c1 := cs 0 _ rfl
      have c2 := cs 1 _ rfl
      have hcol1 : StrCol w1 Fd 77 d [] := hX.key.chg hU1.chg fun k hk h => by
        rcases h with h | h
        · exact (hFd k hk).1 h
        · exact hX.dqd k h hk
      have hd1 : ∀ k, Fd k → ¬ Fr1 k ∧ ¬ D k := fun k hk => ⟨fun e => by
        rcases hU1.new k (.inl e) with (h | h) | h
        · exact (hFd k hk).1 h
        · exact hX.dqd k h hk
        · have := hX.ind k hk; omega, (hFd k hk).2⟩
      have H2 := strDecode w1 Fr1 D Fd r d 77 K [] r2 cur1 false hR1 (restI_zero (.inr ⟨rfl, HKS.out⟩)) hcol1 hd1 hr2 hE1
      rw [hKl] at H2
      have H2 := Lib.hid H2
      have hfl : FlatAt w1 (.slice p1 n k1) n (u64s offs) := by
        have h : OwnR w1 (fun _ => True) 57 1 (.slice p1 n k1) n (u64s offs) := ⟨hX1.own, fun _ _ => trivial⟩
        exact h.flat
      obtain ⟨g, o, rfl, -, hlst⟩ := hfl.get (j := m) (x := .int .u64 (S : Int)) (by unfold u64s; rw [List.getElem?_map, HLAST.out]; rfl)
      have HU1 := Lib.hid (And.intro hU1 (And.intro hD1 (And.intro hH1 hF1)))
      clear h1 hR1 hH1 hU1 hD1 hX hFq hFd hFe hIr hlen hE1 hE2 hKl hVl hX1 hF1 cs hcol1 hd1 hfl
      go_wp2_with (go_at_call 49; refine (checkRowsV _ S (by omega)).mono ?_; rintro e2 w2 ⟨rfl, rfl⟩)
      refine H2.out.mono ?_
      rintro e2 w2 ⟨-, h2⟩
      obtain ⟨⟨a, rfl⟩, hc⟩ := h2 rfl
      obtain ⟨hU1, hD1, hH1, hF1⟩ := HU1.out
      have HC : Hid (Chg (fun k => Fr k ∨ (Fq k ∨ Fd k) ∨ Fe k) w w2) := Lib.hid
        (by
          refine (hU1.chg.mono (G := fun k => Fr k ∨ (Fq k ∨ Fd k) ∨ Fe k) fun k _ h => h.elim .inl fun h => .inr (.inl (.inl h))).trans hc fun k hk h => ?_
          rcases h with h | h
          · rcases hU1.new k (.inl h) with (h | h) | h
            · exact .inl h
            · exact .inr (.inl (.inl h))
            · omega
          · exact .inr (.inl (.inr h)))
      clear h2 hc hU1 hD1 hH1 hF1
      go_wp2_with (go_at_call 48; refine (wrapErr _ _ _ _).mono ?_; rintro e9 w9 ⟨⟨a2, rfl⟩, hb9⟩)
      go_ret
      exact ⟨⟨_, rfl⟩, HC.out.trans (Chg.of_below hb9) fun _ _ h => h⟩
    · skip
      have hr2 : r2.length ≤ 1000000000 := by rw [hr, List.length_append] at hbig; omega
      have H1 := Lib.hid (u64Decode w Fr D Fq _ (mapY d e) r q n offs r2 rest cur true hR hoff hFq (.inl ⟨rfl, hr⟩) hlen hbig (by omega) h64)
      have HX := Lib.hid (And.intro hX (And.intro hFq (And.intro hFd (And.intro hFe (And.intro hIr hlen)))))
      have HE := Lib.hid (And.intro hE1 (And.intro hE2 (And.intro hr2 (And.intro hKl hVl))))
      obtain ⟨m, hm⟩ : ∃ m, n = m + 1 := ⟨n - 1, by omega⟩
      have HLAST := Lib.hid (hlast m hm)
      have hmm := fun W => meth_ptr 292 mStrDec Tryz.underlying74 (.pointer (some ⟨d, 0, none⟩)) W
      have hmm2 := fun W => meth_ptr 292 mStrDec Tryz.underlying74 (.pointer (some ⟨e, 0, none⟩)) W
      have hoo := fun W => oStr.2 #[.pointer (some ⟨d, 0, none⟩), .pointer (some ⟨r, 0, none⟩), .int .i64 (S : Int)] W
      have hoo2 := fun W => oStr.2 #[.pointer (some ⟨e, 0, none⟩), .pointer (some ⟨r, 0, none⟩), .int .i64 (S : Int)] W
      have hwS : IntKind.i64.wrap (S : Int) = (S : Int) := by rw [IntKind.wrap_i64]; omega
      have hn0 : ¬ (n : Int) = 0 := by omega
      have hmI : IntKind.i64.wrap ((n : Int) - 1) = (m : Int) := by rw [IntKind.wrap_i64]; omega
      have hmJ : ((n : Int) - 1) = (m : Int) := by omega
      have hml : m < n := by omega
      have hr3l : r3.length ≤ 1000000000 := by rw [hr3e, List.length_append] at hr2; omega
      have HKS := Lib.hid (And.intro hB (And.intro hr3e hr3l))
      clear hR hX hFq hFd hFe hIr hoff hlen hkf hvf h64 hlast hKl hVl hr hr2 hE1 hE2 hS hnn hm hB hr3e hr3l
      go_enter Tryz.func37, Tryz.ntmps37
      go_wp2_with fail
      refine H1.out.mono ?_
      rintro e1 w1 ⟨h1, -⟩
      obtain ⟨rfl, Fr1, cur1, F1, hR1, hH1, hU1, hD1⟩ := h1 rfl
      obtain ⟨hX, hFq, hFd, hFe, hIr, hlen⟩ := HX.out
      obtain ⟨hE1, hE2, hr2, hKl, hVl⟩ := HE.out
      obtain ⟨v1, hX1, hF1⟩ := id hH1
      obtain ⟨p1, k1, rfl⟩ := hX1.slice
      obtain ⟨c0, cs, -, hq1⟩ := hX1.cell
      have c1 := cs 0 _ rfl
      have c2 := cs 1 _ rfl
      have hcol1 : StrCol w1 Fd 77 d [] := hX.key.chg hU1.chg fun k hk h => by
        rcases h with h | h
        · exact (hFd k hk).1 h
        · exact hX.dqd k h hk
      have hd1 : ∀ k, Fd k → ¬ Fr1 k ∧ ¬ D k := fun k hk => ⟨fun e => by
        rcases hU1.new k (.inl e) with (h | h) | h
        · exact (hFd k hk).1 h
        · exact hX.dqd k h hk
        · have := hX.ind k hk; omega, (hFd k hk).2⟩
      have H2 := strDecode w1 Fr1 D Fd r d 77 K r3 r2 cur1 true hR1 (restI_zero (.inl ⟨rfl, HKS.out.2.1⟩)) hcol1 hd1 hr2 hE1
      rw [hKl] at H2
      have H2 := Lib.hid H2
      have hfl : FlatAt w1 (.slice p1 n k1) n (u64s offs) := by
        have h : OwnR w1 (fun _ => True) 57 1 (.slice p1 n k1) n (u64s offs) := ⟨hX1.own, fun _ _ => trivial⟩
        exact h.flat
      obtain ⟨g, o, rfl, -, hlst⟩ := hfl.get (j := m) (x := .int .u64 (S : Int)) (by unfold u64s; rw [List.getElem?_map, HLAST.out]; rfl)
      have HU1 := Lib.hid (And.intro hU1 (And.intro hD1 (And.intro hH1 hF1)))
      clear h1 hR1 hH1 hU1 hD1 hX hFq hFd hFe hIr hlen hE1 hE2 hKl hVl hX1 hF1 cs hcol1 hd1 hfl
      go_wp2_with (go_at_call 49; refine (checkRowsV _ S (by omega)).mono ?_; rintro e2 w2 ⟨rfl, rfl⟩)
      refine H2.out.mono ?_
      rintro e2 w2 ⟨h2, -⟩
      obtain ⟨rfl, Fr2, cur2, Fd2, hR2, hS2, hU2, hD2⟩ := h2 rfl
      obtain ⟨hX, hFq, hFd, hFe, hIr, hlen⟩ := HX.out
      obtain ⟨hE1, hE2, hr2, hKl, hVl⟩ := HE.out
      obtain ⟨hU1, hD1, hH1, hF1⟩ := HU1.out
      obtain ⟨g1, g2, g3, g4, g5, g6⟩ := halves hIr hX.inq hX.ind hX.dqd hFq hFd hU1 hD1 hU2 hD2
      have hq1n : ¬ (Fr1 q ∨ Fd q) := g1 q (hF1 q (.inl rfl))
      have j2 : w2.cell? ⟨q, 2, none⟩ = some (.iface 74 (.pointer (some ⟨e, 0, none⟩))) := by rw [hU2.chg.cell (p := ⟨q, 2, none⟩) hq1 hq1n]; exact c2
      have hcol2 : StrCol w2 Fe 77 e [] := hX.val.chg g5.chg fun k hk h => by
        rcases h with h | h | h
        · exact (hFe k hk).1 h
        · exact hX.dqe k h hk
        · exact hX.dde k h hk
      have hd2 : ∀ k, Fe k → ¬ Fr2 k ∧ ¬ D k := fun k hk => ⟨fun e => by
        rcases g5.new k (.inl e) with (h | h | h) | h
        · exact (hFe k hk).1 h
        · exact hX.dqe k h hk
        · exact hX.dde k h hk
        · have := hX.ine k hk; omega, (hFe k hk).2⟩
      have H3 := strDecode w2 Fr2 D Fe r e 77 V [] r3 cur2 false hR2 (restI_zero (.inr ⟨rfl, HKS.out.1⟩)) hcol2 hd2 HKS.out.2.2 hE2
      rw [hVl] at H3
      have H3 := Lib.hid H3
      have hq2 : q < w2.heap.size := World.block_lt_of_cell? _ _ j2
      have HU2 := Lib.hid g5
      clear h2 hR2 hS2 hU2 hD2 hX hFq hFd hFe hIr hlen hE1 hE2 hr2 hKl hVl hU1 hD1 hH1 hF1 g1 g2 g3 g4 g5 g6 hq1n hcol2 hd2 H2
      go_wp2_with fail
      refine H3.out.mono ?_
      rintro e3 w3 ⟨-, h3⟩
      obtain ⟨⟨a, rfl⟩, hc⟩ := h3 rfl
      have HC : Hid (Chg (fun k => Fr k ∨ (Fq k ∨ Fd k) ∨ Fe k) w w3) := Lib.hid (by
        have g5 := HU2.out
        refine (g5.chg.mono (G := fun k => Fr k ∨ (Fq k ∨ Fd k) ∨ Fe k) fun k _ h => by
          rcases h with h | h | h
          · exact .inl h
          · exact .inr (.inl (.inl h))
          · exact .inr (.inl (.inr h))).trans hc fun k hk h => ?_
        rcases h with h | h
        · rcases g5.new k (.inl h) with (h | h | h) | h
          · exact .inl h
          · exact .inr (.inl (.inl h))
          · exact .inr (.inl (.inr h))
          · omega
        · exact .inr (.inr h))
      clear h3 hc
      go_wp2_with (go_at_call 48; refine (wrapErr _ _ _ _).mono ?_; rintro e9 w9 ⟨⟨a2, rfl⟩, hb9⟩)
      go_ret
      exact ⟨⟨_, rfl⟩, HC.out.trans (Chg.of_below hb9) fun _ _ h => h⟩

set_option maxRecDepth 100000 in
set_option maxHeartbeats 1000000 in
theorem arReadMapBad (w : World) (ll : List (List Pr)) (dv : Value) (bs : List UInt8) (hd : BytesAt w dv bs) (hD : ∀ g, dv.ownBlock = some g → g < w.heap.size)
    (hrest : Short bs ((offsOf (kk ll)).flatMap le8 ++ (encS (bytesOf (kk ll).flatten) ++ encS (bytesOf (vv ll).flatten)))) (hbig : bs.length ≤ 1000000000) (hn : 0 < ll.length) (hl : ll.length ≤ 100000) (hf : ll.flatten.length ≤ 100000) (hE1 : (encS (bytesOf (kk ll).flatten)).length ≤ 1000000000) (hE2 : (encS (bytesOf (vv ll).flatten)).length ≤ 1000000000) (hps : ∀ ps ∈ ll, ps.length ≤ 1000000) :
    Calls Tryz.prog 17 #[dv, .int .i64 ll.length] w fun e w' => e = .returned (.tuple #[.slice none 0 0, .int .i64 0, .bool false]) ∧ Below w.heap.size w w' := by
  obtain ⟨W0, hW0⟩ : ∃ W0, W0 = w.alloc (.cells #[.bool false] 4) := ⟨_, rfl⟩
  have hb0 : Below w.heap.size w W0 := by rw [hW0]; exact (Below.refl _ w).alloc (Nat.le_refl _) _
  have hs0 : W0.heap.size = w.heap.size + 1 := by rw [hW0]; simp
  have ht0 : W0.cell? ⟨w.heap.size, 0, none⟩ = some (.bool false) ∧ W0.frozen? ⟨w.heap.size, 0, none⟩ = false := by rw [hW0]; constructor <;> go_simp
  obtain ⟨pd, cd, rfl⟩ := hd.slice
  have HM := Lib.hid (mapsNew W0)
  have HX := Lib.hid (And.intro hd (And.intro hD (And.intro hrest (And.intro hE1 (And.intro hE2 hps)))))
  have HW := Lib.hid (And.intro hb0 (And.intro hs0 ht0))
  have HWW := Lib.hid hW0
  rw [hW0] at HM
  clear hd hD hrest hE1 hE2 hps hb0 hs0 ht0 hW0
  go_enter_defers Tryz.func17, Tryz.ntmps17
  go_wp2_with fail
  refine HM.out.mono ?_
  rw [← HWW.out]
  rintro e w1 ⟨rfl, hb1, hs1, hX1⟩
  obtain ⟨hb0, hs0, ht0⟩ := HW.out
  obtain ⟨hd, hD, hrest, hE1, hE2, hps⟩ := HX.out
  have hbw1 : Below w.heap.size w w1 := hb0.trans (hb1.mono hb0.size)
  have HN := Lib.hid (newReader w1 _ bs (hd.below hbw1) fun g hg => by have := hD g hg; omega)
  have H1 := Lib.hid (And.intro hbw1 (And.intro hb1 (And.intro hs1 hX1)))
  clear hb1 hs1 hX1 hb0 hs0 ht0 hd hD hrest hE1 hE2 hps hbw1 HM
  go_wp2_with fail
  refine HN.out.mono ?_
  rintro e w2 ⟨rfl, hb2, hs2, hr2⟩
  obtain ⟨hb0, hs0, ht0⟩ := HW.out
  obtain ⟨hd, hD, hrest, hE1, hE2, hps⟩ := HX.out
  obtain ⟨hbw1, hb1, hs1, hX1⟩ := H1.out
  have hbw2 : Below w.heap.size w w2 := hbw1.trans (hb2.mono hbw1.size)
  have HDEC := Lib.hid (mapDecodeBad w2 _ _ _ _ _ (w1.heap.size + 1) (W0.heap.size + 2) W0.heap.size (W0.heap.size + 1) ll bs [] hr2 (hX1.keep hb2) (fun k hk => ⟨fun e => by omega, fun e => by have := hD k e; omega⟩) (fun k hk => ⟨fun e => by omega, fun e => by have := hD k e; omega⟩) (fun k hk => ⟨fun e => by omega, fun e => by have := hD k e; omega⟩) hrest hbig hn hl (by omega) hE1 hE2)
  have k1 : w2.cell? ⟨w.heap.size, 0, none⟩ = some (.bool false) := by rw [hb2.cell (p := ⟨w.heap.size, 0, none⟩) (show w.heap.size < w1.heap.size by omega), hb1.cell (p := ⟨w.heap.size, 0, none⟩) (show w.heap.size < W0.heap.size by omega)]; exact ht0.1
  have k2 : w2.frozen? ⟨w.heap.size, 0, none⟩ = false := by rw [hb2.frozen (p := ⟨w.heap.size, 0, none⟩) (show w.heap.size < w1.heap.size by omega), hb1.frozen (p := ⟨w.heap.size, 0, none⟩) (show w.heap.size < W0.heap.size by omega)]; exact ht0.2
  have HC := Lib.hid (And.intro hbw2 (And.intro (show w.heap.size < w2.heap.size by omega) (show w.heap.size < W0.heap.size ∧ W0.heap.size + 2 < w1.heap.size by omega)))
  obtain ⟨q, hq⟩ : ∃ q, q = W0.heap.size + 2 := ⟨_, rfl⟩
  obtain ⟨d, hdd⟩ : ∃ d, d = W0.heap.size := ⟨_, rfl⟩
  obtain ⟨e1, hee⟩ : ∃ e1, e1 = W0.heap.size + 1 := ⟨_, rfl⟩
  rw [← hq, ← hee, ← hdd] at HDEC
  rw [← hq]
  have HQ := Lib.hid (And.intro hq (And.intro hdd hee))
  clear hb0 hs0 ht0 hd hD hrest hE1 hE2 hps hbw1 hb1 hs1 hX1 hbw2 hb2 hs2 hr2 HN hq hdd hee
  go_wp2_with fail
  refine HDEC.out.mono ?_
  rintro e w3 ⟨⟨a, rfl⟩, hc3⟩
  obtain ⟨hbw2, hlt2, hlt0⟩ := HC.out
  obtain ⟨hq, hdd, hee⟩ := HQ.out
  have hnk : ¬ ((w.heap.size = w1.heap.size ∨ w.heap.size = w1.heap.size + 1) ∨ ((w.heap.size = q ∨ w.heap.size = d) ∨ w.heap.size = e1)) := fun h => by omega
  have j1 : w3.cell? ⟨w.heap.size, 0, none⟩ = some (.bool false) := by rw [hc3.cell (p := ⟨w.heap.size, 0, none⟩) hlt2 hnk]; exact k1
  have j2 : w3.frozen? ⟨w.heap.size, 0, none⟩ = false := by rw [hc3.frozen (p := ⟨w.heap.size, 0, none⟩) hlt2 hnk]; exact k2
  have hb3 : Below w.heap.size w w3 := hbw2.trans (hc3.below (by omega) fun k hk => by omega)
  have HB3 := Lib.hid hb3
  clear hnk hbw2 hlt2 hlt0 hq hdd hee hc3 hb3 k1 k2 HDEC
  go_wp2_with fail
  refine leaves_cons (f := 34) (args := #[.pointer (some ⟨w.heap.size, 0, none⟩)]) (by simp) (by simp [go_sem]) ?_
  refine (caught_idle _ _).mono ?_
  rintro e u' w4 ⟨rfl, rfl, rfl⟩
  have hcell : (w3.setCell ⟨w.heap.size, 0, none⟩ (.bool false)).cell? ⟨w.heap.size, 0, none⟩ = some (.bool false) := by go_simp
  exact ⟨.tuple #[.slice none 0 0, .int .i64 0, .bool false], by simp [results, Tryz.results17, go_sem, hcell], rfl, ((Chg.of_below (F := fun k => w.heap.size ≤ k) HB3.out).setCell (p := ⟨w.heap.size, 0, none⟩) (.inl (Nat.le_refl _)) _).below (Nat.le_refl _) fun _ h => h⟩
end Go.Proofs.YtemmhlibbihjmaaGreat
