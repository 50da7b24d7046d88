/- proto.ColUInt8.DecodeColumn; proto.ColNullable[string]: its memory, rows, DecodeColumn. -/
import Derived.Test.YtemmhlibbihjmaaGreatArrD
namespace Go.Proofs.YtemmhlibbihjmaaGreat
open Go.RowKit
set_option linter.unusedVariables false
set_option linter.unusedSimpArgs false

theorem elemU8c : Elem 105 5 1 1 := elem_of (z := .int .u8 0) Tryz.underlying105 (by kernel_rfl) rfl (by decide)

set_option maxRecDepth 100000 in
set_option maxHeartbeats 1000000 in
theorem u8Decode (w : World) (Fr D F : Nat → Prop) (T : TypeId) (ys : List Value) (r q n : Nat) (flat tail rest cur : List UInt8) (ok : Bool) (hR : RdAt w Fr D r rest cur) (hX : HeadCol w F T 5 1 q ys 0 []) (hF : ∀ k, F k → ¬ Fr k ∧ ¬ D k)
    (hrest : (ok = true ∧ rest = flat ++ tail) ∨ (ok = false ∧ rest.length < flat.length)) (hn : flat.length = n) (hbig : rest.length ≤ 1000000000) (hfl : n ≤ 100000000) :
    Calls Tryz.prog 85 #[.pointer (some ⟨q, 0, none⟩), .pointer (some ⟨r, 0, none⟩), .int .i64 n] w (DecH w Fr D F r q T 5 1 ys ok n (u8s flat) tail) := by
  obtain ⟨v0, hX, hFX⟩ := hX
  obtain ⟨c0, -, cf, hlt⟩ := hX.cell
  have hinD : In D w := by obtain ⟨_, _, _, h⟩ := hR; exact h.inD
  by_cases hn0 : n = 0
  · subst hn0
    obtain rfl : flat = [] := List.length_eq_zero_iff.1 hn
    rcases hrest with ⟨rfl, rfl⟩ | ⟨rfl, h⟩
    · have HR := Lib.hid hR
      have HX := Lib.hid (And.intro hX (And.intro hFX hF))
      clear hR hX hFX hF
      go_enter Tryz.func85, Tryz.ntmps85
      go_wp2_with fail
      go_ret
      exact ⟨fun _ => ⟨rfl, Fr, cur, F, HR.out, ⟨v0, show HeadX w T 5 1 q v0 ys 0 [] from HX.out.1, HX.out.2.1⟩, Upd.refl _ _, HX.out.2.2⟩, fun h => by simp at h⟩
    · simp at h
  · have hnI : ¬ (n : Int) = 0 := by omega
    rcases hrest with ⟨rfl, rfl⟩ | ⟨rfl, hsh⟩
    · have HRR := Lib.hid (rdRawN w Fr D r flat tail cur n hn.symm hR (by omega))
      have HX := Lib.hid (And.intro hX (And.intro hFX (And.intro hF hinD)))
      have HN := Lib.hid hn
      have HC0 := Lib.hid (And.intro c0 cf)
      obtain ⟨p0, k0, rfl⟩ := hX.slice
      clear hR hX hFX hF hinD c0 cf
      go_enter Tryz.func85, Tryz.ntmps85
      go_wp2_with fail
      refine HRR.out.mono ?_
      rintro e w1 ⟨b, vb, F2, hbr, rfl, h2, hbv, hu2⟩
      obtain ⟨hXX, hFX, hF, hinD⟩ := HX.out
      have hX1 := hXX.chg hu2.chg fun k hk => (hF k (hFX k hk)).1
      obtain ⟨c1, -, f1, hq1⟩ := hX1.cell
      have hsr := hbv.srcB
      obtain ⟨pb, cb, rfl⟩ := hbv.slice
      unfold SrcB at hsr
      rw [HN.out] at hsr ⊢
      have HSR := Lib.hid hsr
      have HOWN : Hid (OwnR w1 (fun k => (Value.slice p0 0 k0).ownBlock = some k) 5 1 (.slice p0 0 k0) 0 []) := Lib.hid ⟨hX1.own, fun g hg => hg⟩
      have hqn : ¬ (Value.slice p0 0 k0).ownBlock = some q := fun e => hX1.bq e rfl
      have H2 := Lib.hid (And.intro hbr (And.intro h2 (And.intro hu2 (And.intro hq1 hqn))))
      have HC1 := Lib.hid (And.intro c1 f1)
      clear hXX hFX hF hinD hX1 hsr hbv hbr h2 hu2 hqn
      go_wp2_with (at_builtin; refine append_rows elemU8c _ _ 0 n [] (u8s flat) rfl _ _ _ rfl _ rfl HOWN.out _ rfl HSR.out (by omega) (by omega) ?_; intro p5 c5 w5 F5 hown5 hu5; have j0 : w5.cell? ⟨q, 0, none⟩ = some (.slice p0 0 k0) := (by rw [hu5.chg.cell (p := ⟨q, 0, none⟩) H2.out.2.2.2.1 H2.out.2.2.2.2]; exact HC1.out.1); have j1 : w5.frozen? ⟨q, 0, none⟩ = false := (by rw [hu5.chg.frozen (p := ⟨q, 0, none⟩) H2.out.2.2.2.1 H2.out.2.2.2.2]; exact HC1.out.2))
      go_ret
      obtain ⟨hXX, hFX, hF, hinD⟩ := HX.out
      obtain ⟨hbr, h2, hu2, -, -⟩ := H2.out
      have hl1 : (u8s flat).length = n * 1 := by rw [u8s_length, HN.out, Nat.mul_one]
      have hdv : DecV w1 5 1 (.slice p0 0 k0) (u8s flat) n (.slice p5 (0 + n) c5) w5 := ⟨F5, by rw [← hl1, List.take_length]; simpa using hown5, hu5⟩
      simpa using decH_done (ys := ys) hXX hFX hF hinD hbr h2 hu2 hdv hl1
    · have HRR := Lib.hid (rdRawN_short w Fr D r rest cur hR n (by omega))
      have HX := Lib.hid (And.intro hFX hF)
      clear hR hX hFX hF hinD
      go_enter Tryz.func85, Tryz.ntmps85
      go_wp2_with (first | (go_at_call 51; refine HRR.out.mono ?_; rintro e w1 ⟨a, F1, cur1, rfl, h1, hu⟩) | (go_at_call 48; refine (wrapErr _ _ _ _).mono ?_; rintro e w2 ⟨⟨a2, rfl⟩, hb2⟩))
      go_ret
      exact ⟨fun h => by simp at h, fun _ => ⟨⟨_, rfl⟩, (hu.chg.mono fun _ _ h => .inl h).trans (Chg.of_below hb2) fun _ _ h => h⟩⟩

/-- A ColNullable[string]: the mask, the strings. -/
structure NulX (w : World) (Fq Fd : Nat → Prop) (q d : Nat) (mask : List UInt8) (l : List (List UInt8)) : Prop where
  off : HeadCol w Fq 109 5 1 q (arrY d) mask.length (u8s mask)
  col : StrCol w Fd 77 d l
  inq : In Fq w
  ind : In Fd w
  dis : Disj Fq Fd
theorem NulX.chg {w w' : World} {Fq Fd G : Nat → Prop} {q d : Nat} {mask : List UInt8} {l : List (List UInt8)} (h : NulX w Fq Fd q d mask l) (hc : Chg G w w') (hq : Disj Fq G) (hd : Disj Fd G) : NulX w' Fq Fd q d mask l :=
  ⟨h.off.chg hc hq, h.col.chg hc hd, h.inq.mono hc.size, h.ind.mono hc.size, h.dis⟩
theorem NulX.keep {w w' : World} {Fq Fd : Nat → Prop} {q d : Nat} {mask : List UInt8} {l : List (List UInt8)} (h : NulX w Fq Fd q d mask l) (hb : Below w.heap.size w w') : NulX w' Fq Fd q d mask l :=
  h.chg (Chg.of_below (F := fun _ => False) hb) (fun _ _ h => h) fun _ _ h => h

set_option maxRecDepth 100000 in
theorem strNullable (w : World) (d : Nat) : Calls Tryz.prog 31 #[.pointer (some ⟨d, 0, none⟩)] w fun e w' => e = .returned (.pointer (some ⟨w.heap.size, 0, none⟩)) ∧ w' = w.alloc (.cells (.slice none 0 0 :: arrY d).toArray 109) := by
  go_enter Tryz.func31, Tryz.ntmps31
  go_wp2_with fail
  go_ret
  exact ⟨rfl, rfl⟩
theorem nulX_new (w : World) : NulX ((w.alloc (.cells #[.slice none 0 0, .slice none 0 0] 77)).alloc (.cells (.slice none 0 0 :: arrY w.heap.size).toArray 109)) (· = w.heap.size + 1) (· = w.heap.size) (w.heap.size + 1) w.heap.size [] [] := by
  refine ⟨?_, ?_, ?_, ?_, ?_⟩
  · have h := headCol_new (w.alloc (.cells #[.slice none 0 0, .slice none 0 0] 77)) 109 5 1 (arrY w.heap.size) (by decide)
    rw [World.size_alloc] at h
    exact h
  · exact (strCol_new w 77 (by decide)).keep ((Below.refl _ _).alloc (Nat.le_refl _) _)
  · intro k hk; subst hk; simp
  · intro k hk; subst hk; simp; omega
  · intro k hk e; omega

set_option maxRecDepth 100000 in
theorem u8Rows (w : World) (p : Option Addr) (n c : Nat) : Calls Tryz.prog 87 #[.slice p n c] w fun e w' => e = .returned (.int .i64 n) ∧ w = w' := by
  go_enter Tryz.func87, Tryz.ntmps87
  go_wp2_with fail
  go_ret
  exact ⟨rfl, rfl⟩
set_option maxRecDepth 100000 in
theorem u8Row (w : World) (p : Option Addr) (n c i : Nat) (xs : List UInt8) (x : UInt8) (h : FlatAt w (.slice p n c) n (u8s xs)) (hi : xs[i]? = some x) (hn : i < n) : Calls Tryz.prog 86 #[.slice p n c, .int .i64 i] w fun e w' => e = .returned (.int .u8 x.toNat) ∧ w = w' := by
  obtain ⟨g, o, rfl, hc, hx⟩ := h.get (j := i) (x := .int .u8 x.toNat) (by unfold u8s; simp [hi])
  clear h hi
  go_enter Tryz.func86, Tryz.ntmps86
  go_wp2_with fail
  go_ret
  exact ⟨rfl, rfl⟩
set_option maxRecDepth 100000 in
theorem nulRows (w : World) (p : Option Addr) (n c : Nat) (y : Value) : Calls Tryz.prog 84 #[.agg #[.slice p n c, y]] w fun e w' => e = .returned (.int .i64 n) ∧ Below w.heap.size w w' := by
  go_enter Tryz.func84, Tryz.ntmps84
  go_wp2_with (go_at_call 87; refine (u8Rows _ _ _ _).mono ?_; rintro e w1 ⟨rfl, rfl⟩)
  go_ret
  exact ⟨rfl, (Below.refl _ w).alloc (Nat.le_refl _) _⟩

def DecU (w : World) (Fr D Fq Fd : Nat → Prop) (r q d : Nat) (ok : Bool) (mask : List UInt8) (l : List (List UInt8)) (tail : List UInt8) (e : Ending) (w' : World) : Prop :=
  (ok = true → e = .returned .nilIface ∧ ∃ Fr' cur Fq' Fd', RdAt w' Fr' D r tail cur ∧ NulX w' Fq' Fd' q d mask l ∧ Upd w w' (fun k => Fr k ∨ Fq k ∨ Fd k) (fun k => Fr' k ∨ Fq' k ∨ Fd' k) ∧ ∀ k, (Fq' k ∨ Fd' k) → ¬ Fr' k ∧ ¬ D k) ∧
  (ok = false → (∃ a, e = .returned (.iface 131 (.pointer (some a)))) ∧ Chg (fun k => Fr k ∨ Fq k ∨ Fd k) w w')

set_option maxRecDepth 100000 in
set_option maxHeartbeats 1000000 in
theorem nulDecode (w : World) (Fr D Fq Fd : Nat → Prop) (r q d n : Nat) (mask : List UInt8) (l : List (List UInt8)) (tail rest cur : List UInt8) (ok : Bool) (hR : RdAt w Fr D r rest cur) (hX : NulX w Fq Fd q d [] []) (hFq : ∀ k, Fq k → ¬ Fr k ∧ ¬ D k) (hFd : ∀ k, Fd k → ¬ Fr k ∧ ¬ D k)
    (hrest : (ok = true ∧ rest = mask ++ (encS l ++ tail)) ∨ (ok = false ∧ Short rest (mask ++ encS l))) (hbig : rest.length ≤ 1000000000) (hm : mask.length = n) (hl : l.length = n) (hn : n ≤ 100000) (hE : (encS l).length ≤ 1000000000) :
    Calls Tryz.prog 81 #[.pointer (some ⟨q, 0, none⟩), .pointer (some ⟨r, 0, none⟩), .int .i64 n] w (DecU w Fr D Fq Fd r q d ok mask l tail) := by
  have hIr : In Fr w := by obtain ⟨_, _, _, h⟩ := hR; exact h.inF
  have hoff : HeadCol w Fq 109 5 1 q (arrY d) 0 [] := hX.off
  have hcase : (∃ r2, rest = mask ++ r2 ∧ RestI ok l tail 0 r2) ∨ (ok = false ∧ rest.length < mask.length) := by
    rcases hrest with ⟨rfl, h⟩ | ⟨rfl, h⟩
    · exact .inl ⟨_, h, restI_zero (.inl ⟨rfl, rfl⟩)⟩
    · rcases h.split with h | ⟨r2, h, h2⟩
      · exact .inr ⟨rfl, h.lt⟩
      · exact .inl ⟨r2, h, restI_zero (.inr ⟨rfl, h2⟩)⟩
  rcases hcase with ⟨r2, hr, hri⟩ | ⟨rfl, hsh⟩
  · have hr2 : r2.length ≤ 1000000000 := by rw [hr, List.length_append] at hbig; omega
    have H1 := Lib.hid (u8Decode w Fr D Fq _ (arrY d) r q n mask r2 rest cur true hR hoff hFq (.inl ⟨rfl, hr⟩) hm hbig (by omega))
    have HX := Lib.hid (And.intro hX (And.intro hFq (And.intro hFd (And.intro hIr (And.intro hm hri)))))
    have HE := Lib.hid (And.intro hE (And.intro hr2 hl))
    have hmm := fun W => meth_ptr 292 mStrDec Tryz.underlying74 (.pointer (some ⟨d, 0, none⟩)) W
    have hoo := fun W => oStr.2 #[.pointer (some ⟨d, 0, none⟩), .pointer (some ⟨r, 0, none⟩), .int .i64 (n : Int)] W
    clear hR hX hFq hFd hIr hoff hm hl hrest hri hr hr2 hE
    go_enter Tryz.func81, Tryz.ntmps81
    go_wp2_with fail
    refine H1.out.mono ?_
    rintro e w1 ⟨h1, -⟩
    obtain ⟨rfl, Fr1, cur1, F1, hR1, hH1, hU1, hD1⟩ := h1 rfl
    obtain ⟨hX, hFq, hFd, hIr, hm, hri⟩ := HX.out
    obtain ⟨hE, hr2, hl⟩ := HE.out
    obtain ⟨v1, hX1, hF1⟩ := id hH1
    obtain ⟨c0, cs, -, hq1⟩ := hX1.cell
    have c1 := cs 0 _ rfl
    have hcol1 : StrCol w1 Fd 77 d [] := hX.col.chg hU1.chg fun k hk h => by
      rcases h with h | h
      · exact (hFd k hk).1 h
      · exact hX.dis k h hk
    have hd1 : ∀ k, Fd k → ¬ Fr1 k ∧ ¬ D k := fun k hk => ⟨fun e => by
      rcases hU1.new k (.inl e) with (h | h) | h
      · exact (hFd k hk).1 h
      · exact hX.dis k h hk
      · have := hX.ind k hk; omega, (hFd k hk).2⟩
    have H2 := strDecode w1 Fr1 D Fd r d 77 l tail r2 cur1 ok hR1 hri hcol1 hd1 hr2 hE
    rw [hl] at H2
    have H2 := Lib.hid H2
    have HU1 := Lib.hid (And.intro hU1 (And.intro hD1 hH1))
    clear h1 hR1 hH1 hU1 hD1 hX hFq hFd hIr hm hri hE hr2 hl hX1 hF1 cs hcol1 hd1
    go_wp2_with fail
    refine H2.out.mono ?_
    intro e w2 h2
    obtain ⟨hX, hFq, hFd, hIr, hm, hri⟩ := HX.out
    obtain ⟨hU1, hD1, hH1⟩ := HU1.out
    cases ok
    · obtain ⟨⟨a, rfl⟩, hc⟩ := h2.2 rfl
      have HF2 : Hid (Chg (fun k => Fr k ∨ Fq k ∨ Fd k) w w2) := Lib.hid (by
        refine (hU1.chg.mono (G := fun k => Fr k ∨ Fq k ∨ Fd k) fun k _ h => h.elim .inl fun h => .inr (.inl h)).trans hc fun k hk h => ?_
        rcases h with h | h
        · rcases hU1.new k (.inl h) with (h | h) | h
          · exact .inl h
          · exact .inr (.inl h)
          · omega
        · exact .inr (.inr h))
      clear h2 hc hX hFq hFd hIr hm hri hU1 hD1 hH1
      go_wp2_with (go_at_call 48; refine (wrapErr _ _ _ _).mono ?_; rintro e w3 ⟨⟨a2, rfl⟩, hb3⟩)
      go_ret
      exact ⟨fun h => by simp at h, fun _ => ⟨⟨_, rfl⟩, HF2.out.trans (Chg.of_below hb3) fun _ _ h => h⟩⟩
    · obtain ⟨rfl, Fr2, cur2, Fd2, hR2, hS2, hU2, hD2⟩ := h2.1 rfl
      obtain ⟨g1, g2, g3, g4, g5, g6⟩ := halves hIr hX.inq hX.ind hX.dis hFq hFd hU1 hD1 hU2 hD2
      have HF1 := Lib.hid (And.intro hR2 (And.intro (show NulX w2 F1 Fd2 q d mask l from ⟨by rw [hm]; exact hH1.chg hU2.chg g1, hS2, g2.mono hU2.chg.size, g3, g4⟩) (And.intro g5 g6)))
      clear h2 hX hFq hFd hIr hm hri hU1 hD1 hH1 hR2 hS2 hU2 hD2 g1 g2 g3 g4 g5 g6
      go_wp2_with fail
      go_ret
      exact ⟨fun _ => ⟨rfl, Fr2, cur2, F1, Fd2, HF1.out.1, HF1.out.2.1, HF1.out.2.2.1, HF1.out.2.2.2⟩, fun h => by simp at h⟩
  · have H1 := Lib.hid (u8Decode w Fr D Fq _ (arrY d) r q n mask tail rest cur false hR hoff hFq (.inr ⟨rfl, hsh⟩) hm hbig (by omega))
    clear hR hX hFq hFd hIr hoff hm hl hrest hE hsh
    go_enter Tryz.func81, Tryz.ntmps81
    go_wp2_with fail
    refine H1.out.mono ?_
    rintro e w1 ⟨-, h1⟩
    obtain ⟨⟨a, rfl⟩, hc⟩ := h1 rfl
    have HC := Lib.hid hc
    clear h1 hc
    go_wp2_with (go_at_call 48; refine (wrapErr _ _ _ _).mono ?_; rintro e w3 ⟨⟨a2, rfl⟩, hb3⟩)
    go_ret
    exact ⟨fun h => by simp at h, fun _ => ⟨⟨_, rfl⟩, (HC.out.mono fun _ _ h => h.elim .inl fun h => .inr (.inl h)).trans (Chg.of_below hb3) fun _ _ h => h⟩⟩
end Go.Proofs.YtemmhlibbihjmaaGreat
