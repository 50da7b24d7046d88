/- proto.ColArr[string].DecodeColumn. -/
import Derived.Test.YtemmhlibbihjmaaGreatArr
namespace Go.Proofs.YtemmhlibbihjmaaGreat
open Go.RowKit
set_option linter.unusedVariables false
set_option linter.unusedSimpArgs false

def DecA (w : World) (Fr D Fq Fd : Nat → Prop) (r q d : Nat) (ok : Bool) (offs : List Nat) (l : List (List UInt8)) (tail : List UInt8) (e : Ending) (w' : World) : Prop :=
  (ok = true → e = .returned .nilIface ∧ ∃ Fr' cur Fq' Fd', RdAt w' Fr' D r tail cur ∧ ArrX w' Fq' Fd' q d offs l ∧ Upd w w' (fun k => Fr k ∨ Fq k ∨ Fd k) (fun k => Fr' k ∨ Fq' k ∨ Fd' k) ∧ ∀ k, (Fq' k ∨ Fd' k) → ¬ Fr' k ∧ ¬ D k) ∧
  (ok = false → (∃ a, e = .returned (.iface 131 (.pointer (some a)))) ∧ Chg (fun k => Fr k ∨ Fq k ∨ Fd k) w w')

/-- What the two halves' blocks have to do with each other. -/
theorem halves {w w1 w2 : World} {Fr Fq Fd Fr1 F1 Fr2 Fd2 D : Nat → Prop} (hIr : In Fr w) (hIq : In Fq w) (hId : In Fd w) (hdis : Disj Fq Fd) (hFq : ∀ k, Fq k → ¬ Fr k ∧ ¬ D k) (hFd : ∀ k, Fd k → ¬ Fr k ∧ ¬ D k)
    (hU1 : Upd w w1 (fun k => Fr k ∨ Fq k) (fun k => Fr1 k ∨ F1 k)) (hD1 : ∀ k, F1 k → ¬ Fr1 k ∧ ¬ D k) (hU2 : Upd w1 w2 (fun k => Fr1 k ∨ Fd k) (fun k => Fr2 k ∨ Fd2 k)) (hD2 : ∀ k, Fd2 k → ¬ Fr2 k ∧ ¬ D k) :
    (Disj F1 (fun k => Fr1 k ∨ Fd k)) ∧ In F1 w1 ∧ In Fd2 w2 ∧ Disj F1 Fd2 ∧ Upd w w2 (fun k => Fr k ∨ Fq k ∨ Fd k) (fun k => Fr2 k ∨ F1 k ∨ Fd2 k) ∧ ∀ k, (F1 k ∨ Fd2 k) → ¬ Fr2 k ∧ ¬ D k := by
  have hs1 := hU1.chg.size
  have hs2 := hU2.chg.size
  have a1 : ∀ k, F1 k → (Fr k ∨ Fq k) ∨ (w.heap.size ≤ k ∧ k < w1.heap.size) := fun k hk => hU1.new k (.inr hk)
  have n1 : ∀ k, F1 k → ¬ Fd k := fun k hk hd => by
    rcases a1 k hk with (h | h) | h
    · exact (hFd k hd).1 h
    · exact hdis k h hd
    · have := hId k hd; omega
  have i1 : In F1 w1 := fun k hk => by
    rcases a1 k hk with (h | h) | h
    · have := hIr k h; omega
    · have := hIq k h; omega
    · exact h.2
  have r1 : ∀ k, Fr1 k → k < w1.heap.size := fun k hk => by
    rcases hU1.new k (.inl hk) with (h | h) | h
    · have := hIr k h; omega
    · have := hIq k h; omega
    · exact h.2
  have b2 : ∀ k, (Fr2 k ∨ Fd2 k) → (Fr1 k ∨ Fd k) ∨ (w1.heap.size ≤ k ∧ k < w2.heap.size) := fun k hk => hU2.new k hk
  have n2 : ∀ k, F1 k → ¬ (Fr2 k ∨ Fd2 k) := fun k hk h => by
    rcases b2 k h with (h | h) | h
    · exact (hD1 k hk).1 h
    · exact n1 k hk h
    · have := i1 k hk; omega
  refine ⟨fun k hk h => ?_, i1, fun k hk => ?_, fun k hk h => n2 k hk (.inr h), ⟨?_, fun k hk => ?_⟩, fun k hk => ?_⟩
  · rcases h with h | h
    · exact (hD1 k hk).1 h
    · exact n1 k hk h
  · rcases b2 k (.inr hk) with (h | h) | h
    · have := r1 k h; omega
    · have := hId k h; omega
    · exact h.2
  · refine (hU1.chg.mono (G := fun k => Fr k ∨ Fq k ∨ Fd k) fun k _ h => h.elim .inl fun h => .inr (.inl h)).trans hU2.chg fun k hk h => ?_
    rcases h with h | h
    · rcases hU1.new k (.inl h) with (h | h) | h
      · exact .inl h
      · exact .inr (.inl h)
      · omega
    · exact .inr (.inr h)
  · have key : ∀ k, (Fr1 k ∨ F1 k) → (Fr k ∨ Fq k ∨ Fd k) ∨ (w.heap.size ≤ k ∧ k < w2.heap.size) := fun k h => by
      rcases hU1.new k h with (h | h) | h
      · exact .inl (.inl h)
      · exact .inl (.inr (.inl h))
      · exact .inr ⟨h.1, by omega⟩
    have key2 : ∀ k, (Fr2 k ∨ Fd2 k) → (Fr k ∨ Fq k ∨ Fd k) ∨ (w.heap.size ≤ k ∧ k < w2.heap.size) := fun k h => by
      rcases b2 k h with (h | h) | h
      · exact key k (.inl h)
      · exact .inl (.inr (.inr h))
      · exact .inr ⟨by omega, h.2⟩
    rcases hk with h | h | h
    · exact key2 k (.inl h)
    · exact key k (.inr h)
    · exact key2 k (.inr h)
  · rcases hk with h | h
    · exact ⟨fun e => n2 k h (.inl e), (hD1 k h).2⟩
    · exact hD2 k h

theorem restI_zero {ok : Bool} {l : List (List UInt8)} {tail rest : List UInt8} (h : (ok = true ∧ rest = encS l ++ tail) ∨ (ok = false ∧ Short rest (encS l))) : RestI ok l tail 0 rest := by
  unfold RestI
  simpa using h

set_option maxRecDepth 100000 in
set_option maxHeartbeats 1000000 in
theorem arrDecode (w : World) (Fr D Fq Fd : Nat → Prop) (r q d : Nat) (ll : List (List ByteArray)) (tail rest cur : List UInt8) (ok : Bool) (hR : RdAt w Fr D r rest cur) (hX : ArrX w Fq Fd q d [] []) (hFq : ∀ k, Fq k → ¬ Fr k ∧ ¬ D k) (hFd : ∀ k, Fd k → ¬ Fr k ∧ ¬ D k)
    (hrest : (ok = true ∧ rest = (offsOf ll).flatMap le8 ++ (encS (bytesOf ll.flatten) ++ tail)) ∨ (ok = false ∧ Short rest ((offsOf ll).flatMap le8 ++ encS (bytesOf ll.flatten)))) (hbig : rest.length ≤ 1000000000) (hl : ll.length ≤ 100000) (hf : ll.flatten.length ≤ 100000000) (hE : (encS (bytesOf ll.flatten)).length ≤ 1000000000) :
    Calls Tryz.prog 75 #[.pointer (some ⟨q, 0, none⟩), .pointer (some ⟨r, 0, none⟩), .int .i64 ll.length] w (DecA w Fr D Fq Fd r q d ok (offsOf ll) (bytesOf ll.flatten) tail) := by
  have hIr : In Fr w := by obtain ⟨_, _, _, h⟩ := hR; exact h.inF
  have hoff : HeadCol w Fq 124 57 1 q (arrY d) 0 [] := hX.off
  have hlen := offsOf_length ll
  have h64 : ∀ x ∈ offsOf ll, x < 18446744073709551616 := fun x hx => by
    have := sumsOf_le _ x hx
    rw [lensOf_sum] at this
    omega
  have hlast : ∀ m, ll.length = m + 1 → (offsOf ll)[m]? = some ll.flatten.length := fun m hm => by
    rw [offsOf_get ll m (by omega), ← hm, List.take_length, lensOf_sum]
  have hLl : (bytesOf ll.flatten).length = ll.flatten.length := by unfold bytesOf; rw [List.length_map]
  have hnil : ll.length = 0 → ll.flatten.length = 0 := fun h => by
    rw [List.length_eq_zero_iff.1 h]; rfl
  have hcase : (∃ r2, rest = (offsOf ll).flatMap le8 ++ r2 ∧ RestI ok (bytesOf ll.flatten) tail 0 r2) ∨ (ok = false ∧ rest.length < ((offsOf ll).flatMap le8).length) := by
    rcases hrest with ⟨rfl, h⟩ | ⟨rfl, h⟩
    · exact .inl ⟨_, h, restI_zero (.inl ⟨rfl, rfl⟩)⟩
    · rcases h.split with h | ⟨r2, h, h2⟩
      · exact .inr ⟨rfl, h.lt⟩
      · exact .inl ⟨r2, h, restI_zero (.inr ⟨rfl, h2⟩)⟩
  generalize offsOf ll = offs at *
  generalize hL : bytesOf ll.flatten = L at *
  obtain ⟨S, hS⟩ : ∃ S, S = ll.flatten.length := ⟨_, rfl⟩
  rw [← hS] at hf hLl hlast hnil
  obtain ⟨n, hn⟩ : ∃ n, n = ll.length := ⟨_, rfl⟩
  rw [← hn] at hl hlen hlast hnil ⊢
  rcases hcase with ⟨r2, hr, hri⟩ | ⟨rfl, hsh⟩
  · have hr2 : r2.length ≤ 1000000000 := by rw [hr, List.length_append] at hbig; omega
    have H1 := Lib.hid (u64Decode w Fr D Fq _ (arrY d) r q n offs r2 rest cur true hR hoff hFq (.inl ⟨rfl, hr⟩) hlen hbig (by omega) h64)
    have HX := Lib.hid (And.intro hX (And.intro hFq (And.intro hFd (And.intro hIr (And.intro hlen hri)))))
    have HLAST := Lib.hid (And.intro hlast hnil)
    have HE := Lib.hid (And.intro hE (And.intro hr2 hLl))
    have hmm := fun W => meth_ptr 292 mStrDec Tryz.underlying74 (.pointer (some ⟨d, 0, none⟩)) W
    have hoo := fun W => oStr.2 #[.pointer (some ⟨d, 0, none⟩), .pointer (some ⟨r, 0, none⟩), .int .i64 (S : Int)] W
    have hwS : IntKind.i64.wrap (S : Int) = (S : Int) := by rw [IntKind.wrap_i64]; omega
    clear hR hX hFq hFd hIr hoff hlen h64 hlast hLl hnil hrest hri hr hr2 hE hL hS hn
    go_enter Tryz.func75, Tryz.ntmps75
    go_wp2_with fail
    refine H1.out.mono ?_
    rintro e w1 ⟨h1, -⟩
    obtain ⟨rfl, Fr1, cur1, F1, hR1, hH1, hU1, hD1⟩ := h1 rfl
    obtain ⟨hX, hFq, hFd, hIr, hlen, hri⟩ := HX.out
    obtain ⟨hE, hr2, hLl⟩ := HE.out
    obtain ⟨v1, hX1, hF1⟩ := id hH1
    obtain ⟨p1, k1, rfl⟩ := hX1.slice
    obtain ⟨c0, cs, -, hq1⟩ := hX1.cell
    have c1 := cs 0 _ rfl
    have hcol1 : StrCol w1 Fd 77 d [] := hX.col.chg hU1.chg fun k hk h => by
      rcases h with h | h
      · exact (hFd k hk).1 h
      · exact hX.dis k h hk
    have hd1 : ∀ k, Fd k → ¬ Fr1 k ∧ ¬ D k := fun k hk => ⟨fun e => by
      rcases hU1.new k (.inl e) with (h | h) | h
      · exact (hFd k hk).1 h
      · exact hX.dis k h hk
      · have := hX.ind k hk; omega, (hFd k hk).2⟩
    have H2 := strDecode w1 Fr1 D Fd r d 77 L tail r2 cur1 ok hR1 hri hcol1 hd1 hr2 hE
    rw [hLl] at H2
    have H2 := Lib.hid H2
    have hfl : FlatAt w1 (.slice p1 n k1) n (u64s offs) := by
      have h : OwnR w1 (fun _ => True) 57 1 (.slice p1 n k1) n (u64s offs) := ⟨hX1.own, fun _ _ => trivial⟩
      exact h.flat
    have HFL := Lib.hid hfl
    have HU1 := Lib.hid (And.intro hU1 (And.intro hD1 hH1))
    clear h1 hR1 hH1 hU1 hD1 hX hFq hFd hIr hlen hri hE hr2 hLl hX1 hF1 cs hcol1 hd1 hfl
    have finish : ∀ (w2 : World) (e : Ending), DecS w1 Fr1 D Fd r d 77 ok L tail e w2 → (ok = true → DecA w Fr D Fq Fd r q d ok offs L tail (.returned .nilIface) w2) ∧ (ok = false → Chg (fun k => Fr k ∨ Fq k ∨ Fd k) w w2) := by
      intro w2 e h2
      obtain ⟨hX, hFq, hFd, hIr, hlen, hri⟩ := HX.out
      obtain ⟨hU1, hD1, hH1⟩ := HU1.out
      refine ⟨fun ho => ⟨fun _ => ?_, fun h => by rw [ho] at h; simp at h⟩, fun ho => ?_⟩
      · obtain ⟨-, Fr2, cur2, Fd2, hR2, hS2, hU2, hD2⟩ := h2.1 ho
        obtain ⟨g1, g2, g3, g4, g5, g6⟩ := halves hIr hX.inq hX.ind hX.dis hFq hFd hU1 hD1 hU2 hD2
        exact ⟨rfl, Fr2, cur2, F1, Fd2, hR2, ⟨by rw [hlen]; exact hH1.chg hU2.chg g1, hS2, g2.mono hU2.chg.size, g3, g4⟩, g5, g6⟩
      · obtain ⟨-, hc⟩ := h2.2 ho
        refine (hU1.chg.mono (G := fun k => Fr k ∨ Fq k ∨ Fd k) fun k _ h => h.elim .inl fun h => .inr (.inl h)).trans hc fun k hk h => ?_
        rcases h with h | h
        · rcases hU1.new k (.inl h) with (h | h) | h
          · exact .inl h
          · exact .inr (.inl h)
          · omega
        · exact .inr (.inr h)
    have FIN := Lib.hid finish
    clear finish
    by_cases hn0 : n = 0
    · subst hn0
      obtain rfl : S = 0 := HLAST.out.2 rfl
      clear HLAST HFL
      go_wp2_with (go_at_call 49; refine (checkRowsV _ 0 (by omega)).mono ?_; rintro e w2 ⟨rfl, rfl⟩)
      refine H2.out.mono ?_
      intro e w2 h2
      obtain ⟨f1, f2⟩ := FIN.out w2 e h2
      cases ok
      · obtain ⟨⟨a, rfl⟩, -⟩ := h2.2 rfl
        have HF2 := Lib.hid (f2 rfl)
        clear h2 f1 f2
        go_wp2_with (go_at_call 48; refine (wrapErr _ _ _ _).mono ?_; rintro e w3 ⟨⟨a2, rfl⟩, hb3⟩)
        go_ret
        exact ⟨fun h => by simp at h, fun _ => ⟨⟨_, rfl⟩, HF2.out.trans (Chg.of_below hb3) fun _ _ h => h⟩⟩
      · obtain ⟨rfl, -⟩ := h2.1 rfl
        have HF1 := Lib.hid (f1 rfl)
        clear h2 f1 f2
        go_wp2_with fail
        go_ret
        exact HF1.out
    · obtain ⟨m, hm⟩ : ∃ m, n = m + 1 := ⟨n - 1, by omega⟩
      obtain ⟨g, o, rfl, -, hlst⟩ := HFL.out.get (j := m) (x := .int .u64 (S : Int)) (by unfold u64s; rw [List.getElem?_map, HLAST.out.1 m hm]; rfl)
      have hnI : (0 : Int) < (n : Int) := by omega
      have hnD : decide (0 < n) = true := decide_eq_true (by omega)
      have hmI : IntKind.i64.wrap ((n : Int) - 1) = (m : Int) := by rw [IntKind.wrap_i64]; omega
      have hmJ : ((n : Int) - 1) = (m : Int) := by omega
      have hml : m < n := by omega
      clear HLAST HFL hm
      go_wp2_with (go_at_call 49; refine (checkRowsV _ S (by omega)).mono ?_; rintro e w2 ⟨rfl, rfl⟩)
      refine H2.out.mono ?_
      intro e w2 h2
      obtain ⟨f1, f2⟩ := FIN.out w2 e h2
      cases ok
      · obtain ⟨⟨a, rfl⟩, -⟩ := h2.2 rfl
        have HF2 := Lib.hid (f2 rfl)
        clear h2 f1 f2
        go_wp2_with (go_at_call 48; refine (wrapErr _ _ _ _).mono ?_; rintro e w3 ⟨⟨a2, rfl⟩, hb3⟩)
        go_ret
        exact ⟨fun h => by simp at h, fun _ => ⟨⟨_, rfl⟩, HF2.out.trans (Chg.of_below hb3) fun _ _ h => h⟩⟩
      · obtain ⟨rfl, -⟩ := h2.1 rfl
        have HF1 := Lib.hid (f1 rfl)
        clear h2 f1 f2
        go_wp2_with fail
        go_ret
        exact HF1.out
  · have H1 := Lib.hid (u64Decode w Fr D Fq _ (arrY d) r q n offs tail rest cur false hR hoff hFq (.inr ⟨rfl, hsh⟩) hlen hbig (by omega) h64)
    clear hR hX hFq hFd hIr hoff hlen h64 hlast hLl hnil hrest hE hL hS hn hsh
    go_enter Tryz.func75, Tryz.ntmps75
    go_wp2_with fail
    refine H1.out.mono ?_
    rintro e w1 ⟨-, h1⟩
    obtain ⟨⟨a, rfl⟩, hc⟩ := h1 rfl
    have HC := Lib.hid hc
    clear h1 hc
    go_wp2_with (go_at_call 48; refine (wrapErr _ _ _ _).mono ?_; rintro e w3 ⟨⟨a2, rfl⟩, hb3⟩)
    go_ret
    exact ⟨fun h => by simp at h, fun _ => ⟨⟨_, rfl⟩, (HC.out.mono fun _ _ h => h.elim .inl fun h => .inr (.inl h)).trans (Chg.of_below hb3) fun _ _ h => h⟩⟩
end Go.Proofs.YtemmhlibbihjmaaGreat
