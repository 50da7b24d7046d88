/- proto.ColMap[string, string]: its memory, rows, DecodeColumn. -/
import Derived.Test.YtemmhlibbihjmaaGreatPrs
namespace Go.Proofs.YtemmhlibbihjmaaGreat
open Go.RowKit
set_option linter.unusedVariables false
set_option linter.unusedSimpArgs false

def mapY (d e : Nat) : List Value := [.iface 74 (.pointer (some ⟨d, 0, none⟩)), .iface 74 (.pointer (some ⟨e, 0, none⟩))]
/-- A ColMap[string, string]: offsets, keys, values. -/
structure MapX (w : World) (Fq Fd Fe : Nat → Prop) (q d e : Nat) (offs : List Nat) (l m : List (List UInt8)) : Prop where
  off : HeadCol w Fq 119 57 1 q (mapY d e) offs.length (u64s offs)
  key : StrCol w Fd 77 d l
  val : StrCol w Fe 77 e m
  inq : In Fq w
  ind : In Fd w
  ine : In Fe w
  dqd : Disj Fq Fd
  dqe : Disj Fq Fe
  dde : Disj Fd Fe
theorem MapX.keep {w w' : World} {Fq Fd Fe : Nat → Prop} {q d e : Nat} {offs : List Nat} {l m : List (List UInt8)} (h : MapX w Fq Fd Fe q d e offs l m) (hb : Below w.heap.size w w') : MapX w' Fq Fd Fe q d e offs l m :=
  ⟨h.off.keep hb, h.key.keep hb, h.val.keep hb, h.inq.mono hb.size, h.ind.mono hb.size, h.ine.mono hb.size, h.dqd, h.dqe, h.dde⟩

theorem load_threeA {w : World} {q : Nat} {v u x : Value} {T ty : TypeId} {fs : Array Field} (h : w.heap[q]? = some (.cells #[v, u, x] T (0, 0))) (hu : Tryz.prog.underlying ty = some (.struct fs)) (hi : (Tryz.prog.info? ty).map (·.size) = some 3) : (loadVar ty ⟨q, 0, none⟩).run Tryz.prog w = .ok (.agg #[v, u, x]) w :=
  run_loadVar_row w q T ty #[v, u, x] (0, 0) _ h hu rfl hi

set_option maxRecDepth 100000 in
theorem newMap (w : World) (d d2 : Nat) : Calls Tryz.prog 46 #[.iface 74 (.pointer (some ⟨d, 0, none⟩)), .iface 74 (.pointer (some ⟨d2, 0, none⟩))] w fun e w' => e = .returned (.pointer (some ⟨w.heap.size, 0, none⟩)) ∧ w' = w.alloc (.cells (.slice none 0 0 :: mapY d d2).toArray 119) := by
  go_enter Tryz.func46, Tryz.ntmps46
  go_wp2_with fail
  go_ret
  exact ⟨rfl, rfl⟩
set_option maxRecDepth 100000 in
theorem mapsNew (w : World) : Calls Tryz.prog 35 #[] w fun e w' => e = .returned (.pointer (some ⟨w.heap.size + 2, 0, none⟩)) ∧ Below w.heap.size w w' ∧ w'.heap.size = w.heap.size + 3 ∧
    MapX w' (· = w.heap.size + 2) (· = w.heap.size) (· = w.heap.size + 1) (w.heap.size + 2) w.heap.size (w.heap.size + 1) [] [] [] := by
  go_enter Tryz.func35, Tryz.ntmps35
  go_wp2_with (go_at_call 46; refine (newMap _ _ _).mono ?_; rintro e w1 ⟨rfl, rfl⟩)
  obtain ⟨A, hA⟩ : ∃ A, A = w.alloc (.cells #[.slice none 0 0, .slice none 0 0] 77) := ⟨_, rfl⟩
  obtain ⟨B, hB⟩ : ∃ B, B = A.alloc (.cells #[.slice none 0 0, .slice none 0 0] 77) := ⟨_, rfl⟩
  have sA : A.heap.size = w.heap.size + 1 := by rw [hA]; simp
  have sB : B.heap.size = w.heap.size + 2 := by rw [hB]; simp [sA]
  have bA : Below w.heap.size w A := by rw [hA]; exact (Below.refl _ w).alloc (Nat.le_refl _) _
  have bB : Below A.heap.size A B := by rw [hB]; exact (Below.refl _ A).alloc (Nat.le_refl _) _
  have k1 := strCol_new w 77 (by decide)
  have k2 := strCol_new A 77 (by decide)
  have k3 := headCol_new B 119 57 1 (mapY w.heap.size (w.heap.size + 1)) (by decide)
  rw [← hA] at k1
  rw [← hB, sA] at k2
  rw [sB] at k3
  have bC : Below B.heap.size B (B.alloc (.cells (.slice none 0 0 :: mapY w.heap.size (w.heap.size + 1)).toArray 119)) := (Below.refl _ B).alloc (Nat.le_refl _) _
  have HF : Hid (Below w.heap.size w (B.alloc (.cells (.slice none 0 0 :: mapY w.heap.size (w.heap.size + 1)).toArray 119)) ∧ (B.alloc (.cells (.slice none 0 0 :: mapY w.heap.size (w.heap.size + 1)).toArray 119)).heap.size = w.heap.size + 3 ∧ MapX (B.alloc (.cells (.slice none 0 0 :: mapY w.heap.size (w.heap.size + 1)).toArray 119)) (· = w.heap.size + 2) (· = w.heap.size) (· = w.heap.size + 1) (w.heap.size + 2) w.heap.size (w.heap.size + 1) [] [] []) := Lib.hid ⟨(bA.trans (bB.mono (by omega))).trans (bC.mono (by omega)), by simp [sB], k3, (k1.keep bB).keep bC, k2.keep bC, fun k hk => by subst hk; simp [sB], fun k hk => by subst hk; simp [sB]; omega, fun k hk => by subst hk; simp [sB], fun k a b => by omega, fun k a b => by omega, fun k a b => by omega⟩
  rw [hB, hA] at HF
  clear hA hB sA sB bA bB k1 k2 k3 bC
  go_wp2_with fail
  go_ret
  exact ⟨by simp, HF.out⟩

set_option maxRecDepth 100000 in
theorem mapRows (w : World) (p : Option Addr) (n c : Nat) (y z : Value) : Calls Tryz.prog 38 #[.agg #[.slice p n c, y, z]] w fun e w' => e = .returned (.int .i64 n) ∧ Below w.heap.size w w' := by
  go_enter Tryz.func38, Tryz.ntmps38
  go_wp2_with (go_at_call 50; refine (u64Rows _ _ _ _).mono ?_; rintro e w1 ⟨rfl, rfl⟩)
  go_ret
  exact ⟨rfl, (Below.refl _ w).alloc (Nat.le_refl _) _⟩

def kk (ll : List (List Pr)) : List (List ByteArray) := ll.map fun l => l.map Prod.fst
def vv (ll : List (List Pr)) : List (List ByteArray) := ll.map fun l => l.map Prod.snd
theorem kk_flat (ll : List (List Pr)) : (kk ll).flatten = ll.flatten.map Prod.fst := by unfold kk; rw [List.map_flatten]
theorem vv_flat (ll : List (List Pr)) : (vv ll).flatten = ll.flatten.map Prod.snd := by unfold vv; rw [List.map_flatten]
theorem kk_length (ll : List (List Pr)) : (kk ll).length = ll.length := by simp [kk]
theorem lensOf_kk (ll : List (List Pr)) : lensOf (kk ll) = ll.map (·.length) := by simp [lensOf, kk]
theorem lensOf_vv (ll : List (List Pr)) : lensOf (vv ll) = ll.map (·.length) := by simp [lensOf, vv]
theorem kk_get {ll : List (List Pr)} {i : Nat} {ps : List Pr} (h : ll[i]? = some ps) : (kk ll)[i]? = some (ps.map Prod.fst) := by simp [kk, h]
theorem vv_get {ll : List (List Pr)} {i : Nat} {ps : List Pr} (h : ll[i]? = some ps) : (vv ll)[i]? = some (ps.map Prod.snd) := by simp [vv, h]

set_option maxRecDepth 100000 in
set_option maxHeartbeats 1000000 in
/-- These bytes are read. -/
theorem mapDecode (w : World) (Fr D Fq Fd Fe : Nat → Prop) (r q d e : Nat) (ll : List (List Pr)) (tail rest cur : List UInt8) (hR : RdAt w Fr D r rest cur) (hX : MapX w Fq Fd Fe q d e [] [] []) (hFq : ∀ k, Fq k → ¬ Fr k ∧ ¬ D k) (hFd : ∀ k, Fd k → ¬ Fr k ∧ ¬ D k) (hFe : ∀ k, Fe k → ¬ Fr k ∧ ¬ D k)
    (hrest : rest = (offsOf (kk ll)).flatMap le8 ++ (encS (bytesOf (kk ll).flatten) ++ (encS (bytesOf (vv ll).flatten) ++ tail))) (hbig : rest.length ≤ 1000000000) (hn : 0 < ll.length) (hl : ll.length ≤ 100000) (hf : ll.flatten.length ≤ 100000000) (hE1 : (encS (bytesOf (kk ll).flatten)).length ≤ 1000000000) (hE2 : (encS (bytesOf (vv ll).flatten)).length ≤ 1000000000) :
    Calls Tryz.prog 37 #[.pointer (some ⟨q, 0, none⟩), .pointer (some ⟨r, 0, none⟩), .int .i64 ll.length] w fun e' w' => e' = .returned .nilIface ∧
      ∃ Fr' cur' Fq' Fd' Fe', RdAt w' Fr' D r tail cur' ∧ MapX w' Fq' Fd' Fe' q d e (offsOf (kk ll)) (bytesOf (kk ll).flatten) (bytesOf (vv ll).flatten) ∧ Chg (fun k => Fr k ∨ (Fq k ∨ Fd k) ∨ Fe k) w w' := by
  have hIr : In Fr w := by obtain ⟨_, _, _, h⟩ := hR; exact h.inF
  have hoff : HeadCol w Fq 119 57 1 q (mapY d e) 0 [] := hX.off
  have hlen : (offsOf (kk ll)).length = ll.length := by rw [offsOf_length, kk_length]
  have hkf : (kk ll).flatten.length = ll.flatten.length := by rw [kk_flat, List.length_map]
  have hvf : (vv ll).flatten.length = ll.flatten.length := by rw [vv_flat, List.length_map]
  have h64 : ∀ x ∈ offsOf (kk ll), x < 18446744073709551616 := fun x hx => by
    have := sumsOf_le _ x hx
    rw [lensOf_sum, hkf] at this
    omega
  have hlast : ∀ m, ll.length = m + 1 → (offsOf (kk ll))[m]? = some ll.flatten.length := fun m hm => by
    rw [offsOf_get (kk ll) m (by rw [kk_length]; omega), ← hm, ← kk_length, List.take_length, lensOf_sum, hkf]
  have hKl : (bytesOf (kk ll).flatten).length = ll.flatten.length := by unfold bytesOf; rw [List.length_map, hkf]
  have hVl : (bytesOf (vv ll).flatten).length = ll.flatten.length := by unfold bytesOf; rw [List.length_map, hvf]
  generalize offsOf (kk ll) = offs at *
  generalize bytesOf (kk ll).flatten = K at *
  generalize bytesOf (vv ll).flatten = V at *
  obtain ⟨S, hS⟩ : ∃ S, S = ll.flatten.length := ⟨_, rfl⟩
  rw [← hS] at hf hKl hVl hlast
  obtain ⟨n, hnn⟩ : ∃ n, n = ll.length := ⟨_, rfl⟩
  rw [← hnn] at hl hlen hlast hn ⊢
  have hr2 : (encS K ++ (encS V ++ tail)).length ≤ 1000000000 := by rw [hrest, List.length_append] at hbig; omega
  have hr3 : (encS V ++ tail).length ≤ 1000000000 := by rw [List.length_append] at hr2; omega
  have H1 := Lib.hid (u64Decode w Fr D Fq _ (mapY d e) r q n offs (encS K ++ (encS V ++ tail)) rest cur true hR hoff hFq (.inl ⟨rfl, hrest⟩) hlen hbig (by omega) h64)
  have HX := Lib.hid (And.intro hX (And.intro hFq (And.intro hFd (And.intro hFe (And.intro hIr hlen)))))
  have HE := Lib.hid (And.intro hE1 (And.intro hE2 (And.intro hr2 (And.intro hr3 (And.intro hKl hVl)))))
  obtain ⟨m, hm⟩ : ∃ m, n = m + 1 := ⟨n - 1, by omega⟩
  have HLAST := Lib.hid (hlast m hm)
  have hmm := fun W => meth_ptr 292 mStrDec Tryz.underlying74 (.pointer (some ⟨d, 0, none⟩)) W
  have hmm2 := fun W => meth_ptr 292 mStrDec Tryz.underlying74 (.pointer (some ⟨e, 0, none⟩)) W
  have hoo := fun W => oStr.2 #[.pointer (some ⟨d, 0, none⟩), .pointer (some ⟨r, 0, none⟩), .int .i64 (S : Int)] W
  have hoo2 := fun W => oStr.2 #[.pointer (some ⟨e, 0, none⟩), .pointer (some ⟨r, 0, none⟩), .int .i64 (S : Int)] W
  have hwS : IntKind.i64.wrap (S : Int) = (S : Int) := by rw [IntKind.wrap_i64]; omega
  have hn0 : ¬ (n : Int) = 0 := by omega
  have hmI : IntKind.i64.wrap ((n : Int) - 1) = (m : Int) := by rw [IntKind.wrap_i64]; omega
  have hmJ : ((n : Int) - 1) = (m : Int) := by omega
  have hml : m < n := by omega
  clear hR hX hFq hFd hFe hIr hoff hlen hkf hvf h64 hlast hKl hVl hrest hr2 hr3 hE1 hE2 hS hnn hm
  go_enter Tryz.func37, Tryz.ntmps37
  go_wp2_with fail
  refine H1.out.mono ?_
  rintro e1 w1 ⟨h1, -⟩
  obtain ⟨rfl, Fr1, cur1, F1, hR1, hH1, hU1, hD1⟩ := h1 rfl
  obtain ⟨hX, hFq, hFd, hFe, hIr, hlen⟩ := HX.out
  obtain ⟨hE1, hE2, hr2, hr3, hKl, hVl⟩ := HE.out
  obtain ⟨v1, hX1, hF1⟩ := id hH1
  obtain ⟨p1, k1, rfl⟩ := hX1.slice
  obtain ⟨c0, cs, -, hq1⟩ := hX1.cell
  have c1 := cs 0 _ rfl
  have c2 := cs 1 _ rfl
  have hcol1 : StrCol w1 Fd 77 d [] := hX.key.chg hU1.chg fun k hk h => by
    rcases h with h | h
    · exact (hFd k hk).1 h
    · exact hX.dqd k h hk
  have hd1 : ∀ k, Fd k → ¬ Fr1 k ∧ ¬ D k := fun k hk => ⟨fun e => by
    rcases hU1.new k (.inl e) with (h | h) | h
    · exact (hFd k hk).1 h
    · exact hX.dqd k h hk
    · have := hX.ind k hk; omega, (hFd k hk).2⟩
  have H2 := strDecode w1 Fr1 D Fd r d 77 K (encS V ++ tail) (encS K ++ (encS V ++ tail)) cur1 true hR1 (restI_zero (.inl ⟨rfl, rfl⟩)) hcol1 hd1 hr2 hE1
  rw [hKl] at H2
  have H2 := Lib.hid H2
  have hfl : FlatAt w1 (.slice p1 n k1) n (u64s offs) := by
    have h : OwnR w1 (fun _ => True) 57 1 (.slice p1 n k1) n (u64s offs) := ⟨hX1.own, fun _ _ => trivial⟩
    exact h.flat
  obtain ⟨g, o, rfl, -, hlst⟩ := hfl.get (j := m) (x := .int .u64 (S : Int)) (by unfold u64s; rw [List.getElem?_map, HLAST.out]; rfl)
  have HU1 := Lib.hid (And.intro hU1 (And.intro hD1 (And.intro hH1 hF1)))
  clear h1 hR1 hH1 hU1 hD1 hX hFq hFd hFe hIr hlen hE1 hE2 hr2 hr3 hKl hVl hX1 hF1 cs hcol1 hd1 hfl
  go_wp2_with (go_at_call 49; refine (checkRowsV _ S (by omega)).mono ?_; rintro e2 w2 ⟨rfl, rfl⟩)
  refine H2.out.mono ?_
  rintro e2 w2 ⟨h2, -⟩
  obtain ⟨rfl, Fr2, cur2, Fd2, hR2, hS2, hU2, hD2⟩ := h2 rfl
  obtain ⟨hX, hFq, hFd, hFe, hIr, hlen⟩ := HX.out
  obtain ⟨hE1, hE2, hr2, hr3, hKl, hVl⟩ := HE.out
  obtain ⟨hU1, hD1, hH1, hF1⟩ := HU1.out
  obtain ⟨g1, g2, g3, g4, g5, g6⟩ := halves hIr hX.inq hX.ind hX.dqd hFq hFd hU1 hD1 hU2 hD2
  have hq1n : ¬ (Fr1 q ∨ Fd q) := g1 q (hF1 q (.inl rfl))
  have j2 : w2.cell? ⟨q, 2, none⟩ = some (.iface 74 (.pointer (some ⟨e, 0, none⟩))) := by rw [hU2.chg.cell (p := ⟨q, 2, none⟩) hq1 hq1n]; exact c2
  have hcol2 : StrCol w2 Fe 77 e [] := hX.val.chg g5.chg fun k hk h => by
    rcases h with h | h | h
    · exact (hFe k hk).1 h
    · exact hX.dqe k h hk
    · exact hX.dde k h hk
  have hd2 : ∀ k, Fe k → ¬ Fr2 k ∧ ¬ D k := fun k hk => ⟨fun e => by
    rcases g5.new k (.inl e) with (h | h | h) | h
    · exact (hFe k hk).1 h
    · exact hX.dqe k h hk
    · exact hX.dde k h hk
    · have := hX.ine k hk; omega, (hFe k hk).2⟩
  have H3 := strDecode w2 Fr2 D Fe r e 77 V tail (encS V ++ tail) cur2 true hR2 (restI_zero (.inl ⟨rfl, rfl⟩)) hcol2 hd2 hr3 hE2
  rw [hVl] at H3
  have H3 := Lib.hid H3
  have hq2 : q < w2.heap.size := World.block_lt_of_cell? _ _ j2
  have HU2 := Lib.hid (And.intro hU2 (And.intro hS2 (And.intro g1 (And.intro g2 (And.intro g3 (And.intro g4 (And.intro g5 g6)))))))
  clear h2 hR2 hS2 hU2 hD2 hX hFq hFd hFe hIr hlen hE1 hE2 hr2 hr3 hKl hVl hU1 hD1 hH1 hF1 g1 g2 g3 g4 g5 g6 hq1n hcol2 hd2 H2
  go_wp2_with fail
  refine H3.out.mono ?_
  rintro e3 w3 ⟨h3, -⟩
  obtain ⟨rfl, Fr3, cur3, Fe3, hR3, hS3, hU3, hD3⟩ := h3 rfl
  have H4 := Lib.hid (And.intro hR3 (And.intro hS3 (And.intro hU3 hD3)))
  clear h3 hR3 hS3 hU3 hD3 H3
  go_wp2_with fail
  go_ret
  obtain ⟨hX, hFq, hFd, hFe, hIr, hlen⟩ := HX.out
  obtain ⟨hU1, hD1, hH1, hF1⟩ := HU1.out
  obtain ⟨hU2, hS2, g1, g2, g3, g4, g5, g6⟩ := HU2.out
  obtain ⟨hR3, hS3, hU3, hD3⟩ := H4.out
  have hsz2 := hU2.chg.size
  have hsz3 := hU3.chg.size
  obtain ⟨k1, k2, k3, k4, k5, k6⟩ := halves (Fq := fun k => Fq k ∨ Fd k) (F1 := fun k => F1 k ∨ Fd2 k) hIr (fun k hk => hk.elim (hX.inq k) (hX.ind k)) hX.ine (fun k hk h => hk.elim (fun a => hX.dqe k a h) (fun a => hX.dde k a h)) (fun k hk => hk.elim (hFq k) (hFd k)) hFe g5 g6 hU3 hD3
  refine ⟨rfl, Fr3, cur3, F1, Fd2, Fe3, hR3, ⟨?_, ?_, hS3, fun k hk => by have := g2 k hk; omega, fun k hk => by have := g3 k hk; omega, k3, g4, fun k a b => k4 k (.inl a) b, fun k a b => k4 k (.inr a) b⟩, k5.chg⟩
  · rw [hlen]
    exact (hH1.chg hU2.chg g1).chg hU3.chg fun k hk h => k1 k (.inl hk) h
  · exact hS2.chg hU3.chg fun k hk h => k1 k (.inr hk) h
end Go.Proofs.YtemmhlibbihjmaaGreat
