/- proto.ColFixedStr8 .. 512. Written by gen_fx.py. -/
import Derived.Test.YtkidcgaogjlpaaaGreatNumD
import Derived.Test.YtkidcgaogjlpaaaGreatAt
namespace Go.Proofs.YtkidcgaogjlpaaaGreat
open Go.RowKit
set_option linter.unusedVariables false
set_option linter.unusedSimpArgs false
attribute [-go_sem] Instr.buildSlice loadCells
theorem info128 : (Tryz.prog.info? 150).map (·.size) = some 128 := by kernel_rfl
theorem info128z : (Tryz.prog.info? 150).map (fun i => (i.zero, i.size, i.bytes)) = some (some (.agg (Array.replicate 128 (.int .u8 0))), 128, 128) := by kernel_rfl
theorem elem128 : Elem 149 150 128 128 := elem_of Tryz.underlying149 info128z (by simp [Value.cells]) (by decide)
theorem zero128 : ∀ w, (zeroValue 150).run Tryz.prog w = .ok (.agg (Array.replicate 128 (.int .u8 0))) w := (zero_of_info (by have h := info128z; cases hq : Tryz.prog.info? 150 with | none => simp [hq] at h | some i => simp [hq] at h ⊢; exact ⟨h.1, h.2.1⟩)).1




set_option maxRecDepth 100000 in
theorem fixAppend128 (w : World) (F : Nat → Prop) (q n : Nat) (xs : List Value) (s : List UInt8) (hs : s.length = 128) (h : NumCol w F 149 150 128 q n xs) (hn : n + 1 ≤ 100000000) :
    Calls Tryz.prog 208 #[.pointer (some ⟨q, 0, none⟩), .agg (u8s s).toArray] w (PutN w F 149 150 128 q (n + 1) (xs ++ u8s s)) := by
  obtain ⟨v, hX, hF⟩ := h
  obtain ⟨c0, cf, hlt⟩ := hX.cell
  obtain ⟨p0, k0, rfl⟩ := hX.slice
  have hl : (u8s s).length = 128 := by simp [u8s, hs]
  have HX := Lib.hid hX
  have HF := Lib.hid hF
  obtain ⟨cs, hcs⟩ : ∃ cs, cs = u8s s := ⟨_, rfl⟩
  have H1 : Hid (∀ u ∈ cs, u.oneCell' = true) := Lib.hid (by rw [hcs]; exact u8s_one s)
  rw [← hcs] at hl ⊢
  have HL := Lib.hid hl
  have hld := load_new w cs 150
  rw [hl] at hld
  have hbs := fun W => run_build1 elem128 (by decide) W cs hl
  have HXA := Lib.hid (hX.keep (((Below.refl _ w).alloc (Nat.le_refl _) (.cells cs.toArray 150)).alloc (by simp) (.cells cs.toArray 150))).drew
  have HSR := Lib.hid (src_box elem128 w (.cells cs.toArray 150) cs 150 hl H1.out)
  clear hcs hl hX hF
  go_enter Tryz.func208, Tryz.ntmps208
  go_wp2_with fail
  go_region_law ((refine step_num elem128 (by rfl) _ q _ _ _ HXA.out _ _ _ (by rfl) (by rfl) _ (by rfl) 1 _ HSR.out (by omega) (by omega) ?_; intro p1 k1 w1 G1; have e0 := G1.c0; have ef := G1.cf))
  all_goals
    go_returns
    exact putN_of HF.out G1.ok ((((Upd.refl _ w).alloc _).alloc _).trans G1.upd.ofDrew)





set_option maxRecDepth 100000 in
theorem out128 (w : World) (s : List UInt8) (hs : s.length = 128) : Calls Tryz.prog 50 #[.agg (u8s s).toArray] w fun e w' => e = .returned (.slice (some ⟨w.heap.size, 0, none⟩) 128 128) ∧ w' = w.alloc (.cells (u8s s).toArray 150) := by
  go_enter Tryz.func50, Tryz.ntmps50
  go_wp2_with fail
  go_ret
  exact ⟨rfl, rfl⟩

theorem outB128 (w : World) (s : List UInt8) (cs : Array Value) (hc : cs = (u8s s).toArray) (hs : s.length = 128) : Calls Tryz.prog 50 #[.agg cs] w fun e w' => e = .returned (.slice (some ⟨w.heap.size, 0, none⟩) 128 128) ∧ BytesAt w' (.slice (some ⟨w.heap.size, 0, none⟩) 128 128) s ∧ Below w.heap.size w w' := by
  subst hc
  refine (out128 w s hs).mono ?_
  rintro e w' ⟨rfl, rfl⟩
  have h := bytesAt_row w s 150
  rw [hs] at h
  exact ⟨rfl, h, (Below.refl _ w).alloc (Nat.le_refl _) _⟩
set_option maxRecDepth 100000 in
theorem in128 (w : World) (x : Value) (s : List UInt8) (hx : BytesX w x s) (hs : s.length = 128) : Calls Tryz.prog 49 #[x] w fun e w' => e = .returned (.agg (u8s s).toArray) ∧ Below w.heap.size w w' := by
  obtain ⟨b, off, c, rfl, hc, hr⟩ := hx.range (by omega)
  have hl : (u8s s).length = 128 := by simp [u8s, hs]
  have h1 := u8s_one s
  rw [hs] at hc ⊢
  obtain ⟨cs, hcs⟩ : ∃ cs, cs = u8s s := ⟨_, rfl⟩
  rw [← hcs] at hr hl h1 ⊢
  have hld := fun o => load_mid (range_alloc hr o)
  have hst := store_new w cs 150 h1
  have hz0 := zero128
  rw [hl] at hld hst
  have hfin := load_mid (cs := cs) (range_new w cs 150)
  rw [hl] at hfin
  clear hx hr h1 hcs hs
  have har := fun W a c => run_arrayAt Tryz.underlying150 W a c
  go_enter Tryz.func49, Tryz.ntmps49
  go_wp2_with fail
  refine bodyPost_ret (v := .agg cs.toArray) (by simp [results, Tryz.results49, go_sem, hfin]) rfl ⟨rfl, (Below.refl _ w).alloc (Nat.le_refl _) _⟩
set_option maxRecDepth 100000 in
theorem fixRow128 (w : World) (v : Value) (g off n c i : Nat) (cs : List Value) (hi : i < n) (hn : n ≤ 8796093022208) (hr : w.rangeAt g (off + i * 128) cs) (hl : cs.length = 128) (h1 : ∀ u ∈ cs, u.oneCell' = true) :
   Calls Tryz.prog 213 #[.slice (some ⟨g, off, none⟩) n c, .int .i64 i] w fun e w' => e = .returned (.agg cs.toArray) ∧ Below w.heap.size w w' := by
  have hld := fun o => load_mid (range_alloc hr o)
  have hst := store_new w cs 150 h1
  have hz0 := zero128
  rw [hl] at hld hst
  have hfin := load_mid (cs := cs) (range_new w cs 150)
  rw [hl] at hfin
  clear hr h1
  go_enter Tryz.func213, Tryz.ntmps213
  go_wp2_with fail
  refine bodyPost_ret (v := .agg cs.toArray) (by simp [results, Tryz.results213, go_sem, hfin]) rfl ⟨rfl, (Below.refl _ w).alloc (Nat.le_refl _) _⟩
set_option maxRecDepth 100000 in
set_option maxHeartbeats 1000000 in
theorem fixEncode128 (w : World) (F : Nat → Prop) (p : Nat) (bs : List UInt8) (v : Value) (n : Nat) (flat : List UInt8) (hB : BufAt w F 179 p bs) (hF : In F w) (h : NumV w v n 128 (u8s flat)) (hv : ∀ g, v.ownBlock = some g → ¬ F g)
    (hl : bs.length + n * 128 ≤ 140737488355328) :
    Calls Tryz.prog 211 #[v, .pointer (some ⟨p, 0, none⟩)] w (Put w F 179 p (bs ++ flat)) := by
  obtain ⟨hfl, hcase⟩ := h
  rw [u8s_length] at hfl
  rcases hcase with ⟨rfl, rfl⟩ | ⟨gx, cx, rfl, hcx, hgx, hx⟩
  · obtain rfl : flat = [] := List.length_eq_zero_iff.1 (by omega)
    go_enter Tryz.func211, Tryz.ntmps211
    go_wp2_with fail
    go_returns
    exact ⟨rfl, F, by simpa using hB, Upd.refl _ _⟩
  · by_cases hn0 : n = 0
    · subst hn0
      obtain rfl : flat = [] := List.length_eq_zero_iff.1 (by omega)
      clear hx
      go_enter Tryz.func211, Tryz.ntmps211
      go_wp2_with fail
      go_returns
      exact ⟨rfl, F, by simpa using hB, Upd.refl _ _⟩
    · have hnI : ¬ (n : Int) = 0 := by omega
      obtain ⟨vb, hcb, hfb, hlb⟩ := hB.cell
      obtain ⟨pb, kb, rfl⟩ : ∃ p k, vb = .slice p bs.length k := by
        obtain ⟨v', h1, h2, -⟩ := hB.bytes
        rw [hcb] at h1
        obtain rfl := Option.some.inj h1
        exact h2.slice
      have hml : IntKind.i64.wrap (128 * (n : Int)) = ((n * 128 : Nat) : Int) := by rw [IntKind.wrap_i64]; omega
      have HB := Lib.hid hB
      have HX := Lib.hid hx
      have HF := Lib.hid hF
      have HFL := Lib.hid hfl
      have hgF := hv gx rfl
      have hgx0 := hgx
      clear hB hx hF hv hfl
      go_enter Tryz.func211, Tryz.ntmps211
      go_wp2_with (at_builtin; refine list_zeros_bufs rfl _ F _ p bs (n * 128) (by omega) _ _ rfl HB.out _ hcb rfl rfl hl ?_; intro g c w1 hc1 hf1 hst1)
      obtain ⟨F2, hB2, hu2⟩ := hst1
      obtain ⟨W1, hW1⟩ : ∃ W1, W1 = w1.setCell ⟨p, 0, none⟩ (.slice (some ⟨g, 0, none⟩) (bs.length + n * 128) c) := ⟨_, rfl⟩
      have hcW : W1.cell? ⟨p, 0, none⟩ = some (.slice (some ⟨g, 0, none⟩) (bs.length + n * 128) c) := by rw [hW1]; go_simp
      rw [← hW1] at hB2 hu2 ⊢
      obtain ⟨hG, hgF2, hpF2⟩ := hB2.two hcW
      have hgx : gx ≠ g := fun e => by
        rcases hu2.new g hgF2 with h | h
        · exact hgF (e ▸ h)
        · omega
      have hxW : W1.rangeAt gx 0 (u8s flat) := fun j x hj => by rw [hu2.chg.cell (p := ⟨gx, 0 + j, none⟩) hgx0 hgF]; exact HX.out j x hj
      have HG := Lib.hid hG
      have HU2 := Lib.hid hu2
      have HXW := Lib.hid hxW
      have HF2 := Lib.hid (And.intro hgF2 hpF2)
      obtain ⟨L, hL⟩ : ∃ L, L = bs.length + n * 128 := ⟨_, rfl⟩
      have HLL := Lib.hid hL
      rw [← hL] at HG
      clear hG hu2 hxW hgF2 hpF2 hB2 hcW hW1 hc1 hf1 hL
      go_loopw [5, 30] (fun vo vi wr => ∃ i off : Nat, i ≤ n ∧ vi = .int .i64 i ∧ vo = .int .i64 off ∧ off = bs.length + i * 128 ∧ BufG wr 179 p g L c (halfway bs flat 128 n i) ∧ Chg (· = g) W1 wr) (fun _ vi _ => n - (intOf vi).toNat)
      case atStart => exact ⟨0, bs.length, Nat.zero_le _, rfl, rfl, by simp, by rw [halfway_zero]; exact HG.out, Chg.refl _ _⟩
      case round =>
        obtain ⟨i, off, hi, rfl, rfl, hoff, hBG, hchg⟩ := hrel
        by_cases hlt : i < n
        · obtain ⟨b0, bf, bp, bg⟩ := hBG.cells
          obtain ⟨cur, hcur, hcl, hct⟩ := hBG.row
          obtain ⟨hl1, hl2, hl3⟩ := hBG.len
          obtain ⟨row, hrow⟩ : ∃ row, row = (flat.drop (i * 128)).take 128 := ⟨_, rfl⟩
          have hfl := HFL.out
          have hrl : row.length = 128 := by rw [hrow, List.length_take, List.length_drop, hfl]; omega
          have hnx := halfway_next bs flat 128 n i hfl hlt cur c L hcl HLL.out hl2 hct row hrow off hoff
          have hrr : wr.rangeAt gx (i * 128) (u8s row) := by
            have h := range_row (size := 128) (fun j x hj => by rw [hchg.cell (p := ⟨gx, 0 + j, none⟩) (by have := HU2.out.chg.size; simp; omega) (by simpa using hgx)]; exact HXW.out j x hj : wr.rangeAt gx 0 (u8s flat)) i
            rw [hrow]; simpa [u8s, List.map_take, List.map_drop] using h
          obtain ⟨cs, hcs⟩ : ∃ cs, cs = u8s row := ⟨_, rfl⟩
          have h1 := u8s_one row
          have hcsl : cs.length = 128 := by rw [hcs, u8s_length, hrl]
          rw [← hcs] at hrr h1 hnx
          have hld := load_mid hrr
          have hst := store_new wr cs 150 h1
          have hz0 := zero128
          rw [hcsl] at hld hst
          have hLv := HLL.out
          have w1 : IntKind.i64.wrap ((off : Int) + 128) = (off : Int) + 128 := by rw [IntKind.wrap_i64]; omega
          have n1 : ¬ c = off := by omega
          have n3 : (0 : Int) ≤ (off : Int) + 128 := by omega
          have n4 : ((off : Int) + 128).toNat = off + 128 := by omega
          have n2 : (off : Int) + 128 ≤ (c : Int) := by omega
          have HBG := Lib.hid hBG
          have HCG := Lib.hid hchg
          have HOFF := Lib.hid hoff
          have HNX := Lib.hid hnx
          have HCUR := Lib.hid (And.intro hcur (And.intro hcl hct))
          have HCS := Lib.hid (And.intro h1 hcsl)
          clear hBG hchg hcur hct hnx hrr h1 hcs hrow hl1 hl3 hoff
          go_wp2_with fail
          refine wp_region_still_tail 9 (by kernel_rfl) (by kernel_rfl) ?_
          simp only [List.take_succ_cons, List.take_zero, List.drop_succ_cons, List.drop_zero]
          change wpStill _ _ (World.drew _) _ _ _
          repeat still_step
          refine wpStill_nil ?_
          change wpList _ _ _ _ _ (World.drew _)
          obtain ⟨h1, h2⟩ := HCS.out
          obtain ⟨hcur, hcl', hct⟩ := HCUR.out
          have hcurA : (wr.alloc (.cells cs.toArray 150)).drew.heap[g]? = some (.cells cur.toArray 5 (0, 0)) := by
            show (wr.alloc _).heap[g]? = _
            rw [Below.heap_alloc _ _ _ bg]; exact hcur
          have hSRC : ∀ j v, cs[j]? = some v → (wr.alloc (.cells cs.toArray 150)).drew.cell? ((⟨wr.heap.size, 0, none⟩ : Addr).add j) = some v := fun j v hj => by rw [Addr.add_mid]; exact (World.rangeAt_drew _ _ _ _ |>.2 (range_new wr cs _)) j v hj
          refine list_copy_chg rfl _ _ _ _ rfl 5 Tryz.underlying34 (by kernel_rfl) g off _ _ _ _ _ rfl rfl cur _ hcurA cs (by rw [h2]; rfl) hSRC (by rw [h2, hcl]; omega) h1 ?_
          intro w2 hg2 hc2
          have hbA : Below wr.heap.size wr (wr.alloc (.cells cs.toArray 150)).drew := ((Below.refl _ wr).alloc (Nat.le_refl _) _).drew
          have hB2 : BufG w2 179 p g L c (halfway bs flat 128 n (i + 1)) := by
            obtain ⟨k1, -, ⟨k3, k4, k5⟩, k6⟩ := HBG.out
            exact ⟨by rw [hc2.block p (by simp; omega) (fun e => k6 e.symm), hbA.block p bp]; exact k1, ⟨_, hg2, HNX.out.2, HNX.out.1⟩, ⟨by rw [halfway_length _ _ _ _ _ hfl hlt]; exact HLL.out.symm, k4, k5⟩, k6⟩
          have hC2 : Chg (· = g) W1 w2 := (HCG.out.trans (Chg.of_below hbA) fun _ _ h => h).trans hc2 fun _ _ h => h
          clear hg2 hc2 hcur hct hcl' hcurA hSRC hbA
          go_wp2_with fail
          go_roundw
          case rel => exact ⟨i + 1, off + 128, hlt, by go_num, by go_num, by rw [HOFF.out, Nat.add_mul]; omega, hB2, hC2⟩
          case measure => simp [intOf]; omega
        · obtain rfl : i = n := by omega
          go_wp2_with fail
          go_returns
          rw [halfway_all _ _ _ _ HFL.out] at hBG
          exact ⟨rfl, F2, hBG.buf HF2.out.1 HF2.out.2, ⟨HU2.out.chg.trans hchg fun k hk h => by
            subst h
            rcases HU2.out.new _ HF2.out.1 with h | h
            · exact h
            · omega, fun k hk => by
            rcases HU2.out.new k hk with h | h
            · exact .inl h
            · exact .inr ⟨h.1, by have := hchg.size; omega⟩⟩⟩




set_option maxRecDepth 100000 in
set_option maxHeartbeats 1000000 in
theorem fixDecode128 (w : World) (Fr D F : Nat → Prop) (r q n : Nat) (flat tail rest cur : List UInt8) (ok : Bool) (hR : RdAt w Fr D r rest cur) (hX : NumCol w F 149 150 128 q 0 []) (hF : ∀ k, F k → ¬ Fr k ∧ ¬ D k)
    (hrest : (ok = true ∧ rest = flat ++ tail) ∨ (ok = false ∧ rest.length < flat.length)) (hn : flat.length = n * 128) (hbig : rest.length ≤ 1000000000) (hfl : flat.length ≤ 1000000000) :
    Calls Tryz.prog 210 #[.pointer (some ⟨q, 0, none⟩), .pointer (some ⟨r, 0, none⟩), .int .i64 n] w (DecNum w Fr D F r q 149 150 128 ok n (u8s flat) tail) := by
  obtain ⟨v0, hX, hFX⟩ := hX
  obtain ⟨c0, cf, hlt⟩ := hX.cell
  have hinD : In D w := by obtain ⟨_, _, _, h⟩ := hR; exact h.inD
  by_cases hn0 : n = 0
  · subst hn0
    obtain rfl : flat = [] := List.length_eq_zero_iff.1 (by omega)
    rcases hrest with ⟨rfl, rfl⟩ | ⟨rfl, h⟩
    · have HR := Lib.hid hR
      have HX := Lib.hid (And.intro hX (And.intro hFX hF))
      clear hR hX hFX hF
      go_enter Tryz.func210, Tryz.ntmps210
      go_wp2_with fail
      go_ret
      exact ⟨fun _ => ⟨rfl, Fr, cur, F, HR.out, ⟨v0, HX.out.1, HX.out.2.1⟩, Upd.refl _ _, HX.out.2.2⟩, fun h => by simp at h⟩
    · simp at h
  · have hnI : ¬ (n : Int) = 0 := by omega
    have hml : IntKind.i64.wrap ((n : Int) * 128) = ((n * 128 : Nat) : Int) := by rw [IntKind.wrap_i64]; omega
    rcases hrest with ⟨rfl, rfl⟩ | ⟨rfl, hsh⟩
    · have HRR := Lib.hid (rdRawN w Fr D r flat tail cur (n * 128) hn.symm hR (by omega))
      have HX := Lib.hid (And.intro hX (And.intro hFX (And.intro hF hinD)))
      have HN := Lib.hid hn
      have HC0 := Lib.hid (And.intro c0 cf)
      obtain ⟨p0, k0, rfl⟩ := hX.slice
      clear hR hX hFX hF hinD c0 cf
      go_enter Tryz.func210, Tryz.ntmps210
      go_wp2_with fail
      refine HRR.out.mono ?_
      rintro e w1 ⟨b, vb, F2, hbr, rfl, h2, hbv, hu2⟩
      obtain ⟨hXX, hFX, hF, hinD⟩ := HX.out
      have c1 : w1.cell? ⟨q, 0, none⟩ = some (.slice p0 0 k0) := by rw [hu2.chg.cell (p := ⟨q, 0, none⟩) hlt (hF q (hFX q (.inl rfl))).1]; exact HC0.out.1
      have f1 : w1.frozen? ⟨q, 0, none⟩ = false := by rw [hu2.chg.frozen (p := ⟨q, 0, none⟩) hlt (hF q (hFX q (.inl rfl))).1]; exact HC0.out.2
      obtain ⟨bb, off, cc, rfl, hcc, hbx⟩ : ∃ bb off cc : Nat, vb = .slice (some ⟨bb, off, none⟩) flat.length cc ∧ flat.length ≤ cc ∧ F2 bb := by
        rcases id hbv with ⟨rfl, h⟩ | ⟨bb, off, cc, rfl, hcc, -⟩
        · subst h; simp at hn; omega
        · refine ⟨bb, off, cc, rfl, hcc, ?_⟩
          obtain ⟨FB, hrow, -, hsub⟩ := h2.row
          exact hsub bb (hrow.2.2.2 bb rfl).1
      have HBV := Lib.hid hbv
      have H2 := Lib.hid (And.intro hbr (And.intro h2 (And.intro hu2 hbx)))
      have hln : flat.length = n * 128 := HN.out
      have hxl : (1 : Nat) ≤ n := by omega
      have hld0 : ∃ y : UInt8, w1.cell? ⟨bb, off + (n * 128 - 128), none⟩ = some (.int .u8 y.toNat) := by
        rcases hbv with ⟨h, -⟩ | ⟨b', o', c', h, -, hx⟩
        · simp at h
        · obtain ⟨⟨rfl, rfl⟩, -⟩ : (bb = b' ∧ off = o') ∧ cc = c' := by simpa using h
          exact ⟨_, hx (n * 128 - 128) (by omega)⟩
      obtain ⟨y, hy⟩ := hld0
      have s1 : IntKind.i64.wrap ((n * 128 : Nat) - 128 : Int) = ((n * 128 - 128 : Nat) : Int) := by rw [IntKind.wrap_i64]; omega
      rw [hln]
      clear hbv hbr h2 hu2 hXX hFX hF hinD hbx hn
      go_wp2_with fail
      go_loopw [9, 10] (fun vv vi wr => ∃ k m : Nat, ∃ p c, k ≤ n ∧ m = k * 128 ∧ vi = .int .i64 m ∧ vv = .slice p k c ∧ DecK w1 150 128 (.slice p0 0 k0) flat k (.slice p k c) wr) (fun _ vi _ => n * 128 - (intOf vi).toNat)
      case atStart =>
        obtain ⟨hXX, hFX, hF, hinD⟩ := HX.out
        exact ⟨0, 0, p0, k0, Nat.zero_le _, rfl, rfl, rfl, decK_zero (hXX.chg H2.out.2.2.1.chg fun k hk => (hF k (hFX k hk)).1)⟩
      case round =>
        obtain ⟨k, m, p, c, hk, hm, rfl, rfl, hD⟩ := hrel
        by_cases hkn : k < n
        · obtain ⟨Fk, hown, huk⟩ := hD
          obtain ⟨row, hrow⟩ : ∃ row, row = (flat.drop (k * 128)).take 128 := ⟨_, rfl⟩
          have hrl : row.length = 128 := by rw [hrow, List.length_take, List.length_drop, HN.out]; omega
          have hbr : BytesAt wr (.slice (some ⟨bb, off, none⟩) flat.length cc) flat := HBV.out.keep fun g hg => by
            obtain rfl : bb = g := by simpa [Value.ownBlock] using hg
            obtain ⟨-, hx2, hu2, hb2⟩ := H2.out
            obtain ⟨hXX, hFX, hF, hinD⟩ := HX.out
            refine huk.chg.block bb (hx2.inF bb hb2) fun e => ?_
            rcases hu2.new bb hb2 with h | h
            · exact (hF bb (hFX bb (.inr e))).1 h
            · have := hXX.inn bb (.inr e); omega
          have hrr := row_range hbr k 128 row hrow
          rw [← hm] at hrr
          obtain ⟨cs, hcs⟩ : ∃ cs, cs = u8s row := ⟨_, rfl⟩
          have h1 := u8s_one row
          have hcl : cs.length = 128 := by rw [hcs, u8s_length, hrl]
          rw [← hcs] at hrr h1
          have hld := load_mid hrr
          rw [hcl] at hld
          have har := fun W a c => run_arrayAt Tryz.underlying150 W a c
          have hbs := fun W => run_build1 elem128 (by decide) W cs hcl
          have g1 : IntKind.i64.wrap ((m : Int) + 128) = (m : Int) + 128 := by rw [IntKind.wrap_i64]; omega
          have g2 : (0 : Int) ≤ (m : Int) + 128 := by omega
          have g3 : ((m : Int) + 128).toNat = m + 128 := by omega
          have g4 : (m : Int) + 128 ≤ (cc : Int) := by omega
          have g5 : ¬ cc = m := by omega
          have g6 : (m : Int) ≤ ((n * 128 - 128 : Nat) : Int) := by omega
          have HO := Lib.hid (And.intro hown (And.intro huk (And.intro hrow hcs)))
          have HSR := Lib.hid (src_new elem128 wr.heap.size cs _ (heap_alloc_new wr (.cells cs.toArray 150)) hcl h1 1)
          have HM := Lib.hid hm
          clear hown huk hrow hbr hrr h1 hcs hm
          go_wp2_with (at_builtin; refine append_rows elem128 _ Fk k 1 (u8s (flat.take (k * 128))) _ rfl _ _ _ rfl _ rfl (HO.out.1.keep ((Below.refl _ wr).alloc (Nat.le_refl _) _)) _ rfl HSR.out (by omega) (by omega) ?_; intro p5 c5 w5 F5 hown5 hu5)
          go_roundw
          case rel =>
            obtain ⟨-, h2, h3, h4⟩ := HO.out
            rw [h4] at hown5
            exact ⟨k + 1, m + 128, p5, c5, hkn, by rw [HM.out]; omega, by go_num, rfl, decK_next h3 h2 hown5 hu5⟩
          case measure => simp [intOf]; omega
        · obtain rfl : k = n := by omega
          subst hm
          have g6 : ¬ ((k * 128 : Nat) : Int) ≤ ((k * 128 - 128 : Nat) : Int) := by omega
          have HD := Lib.hid hD
          obtain ⟨Fk, hown, huk⟩ := hD
          obtain ⟨hXX, hFX, hF, hinD⟩ := HX.out
          obtain ⟨hbr, h2, hu2, hbx⟩ := H2.out
          have hq1 : q < w1.heap.size := by have := hu2.chg.size; omega
          have hqn : ¬ (Value.slice p0 0 k0).ownBlock = some q := fun e => hXX.bq e rfl
          have c2 : wr.cell? ⟨q, 0, none⟩ = some (.slice p0 0 k0) := by rw [huk.chg.cell (p := ⟨q, 0, none⟩) hq1 hqn]; exact c1
          have f2 : wr.frozen? ⟨q, 0, none⟩ = false := by rw [huk.chg.frozen (p := ⟨q, 0, none⟩) hq1 hqn]; exact f1
          clear hown huk hXX hFX hF hinD hbr h2 hu2 hbx hqn
          go_wp2_with fail
          go_ret
          obtain ⟨hXX, hFX, hF, hinD⟩ := HX.out
          obtain ⟨hbr, h2, hu2, hbx⟩ := H2.out
          exact decK_done hXX hFX hF hinD hbr h2 hu2 HD.out HN.out
    · have HRR := Lib.hid (rdRawN_short w Fr D r rest cur hR (n * 128) (by omega))
      have HX := Lib.hid (And.intro hFX hF)
      clear hR hX hFX hF hinD
      go_enter Tryz.func210, Tryz.ntmps210
      go_wp2_with (first | (go_at_call 164; refine HRR.out.mono ?_; rintro e w1 ⟨a, F1, cur1, rfl, h1, hu⟩) | (go_at_call 89; refine (wrapErr _ _ _ _).mono ?_; rintro e w2 ⟨⟨a2, rfl⟩, hb2⟩))
      go_ret
      exact ⟨fun h => by simp at h, fun _ => ⟨⟨_, rfl⟩, (hu.chg.mono fun _ _ h => .inl h).trans (Chg.of_below hb2) fun _ _ h => h⟩⟩

set_option maxRecDepth 100000 in
theorem fixRows128 (w : World) (p : Option Addr) (n c : Nat) : Calls Tryz.prog 214 #[.slice p n c] w fun e w' => e = .returned (.int .i64 n) ∧ w = w' := by
  go_enter Tryz.func214, Tryz.ntmps214
  go_wp2_with fail
  go_ret
  exact ⟨rfl, rfl⟩

theorem rowAppF128 : MRow 147 "Append" [] (some (208, true)) := mRow_of (by kernel_rfl)
theorem rowRowF128 : MRow 147 "Row" [] (some (213, false)) := mRow_of (by kernel_rfl)

set_option maxRecDepth 100000 in
theorem addF128 (w : World) (F : Nat → Prop) (q n : Nat) (xs : List Value) (x : Value) (s : List UInt8) (f2 f3 : Value) (hx : BytesX w x s) (hs : s.length = 128) (h : NumCol w F 149 150 128 q n xs) (hF : In F w) (hn : n + 1 ≤ 100000000) :
    Calls Tryz.prog 217 #[.agg #[.iface 147 (.pointer (some ⟨q, 0, none⟩)), .func (.func 49) #[] #[], f2, f3], x] w (PutN w F 149 150 128 q (n + 1) (xs ++ u8s s)) := by
  have hm : ∀ W, (method 383 147 (.pointer (some ⟨q, 0, none⟩)) "Append").run Tryz.prog W = .ok (208, .pointer (some ⟨q, 0, none⟩)) W := fun W => meth_ptr 382 rowAppF128 Tryz.underlying147 (.pointer (some ⟨q, 0, none⟩)) W
  obtain ⟨px, cx, rfl⟩ := hx.slice
  obtain ⟨x, hxe⟩ : ∃ x, x = Value.slice px s.length cx := ⟨_, rfl⟩
  rw [← hxe] at hx ⊢
  clear hxe
  have HX := Lib.hid hx
  have HS := Lib.hid h
  have HL := Lib.hid hs
  have HF : Hid (¬ F w.heap.size) := Lib.hid fun h => by have := hF _ h; omega
  clear hx h hF hs
  go_enter Tryz.func217, Tryz.ntmps217
  go_wp2_with fail
  go_region_held3 (fun w' => w'.cell? ⟨w.heap.size, 0, none⟩ = some (.iface 147 (.pointer (some ⟨q, 0, none⟩))) ∧ w'.cell? ⟨w.heap.size, 1, none⟩ = some (.func (.func 49) #[] #[])) (first | exact ⟨s0, s1⟩ | go_keep)
    (first | (go_at_call 49; refine (in128 _ x s (HX.out.below (((Below.refl _ w).alloc (Nat.le_refl _) _).drew)) HL.out).mono ?_; rintro e w1 ⟨rfl, hb1⟩; have s0 : w1.cell? ⟨w.heap.size, 0, none⟩ = some (.iface 147 (.pointer (some ⟨q, 0, none⟩))) := (by rw [hb1.cell (by simp)]; go_simp); have s1 : w1.cell? ⟨w.heap.size, 1, none⟩ = some (.func (.func 49) #[] #[]) := (by rw [hb1.cell (by simp)]; go_simp)) | (go_at_call 208; refine (fixAppend128 _ F q n xs s HL.out (HS.out.keep ((((Below.refl _ w).alloc (Nat.le_refl _) _).drew).trans (hb1.mono (by simp)))) hn).mono ?_; rintro e w' ⟨rfl, F1, h1, hu1⟩; have s0 : w'.cell? ⟨w.heap.size, 0, none⟩ = some (.iface 147 (.pointer (some ⟨q, 0, none⟩))) := (by rw [hu1.chg.cell (p := ⟨w.heap.size, 0, none⟩) (by have := hb1.size; simp at this ⊢; omega) HF.out]; exact s0); have s1 : w'.cell? ⟨w.heap.size, 1, none⟩ = some (.func (.func 49) #[] #[]) := (by rw [hu1.chg.cell (p := ⟨w.heap.size, 1, none⟩) (by have := hb1.size; simp at this ⊢; omega) HF.out]; exact s1)))
  go_returns
  exact ⟨rfl, F1, h1, ((Upd.refl F w).below ((((Below.refl _ w).alloc (Nat.le_refl _) _).drew).trans (hb1.mono (by simp)))).trans hu1⟩

set_option maxRecDepth 100000 in
theorem atF128 (w : World) (F : Nat → Prop) (q n i : Nat) (xs : List Value) (s : List UInt8) (f1 f3 : Value) (h : NumCol w F 149 150 128 q n xs) (hi : i < n) (hn : n ≤ 100000000) (hs : s.length = 128) (hr : (xs.drop (i * 128)).take 128 = u8s s) :
    Calls Tryz.prog 220 #[.agg #[.iface 147 (.pointer (some ⟨q, 0, none⟩)), f1, .func (.func 50) #[] #[], f3], .int .i64 i] w (Made w s) := by
  obtain ⟨v, hX, -⟩ := h
  obtain ⟨c0, cf, hlt⟩ := hX.cell
  obtain ⟨B, hB⟩ : ∃ B, B = (Obj.cells #[.iface 147 (.pointer (some ⟨q, 0, none⟩)), f1, .func (.func 50) #[] #[], f3] 156) := ⟨_, rfl⟩
  have hbw : Below w.heap.size w (w.alloc B).drew := ((Below.refl _ w).alloc (Nat.le_refl _) _).drew
  have hld := load_one (w := (w.alloc B).drew) (by rw [hbw.block q hlt]; exact hX.at_) Tryz.underlying149
  have hmm := meth_val 382 rowRowF128 Tryz.underlying147 ⟨q, 0, none⟩ (w.alloc B).drew v hld
  obtain ⟨g, c, rfl, hcn, hg, hx⟩ : ∃ g c : Nat, v = .slice (some ⟨g, 0, none⟩) n c ∧ n ≤ c ∧ g < w.heap.size ∧ w.rangeAt g 0 xs := by
    rcases hX.view.2 with ⟨-, h⟩ | h
    · omega
    · exact h
  have hrow := range_row (size := 128) (fun j x hj => by rw [hbw.cell (p := ⟨g, 0 + j, none⟩) hg]; exact hx j x hj : (w.alloc B).drew.rangeAt g 0 xs) i
  rw [hr] at hrow
  have HR := Lib.hid (fixRow128 (w.alloc B).drew (.slice none 0 0) g 0 n c i (u8s s) hi (by omega) (by rw [Nat.zero_add]; exact hrow) (by rw [u8s_length, hs]) (u8s_one s))
  have HB := Lib.hid hbw
  have HS := Lib.hid hs
  have HL : Hid (([] : List UInt8).length + s.length ≤ 140737488355328) := Lib.hid (by simp; omega)
  obtain ⟨cs, hcs⟩ : ∃ cs, cs = (u8s s).toArray := ⟨_, rfl⟩
  rw [← hcs] at HR
  have HCS := Lib.hid hcs
  subst hB
  clear hX hbw hld hx hrow hr hs hcs c0 cf
  go_enter Tryz.func220, Tryz.ntmps220
  go_wp2_with fail
  go_region_held3 (fun w' => w'.cell? ⟨w.heap.size, 0, none⟩ = some (.iface 147 (.pointer (some ⟨q, 0, none⟩))) ∧ w'.cell? ⟨w.heap.size, 2, none⟩ = some (.func (.func 50) #[] #[])) (first | exact ⟨s0, s2⟩ | go_keep)
    (first | (go_at_call 213; refine HR.out.mono ?_; rintro e w1 ⟨rfl, hb1⟩; have s0 : w1.cell? ⟨w.heap.size, 0, none⟩ = some (.iface 147 (.pointer (some ⟨q, 0, none⟩))) := (by rw [hb1.cell (by simp)]; go_simp); have s2 : w1.cell? ⟨w.heap.size, 2, none⟩ = some (.func (.func 50) #[] #[]) := (by rw [hb1.cell (by simp)]; go_simp)) | (go_at_call 50; refine (outB128 _ s cs HCS.out HS.out).mono ?_; rintro e w2 ⟨rfl, hx, hb2⟩; have s0 : w2.cell? ⟨w.heap.size, 0, none⟩ = some (.iface 147 (.pointer (some ⟨q, 0, none⟩))) := (by rw [hb2.cell (by have := hb1.size; simp at this ⊢; omega)]; exact s0); have s2 : w2.cell? ⟨w.heap.size, 2, none⟩ = some (.func (.func 50) #[] #[]) := (by rw [hb2.cell (by have := hb1.size; simp at this ⊢; omega)]; exact s2)) | (refine step_append_since _ w2 [] s (by rfl) _ _ _ (by rfl) _ (by rfl) ⟨⟨fun _ => False, OwnB.nil _ _, fun _ h => h.elim⟩, Below.refl _ _⟩ _ (by rfl) hx.srcB HL.out ?_; intro q1 c1 w3 hs3; have s0 : w3.cell? ⟨w.heap.size, 0, none⟩ = some (.iface 147 (.pointer (some ⟨q, 0, none⟩))) := (by rw [hs3.below.cell (by have := hb2.size; have := hb1.size; simp at this ⊢; omega)]; exact s0); have s2 : w3.cell? ⟨w.heap.size, 2, none⟩ = some (.func (.func 50) #[] #[]) := (by rw [hs3.below.cell (by have := hb2.size; have := hb1.size; simp at this ⊢; omega)]; exact s2)))
  go_wp2_with fail
  go_ret
  exact made_at HB.out hb1 hb2 hs3
theorem info256 : (Tryz.prog.info? 160).map (·.size) = some 256 := by kernel_rfl
theorem info256z : (Tryz.prog.info? 160).map (fun i => (i.zero, i.size, i.bytes)) = some (some (.agg (Array.replicate 256 (.int .u8 0))), 256, 256) := by kernel_rfl
theorem elem256 : Elem 159 160 256 256 := elem_of Tryz.underlying159 info256z (by simp [Value.cells]) (by decide)
theorem zero256 : ∀ w, (zeroValue 160).run Tryz.prog w = .ok (.agg (Array.replicate 256 (.int .u8 0))) w := (zero_of_info (by have h := info256z; cases hq : Tryz.prog.info? 160 with | none => simp [hq] at h | some i => simp [hq] at h ⊢; exact ⟨h.1, h.2.1⟩)).1




set_option maxRecDepth 100000 in
theorem fixAppend256 (w : World) (F : Nat → Prop) (q n : Nat) (xs : List Value) (s : List UInt8) (hs : s.length = 256) (h : NumCol w F 159 160 256 q n xs) (hn : n + 1 ≤ 100000000) :
    Calls Tryz.prog 221 #[.pointer (some ⟨q, 0, none⟩), .agg (u8s s).toArray] w (PutN w F 159 160 256 q (n + 1) (xs ++ u8s s)) := by
  obtain ⟨v, hX, hF⟩ := h
  obtain ⟨c0, cf, hlt⟩ := hX.cell
  obtain ⟨p0, k0, rfl⟩ := hX.slice
  have hl : (u8s s).length = 256 := by simp [u8s, hs]
  have HX := Lib.hid hX
  have HF := Lib.hid hF
  obtain ⟨cs, hcs⟩ : ∃ cs, cs = u8s s := ⟨_, rfl⟩
  have H1 : Hid (∀ u ∈ cs, u.oneCell' = true) := Lib.hid (by rw [hcs]; exact u8s_one s)
  rw [← hcs] at hl ⊢
  have HL := Lib.hid hl
  have hld := load_new w cs 160
  rw [hl] at hld
  have hbs := fun W => run_build1 elem256 (by decide) W cs hl
  have HXA := Lib.hid (hX.keep (((Below.refl _ w).alloc (Nat.le_refl _) (.cells cs.toArray 160)).alloc (by simp) (.cells cs.toArray 160))).drew
  have HSR := Lib.hid (src_box elem256 w (.cells cs.toArray 160) cs 160 hl H1.out)
  clear hcs hl hX hF
  go_enter Tryz.func221, Tryz.ntmps221
  go_wp2_with fail
  go_region_law ((refine step_num elem256 (by rfl) _ q _ _ _ HXA.out _ _ _ (by rfl) (by rfl) _ (by rfl) 1 _ HSR.out (by omega) (by omega) ?_; intro p1 k1 w1 G1; have e0 := G1.c0; have ef := G1.cf))
  all_goals
    go_returns
    exact putN_of HF.out G1.ok ((((Upd.refl _ w).alloc _).alloc _).trans G1.upd.ofDrew)





set_option maxRecDepth 100000 in
theorem out256 (w : World) (s : List UInt8) (hs : s.length = 256) : Calls Tryz.prog 52 #[.agg (u8s s).toArray] w fun e w' => e = .returned (.slice (some ⟨w.heap.size, 0, none⟩) 256 256) ∧ w' = w.alloc (.cells (u8s s).toArray 160) := by
  go_enter Tryz.func52, Tryz.ntmps52
  go_wp2_with fail
  go_ret
  exact ⟨rfl, rfl⟩

theorem outB256 (w : World) (s : List UInt8) (cs : Array Value) (hc : cs = (u8s s).toArray) (hs : s.length = 256) : Calls Tryz.prog 52 #[.agg cs] w fun e w' => e = .returned (.slice (some ⟨w.heap.size, 0, none⟩) 256 256) ∧ BytesAt w' (.slice (some ⟨w.heap.size, 0, none⟩) 256 256) s ∧ Below w.heap.size w w' := by
  subst hc
  refine (out256 w s hs).mono ?_
  rintro e w' ⟨rfl, rfl⟩
  have h := bytesAt_row w s 160
  rw [hs] at h
  exact ⟨rfl, h, (Below.refl _ w).alloc (Nat.le_refl _) _⟩
set_option maxRecDepth 100000 in
theorem in256 (w : World) (x : Value) (s : List UInt8) (hx : BytesX w x s) (hs : s.length = 256) : Calls Tryz.prog 51 #[x] w fun e w' => e = .returned (.agg (u8s s).toArray) ∧ Below w.heap.size w w' := by
  obtain ⟨b, off, c, rfl, hc, hr⟩ := hx.range (by omega)
  have hl : (u8s s).length = 256 := by simp [u8s, hs]
  have h1 := u8s_one s
  rw [hs] at hc ⊢
  obtain ⟨cs, hcs⟩ : ∃ cs, cs = u8s s := ⟨_, rfl⟩
  rw [← hcs] at hr hl h1 ⊢
  have hld := fun o => load_mid (range_alloc hr o)
  have hst := store_new w cs 160 h1
  have hz0 := zero256
  rw [hl] at hld hst
  have hfin := load_mid (cs := cs) (range_new w cs 160)
  rw [hl] at hfin
  clear hx hr h1 hcs hs
  have har := fun W a c => run_arrayAt Tryz.underlying160 W a c
  go_enter Tryz.func51, Tryz.ntmps51
  go_wp2_with fail
  refine bodyPost_ret (v := .agg cs.toArray) (by simp [results, Tryz.results51, go_sem, hfin]) rfl ⟨rfl, (Below.refl _ w).alloc (Nat.le_refl _) _⟩
set_option maxRecDepth 100000 in
theorem fixRow256 (w : World) (v : Value) (g off n c i : Nat) (cs : List Value) (hi : i < n) (hn : n ≤ 8796093022208) (hr : w.rangeAt g (off + i * 256) cs) (hl : cs.length = 256) (h1 : ∀ u ∈ cs, u.oneCell' = true) :
   Calls Tryz.prog 226 #[.slice (some ⟨g, off, none⟩) n c, .int .i64 i] w fun e w' => e = .returned (.agg cs.toArray) ∧ Below w.heap.size w w' := by
  have hld := fun o => load_mid (range_alloc hr o)
  have hst := store_new w cs 160 h1
  have hz0 := zero256
  rw [hl] at hld hst
  have hfin := load_mid (cs := cs) (range_new w cs 160)
  rw [hl] at hfin
  clear hr h1
  go_enter Tryz.func226, Tryz.ntmps226
  go_wp2_with fail
  refine bodyPost_ret (v := .agg cs.toArray) (by simp [results, Tryz.results226, go_sem, hfin]) rfl ⟨rfl, (Below.refl _ w).alloc (Nat.le_refl _) _⟩
set_option maxRecDepth 100000 in
set_option maxHeartbeats 1000000 in
theorem fixEncode256 (w : World) (F : Nat → Prop) (p : Nat) (bs : List UInt8) (v : Value) (n : Nat) (flat : List UInt8) (hB : BufAt w F 179 p bs) (hF : In F w) (h : NumV w v n 256 (u8s flat)) (hv : ∀ g, v.ownBlock = some g → ¬ F g)
    (hl : bs.length + n * 256 ≤ 140737488355328) :
    Calls Tryz.prog 224 #[v, .pointer (some ⟨p, 0, none⟩)] w (Put w F 179 p (bs ++ flat)) := by
  obtain ⟨hfl, hcase⟩ := h
  rw [u8s_length] at hfl
  rcases hcase with ⟨rfl, rfl⟩ | ⟨gx, cx, rfl, hcx, hgx, hx⟩
  · obtain rfl : flat = [] := List.length_eq_zero_iff.1 (by omega)
    go_enter Tryz.func224, Tryz.ntmps224
    go_wp2_with fail
    go_returns
    exact ⟨rfl, F, by simpa using hB, Upd.refl _ _⟩
  · by_cases hn0 : n = 0
    · subst hn0
      obtain rfl : flat = [] := List.length_eq_zero_iff.1 (by omega)
      clear hx
      go_enter Tryz.func224, Tryz.ntmps224
      go_wp2_with fail
      go_returns
      exact ⟨rfl, F, by simpa using hB, Upd.refl _ _⟩
    · have hnI : ¬ (n : Int) = 0 := by omega
      obtain ⟨vb, hcb, hfb, hlb⟩ := hB.cell
      obtain ⟨pb, kb, rfl⟩ : ∃ p k, vb = .slice p bs.length k := by
        obtain ⟨v', h1, h2, -⟩ := hB.bytes
        rw [hcb] at h1
        obtain rfl := Option.some.inj h1
        exact h2.slice
      have hml : IntKind.i64.wrap (256 * (n : Int)) = ((n * 256 : Nat) : Int) := by rw [IntKind.wrap_i64]; omega
      have HB := Lib.hid hB
      have HX := Lib.hid hx
      have HF := Lib.hid hF
      have HFL := Lib.hid hfl
      have hgF := hv gx rfl
      have hgx0 := hgx
      clear hB hx hF hv hfl
      go_enter Tryz.func224, Tryz.ntmps224
      go_wp2_with (at_builtin; refine list_zeros_bufs rfl _ F _ p bs (n * 256) (by omega) _ _ rfl HB.out _ hcb rfl rfl hl ?_; intro g c w1 hc1 hf1 hst1)
      obtain ⟨F2, hB2, hu2⟩ := hst1
      obtain ⟨W1, hW1⟩ : ∃ W1, W1 = w1.setCell ⟨p, 0, none⟩ (.slice (some ⟨g, 0, none⟩) (bs.length + n * 256) c) := ⟨_, rfl⟩
      have hcW : W1.cell? ⟨p, 0, none⟩ = some (.slice (some ⟨g, 0, none⟩) (bs.length + n * 256) c) := by rw [hW1]; go_simp
      rw [← hW1] at hB2 hu2 ⊢
      obtain ⟨hG, hgF2, hpF2⟩ := hB2.two hcW
      have hgx : gx ≠ g := fun e => by
        rcases hu2.new g hgF2 with h | h
        · exact hgF (e ▸ h)
        · omega
      have hxW : W1.rangeAt gx 0 (u8s flat) := fun j x hj => by rw [hu2.chg.cell (p := ⟨gx, 0 + j, none⟩) hgx0 hgF]; exact HX.out j x hj
      have HG := Lib.hid hG
      have HU2 := Lib.hid hu2
      have HXW := Lib.hid hxW
      have HF2 := Lib.hid (And.intro hgF2 hpF2)
      obtain ⟨L, hL⟩ : ∃ L, L = bs.length + n * 256 := ⟨_, rfl⟩
      have HLL := Lib.hid hL
      rw [← hL] at HG
      clear hG hu2 hxW hgF2 hpF2 hB2 hcW hW1 hc1 hf1 hL
      go_loopw [5, 30] (fun vo vi wr => ∃ i off : Nat, i ≤ n ∧ vi = .int .i64 i ∧ vo = .int .i64 off ∧ off = bs.length + i * 256 ∧ BufG wr 179 p g L c (halfway bs flat 256 n i) ∧ Chg (· = g) W1 wr) (fun _ vi _ => n - (intOf vi).toNat)
      case atStart => exact ⟨0, bs.length, Nat.zero_le _, rfl, rfl, by simp, by rw [halfway_zero]; exact HG.out, Chg.refl _ _⟩
      case round =>
        obtain ⟨i, off, hi, rfl, rfl, hoff, hBG, hchg⟩ := hrel
        by_cases hlt : i < n
        · obtain ⟨b0, bf, bp, bg⟩ := hBG.cells
          obtain ⟨cur, hcur, hcl, hct⟩ := hBG.row
          obtain ⟨hl1, hl2, hl3⟩ := hBG.len
          obtain ⟨row, hrow⟩ : ∃ row, row = (flat.drop (i * 256)).take 256 := ⟨_, rfl⟩
          have hfl := HFL.out
          have hrl : row.length = 256 := by rw [hrow, List.length_take, List.length_drop, hfl]; omega
          have hnx := halfway_next bs flat 256 n i hfl hlt cur c L hcl HLL.out hl2 hct row hrow off hoff
          have hrr : wr.rangeAt gx (i * 256) (u8s row) := by
            have h := range_row (size := 256) (fun j x hj => by rw [hchg.cell (p := ⟨gx, 0 + j, none⟩) (by have := HU2.out.chg.size; simp; omega) (by simpa using hgx)]; exact HXW.out j x hj : wr.rangeAt gx 0 (u8s flat)) i
            rw [hrow]; simpa [u8s, List.map_take, List.map_drop] using h
          obtain ⟨cs, hcs⟩ : ∃ cs, cs = u8s row := ⟨_, rfl⟩
          have h1 := u8s_one row
          have hcsl : cs.length = 256 := by rw [hcs, u8s_length, hrl]
          rw [← hcs] at hrr h1 hnx
          have hld := load_mid hrr
          have hst := store_new wr cs 160 h1
          have hz0 := zero256
          rw [hcsl] at hld hst
          have hLv := HLL.out
          have w1 : IntKind.i64.wrap ((off : Int) + 256) = (off : Int) + 256 := by rw [IntKind.wrap_i64]; omega
          have n1 : ¬ c = off := by omega
          have n3 : (0 : Int) ≤ (off : Int) + 256 := by omega
          have n4 : ((off : Int) + 256).toNat = off + 256 := by omega
          have n2 : (off : Int) + 256 ≤ (c : Int) := by omega
          have HBG := Lib.hid hBG
          have HCG := Lib.hid hchg
          have HOFF := Lib.hid hoff
          have HNX := Lib.hid hnx
          have HCUR := Lib.hid (And.intro hcur (And.intro hcl hct))
          have HCS := Lib.hid (And.intro h1 hcsl)
          clear hBG hchg hcur hct hnx hrr h1 hcs hrow hl1 hl3 hoff
          go_wp2_with fail
          refine wp_region_still_tail 9 (by kernel_rfl) (by kernel_rfl) ?_
          simp only [List.take_succ_cons, List.take_zero, List.drop_succ_cons, List.drop_zero]
          change wpStill _ _ (World.drew _) _ _ _
          repeat still_step
          refine wpStill_nil ?_
          change wpList _ _ _ _ _ (World.drew _)
          obtain ⟨h1, h2⟩ := HCS.out
          obtain ⟨hcur, hcl', hct⟩ := HCUR.out
          have hcurA : (wr.alloc (.cells cs.toArray 160)).drew.heap[g]? = some (.cells cur.toArray 5 (0, 0)) := by
            show (wr.alloc _).heap[g]? = _
            rw [Below.heap_alloc _ _ _ bg]; exact hcur
          have hSRC : ∀ j v, cs[j]? = some v → (wr.alloc (.cells cs.toArray 160)).drew.cell? ((⟨wr.heap.size, 0, none⟩ : Addr).add j) = some v := fun j v hj => by rw [Addr.add_mid]; exact (World.rangeAt_drew _ _ _ _ |>.2 (range_new wr cs _)) j v hj
          refine list_copy_chg rfl _ _ _ _ rfl 5 Tryz.underlying34 (by kernel_rfl) g off _ _ _ _ _ rfl rfl cur _ hcurA cs (by rw [h2]; rfl) hSRC (by rw [h2, hcl]; omega) h1 ?_
          intro w2 hg2 hc2
          have hbA : Below wr.heap.size wr (wr.alloc (.cells cs.toArray 160)).drew := ((Below.refl _ wr).alloc (Nat.le_refl _) _).drew
          have hB2 : BufG w2 179 p g L c (halfway bs flat 256 n (i + 1)) := by
            obtain ⟨k1, -, ⟨k3, k4, k5⟩, k6⟩ := HBG.out
            exact ⟨by rw [hc2.block p (by simp; omega) (fun e => k6 e.symm), hbA.block p bp]; exact k1, ⟨_, hg2, HNX.out.2, HNX.out.1⟩, ⟨by rw [halfway_length _ _ _ _ _ hfl hlt]; exact HLL.out.symm, k4, k5⟩, k6⟩
          have hC2 : Chg (· = g) W1 w2 := (HCG.out.trans (Chg.of_below hbA) fun _ _ h => h).trans hc2 fun _ _ h => h
          clear hg2 hc2 hcur hct hcl' hcurA hSRC hbA
          go_wp2_with fail
          go_roundw
          case rel => exact ⟨i + 1, off + 256, hlt, by go_num, by go_num, by rw [HOFF.out, Nat.add_mul]; omega, hB2, hC2⟩
          case measure => simp [intOf]; omega
        · obtain rfl : i = n := by omega
          go_wp2_with fail
          go_returns
          rw [halfway_all _ _ _ _ HFL.out] at hBG
          exact ⟨rfl, F2, hBG.buf HF2.out.1 HF2.out.2, ⟨HU2.out.chg.trans hchg fun k hk h => by
            subst h
            rcases HU2.out.new _ HF2.out.1 with h | h
            · exact h
            · omega, fun k hk => by
            rcases HU2.out.new k hk with h | h
            · exact .inl h
            · exact .inr ⟨h.1, by have := hchg.size; omega⟩⟩⟩




set_option maxRecDepth 100000 in
set_option maxHeartbeats 1000000 in
theorem fixDecode256 (w : World) (Fr D F : Nat → Prop) (r q n : Nat) (flat tail rest cur : List UInt8) (ok : Bool) (hR : RdAt w Fr D r rest cur) (hX : NumCol w F 159 160 256 q 0 []) (hF : ∀ k, F k → ¬ Fr k ∧ ¬ D k)
    (hrest : (ok = true ∧ rest = flat ++ tail) ∨ (ok = false ∧ rest.length < flat.length)) (hn : flat.length = n * 256) (hbig : rest.length ≤ 1000000000) (hfl : flat.length ≤ 1000000000) :
    Calls Tryz.prog 223 #[.pointer (some ⟨q, 0, none⟩), .pointer (some ⟨r, 0, none⟩), .int .i64 n] w (DecNum w Fr D F r q 159 160 256 ok n (u8s flat) tail) := by
  obtain ⟨v0, hX, hFX⟩ := hX
  obtain ⟨c0, cf, hlt⟩ := hX.cell
  have hinD : In D w := by obtain ⟨_, _, _, h⟩ := hR; exact h.inD
  by_cases hn0 : n = 0
  · subst hn0
    obtain rfl : flat = [] := List.length_eq_zero_iff.1 (by omega)
    rcases hrest with ⟨rfl, rfl⟩ | ⟨rfl, h⟩
    · have HR := Lib.hid hR
      have HX := Lib.hid (And.intro hX (And.intro hFX hF))
      clear hR hX hFX hF
      go_enter Tryz.func223, Tryz.ntmps223
      go_wp2_with fail
      go_ret
      exact ⟨fun _ => ⟨rfl, Fr, cur, F, HR.out, ⟨v0, HX.out.1, HX.out.2.1⟩, Upd.refl _ _, HX.out.2.2⟩, fun h => by simp at h⟩
    · simp at h
  · have hnI : ¬ (n : Int) = 0 := by omega
    have hml : IntKind.i64.wrap ((n : Int) * 256) = ((n * 256 : Nat) : Int) := by rw [IntKind.wrap_i64]; omega
    rcases hrest with ⟨rfl, rfl⟩ | ⟨rfl, hsh⟩
    · have HRR := Lib.hid (rdRawN w Fr D r flat tail cur (n * 256) hn.symm hR (by omega))
      have HX := Lib.hid (And.intro hX (And.intro hFX (And.intro hF hinD)))
      have HN := Lib.hid hn
      have HC0 := Lib.hid (And.intro c0 cf)
      obtain ⟨p0, k0, rfl⟩ := hX.slice
      clear hR hX hFX hF hinD c0 cf
      go_enter Tryz.func223, Tryz.ntmps223
      go_wp2_with fail
      refine HRR.out.mono ?_
      rintro e w1 ⟨b, vb, F2, hbr, rfl, h2, hbv, hu2⟩
      obtain ⟨hXX, hFX, hF, hinD⟩ := HX.out
      have c1 : w1.cell? ⟨q, 0, none⟩ = some (.slice p0 0 k0) := by rw [hu2.chg.cell (p := ⟨q, 0, none⟩) hlt (hF q (hFX q (.inl rfl))).1]; exact HC0.out.1
      have f1 : w1.frozen? ⟨q, 0, none⟩ = false := by rw [hu2.chg.frozen (p := ⟨q, 0, none⟩) hlt (hF q (hFX q (.inl rfl))).1]; exact HC0.out.2
      obtain ⟨bb, off, cc, rfl, hcc, hbx⟩ : ∃ bb off cc : Nat, vb = .slice (some ⟨bb, off, none⟩) flat.length cc ∧ flat.length ≤ cc ∧ F2 bb := by
        rcases id hbv with ⟨rfl, h⟩ | ⟨bb, off, cc, rfl, hcc, -⟩
        · subst h; simp at hn; omega
        · refine ⟨bb, off, cc, rfl, hcc, ?_⟩
          obtain ⟨FB, hrow, -, hsub⟩ := h2.row
          exact hsub bb (hrow.2.2.2 bb rfl).1
      have HBV := Lib.hid hbv
      have H2 := Lib.hid (And.intro hbr (And.intro h2 (And.intro hu2 hbx)))
      have hln : flat.length = n * 256 := HN.out
      have hxl : (1 : Nat) ≤ n := by omega
      have hld0 : ∃ y : UInt8, w1.cell? ⟨bb, off + (n * 256 - 256), none⟩ = some (.int .u8 y.toNat) := by
        rcases hbv with ⟨h, -⟩ | ⟨b', o', c', h, -, hx⟩
        · simp at h
        · obtain ⟨⟨rfl, rfl⟩, -⟩ : (bb = b' ∧ off = o') ∧ cc = c' := by simpa using h
          exact ⟨_, hx (n * 256 - 256) (by omega)⟩
      obtain ⟨y, hy⟩ := hld0
      have s1 : IntKind.i64.wrap ((n * 256 : Nat) - 256 : Int) = ((n * 256 - 256 : Nat) : Int) := by rw [IntKind.wrap_i64]; omega
      rw [hln]
      clear hbv hbr h2 hu2 hXX hFX hF hinD hbx hn
      go_wp2_with fail
      go_loopw [9, 10] (fun vv vi wr => ∃ k m : Nat, ∃ p c, k ≤ n ∧ m = k * 256 ∧ vi = .int .i64 m ∧ vv = .slice p k c ∧ DecK w1 160 256 (.slice p0 0 k0) flat k (.slice p k c) wr) (fun _ vi _ => n * 256 - (intOf vi).toNat)
      case atStart =>
        obtain ⟨hXX, hFX, hF, hinD⟩ := HX.out
        exact ⟨0, 0, p0, k0, Nat.zero_le _, rfl, rfl, rfl, decK_zero (hXX.chg H2.out.2.2.1.chg fun k hk => (hF k (hFX k hk)).1)⟩
      case round =>
        obtain ⟨k, m, p, c, hk, hm, rfl, rfl, hD⟩ := hrel
        by_cases hkn : k < n
        · obtain ⟨Fk, hown, huk⟩ := hD
          obtain ⟨row, hrow⟩ : ∃ row, row = (flat.drop (k * 256)).take 256 := ⟨_, rfl⟩
          have hrl : row.length = 256 := by rw [hrow, List.length_take, List.length_drop, HN.out]; omega
          have hbr : BytesAt wr (.slice (some ⟨bb, off, none⟩) flat.length cc) flat := HBV.out.keep fun g hg => by
            obtain rfl : bb = g := by simpa [Value.ownBlock] using hg
            obtain ⟨-, hx2, hu2, hb2⟩ := H2.out
            obtain ⟨hXX, hFX, hF, hinD⟩ := HX.out
            refine huk.chg.block bb (hx2.inF bb hb2) fun e => ?_
            rcases hu2.new bb hb2 with h | h
            · exact (hF bb (hFX bb (.inr e))).1 h
            · have := hXX.inn bb (.inr e); omega
          have hrr := row_range hbr k 256 row hrow
          rw [← hm] at hrr
          obtain ⟨cs, hcs⟩ : ∃ cs, cs = u8s row := ⟨_, rfl⟩
          have h1 := u8s_one row
          have hcl : cs.length = 256 := by rw [hcs, u8s_length, hrl]
          rw [← hcs] at hrr h1
          have hld := load_mid hrr
          rw [hcl] at hld
          have har := fun W a c => run_arrayAt Tryz.underlying160 W a c
          have hbs := fun W => run_build1 elem256 (by decide) W cs hcl
          have g1 : IntKind.i64.wrap ((m : Int) + 256) = (m : Int) + 256 := by rw [IntKind.wrap_i64]; omega
          have g2 : (0 : Int) ≤ (m : Int) + 256 := by omega
          have g3 : ((m : Int) + 256).toNat = m + 256 := by omega
          have g4 : (m : Int) + 256 ≤ (cc : Int) := by omega
          have g5 : ¬ cc = m := by omega
          have g6 : (m : Int) ≤ ((n * 256 - 256 : Nat) : Int) := by omega
          have HO := Lib.hid (And.intro hown (And.intro huk (And.intro hrow hcs)))
          have HSR := Lib.hid (src_new elem256 wr.heap.size cs _ (heap_alloc_new wr (.cells cs.toArray 160)) hcl h1 1)
          have HM := Lib.hid hm
          clear hown huk hrow hbr hrr h1 hcs hm
          go_wp2_with (at_builtin; refine append_rows elem256 _ Fk k 1 (u8s (flat.take (k * 256))) _ rfl _ _ _ rfl _ rfl (HO.out.1.keep ((Below.refl _ wr).alloc (Nat.le_refl _) _)) _ rfl HSR.out (by omega) (by omega) ?_; intro p5 c5 w5 F5 hown5 hu5)
          go_roundw
          case rel =>
            obtain ⟨-, h2, h3, h4⟩ := HO.out
            rw [h4] at hown5
            exact ⟨k + 1, m + 256, p5, c5, hkn, by rw [HM.out]; omega, by go_num, rfl, decK_next h3 h2 hown5 hu5⟩
          case measure => simp [intOf]; omega
        · obtain rfl : k = n := by omega
          subst hm
          have g6 : ¬ ((k * 256 : Nat) : Int) ≤ ((k * 256 - 256 : Nat) : Int) := by omega
          have HD := Lib.hid hD
          obtain ⟨Fk, hown, huk⟩ := hD
          obtain ⟨hXX, hFX, hF, hinD⟩ := HX.out
          obtain ⟨hbr, h2, hu2, hbx⟩ := H2.out
          have hq1 : q < w1.heap.size := by have := hu2.chg.size; omega
          have hqn : ¬ (Value.slice p0 0 k0).ownBlock = some q := fun e => hXX.bq e rfl
          have c2 : wr.cell? ⟨q, 0, none⟩ = some (.slice p0 0 k0) := by rw [huk.chg.cell (p := ⟨q, 0, none⟩) hq1 hqn]; exact c1
          have f2 : wr.frozen? ⟨q, 0, none⟩ = false := by rw [huk.chg.frozen (p := ⟨q, 0, none⟩) hq1 hqn]; exact f1
          clear hown huk hXX hFX hF hinD hbr h2 hu2 hbx hqn
          go_wp2_with fail
          go_ret
          obtain ⟨hXX, hFX, hF, hinD⟩ := HX.out
          obtain ⟨hbr, h2, hu2, hbx⟩ := H2.out
          exact decK_done hXX hFX hF hinD hbr h2 hu2 HD.out HN.out
    · have HRR := Lib.hid (rdRawN_short w Fr D r rest cur hR (n * 256) (by omega))
      have HX := Lib.hid (And.intro hFX hF)
      clear hR hX hFX hF hinD
      go_enter Tryz.func223, Tryz.ntmps223
      go_wp2_with (first | (go_at_call 164; refine HRR.out.mono ?_; rintro e w1 ⟨a, F1, cur1, rfl, h1, hu⟩) | (go_at_call 89; refine (wrapErr _ _ _ _).mono ?_; rintro e w2 ⟨⟨a2, rfl⟩, hb2⟩))
      go_ret
      exact ⟨fun h => by simp at h, fun _ => ⟨⟨_, rfl⟩, (hu.chg.mono fun _ _ h => .inl h).trans (Chg.of_below hb2) fun _ _ h => h⟩⟩

set_option maxRecDepth 100000 in
theorem fixRows256 (w : World) (p : Option Addr) (n c : Nat) : Calls Tryz.prog 227 #[.slice p n c] w fun e w' => e = .returned (.int .i64 n) ∧ w = w' := by
  go_enter Tryz.func227, Tryz.ntmps227
  go_wp2_with fail
  go_ret
  exact ⟨rfl, rfl⟩

theorem rowAppF256 : MRow 157 "Append" [] (some (221, true)) := mRow_of (by kernel_rfl)
theorem rowRowF256 : MRow 157 "Row" [] (some (226, false)) := mRow_of (by kernel_rfl)

set_option maxRecDepth 100000 in
theorem addF256 (w : World) (F : Nat → Prop) (q n : Nat) (xs : List Value) (x : Value) (s : List UInt8) (f2 f3 : Value) (hx : BytesX w x s) (hs : s.length = 256) (h : NumCol w F 159 160 256 q n xs) (hF : In F w) (hn : n + 1 ≤ 100000000) :
    Calls Tryz.prog 230 #[.agg #[.iface 157 (.pointer (some ⟨q, 0, none⟩)), .func (.func 51) #[] #[], f2, f3], x] w (PutN w F 159 160 256 q (n + 1) (xs ++ u8s s)) := by
  have hm : ∀ W, (method 383 157 (.pointer (some ⟨q, 0, none⟩)) "Append").run Tryz.prog W = .ok (221, .pointer (some ⟨q, 0, none⟩)) W := fun W => meth_ptr 382 rowAppF256 Tryz.underlying157 (.pointer (some ⟨q, 0, none⟩)) W
  obtain ⟨px, cx, rfl⟩ := hx.slice
  obtain ⟨x, hxe⟩ : ∃ x, x = Value.slice px s.length cx := ⟨_, rfl⟩
  rw [← hxe] at hx ⊢
  clear hxe
  have HX := Lib.hid hx
  have HS := Lib.hid h
  have HL := Lib.hid hs
  have HF : Hid (¬ F w.heap.size) := Lib.hid fun h => by have := hF _ h; omega
  clear hx h hF hs
  go_enter Tryz.func230, Tryz.ntmps230
  go_wp2_with fail
  go_region_held3 (fun w' => w'.cell? ⟨w.heap.size, 0, none⟩ = some (.iface 157 (.pointer (some ⟨q, 0, none⟩))) ∧ w'.cell? ⟨w.heap.size, 1, none⟩ = some (.func (.func 51) #[] #[])) (first | exact ⟨s0, s1⟩ | go_keep)
    (first | (go_at_call 51; refine (in256 _ x s (HX.out.below (((Below.refl _ w).alloc (Nat.le_refl _) _).drew)) HL.out).mono ?_; rintro e w1 ⟨rfl, hb1⟩; have s0 : w1.cell? ⟨w.heap.size, 0, none⟩ = some (.iface 157 (.pointer (some ⟨q, 0, none⟩))) := (by rw [hb1.cell (by simp)]; go_simp); have s1 : w1.cell? ⟨w.heap.size, 1, none⟩ = some (.func (.func 51) #[] #[]) := (by rw [hb1.cell (by simp)]; go_simp)) | (go_at_call 221; refine (fixAppend256 _ F q n xs s HL.out (HS.out.keep ((((Below.refl _ w).alloc (Nat.le_refl _) _).drew).trans (hb1.mono (by simp)))) hn).mono ?_; rintro e w' ⟨rfl, F1, h1, hu1⟩; have s0 : w'.cell? ⟨w.heap.size, 0, none⟩ = some (.iface 157 (.pointer (some ⟨q, 0, none⟩))) := (by rw [hu1.chg.cell (p := ⟨w.heap.size, 0, none⟩) (by have := hb1.size; simp at this ⊢; omega) HF.out]; exact s0); have s1 : w'.cell? ⟨w.heap.size, 1, none⟩ = some (.func (.func 51) #[] #[]) := (by rw [hu1.chg.cell (p := ⟨w.heap.size, 1, none⟩) (by have := hb1.size; simp at this ⊢; omega) HF.out]; exact s1)))
  go_returns
  exact ⟨rfl, F1, h1, ((Upd.refl F w).below ((((Below.refl _ w).alloc (Nat.le_refl _) _).drew).trans (hb1.mono (by simp)))).trans hu1⟩

set_option maxRecDepth 100000 in
theorem atF256 (w : World) (F : Nat → Prop) (q n i : Nat) (xs : List Value) (s : List UInt8) (f1 f3 : Value) (h : NumCol w F 159 160 256 q n xs) (hi : i < n) (hn : n ≤ 100000000) (hs : s.length = 256) (hr : (xs.drop (i * 256)).take 256 = u8s s) :
    Calls Tryz.prog 233 #[.agg #[.iface 157 (.pointer (some ⟨q, 0, none⟩)), f1, .func (.func 52) #[] #[], f3], .int .i64 i] w (Made w s) := by
  obtain ⟨v, hX, -⟩ := h
  obtain ⟨c0, cf, hlt⟩ := hX.cell
  obtain ⟨B, hB⟩ : ∃ B, B = (Obj.cells #[.iface 157 (.pointer (some ⟨q, 0, none⟩)), f1, .func (.func 52) #[] #[], f3] 166) := ⟨_, rfl⟩
  have hbw : Below w.heap.size w (w.alloc B).drew := ((Below.refl _ w).alloc (Nat.le_refl _) _).drew
  have hld := load_one (w := (w.alloc B).drew) (by rw [hbw.block q hlt]; exact hX.at_) Tryz.underlying159
  have hmm := meth_val 382 rowRowF256 Tryz.underlying157 ⟨q, 0, none⟩ (w.alloc B).drew v hld
  obtain ⟨g, c, rfl, hcn, hg, hx⟩ : ∃ g c : Nat, v = .slice (some ⟨g, 0, none⟩) n c ∧ n ≤ c ∧ g < w.heap.size ∧ w.rangeAt g 0 xs := by
    rcases hX.view.2 with ⟨-, h⟩ | h
    · omega
    · exact h
  have hrow := range_row (size := 256) (fun j x hj => by rw [hbw.cell (p := ⟨g, 0 + j, none⟩) hg]; exact hx j x hj : (w.alloc B).drew.rangeAt g 0 xs) i
  rw [hr] at hrow
  have HR := Lib.hid (fixRow256 (w.alloc B).drew (.slice none 0 0) g 0 n c i (u8s s) hi (by omega) (by rw [Nat.zero_add]; exact hrow) (by rw [u8s_length, hs]) (u8s_one s))
  have HB := Lib.hid hbw
  have HS := Lib.hid hs
  have HL : Hid (([] : List UInt8).length + s.length ≤ 140737488355328) := Lib.hid (by simp; omega)
  obtain ⟨cs, hcs⟩ : ∃ cs, cs = (u8s s).toArray := ⟨_, rfl⟩
  rw [← hcs] at HR
  have HCS := Lib.hid hcs
  subst hB
  clear hX hbw hld hx hrow hr hs hcs c0 cf
  go_enter Tryz.func233, Tryz.ntmps233
  go_wp2_with fail
  go_region_held3 (fun w' => w'.cell? ⟨w.heap.size, 0, none⟩ = some (.iface 157 (.pointer (some ⟨q, 0, none⟩))) ∧ w'.cell? ⟨w.heap.size, 2, none⟩ = some (.func (.func 52) #[] #[])) (first | exact ⟨s0, s2⟩ | go_keep)
    (first | (go_at_call 226; refine HR.out.mono ?_; rintro e w1 ⟨rfl, hb1⟩; have s0 : w1.cell? ⟨w.heap.size, 0, none⟩ = some (.iface 157 (.pointer (some ⟨q, 0, none⟩))) := (by rw [hb1.cell (by simp)]; go_simp); have s2 : w1.cell? ⟨w.heap.size, 2, none⟩ = some (.func (.func 52) #[] #[]) := (by rw [hb1.cell (by simp)]; go_simp)) | (go_at_call 52; refine (outB256 _ s cs HCS.out HS.out).mono ?_; rintro e w2 ⟨rfl, hx, hb2⟩; have s0 : w2.cell? ⟨w.heap.size, 0, none⟩ = some (.iface 157 (.pointer (some ⟨q, 0, none⟩))) := (by rw [hb2.cell (by have := hb1.size; simp at this ⊢; omega)]; exact s0); have s2 : w2.cell? ⟨w.heap.size, 2, none⟩ = some (.func (.func 52) #[] #[]) := (by rw [hb2.cell (by have := hb1.size; simp at this ⊢; omega)]; exact s2)) | (refine step_append_since _ w2 [] s (by rfl) _ _ _ (by rfl) _ (by rfl) ⟨⟨fun _ => False, OwnB.nil _ _, fun _ h => h.elim⟩, Below.refl _ _⟩ _ (by rfl) hx.srcB HL.out ?_; intro q1 c1 w3 hs3; have s0 : w3.cell? ⟨w.heap.size, 0, none⟩ = some (.iface 157 (.pointer (some ⟨q, 0, none⟩))) := (by rw [hs3.below.cell (by have := hb2.size; have := hb1.size; simp at this ⊢; omega)]; exact s0); have s2 : w3.cell? ⟨w.heap.size, 2, none⟩ = some (.func (.func 52) #[] #[]) := (by rw [hs3.below.cell (by have := hb2.size; have := hb1.size; simp at this ⊢; omega)]; exact s2)))
  go_wp2_with fail
  go_ret
  exact made_at HB.out hb1 hb2 hs3
theorem info512 : (Tryz.prog.info? 170).map (·.size) = some 512 := by kernel_rfl
theorem info512z : (Tryz.prog.info? 170).map (fun i => (i.zero, i.size, i.bytes)) = some (some (.agg (Array.replicate 512 (.int .u8 0))), 512, 512) := by kernel_rfl
theorem elem512 : Elem 169 170 512 512 := elem_of Tryz.underlying169 info512z (by simp [Value.cells]) (by decide)
theorem zero512 : ∀ w, (zeroValue 170).run Tryz.prog w = .ok (.agg (Array.replicate 512 (.int .u8 0))) w := (zero_of_info (by have h := info512z; cases hq : Tryz.prog.info? 170 with | none => simp [hq] at h | some i => simp [hq] at h ⊢; exact ⟨h.1, h.2.1⟩)).1




set_option maxRecDepth 100000 in
theorem fixAppend512 (w : World) (F : Nat → Prop) (q n : Nat) (xs : List Value) (s : List UInt8) (hs : s.length = 512) (h : NumCol w F 169 170 512 q n xs) (hn : n + 1 ≤ 100000000) :
    Calls Tryz.prog 234 #[.pointer (some ⟨q, 0, none⟩), .agg (u8s s).toArray] w (PutN w F 169 170 512 q (n + 1) (xs ++ u8s s)) := by
  obtain ⟨v, hX, hF⟩ := h
  obtain ⟨c0, cf, hlt⟩ := hX.cell
  obtain ⟨p0, k0, rfl⟩ := hX.slice
  have hl : (u8s s).length = 512 := by simp [u8s, hs]
  have HX := Lib.hid hX
  have HF := Lib.hid hF
  obtain ⟨cs, hcs⟩ : ∃ cs, cs = u8s s := ⟨_, rfl⟩
  have H1 : Hid (∀ u ∈ cs, u.oneCell' = true) := Lib.hid (by rw [hcs]; exact u8s_one s)
  rw [← hcs] at hl ⊢
  have HL := Lib.hid hl
  have hld := load_new w cs 170
  rw [hl] at hld
  have hbs := fun W => run_build1 elem512 (by decide) W cs hl
  have HXA := Lib.hid (hX.keep (((Below.refl _ w).alloc (Nat.le_refl _) (.cells cs.toArray 170)).alloc (by simp) (.cells cs.toArray 170))).drew
  have HSR := Lib.hid (src_box elem512 w (.cells cs.toArray 170) cs 170 hl H1.out)
  clear hcs hl hX hF
  go_enter Tryz.func234, Tryz.ntmps234
  go_wp2_with fail
  go_region_law ((refine step_num elem512 (by rfl) _ q _ _ _ HXA.out _ _ _ (by rfl) (by rfl) _ (by rfl) 1 _ HSR.out (by omega) (by omega) ?_; intro p1 k1 w1 G1; have e0 := G1.c0; have ef := G1.cf))
  all_goals
    go_returns
    exact putN_of HF.out G1.ok ((((Upd.refl _ w).alloc _).alloc _).trans G1.upd.ofDrew)





set_option maxRecDepth 100000 in
theorem out512 (w : World) (s : List UInt8) (hs : s.length = 512) : Calls Tryz.prog 54 #[.agg (u8s s).toArray] w fun e w' => e = .returned (.slice (some ⟨w.heap.size, 0, none⟩) 512 512) ∧ w' = w.alloc (.cells (u8s s).toArray 170) := by
  go_enter Tryz.func54, Tryz.ntmps54
  go_wp2_with fail
  go_ret
  exact ⟨rfl, rfl⟩

theorem outB512 (w : World) (s : List UInt8) (cs : Array Value) (hc : cs = (u8s s).toArray) (hs : s.length = 512) : Calls Tryz.prog 54 #[.agg cs] w fun e w' => e = .returned (.slice (some ⟨w.heap.size, 0, none⟩) 512 512) ∧ BytesAt w' (.slice (some ⟨w.heap.size, 0, none⟩) 512 512) s ∧ Below w.heap.size w w' := by
  subst hc
  refine (out512 w s hs).mono ?_
  rintro e w' ⟨rfl, rfl⟩
  have h := bytesAt_row w s 170
  rw [hs] at h
  exact ⟨rfl, h, (Below.refl _ w).alloc (Nat.le_refl _) _⟩
set_option maxRecDepth 100000 in
theorem in512 (w : World) (x : Value) (s : List UInt8) (hx : BytesX w x s) (hs : s.length = 512) : Calls Tryz.prog 53 #[x] w fun e w' => e = .returned (.agg (u8s s).toArray) ∧ Below w.heap.size w w' := by
  obtain ⟨b, off, c, rfl, hc, hr⟩ := hx.range (by omega)
  have hl : (u8s s).length = 512 := by simp [u8s, hs]
  have h1 := u8s_one s
  rw [hs] at hc ⊢
  obtain ⟨cs, hcs⟩ : ∃ cs, cs = u8s s := ⟨_, rfl⟩
  rw [← hcs] at hr hl h1 ⊢
  have hld := fun o => load_mid (range_alloc hr o)
  have hst := store_new w cs 170 h1
  have hz0 := zero512
  rw [hl] at hld hst
  have hfin := load_mid (cs := cs) (range_new w cs 170)
  rw [hl] at hfin
  clear hx hr h1 hcs hs
  have har := fun W a c => run_arrayAt Tryz.underlying170 W a c
  go_enter Tryz.func53, Tryz.ntmps53
  go_wp2_with fail
  refine bodyPost_ret (v := .agg cs.toArray) (by simp [results, Tryz.results53, go_sem, hfin]) rfl ⟨rfl, (Below.refl _ w).alloc (Nat.le_refl _) _⟩
set_option maxRecDepth 100000 in
theorem fixRow512 (w : World) (v : Value) (g off n c i : Nat) (cs : List Value) (hi : i < n) (hn : n ≤ 8796093022208) (hr : w.rangeAt g (off + i * 512) cs) (hl : cs.length = 512) (h1 : ∀ u ∈ cs, u.oneCell' = true) :
   Calls Tryz.prog 239 #[.slice (some ⟨g, off, none⟩) n c, .int .i64 i] w fun e w' => e = .returned (.agg cs.toArray) ∧ Below w.heap.size w w' := by
  have hld := fun o => load_mid (range_alloc hr o)
  have hst := store_new w cs 170 h1
  have hz0 := zero512
  rw [hl] at hld hst
  have hfin := load_mid (cs := cs) (range_new w cs 170)
  rw [hl] at hfin
  clear hr h1
  go_enter Tryz.func239, Tryz.ntmps239
  go_wp2_with fail
  refine bodyPost_ret (v := .agg cs.toArray) (by simp [results, Tryz.results239, go_sem, hfin]) rfl ⟨rfl, (Below.refl _ w).alloc (Nat.le_refl _) _⟩
set_option maxRecDepth 100000 in
set_option maxHeartbeats 1000000 in
theorem fixEncode512 (w : World) (F : Nat → Prop) (p : Nat) (bs : List UInt8) (v : Value) (n : Nat) (flat : List UInt8) (hB : BufAt w F 179 p bs) (hF : In F w) (h : NumV w v n 512 (u8s flat)) (hv : ∀ g, v.ownBlock = some g → ¬ F g)
    (hl : bs.length + n * 512 ≤ 140737488355328) :
    Calls Tryz.prog 237 #[v, .pointer (some ⟨p, 0, none⟩)] w (Put w F 179 p (bs ++ flat)) := by
  obtain ⟨hfl, hcase⟩ := h
  rw [u8s_length] at hfl
  rcases hcase with ⟨rfl, rfl⟩ | ⟨gx, cx, rfl, hcx, hgx, hx⟩
  · obtain rfl : flat = [] := List.length_eq_zero_iff.1 (by omega)
    go_enter Tryz.func237, Tryz.ntmps237
    go_wp2_with fail
    go_returns
    exact ⟨rfl, F, by simpa using hB, Upd.refl _ _⟩
  · by_cases hn0 : n = 0
    · subst hn0
      obtain rfl : flat = [] := List.length_eq_zero_iff.1 (by omega)
      clear hx
      go_enter Tryz.func237, Tryz.ntmps237
      go_wp2_with fail
      go_returns
      exact ⟨rfl, F, by simpa using hB, Upd.refl _ _⟩
    · have hnI : ¬ (n : Int) = 0 := by omega
      obtain ⟨vb, hcb, hfb, hlb⟩ := hB.cell
      obtain ⟨pb, kb, rfl⟩ : ∃ p k, vb = .slice p bs.length k := by
        obtain ⟨v', h1, h2, -⟩ := hB.bytes
        rw [hcb] at h1
        obtain rfl := Option.some.inj h1
        exact h2.slice
      have hml : IntKind.i64.wrap (512 * (n : Int)) = ((n * 512 : Nat) : Int) := by rw [IntKind.wrap_i64]; omega
      have HB := Lib.hid hB
      have HX := Lib.hid hx
      have HF := Lib.hid hF
      have HFL := Lib.hid hfl
      have hgF := hv gx rfl
      have hgx0 := hgx
      clear hB hx hF hv hfl
      go_enter Tryz.func237, Tryz.ntmps237
      go_wp2_with (at_builtin; refine list_zeros_bufs rfl _ F _ p bs (n * 512) (by omega) _ _ rfl HB.out _ hcb rfl rfl hl ?_; intro g c w1 hc1 hf1 hst1)
      obtain ⟨F2, hB2, hu2⟩ := hst1
      obtain ⟨W1, hW1⟩ : ∃ W1, W1 = w1.setCell ⟨p, 0, none⟩ (.slice (some ⟨g, 0, none⟩) (bs.length + n * 512) c) := ⟨_, rfl⟩
      have hcW : W1.cell? ⟨p, 0, none⟩ = some (.slice (some ⟨g, 0, none⟩) (bs.length + n * 512) c) := by rw [hW1]; go_simp
      rw [← hW1] at hB2 hu2 ⊢
      obtain ⟨hG, hgF2, hpF2⟩ := hB2.two hcW
      have hgx : gx ≠ g := fun e => by
        rcases hu2.new g hgF2 with h | h
        · exact hgF (e ▸ h)
        · omega
      have hxW : W1.rangeAt gx 0 (u8s flat) := fun j x hj => by rw [hu2.chg.cell (p := ⟨gx, 0 + j, none⟩) hgx0 hgF]; exact HX.out j x hj
      have HG := Lib.hid hG
      have HU2 := Lib.hid hu2
      have HXW := Lib.hid hxW
      have HF2 := Lib.hid (And.intro hgF2 hpF2)
      obtain ⟨L, hL⟩ : ∃ L, L = bs.length + n * 512 := ⟨_, rfl⟩
      have HLL := Lib.hid hL
      rw [← hL] at HG
      clear hG hu2 hxW hgF2 hpF2 hB2 hcW hW1 hc1 hf1 hL
      go_loopw [5, 30] (fun vo vi wr => ∃ i off : Nat, i ≤ n ∧ vi = .int .i64 i ∧ vo = .int .i64 off ∧ off = bs.length + i * 512 ∧ BufG wr 179 p g L c (halfway bs flat 512 n i) ∧ Chg (· = g) W1 wr) (fun _ vi _ => n - (intOf vi).toNat)
      case atStart => exact ⟨0, bs.length, Nat.zero_le _, rfl, rfl, by simp, by rw [halfway_zero]; exact HG.out, Chg.refl _ _⟩
      case round =>
        obtain ⟨i, off, hi, rfl, rfl, hoff, hBG, hchg⟩ := hrel
        by_cases hlt : i < n
        · obtain ⟨b0, bf, bp, bg⟩ := hBG.cells
          obtain ⟨cur, hcur, hcl, hct⟩ := hBG.row
          obtain ⟨hl1, hl2, hl3⟩ := hBG.len
          obtain ⟨row, hrow⟩ : ∃ row, row = (flat.drop (i * 512)).take 512 := ⟨_, rfl⟩
          have hfl := HFL.out
          have hrl : row.length = 512 := by rw [hrow, List.length_take, List.length_drop, hfl]; omega
          have hnx := halfway_next bs flat 512 n i hfl hlt cur c L hcl HLL.out hl2 hct row hrow off hoff
          have hrr : wr.rangeAt gx (i * 512) (u8s row) := by
            have h := range_row (size := 512) (fun j x hj => by rw [hchg.cell (p := ⟨gx, 0 + j, none⟩) (by have := HU2.out.chg.size; simp; omega) (by simpa using hgx)]; exact HXW.out j x hj : wr.rangeAt gx 0 (u8s flat)) i
            rw [hrow]; simpa [u8s, List.map_take, List.map_drop] using h
          obtain ⟨cs, hcs⟩ : ∃ cs, cs = u8s row := ⟨_, rfl⟩
          have h1 := u8s_one row
          have hcsl : cs.length = 512 := by rw [hcs, u8s_length, hrl]
          rw [← hcs] at hrr h1 hnx
          have hld := load_mid hrr
          have hst := store_new wr cs 170 h1
          have hz0 := zero512
          rw [hcsl] at hld hst
          have hLv := HLL.out
          have w1 : IntKind.i64.wrap ((off : Int) + 512) = (off : Int) + 512 := by rw [IntKind.wrap_i64]; omega
          have n1 : ¬ c = off := by omega
          have n3 : (0 : Int) ≤ (off : Int) + 512 := by omega
          have n4 : ((off : Int) + 512).toNat = off + 512 := by omega
          have n2 : (off : Int) + 512 ≤ (c : Int) := by omega
          have HBG := Lib.hid hBG
          have HCG := Lib.hid hchg
          have HOFF := Lib.hid hoff
          have HNX := Lib.hid hnx
          have HCUR := Lib.hid (And.intro hcur (And.intro hcl hct))
          have HCS := Lib.hid (And.intro h1 hcsl)
          clear hBG hchg hcur hct hnx hrr h1 hcs hrow hl1 hl3 hoff
          go_wp2_with fail
          refine wp_region_still_tail 9 (by kernel_rfl) (by kernel_rfl) ?_
          simp only [List.take_succ_cons, List.take_zero, List.drop_succ_cons, List.drop_zero]
          change wpStill _ _ (World.drew _) _ _ _
          repeat still_step
          refine wpStill_nil ?_
          change wpList _ _ _ _ _ (World.drew _)
          obtain ⟨h1, h2⟩ := HCS.out
          obtain ⟨hcur, hcl', hct⟩ := HCUR.out
          have hcurA : (wr.alloc (.cells cs.toArray 170)).drew.heap[g]? = some (.cells cur.toArray 5 (0, 0)) := by
            show (wr.alloc _).heap[g]? = _
            rw [Below.heap_alloc _ _ _ bg]; exact hcur
          have hSRC : ∀ j v, cs[j]? = some v → (wr.alloc (.cells cs.toArray 170)).drew.cell? ((⟨wr.heap.size, 0, none⟩ : Addr).add j) = some v := fun j v hj => by rw [Addr.add_mid]; exact (World.rangeAt_drew _ _ _ _ |>.2 (range_new wr cs _)) j v hj
          refine list_copy_chg rfl _ _ _ _ rfl 5 Tryz.underlying34 (by kernel_rfl) g off _ _ _ _ _ rfl rfl cur _ hcurA cs (by rw [h2]; rfl) hSRC (by rw [h2, hcl]; omega) h1 ?_
          intro w2 hg2 hc2
          have hbA : Below wr.heap.size wr (wr.alloc (.cells cs.toArray 170)).drew := ((Below.refl _ wr).alloc (Nat.le_refl _) _).drew
          have hB2 : BufG w2 179 p g L c (halfway bs flat 512 n (i + 1)) := by
            obtain ⟨k1, -, ⟨k3, k4, k5⟩, k6⟩ := HBG.out
            exact ⟨by rw [hc2.block p (by simp; omega) (fun e => k6 e.symm), hbA.block p bp]; exact k1, ⟨_, hg2, HNX.out.2, HNX.out.1⟩, ⟨by rw [halfway_length _ _ _ _ _ hfl hlt]; exact HLL.out.symm, k4, k5⟩, k6⟩
          have hC2 : Chg (· = g) W1 w2 := (HCG.out.trans (Chg.of_below hbA) fun _ _ h => h).trans hc2 fun _ _ h => h
          clear hg2 hc2 hcur hct hcl' hcurA hSRC hbA
          go_wp2_with fail
          go_roundw
          case rel => exact ⟨i + 1, off + 512, hlt, by go_num, by go_num, by rw [HOFF.out, Nat.add_mul]; omega, hB2, hC2⟩
          case measure => simp [intOf]; omega
        · obtain rfl : i = n := by omega
          go_wp2_with fail
          go_returns
          rw [halfway_all _ _ _ _ HFL.out] at hBG
          exact ⟨rfl, F2, hBG.buf HF2.out.1 HF2.out.2, ⟨HU2.out.chg.trans hchg fun k hk h => by
            subst h
            rcases HU2.out.new _ HF2.out.1 with h | h
            · exact h
            · omega, fun k hk => by
            rcases HU2.out.new k hk with h | h
            · exact .inl h
            · exact .inr ⟨h.1, by have := hchg.size; omega⟩⟩⟩




set_option maxRecDepth 100000 in
set_option maxHeartbeats 1000000 in
theorem fixDecode512 (w : World) (Fr D F : Nat → Prop) (r q n : Nat) (flat tail rest cur : List UInt8) (ok : Bool) (hR : RdAt w Fr D r rest cur) (hX : NumCol w F 169 170 512 q 0 []) (hF : ∀ k, F k → ¬ Fr k ∧ ¬ D k)
    (hrest : (ok = true ∧ rest = flat ++ tail) ∨ (ok = false ∧ rest.length < flat.length)) (hn : flat.length = n * 512) (hbig : rest.length ≤ 1000000000) (hfl : flat.length ≤ 1000000000) :
    Calls Tryz.prog 236 #[.pointer (some ⟨q, 0, none⟩), .pointer (some ⟨r, 0, none⟩), .int .i64 n] w (DecNum w Fr D F r q 169 170 512 ok n (u8s flat) tail) := by
  obtain ⟨v0, hX, hFX⟩ := hX
  obtain ⟨c0, cf, hlt⟩ := hX.cell
  have hinD : In D w := by obtain ⟨_, _, _, h⟩ := hR; exact h.inD
  by_cases hn0 : n = 0
  · subst hn0
    obtain rfl : flat = [] := List.length_eq_zero_iff.1 (by omega)
    rcases hrest with ⟨rfl, rfl⟩ | ⟨rfl, h⟩
    · have HR := Lib.hid hR
      have HX := Lib.hid (And.intro hX (And.intro hFX hF))
      clear hR hX hFX hF
      go_enter Tryz.func236, Tryz.ntmps236
      go_wp2_with fail
      go_ret
      exact ⟨fun _ => ⟨rfl, Fr, cur, F, HR.out, ⟨v0, HX.out.1, HX.out.2.1⟩, Upd.refl _ _, HX.out.2.2⟩, fun h => by simp at h⟩
    · simp at h
  · have hnI : ¬ (n : Int) = 0 := by omega
    have hml : IntKind.i64.wrap ((n : Int) * 512) = ((n * 512 : Nat) : Int) := by rw [IntKind.wrap_i64]; omega
    rcases hrest with ⟨rfl, rfl⟩ | ⟨rfl, hsh⟩
    · have HRR := Lib.hid (rdRawN w Fr D r flat tail cur (n * 512) hn.symm hR (by omega))
      have HX := Lib.hid (And.intro hX (And.intro hFX (And.intro hF hinD)))
      have HN := Lib.hid hn
      have HC0 := Lib.hid (And.intro c0 cf)
      obtain ⟨p0, k0, rfl⟩ := hX.slice
      clear hR hX hFX hF hinD c0 cf
      go_enter Tryz.func236, Tryz.ntmps236
      go_wp2_with fail
      refine HRR.out.mono ?_
      rintro e w1 ⟨b, vb, F2, hbr, rfl, h2, hbv, hu2⟩
      obtain ⟨hXX, hFX, hF, hinD⟩ := HX.out
      have c1 : w1.cell? ⟨q, 0, none⟩ = some (.slice p0 0 k0) := by rw [hu2.chg.cell (p := ⟨q, 0, none⟩) hlt (hF q (hFX q (.inl rfl))).1]; exact HC0.out.1
      have f1 : w1.frozen? ⟨q, 0, none⟩ = false := by rw [hu2.chg.frozen (p := ⟨q, 0, none⟩) hlt (hF q (hFX q (.inl rfl))).1]; exact HC0.out.2
      obtain ⟨bb, off, cc, rfl, hcc, hbx⟩ : ∃ bb off cc : Nat, vb = .slice (some ⟨bb, off, none⟩) flat.length cc ∧ flat.length ≤ cc ∧ F2 bb := by
        rcases id hbv with ⟨rfl, h⟩ | ⟨bb, off, cc, rfl, hcc, -⟩
        · subst h; simp at hn; omega
        · refine ⟨bb, off, cc, rfl, hcc, ?_⟩
          obtain ⟨FB, hrow, -, hsub⟩ := h2.row
          exact hsub bb (hrow.2.2.2 bb rfl).1
      have HBV := Lib.hid hbv
      have H2 := Lib.hid (And.intro hbr (And.intro h2 (And.intro hu2 hbx)))
      have hln : flat.length = n * 512 := HN.out
      have hxl : (1 : Nat) ≤ n := by omega
      have hld0 : ∃ y : UInt8, w1.cell? ⟨bb, off + (n * 512 - 512), none⟩ = some (.int .u8 y.toNat) := by
        rcases hbv with ⟨h, -⟩ | ⟨b', o', c', h, -, hx⟩
        · simp at h
        · obtain ⟨⟨rfl, rfl⟩, -⟩ : (bb = b' ∧ off = o') ∧ cc = c' := by simpa using h
          exact ⟨_, hx (n * 512 - 512) (by omega)⟩
      obtain ⟨y, hy⟩ := hld0
      have s1 : IntKind.i64.wrap ((n * 512 : Nat) - 512 : Int) = ((n * 512 - 512 : Nat) : Int) := by rw [IntKind.wrap_i64]; omega
      rw [hln]
      clear hbv hbr h2 hu2 hXX hFX hF hinD hbx hn
      go_wp2_with fail
      go_loopw [9, 10] (fun vv vi wr => ∃ k m : Nat, ∃ p c, k ≤ n ∧ m = k * 512 ∧ vi = .int .i64 m ∧ vv = .slice p k c ∧ DecK w1 170 512 (.slice p0 0 k0) flat k (.slice p k c) wr) (fun _ vi _ => n * 512 - (intOf vi).toNat)
      case atStart =>
        obtain ⟨hXX, hFX, hF, hinD⟩ := HX.out
        exact ⟨0, 0, p0, k0, Nat.zero_le _, rfl, rfl, rfl, decK_zero (hXX.chg H2.out.2.2.1.chg fun k hk => (hF k (hFX k hk)).1)⟩
      case round =>
        obtain ⟨k, m, p, c, hk, hm, rfl, rfl, hD⟩ := hrel
        by_cases hkn : k < n
        · obtain ⟨Fk, hown, huk⟩ := hD
          obtain ⟨row, hrow⟩ : ∃ row, row = (flat.drop (k * 512)).take 512 := ⟨_, rfl⟩
          have hrl : row.length = 512 := by rw [hrow, List.length_take, List.length_drop, HN.out]; omega
          have hbr : BytesAt wr (.slice (some ⟨bb, off, none⟩) flat.length cc) flat := HBV.out.keep fun g hg => by
            obtain rfl : bb = g := by simpa [Value.ownBlock] using hg
            obtain ⟨-, hx2, hu2, hb2⟩ := H2.out
            obtain ⟨hXX, hFX, hF, hinD⟩ := HX.out
            refine huk.chg.block bb (hx2.inF bb hb2) fun e => ?_
            rcases hu2.new bb hb2 with h | h
            · exact (hF bb (hFX bb (.inr e))).1 h
            · have := hXX.inn bb (.inr e); omega
          have hrr := row_range hbr k 512 row hrow
          rw [← hm] at hrr
          obtain ⟨cs, hcs⟩ : ∃ cs, cs = u8s row := ⟨_, rfl⟩
          have h1 := u8s_one row
          have hcl : cs.length = 512 := by rw [hcs, u8s_length, hrl]
          rw [← hcs] at hrr h1
          have hld := load_mid hrr
          rw [hcl] at hld
          have har := fun W a c => run_arrayAt Tryz.underlying170 W a c
          have hbs := fun W => run_build1 elem512 (by decide) W cs hcl
          have g1 : IntKind.i64.wrap ((m : Int) + 512) = (m : Int) + 512 := by rw [IntKind.wrap_i64]; omega
          have g2 : (0 : Int) ≤ (m : Int) + 512 := by omega
          have g3 : ((m : Int) + 512).toNat = m + 512 := by omega
          have g4 : (m : Int) + 512 ≤ (cc : Int) := by omega
          have g5 : ¬ cc = m := by omega
          have g6 : (m : Int) ≤ ((n * 512 - 512 : Nat) : Int) := by omega
          have HO := Lib.hid (And.intro hown (And.intro huk (And.intro hrow hcs)))
          have HSR := Lib.hid (src_new elem512 wr.heap.size cs _ (heap_alloc_new wr (.cells cs.toArray 170)) hcl h1 1)
          have HM := Lib.hid hm
          clear hown huk hrow hbr hrr h1 hcs hm
          go_wp2_with (at_builtin; refine append_rows elem512 _ Fk k 1 (u8s (flat.take (k * 512))) _ rfl _ _ _ rfl _ rfl (HO.out.1.keep ((Below.refl _ wr).alloc (Nat.le_refl _) _)) _ rfl HSR.out (by omega) (by omega) ?_; intro p5 c5 w5 F5 hown5 hu5)
          go_roundw
          case rel =>
            obtain ⟨-, h2, h3, h4⟩ := HO.out
            rw [h4] at hown5
            exact ⟨k + 1, m + 512, p5, c5, hkn, by rw [HM.out]; omega, by go_num, rfl, decK_next h3 h2 hown5 hu5⟩
          case measure => simp [intOf]; omega
        · obtain rfl : k = n := by omega
          subst hm
          have g6 : ¬ ((k * 512 : Nat) : Int) ≤ ((k * 512 - 512 : Nat) : Int) := by omega
          have HD := Lib.hid hD
          obtain ⟨Fk, hown, huk⟩ := hD
          obtain ⟨hXX, hFX, hF, hinD⟩ := HX.out
          obtain ⟨hbr, h2, hu2, hbx⟩ := H2.out
          have hq1 : q < w1.heap.size := by have := hu2.chg.size; omega
          have hqn : ¬ (Value.slice p0 0 k0).ownBlock = some q := fun e => hXX.bq e rfl
          have c2 : wr.cell? ⟨q, 0, none⟩ = some (.slice p0 0 k0) := by rw [huk.chg.cell (p := ⟨q, 0, none⟩) hq1 hqn]; exact c1
          have f2 : wr.frozen? ⟨q, 0, none⟩ = false := by rw [huk.chg.frozen (p := ⟨q, 0, none⟩) hq1 hqn]; exact f1
          clear hown huk hXX hFX hF hinD hbr h2 hu2 hbx hqn
          go_wp2_with fail
          go_ret
          obtain ⟨hXX, hFX, hF, hinD⟩ := HX.out
          obtain ⟨hbr, h2, hu2, hbx⟩ := H2.out
          exact decK_done hXX hFX hF hinD hbr h2 hu2 HD.out HN.out
    · have HRR := Lib.hid (rdRawN_short w Fr D r rest cur hR (n * 512) (by omega))
      have HX := Lib.hid (And.intro hFX hF)
      clear hR hX hFX hF hinD
      go_enter Tryz.func236, Tryz.ntmps236
      go_wp2_with (first | (go_at_call 164; refine HRR.out.mono ?_; rintro e w1 ⟨a, F1, cur1, rfl, h1, hu⟩) | (go_at_call 89; refine (wrapErr _ _ _ _).mono ?_; rintro e w2 ⟨⟨a2, rfl⟩, hb2⟩))
      go_ret
      exact ⟨fun h => by simp at h, fun _ => ⟨⟨_, rfl⟩, (hu.chg.mono fun _ _ h => .inl h).trans (Chg.of_below hb2) fun _ _ h => h⟩⟩

set_option maxRecDepth 100000 in
theorem fixRows512 (w : World) (p : Option Addr) (n c : Nat) : Calls Tryz.prog 240 #[.slice p n c] w fun e w' => e = .returned (.int .i64 n) ∧ w = w' := by
  go_enter Tryz.func240, Tryz.ntmps240
  go_wp2_with fail
  go_ret
  exact ⟨rfl, rfl⟩

theorem rowAppF512 : MRow 167 "Append" [] (some (234, true)) := mRow_of (by kernel_rfl)
theorem rowRowF512 : MRow 167 "Row" [] (some (239, false)) := mRow_of (by kernel_rfl)

set_option maxRecDepth 100000 in
theorem addF512 (w : World) (F : Nat → Prop) (q n : Nat) (xs : List Value) (x : Value) (s : List UInt8) (f2 f3 : Value) (hx : BytesX w x s) (hs : s.length = 512) (h : NumCol w F 169 170 512 q n xs) (hF : In F w) (hn : n + 1 ≤ 100000000) :
    Calls Tryz.prog 243 #[.agg #[.iface 167 (.pointer (some ⟨q, 0, none⟩)), .func (.func 53) #[] #[], f2, f3], x] w (PutN w F 169 170 512 q (n + 1) (xs ++ u8s s)) := by
  have hm : ∀ W, (method 383 167 (.pointer (some ⟨q, 0, none⟩)) "Append").run Tryz.prog W = .ok (234, .pointer (some ⟨q, 0, none⟩)) W := fun W => meth_ptr 382 rowAppF512 Tryz.underlying167 (.pointer (some ⟨q, 0, none⟩)) W
  obtain ⟨px, cx, rfl⟩ := hx.slice
  obtain ⟨x, hxe⟩ : ∃ x, x = Value.slice px s.length cx := ⟨_, rfl⟩
  rw [← hxe] at hx ⊢
  clear hxe
  have HX := Lib.hid hx
  have HS := Lib.hid h
  have HL := Lib.hid hs
  have HF : Hid (¬ F w.heap.size) := Lib.hid fun h => by have := hF _ h; omega
  clear hx h hF hs
  go_enter Tryz.func243, Tryz.ntmps243
  go_wp2_with fail
  go_region_held3 (fun w' => w'.cell? ⟨w.heap.size, 0, none⟩ = some (.iface 167 (.pointer (some ⟨q, 0, none⟩))) ∧ w'.cell? ⟨w.heap.size, 1, none⟩ = some (.func (.func 53) #[] #[])) (first | exact ⟨s0, s1⟩ | go_keep)
    (first | (go_at_call 53; refine (in512 _ x s (HX.out.below (((Below.refl _ w).alloc (Nat.le_refl _) _).drew)) HL.out).mono ?_; rintro e w1 ⟨rfl, hb1⟩; have s0 : w1.cell? ⟨w.heap.size, 0, none⟩ = some (.iface 167 (.pointer (some ⟨q, 0, none⟩))) := (by rw [hb1.cell (by simp)]; go_simp); have s1 : w1.cell? ⟨w.heap.size, 1, none⟩ = some (.func (.func 53) #[] #[]) := (by rw [hb1.cell (by simp)]; go_simp)) | (go_at_call 234; refine (fixAppend512 _ F q n xs s HL.out (HS.out.keep ((((Below.refl _ w).alloc (Nat.le_refl _) _).drew).trans (hb1.mono (by simp)))) hn).mono ?_; rintro e w' ⟨rfl, F1, h1, hu1⟩; have s0 : w'.cell? ⟨w.heap.size, 0, none⟩ = some (.iface 167 (.pointer (some ⟨q, 0, none⟩))) := (by rw [hu1.chg.cell (p := ⟨w.heap.size, 0, none⟩) (by have := hb1.size; simp at this ⊢; omega) HF.out]; exact s0); have s1 : w'.cell? ⟨w.heap.size, 1, none⟩ = some (.func (.func 53) #[] #[]) := (by rw [hu1.chg.cell (p := ⟨w.heap.size, 1, none⟩) (by have := hb1.size; simp at this ⊢; omega) HF.out]; exact s1)))
  go_returns
  exact ⟨rfl, F1, h1, ((Upd.refl F w).below ((((Below.refl _ w).alloc (Nat.le_refl _) _).drew).trans (hb1.mono (by simp)))).trans hu1⟩

set_option maxRecDepth 100000 in
theorem atF512 (w : World) (F : Nat → Prop) (q n i : Nat) (xs : List Value) (s : List UInt8) (f1 f3 : Value) (h : NumCol w F 169 170 512 q n xs) (hi : i < n) (hn : n ≤ 100000000) (hs : s.length = 512) (hr : (xs.drop (i * 512)).take 512 = u8s s) :
    Calls Tryz.prog 246 #[.agg #[.iface 167 (.pointer (some ⟨q, 0, none⟩)), f1, .func (.func 54) #[] #[], f3], .int .i64 i] w (Made w s) := by
  obtain ⟨v, hX, -⟩ := h
  obtain ⟨c0, cf, hlt⟩ := hX.cell
  obtain ⟨B, hB⟩ : ∃ B, B = (Obj.cells #[.iface 167 (.pointer (some ⟨q, 0, none⟩)), f1, .func (.func 54) #[] #[], f3] 176) := ⟨_, rfl⟩
  have hbw : Below w.heap.size w (w.alloc B).drew := ((Below.refl _ w).alloc (Nat.le_refl _) _).drew
  have hld := load_one (w := (w.alloc B).drew) (by rw [hbw.block q hlt]; exact hX.at_) Tryz.underlying169
  have hmm := meth_val 382 rowRowF512 Tryz.underlying167 ⟨q, 0, none⟩ (w.alloc B).drew v hld
  obtain ⟨g, c, rfl, hcn, hg, hx⟩ : ∃ g c : Nat, v = .slice (some ⟨g, 0, none⟩) n c ∧ n ≤ c ∧ g < w.heap.size ∧ w.rangeAt g 0 xs := by
    rcases hX.view.2 with ⟨-, h⟩ | h
    · omega
    · exact h
  have hrow := range_row (size := 512) (fun j x hj => by rw [hbw.cell (p := ⟨g, 0 + j, none⟩) hg]; exact hx j x hj : (w.alloc B).drew.rangeAt g 0 xs) i
  rw [hr] at hrow
  have HR := Lib.hid (fixRow512 (w.alloc B).drew (.slice none 0 0) g 0 n c i (u8s s) hi (by omega) (by rw [Nat.zero_add]; exact hrow) (by rw [u8s_length, hs]) (u8s_one s))
  have HB := Lib.hid hbw
  have HS := Lib.hid hs
  have HL : Hid (([] : List UInt8).length + s.length ≤ 140737488355328) := Lib.hid (by simp; omega)
  obtain ⟨cs, hcs⟩ : ∃ cs, cs = (u8s s).toArray := ⟨_, rfl⟩
  rw [← hcs] at HR
  have HCS := Lib.hid hcs
  subst hB
  clear hX hbw hld hx hrow hr hs hcs c0 cf
  go_enter Tryz.func246, Tryz.ntmps246
  go_wp2_with fail
  go_region_held3 (fun w' => w'.cell? ⟨w.heap.size, 0, none⟩ = some (.iface 167 (.pointer (some ⟨q, 0, none⟩))) ∧ w'.cell? ⟨w.heap.size, 2, none⟩ = some (.func (.func 54) #[] #[])) (first | exact ⟨s0, s2⟩ | go_keep)
    (first | (go_at_call 239; refine HR.out.mono ?_; rintro e w1 ⟨rfl, hb1⟩; have s0 : w1.cell? ⟨w.heap.size, 0, none⟩ = some (.iface 167 (.pointer (some ⟨q, 0, none⟩))) := (by rw [hb1.cell (by simp)]; go_simp); have s2 : w1.cell? ⟨w.heap.size, 2, none⟩ = some (.func (.func 54) #[] #[]) := (by rw [hb1.cell (by simp)]; go_simp)) | (go_at_call 54; refine (outB512 _ s cs HCS.out HS.out).mono ?_; rintro e w2 ⟨rfl, hx, hb2⟩; have s0 : w2.cell? ⟨w.heap.size, 0, none⟩ = some (.iface 167 (.pointer (some ⟨q, 0, none⟩))) := (by rw [hb2.cell (by have := hb1.size; simp at this ⊢; omega)]; exact s0); have s2 : w2.cell? ⟨w.heap.size, 2, none⟩ = some (.func (.func 54) #[] #[]) := (by rw [hb2.cell (by have := hb1.size; simp at this ⊢; omega)]; exact s2)) | (refine step_append_since _ w2 [] s (by rfl) _ _ _ (by rfl) _ (by rfl) ⟨⟨fun _ => False, OwnB.nil _ _, fun _ h => h.elim⟩, Below.refl _ _⟩ _ (by rfl) hx.srcB HL.out ?_; intro q1 c1 w3 hs3; have s0 : w3.cell? ⟨w.heap.size, 0, none⟩ = some (.iface 167 (.pointer (some ⟨q, 0, none⟩))) := (by rw [hs3.below.cell (by have := hb2.size; have := hb1.size; simp at this ⊢; omega)]; exact s0); have s2 : w3.cell? ⟨w.heap.size, 2, none⟩ = some (.func (.func 54) #[] #[]) := (by rw [hs3.below.cell (by have := hb2.size; have := hb1.size; simp at this ⊢; omega)]; exact s2)))
  go_wp2_with fail
  go_ret
  exact made_at HB.out hb1 hb2 hs3
end Go.Proofs.YtkidcgaogjlpaaaGreat
