/- proto.ColFixedStr8 .. 512. Written by gen_fx.py. -/
import Derived.Test.YtkidcgaogjlpaaaGreatNumD
import Derived.Test.YtkidcgaogjlpaaaGreatAt
namespace Go.Proofs.YtkidcgaogjlpaaaGreat
open Go.RowKit
set_option linter.unusedVariables false
set_option linter.unusedSimpArgs false
attribute [-go_sem] Instr.buildSlice loadCells
theorem info8 : (Tryz.prog.info? 110).map (·.size) = some 8 := by kernel_rfl
theorem info8z : (Tryz.prog.info? 110).map (fun i => (i.zero, i.size, i.bytes)) = some (some (.agg (Array.replicate 8 (.int .u8 0))), 8, 8) := by kernel_rfl
theorem elem8 : Elem 109 110 8 8 := elem_of Tryz.underlying109 info8z (by simp [Value.cells]) (by decide)
theorem zero8 : ∀ w, (zeroValue 110).run Tryz.prog w = .ok (.agg (Array.replicate 8 (.int .u8 0))) w := (zero_of_info (by have h := info8z; cases hq : Tryz.prog.info? 110 with | none => simp [hq] at h | some i => simp [hq] at h ⊢; exact ⟨h.1, h.2.1⟩)).1




set_option maxRecDepth 100000 in
theorem fixAppend8 (w : World) (F : Nat → Prop) (q n : Nat) (xs : List Value) (s : List UInt8) (hs : s.length = 8) (h : NumCol w F 109 110 8 q n xs) (hn : n + 1 ≤ 100000000) :
    Calls Tryz.prog 155 #[.pointer (some ⟨q, 0, none⟩), .agg (u8s s).toArray] w (PutN w F 109 110 8 q (n + 1) (xs ++ u8s s)) := by
  obtain ⟨v, hX, hF⟩ := h
  obtain ⟨c0, cf, hlt⟩ := hX.cell
  obtain ⟨p0, k0, rfl⟩ := hX.slice
  have hl : (u8s s).length = 8 := by simp [u8s, hs]
  have HX := Lib.hid hX
  have HF := Lib.hid hF
  obtain ⟨cs, hcs⟩ : ∃ cs, cs = u8s s := ⟨_, rfl⟩
  have H1 : Hid (∀ u ∈ cs, u.oneCell' = true) := Lib.hid (by rw [hcs]; exact u8s_one s)
  rw [← hcs] at hl ⊢
  have HL := Lib.hid hl
  have hld := load_new w cs 110
  rw [hl] at hld
  have hbs := fun W => run_build1 elem8 (by decide) W cs hl
  have HXA := Lib.hid (hX.keep (((Below.refl _ w).alloc (Nat.le_refl _) (.cells cs.toArray 110)).alloc (by simp) (.cells cs.toArray 110))).drew
  have HSR := Lib.hid (src_box elem8 w (.cells cs.toArray 110) cs 110 hl H1.out)
  clear hcs hl hX hF
  go_enter Tryz.func155, Tryz.ntmps155
  go_wp2_with fail
  go_region_law ((refine step_num elem8 (by rfl) _ q _ _ _ HXA.out _ _ _ (by rfl) (by rfl) _ (by rfl) 1 _ HSR.out (by omega) (by omega) ?_; intro p1 k1 w1 G1; have e0 := G1.c0; have ef := G1.cf))
  all_goals
    go_returns
    exact putN_of HF.out G1.ok ((((Upd.refl _ w).alloc _).alloc _).trans G1.upd.ofDrew)





set_option maxRecDepth 100000 in
theorem out8 (w : World) (s : List UInt8) (hs : s.length = 8) : Calls Tryz.prog 42 #[.agg (u8s s).toArray] w fun e w' => e = .returned (.slice (some ⟨w.heap.size, 0, none⟩) 8 8) ∧ w' = w.alloc (.cells (u8s s).toArray 110) := by
  go_enter Tryz.func42, Tryz.ntmps42
  go_wp2_with fail
  go_ret
  exact ⟨rfl, rfl⟩

theorem outB8 (w : World) (s : List UInt8) (cs : Array Value) (hc : cs = (u8s s).toArray) (hs : s.length = 8) : Calls Tryz.prog 42 #[.agg cs] w fun e w' => e = .returned (.slice (some ⟨w.heap.size, 0, none⟩) 8 8) ∧ BytesAt w' (.slice (some ⟨w.heap.size, 0, none⟩) 8 8) s ∧ Below w.heap.size w w' := by
  subst hc
  refine (out8 w s hs).mono ?_
  rintro e w' ⟨rfl, rfl⟩
  have h := bytesAt_row w s 110
  rw [hs] at h
  exact ⟨rfl, h, (Below.refl _ w).alloc (Nat.le_refl _) _⟩
set_option maxRecDepth 100000 in
theorem in8 (w : World) (x : Value) (s : List UInt8) (hx : BytesX w x s) (hs : s.length = 8) : Calls Tryz.prog 41 #[x] w fun e w' => e = .returned (.agg (u8s s).toArray) ∧ Below w.heap.size w w' := by
  obtain ⟨b, off, c, rfl, hc, hr⟩ := hx.range (by omega)
  have hl : (u8s s).length = 8 := by simp [u8s, hs]
  have h1 := u8s_one s
  rw [hs] at hc ⊢
  obtain ⟨cs, hcs⟩ : ∃ cs, cs = u8s s := ⟨_, rfl⟩
  rw [← hcs] at hr hl h1 ⊢
  have hld := fun o => load_mid (range_alloc hr o)
  have hst := store_new w cs 110 h1
  have hz0 := zero8
  rw [hl] at hld hst
  have hfin := load_mid (cs := cs) (range_new w cs 110)
  rw [hl] at hfin
  clear hx hr h1 hcs hs
  have har := fun W a c => run_arrayAt Tryz.underlying110 W a c
  go_enter Tryz.func41, Tryz.ntmps41
  go_wp2_with fail
  refine bodyPost_ret (v := .agg cs.toArray) (by simp [results, Tryz.results41, go_sem, hfin]) rfl ⟨rfl, (Below.refl _ w).alloc (Nat.le_refl _) _⟩
set_option maxRecDepth 100000 in
theorem fixRow8 (w : World) (v : Value) (g off n c i : Nat) (cs : List Value) (hi : i < n) (hn : n ≤ 8796093022208) (hr : w.rangeAt g (off + i * 8) cs) (hl : cs.length = 8) (h1 : ∀ u ∈ cs, u.oneCell' = true) :
   Calls Tryz.prog 160 #[.slice (some ⟨g, off, none⟩) n c, .int .i64 i] w fun e w' => e = .returned (.agg cs.toArray) ∧ Below w.heap.size w w' := by
  have hld := fun o => load_mid (range_alloc hr o)
  have hst := store_new w cs 110 h1
  have hz0 := zero8
  rw [hl] at hld hst
  have hfin := load_mid (cs := cs) (range_new w cs 110)
  rw [hl] at hfin
  clear hr h1
  go_enter Tryz.func160, Tryz.ntmps160
  go_wp2_with fail
  refine bodyPost_ret (v := .agg cs.toArray) (by simp [results, Tryz.results160, go_sem, hfin]) rfl ⟨rfl, (Below.refl _ w).alloc (Nat.le_refl _) _⟩
set_option maxRecDepth 100000 in
set_option maxHeartbeats 1000000 in
theorem fixEncode8 (w : World) (F : Nat → Prop) (p : Nat) (bs : List UInt8) (v : Value) (n : Nat) (flat : List UInt8) (hB : BufAt w F 179 p bs) (hF : In F w) (h : NumV w v n 8 (u8s flat)) (hv : ∀ g, v.ownBlock = some g → ¬ F g)
    (hl : bs.length + n * 8 ≤ 140737488355328) :
    Calls Tryz.prog 158 #[v, .pointer (some ⟨p, 0, none⟩)] w (Put w F 179 p (bs ++ flat)) := by
  obtain ⟨hfl, hcase⟩ := h
  rw [u8s_length] at hfl
  rcases hcase with ⟨rfl, rfl⟩ | ⟨gx, cx, rfl, hcx, hgx, hx⟩
  · obtain rfl : flat = [] := List.length_eq_zero_iff.1 (by omega)
    go_enter Tryz.func158, Tryz.ntmps158
    go_wp2_with fail
    go_returns
    exact ⟨rfl, F, by simpa using hB, Upd.refl _ _⟩
  · by_cases hn0 : n = 0
    · subst hn0
      obtain rfl : flat = [] := List.length_eq_zero_iff.1 (by omega)
      clear hx
      go_enter Tryz.func158, Tryz.ntmps158
      go_wp2_with fail
      go_returns
      exact ⟨rfl, F, by simpa using hB, Upd.refl _ _⟩
    · have hnI : ¬ (n : Int) = 0 := by omega
      obtain ⟨vb, hcb, hfb, hlb⟩ := hB.cell
      obtain ⟨pb, kb, rfl⟩ : ∃ p k, vb = .slice p bs.length k := by
        obtain ⟨v', h1, h2, -⟩ := hB.bytes
        rw [hcb] at h1
        obtain rfl := Option.some.inj h1
        exact h2.slice
      have hml : IntKind.i64.wrap (8 * (n : Int)) = ((n * 8 : Nat) : Int) := by rw [IntKind.wrap_i64]; omega
      have HB := Lib.hid hB
      have HX := Lib.hid hx
      have HF := Lib.hid hF
      have HFL := Lib.hid hfl
      have hgF := hv gx rfl
      have hgx0 := hgx
      clear hB hx hF hv hfl
      go_enter Tryz.func158, Tryz.ntmps158
      go_wp2_with (at_builtin; refine list_zeros_bufs rfl _ F _ p bs (n * 8) (by omega) _ _ rfl HB.out _ hcb rfl rfl hl ?_; intro g c w1 hc1 hf1 hst1)
      obtain ⟨F2, hB2, hu2⟩ := hst1
      obtain ⟨W1, hW1⟩ : ∃ W1, W1 = w1.setCell ⟨p, 0, none⟩ (.slice (some ⟨g, 0, none⟩) (bs.length + n * 8) c) := ⟨_, rfl⟩
      have hcW : W1.cell? ⟨p, 0, none⟩ = some (.slice (some ⟨g, 0, none⟩) (bs.length + n * 8) c) := by rw [hW1]; go_simp
      rw [← hW1] at hB2 hu2 ⊢
      obtain ⟨hG, hgF2, hpF2⟩ := hB2.two hcW
      have hgx : gx ≠ g := fun e => by
        rcases hu2.new g hgF2 with h | h
        · exact hgF (e ▸ h)
        · omega
      have hxW : W1.rangeAt gx 0 (u8s flat) := fun j x hj => by rw [hu2.chg.cell (p := ⟨gx, 0 + j, none⟩) hgx0 hgF]; exact HX.out j x hj
      have HG := Lib.hid hG
      have HU2 := Lib.hid hu2
      have HXW := Lib.hid hxW
      have HF2 := Lib.hid (And.intro hgF2 hpF2)
      obtain ⟨L, hL⟩ : ∃ L, L = bs.length + n * 8 := ⟨_, rfl⟩
      have HLL := Lib.hid hL
      rw [← hL] at HG
      clear hG hu2 hxW hgF2 hpF2 hB2 hcW hW1 hc1 hf1 hL
      go_loopw [5, 30] (fun vo vi wr => ∃ i off : Nat, i ≤ n ∧ vi = .int .i64 i ∧ vo = .int .i64 off ∧ off = bs.length + i * 8 ∧ BufG wr 179 p g L c (halfway bs flat 8 n i) ∧ Chg (· = g) W1 wr) (fun _ vi _ => n - (intOf vi).toNat)
      case atStart => exact ⟨0, bs.length, Nat.zero_le _, rfl, rfl, by simp, by rw [halfway_zero]; exact HG.out, Chg.refl _ _⟩
      case round =>
        obtain ⟨i, off, hi, rfl, rfl, hoff, hBG, hchg⟩ := hrel
        by_cases hlt : i < n
        · obtain ⟨b0, bf, bp, bg⟩ := hBG.cells
          obtain ⟨cur, hcur, hcl, hct⟩ := hBG.row
          obtain ⟨hl1, hl2, hl3⟩ := hBG.len
          obtain ⟨row, hrow⟩ : ∃ row, row = (flat.drop (i * 8)).take 8 := ⟨_, rfl⟩
          have hfl := HFL.out
          have hrl : row.length = 8 := by rw [hrow, List.length_take, List.length_drop, hfl]; omega
          have hnx := halfway_next bs flat 8 n i hfl hlt cur c L hcl HLL.out hl2 hct row hrow off hoff
          have hrr : wr.rangeAt gx (i * 8) (u8s row) := by
            have h := range_row (size := 8) (fun j x hj => by rw [hchg.cell (p := ⟨gx, 0 + j, none⟩) (by have := HU2.out.chg.size; simp; omega) (by simpa using hgx)]; exact HXW.out j x hj : wr.rangeAt gx 0 (u8s flat)) i
            rw [hrow]; simpa [u8s, List.map_take, List.map_drop] using h
          obtain ⟨cs, hcs⟩ : ∃ cs, cs = u8s row := ⟨_, rfl⟩
          have h1 := u8s_one row
          have hcsl : cs.length = 8 := by rw [hcs, u8s_length, hrl]
          rw [← hcs] at hrr h1 hnx
          have hld := load_mid hrr
          have hst := store_new wr cs 110 h1
          have hz0 := zero8
          rw [hcsl] at hld hst
          have hLv := HLL.out
          have w1 : IntKind.i64.wrap ((off : Int) + 8) = (off : Int) + 8 := by rw [IntKind.wrap_i64]; omega
          have n1 : ¬ c = off := by omega
          have n3 : (0 : Int) ≤ (off : Int) + 8 := by omega
          have n4 : ((off : Int) + 8).toNat = off + 8 := by omega
          have n2 : (off : Int) + 8 ≤ (c : Int) := by omega
          have HBG := Lib.hid hBG
          have HCG := Lib.hid hchg
          have HOFF := Lib.hid hoff
          have HNX := Lib.hid hnx
          have HCUR := Lib.hid (And.intro hcur (And.intro hcl hct))
          have HCS := Lib.hid (And.intro h1 hcsl)
          clear hBG hchg hcur hct hnx hrr h1 hcs hrow hl1 hl3 hoff
          go_wp2_with fail
          refine wp_region_still_tail 9 (by kernel_rfl) (by kernel_rfl) ?_
          simp only [List.take_succ_cons, List.take_zero, List.drop_succ_cons, List.drop_zero]
          change wpStill _ _ (World.drew _) _ _ _
          repeat still_step
          refine wpStill_nil ?_
          change wpList _ _ _ _ _ (World.drew _)
          obtain ⟨h1, h2⟩ := HCS.out
          obtain ⟨hcur, hcl', hct⟩ := HCUR.out
          have hcurA : (wr.alloc (.cells cs.toArray 110)).drew.heap[g]? = some (.cells cur.toArray 5 (0, 0)) := by
            show (wr.alloc _).heap[g]? = _
            rw [Below.heap_alloc _ _ _ bg]; exact hcur
          have hSRC : ∀ j v, cs[j]? = some v → (wr.alloc (.cells cs.toArray 110)).drew.cell? ((⟨wr.heap.size, 0, none⟩ : Addr).add j) = some v := fun j v hj => by rw [Addr.add_mid]; exact (World.rangeAt_drew _ _ _ _ |>.2 (range_new wr cs _)) j v hj
          refine list_copy_chg rfl _ _ _ _ rfl 5 Tryz.underlying34 (by kernel_rfl) g off _ _ _ _ _ rfl rfl cur _ hcurA cs (by rw [h2]; rfl) hSRC (by rw [h2, hcl]; omega) h1 ?_
          intro w2 hg2 hc2
          have hbA : Below wr.heap.size wr (wr.alloc (.cells cs.toArray 110)).drew := ((Below.refl _ wr).alloc (Nat.le_refl _) _).drew
          have hB2 : BufG w2 179 p g L c (halfway bs flat 8 n (i + 1)) := by
            obtain ⟨k1, -, ⟨k3, k4, k5⟩, k6⟩ := HBG.out
            exact ⟨by rw [hc2.block p (by simp; omega) (fun e => k6 e.symm), hbA.block p bp]; exact k1, ⟨_, hg2, HNX.out.2, HNX.out.1⟩, ⟨by rw [halfway_length _ _ _ _ _ hfl hlt]; exact HLL.out.symm, k4, k5⟩, k6⟩
          have hC2 : Chg (· = g) W1 w2 := (HCG.out.trans (Chg.of_below hbA) fun _ _ h => h).trans hc2 fun _ _ h => h
          clear hg2 hc2 hcur hct hcl' hcurA hSRC hbA
          go_wp2_with fail
          go_roundw
          case rel => exact ⟨i + 1, off + 8, hlt, by go_num, by go_num, by rw [HOFF.out, Nat.add_mul]; omega, hB2, hC2⟩
          case measure => simp [intOf]; omega
        · obtain rfl : i = n := by omega
          go_wp2_with fail
          go_returns
          rw [halfway_all _ _ _ _ HFL.out] at hBG
          exact ⟨rfl, F2, hBG.buf HF2.out.1 HF2.out.2, ⟨HU2.out.chg.trans hchg fun k hk h => by
            subst h
            rcases HU2.out.new _ HF2.out.1 with h | h
            · exact h
            · omega, fun k hk => by
            rcases HU2.out.new k hk with h | h
            · exact .inl h
            · exact .inr ⟨h.1, by have := hchg.size; omega⟩⟩⟩




set_option maxRecDepth 100000 in
set_option maxHeartbeats 1000000 in
theorem fixDecode8 (w : World) (Fr D F : Nat → Prop) (r q n : Nat) (flat tail rest cur : List UInt8) (ok : Bool) (hR : RdAt w Fr D r rest cur) (hX : NumCol w F 109 110 8 q 0 []) (hF : ∀ k, F k → ¬ Fr k ∧ ¬ D k)
    (hrest : (ok = true ∧ rest = flat ++ tail) ∨ (ok = false ∧ rest.length < flat.length)) (hn : flat.length = n * 8) (hbig : rest.length ≤ 1000000000) (hfl : flat.length ≤ 1000000000) :
    Calls Tryz.prog 157 #[.pointer (some ⟨q, 0, none⟩), .pointer (some ⟨r, 0, none⟩), .int .i64 n] w (DecNum w Fr D F r q 109 110 8 ok n (u8s flat) tail) := by
  obtain ⟨v0, hX, hFX⟩ := hX
  obtain ⟨c0, cf, hlt⟩ := hX.cell
  have hinD : In D w := by obtain ⟨_, _, _, h⟩ := hR; exact h.inD
  by_cases hn0 : n = 0
  · subst hn0
    obtain rfl : flat = [] := List.length_eq_zero_iff.1 (by omega)
    rcases hrest with ⟨rfl, rfl⟩ | ⟨rfl, h⟩
    · have HR := Lib.hid hR
      have HX := Lib.hid (And.intro hX (And.intro hFX hF))
      clear hR hX hFX hF
      go_enter Tryz.func157, Tryz.ntmps157
      go_wp2_with fail
      go_ret
      exact ⟨fun _ => ⟨rfl, Fr, cur, F, HR.out, ⟨v0, HX.out.1, HX.out.2.1⟩, Upd.refl _ _, HX.out.2.2⟩, fun h => by simp at h⟩
    · simp at h
  · have hnI : ¬ (n : Int) = 0 := by omega
    have hml : IntKind.i64.wrap ((n : Int) * 8) = ((n * 8 : Nat) : Int) := by rw [IntKind.wrap_i64]; omega
    rcases hrest with ⟨rfl, rfl⟩ | ⟨rfl, hsh⟩
    · have HRR := Lib.hid (rdRawN w Fr D r flat tail cur (n * 8) hn.symm hR (by omega))
      have HX := Lib.hid (And.intro hX (And.intro hFX (And.intro hF hinD)))
      have HN := Lib.hid hn
      have HC0 := Lib.hid (And.intro c0 cf)
      obtain ⟨p0, k0, rfl⟩ := hX.slice
      clear hR hX hFX hF hinD c0 cf
      go_enter Tryz.func157, Tryz.ntmps157
      go_wp2_with fail
      refine HRR.out.mono ?_
      rintro e w1 ⟨b, vb, F2, hbr, rfl, h2, hbv, hu2⟩
      obtain ⟨hXX, hFX, hF, hinD⟩ := HX.out
      have c1 : w1.cell? ⟨q, 0, none⟩ = some (.slice p0 0 k0) := by rw [hu2.chg.cell (p := ⟨q, 0, none⟩) hlt (hF q (hFX q (.inl rfl))).1]; exact HC0.out.1
      have f1 : w1.frozen? ⟨q, 0, none⟩ = false := by rw [hu2.chg.frozen (p := ⟨q, 0, none⟩) hlt (hF q (hFX q (.inl rfl))).1]; exact HC0.out.2
      obtain ⟨bb, off, cc, rfl, hcc, hbx⟩ : ∃ bb off cc : Nat, vb = .slice (some ⟨bb, off, none⟩) flat.length cc ∧ flat.length ≤ cc ∧ F2 bb := by
        rcases id hbv with ⟨rfl, h⟩ | ⟨bb, off, cc, rfl, hcc, -⟩
        · subst h; simp at hn; omega
        · refine ⟨bb, off, cc, rfl, hcc, ?_⟩
          obtain ⟨FB, hrow, -, hsub⟩ := h2.row
          exact hsub bb (hrow.2.2.2 bb rfl).1
      have HBV := Lib.hid hbv
      have H2 := Lib.hid (And.intro hbr (And.intro h2 (And.intro hu2 hbx)))
      have hln : flat.length = n * 8 := HN.out
      have hxl : (1 : Nat) ≤ n := by omega
      have hld0 : ∃ y : UInt8, w1.cell? ⟨bb, off + (n * 8 - 8), none⟩ = some (.int .u8 y.toNat) := by
        rcases hbv with ⟨h, -⟩ | ⟨b', o', c', h, -, hx⟩
        · simp at h
        · obtain ⟨⟨rfl, rfl⟩, -⟩ : (bb = b' ∧ off = o') ∧ cc = c' := by simpa using h
          exact ⟨_, hx (n * 8 - 8) (by omega)⟩
      obtain ⟨y, hy⟩ := hld0
      have s1 : IntKind.i64.wrap ((n * 8 : Nat) - 8 : Int) = ((n * 8 - 8 : Nat) : Int) := by rw [IntKind.wrap_i64]; omega
      rw [hln]
      clear hbv hbr h2 hu2 hXX hFX hF hinD hbx hn
      go_wp2_with fail
      go_loopw [9, 10] (fun vv vi wr => ∃ k m : Nat, ∃ p c, k ≤ n ∧ m = k * 8 ∧ vi = .int .i64 m ∧ vv = .slice p k c ∧ DecK w1 110 8 (.slice p0 0 k0) flat k (.slice p k c) wr) (fun _ vi _ => n * 8 - (intOf vi).toNat)
      case atStart =>
        obtain ⟨hXX, hFX, hF, hinD⟩ := HX.out
        exact ⟨0, 0, p0, k0, Nat.zero_le _, rfl, rfl, rfl, decK_zero (hXX.chg H2.out.2.2.1.chg fun k hk => (hF k (hFX k hk)).1)⟩
      case round =>
        obtain ⟨k, m, p, c, hk, hm, rfl, rfl, hD⟩ := hrel
        by_cases hkn : k < n
        · obtain ⟨Fk, hown, huk⟩ := hD
          obtain ⟨row, hrow⟩ : ∃ row, row = (flat.drop (k * 8)).take 8 := ⟨_, rfl⟩
          have hrl : row.length = 8 := by rw [hrow, List.length_take, List.length_drop, HN.out]; omega
          have hbr : BytesAt wr (.slice (some ⟨bb, off, none⟩) flat.length cc) flat := HBV.out.keep fun g hg => by
            obtain rfl : bb = g := by simpa [Value.ownBlock] using hg
            obtain ⟨-, hx2, hu2, hb2⟩ := H2.out
            obtain ⟨hXX, hFX, hF, hinD⟩ := HX.out
            refine huk.chg.block bb (hx2.inF bb hb2) fun e => ?_
            rcases hu2.new bb hb2 with h | h
            · exact (hF bb (hFX bb (.inr e))).1 h
            · have := hXX.inn bb (.inr e); omega
          have hrr := row_range hbr k 8 row hrow
          rw [← hm] at hrr
          obtain ⟨cs, hcs⟩ : ∃ cs, cs = u8s row := ⟨_, rfl⟩
          have h1 := u8s_one row
          have hcl : cs.length = 8 := by rw [hcs, u8s_length, hrl]
          rw [← hcs] at hrr h1
          have hld := load_mid hrr
          rw [hcl] at hld
          have har := fun W a c => run_arrayAt Tryz.underlying110 W a c
          have hbs := fun W => run_build1 elem8 (by decide) W cs hcl
          have g1 : IntKind.i64.wrap ((m : Int) + 8) = (m : Int) + 8 := by rw [IntKind.wrap_i64]; omega
          have g2 : (0 : Int) ≤ (m : Int) + 8 := by omega
          have g3 : ((m : Int) + 8).toNat = m + 8 := by omega
          have g4 : (m : Int) + 8 ≤ (cc : Int) := by omega
          have g5 : ¬ cc = m := by omega
          have g6 : (m : Int) ≤ ((n * 8 - 8 : Nat) : Int) := by omega
          have HO := Lib.hid (And.intro hown (And.intro huk (And.intro hrow hcs)))
          have HSR := Lib.hid (src_new elem8 wr.heap.size cs _ (heap_alloc_new wr (.cells cs.toArray 110)) hcl h1 1)
          have HM := Lib.hid hm
          clear hown huk hrow hbr hrr h1 hcs hm
          go_wp2_with (at_builtin; refine append_rows elem8 _ Fk k 1 (u8s (flat.take (k * 8))) _ rfl _ _ _ rfl _ rfl (HO.out.1.keep ((Below.refl _ wr).alloc (Nat.le_refl _) _)) _ rfl HSR.out (by omega) (by omega) ?_; intro p5 c5 w5 F5 hown5 hu5)
          go_roundw
          case rel =>
            obtain ⟨-, h2, h3, h4⟩ := HO.out
            rw [h4] at hown5
            exact ⟨k + 1, m + 8, p5, c5, hkn, by rw [HM.out]; omega, by go_num, rfl, decK_next h3 h2 hown5 hu5⟩
          case measure => simp [intOf]; omega
        · obtain rfl : k = n := by omega
          subst hm
          have g6 : ¬ ((k * 8 : Nat) : Int) ≤ ((k * 8 - 8 : Nat) : Int) := by omega
          have HD := Lib.hid hD
          obtain ⟨Fk, hown, huk⟩ := hD
          obtain ⟨hXX, hFX, hF, hinD⟩ := HX.out
          obtain ⟨hbr, h2, hu2, hbx⟩ := H2.out
          have hq1 : q < w1.heap.size := by have := hu2.chg.size; omega
          have hqn : ¬ (Value.slice p0 0 k0).ownBlock = some q := fun e => hXX.bq e rfl
          have c2 : wr.cell? ⟨q, 0, none⟩ = some (.slice p0 0 k0) := by rw [huk.chg.cell (p := ⟨q, 0, none⟩) hq1 hqn]; exact c1
          have f2 : wr.frozen? ⟨q, 0, none⟩ = false := by rw [huk.chg.frozen (p := ⟨q, 0, none⟩) hq1 hqn]; exact f1
          clear hown huk hXX hFX hF hinD hbr h2 hu2 hbx hqn
          go_wp2_with fail
          go_ret
          obtain ⟨hXX, hFX, hF, hinD⟩ := HX.out
          obtain ⟨hbr, h2, hu2, hbx⟩ := H2.out
          exact decK_done hXX hFX hF hinD hbr h2 hu2 HD.out HN.out
    · have HRR := Lib.hid (rdRawN_short w Fr D r rest cur hR (n * 8) (by omega))
      have HX := Lib.hid (And.intro hFX hF)
      clear hR hX hFX hF hinD
      go_enter Tryz.func157, Tryz.ntmps157
      go_wp2_with (first | (go_at_call 164; refine HRR.out.mono ?_; rintro e w1 ⟨a, F1, cur1, rfl, h1, hu⟩) | (go_at_call 89; refine (wrapErr _ _ _ _).mono ?_; rintro e w2 ⟨⟨a2, rfl⟩, hb2⟩))
      go_ret
      exact ⟨fun h => by simp at h, fun _ => ⟨⟨_, rfl⟩, (hu.chg.mono fun _ _ h => .inl h).trans (Chg.of_below hb2) fun _ _ h => h⟩⟩

set_option maxRecDepth 100000 in
theorem fixRows8 (w : World) (p : Option Addr) (n c : Nat) : Calls Tryz.prog 161 #[.slice p n c] w fun e w' => e = .returned (.int .i64 n) ∧ w = w' := by
  go_enter Tryz.func161, Tryz.ntmps161
  go_wp2_with fail
  go_ret
  exact ⟨rfl, rfl⟩

theorem rowAppF8 : MRow 107 "Append" [] (some (155, true)) := mRow_of (by kernel_rfl)
theorem rowRowF8 : MRow 107 "Row" [] (some (160, false)) := mRow_of (by kernel_rfl)

set_option maxRecDepth 100000 in
theorem addF8 (w : World) (F : Nat → Prop) (q n : Nat) (xs : List Value) (x : Value) (s : List UInt8) (f2 f3 : Value) (hx : BytesX w x s) (hs : s.length = 8) (h : NumCol w F 109 110 8 q n xs) (hF : In F w) (hn : n + 1 ≤ 100000000) :
    Calls Tryz.prog 165 #[.agg #[.iface 107 (.pointer (some ⟨q, 0, none⟩)), .func (.func 41) #[] #[], f2, f3], x] w (PutN w F 109 110 8 q (n + 1) (xs ++ u8s s)) := by
  have hm : ∀ W, (method 383 107 (.pointer (some ⟨q, 0, none⟩)) "Append").run Tryz.prog W = .ok (155, .pointer (some ⟨q, 0, none⟩)) W := fun W => meth_ptr 382 rowAppF8 Tryz.underlying107 (.pointer (some ⟨q, 0, none⟩)) W
  obtain ⟨px, cx, rfl⟩ := hx.slice
  obtain ⟨x, hxe⟩ : ∃ x, x = Value.slice px s.length cx := ⟨_, rfl⟩
  rw [← hxe] at hx ⊢
  clear hxe
  have HX := Lib.hid hx
  have HS := Lib.hid h
  have HL := Lib.hid hs
  have HF : Hid (¬ F w.heap.size) := Lib.hid fun h => by have := hF _ h; omega
  clear hx h hF hs
  go_enter Tryz.func165, Tryz.ntmps165
  go_wp2_with fail
  go_region_held3 (fun w' => w'.cell? ⟨w.heap.size, 0, none⟩ = some (.iface 107 (.pointer (some ⟨q, 0, none⟩))) ∧ w'.cell? ⟨w.heap.size, 1, none⟩ = some (.func (.func 41) #[] #[])) (first | exact ⟨s0, s1⟩ | go_keep)
    (first | (go_at_call 41; refine (in8 _ x s (HX.out.below (((Below.refl _ w).alloc (Nat.le_refl _) _).drew)) HL.out).mono ?_; rintro e w1 ⟨rfl, hb1⟩; have s0 : w1.cell? ⟨w.heap.size, 0, none⟩ = some (.iface 107 (.pointer (some ⟨q, 0, none⟩))) := (by rw [hb1.cell (by simp)]; go_simp); have s1 : w1.cell? ⟨w.heap.size, 1, none⟩ = some (.func (.func 41) #[] #[]) := (by rw [hb1.cell (by simp)]; go_simp)) | (go_at_call 155; refine (fixAppend8 _ F q n xs s HL.out (HS.out.keep ((((Below.refl _ w).alloc (Nat.le_refl _) _).drew).trans (hb1.mono (by simp)))) hn).mono ?_; rintro e w' ⟨rfl, F1, h1, hu1⟩; have s0 : w'.cell? ⟨w.heap.size, 0, none⟩ = some (.iface 107 (.pointer (some ⟨q, 0, none⟩))) := (by rw [hu1.chg.cell (p := ⟨w.heap.size, 0, none⟩) (by have := hb1.size; simp at this ⊢; omega) HF.out]; exact s0); have s1 : w'.cell? ⟨w.heap.size, 1, none⟩ = some (.func (.func 41) #[] #[]) := (by rw [hu1.chg.cell (p := ⟨w.heap.size, 1, none⟩) (by have := hb1.size; simp at this ⊢; omega) HF.out]; exact s1)))
  go_returns
  exact ⟨rfl, F1, h1, ((Upd.refl F w).below ((((Below.refl _ w).alloc (Nat.le_refl _) _).drew).trans (hb1.mono (by simp)))).trans hu1⟩

set_option maxRecDepth 100000 in
theorem atF8 (w : World) (F : Nat → Prop) (q n i : Nat) (xs : List Value) (s : List UInt8) (f1 f3 : Value) (h : NumCol w F 109 110 8 q n xs) (hi : i < n) (hn : n ≤ 100000000) (hs : s.length = 8) (hr : (xs.drop (i * 8)).take 8 = u8s s) :
    Calls Tryz.prog 168 #[.agg #[.iface 107 (.pointer (some ⟨q, 0, none⟩)), f1, .func (.func 42) #[] #[], f3], .int .i64 i] w (Made w s) := by
  obtain ⟨v, hX, -⟩ := h
  obtain ⟨c0, cf, hlt⟩ := hX.cell
  obtain ⟨B, hB⟩ : ∃ B, B = (Obj.cells #[.iface 107 (.pointer (some ⟨q, 0, none⟩)), f1, .func (.func 42) #[] #[], f3] 116) := ⟨_, rfl⟩
  have hbw : Below w.heap.size w (w.alloc B).drew := ((Below.refl _ w).alloc (Nat.le_refl _) _).drew
  have hld := load_one (w := (w.alloc B).drew) (by rw [hbw.block q hlt]; exact hX.at_) Tryz.underlying109
  have hmm := meth_val 382 rowRowF8 Tryz.underlying107 ⟨q, 0, none⟩ (w.alloc B).drew v hld
  obtain ⟨g, c, rfl, hcn, hg, hx⟩ : ∃ g c : Nat, v = .slice (some ⟨g, 0, none⟩) n c ∧ n ≤ c ∧ g < w.heap.size ∧ w.rangeAt g 0 xs := by
    rcases hX.view.2 with ⟨-, h⟩ | h
    · omega
    · exact h
  have hrow := range_row (size := 8) (fun j x hj => by rw [hbw.cell (p := ⟨g, 0 + j, none⟩) hg]; exact hx j x hj : (w.alloc B).drew.rangeAt g 0 xs) i
  rw [hr] at hrow
  have HR := Lib.hid (fixRow8 (w.alloc B).drew (.slice none 0 0) g 0 n c i (u8s s) hi (by omega) (by rw [Nat.zero_add]; exact hrow) (by rw [u8s_length, hs]) (u8s_one s))
  have HB := Lib.hid hbw
  have HS := Lib.hid hs
  have HL : Hid (([] : List UInt8).length + s.length ≤ 140737488355328) := Lib.hid (by simp; omega)
  obtain ⟨cs, hcs⟩ : ∃ cs, cs = (u8s s).toArray := ⟨_, rfl⟩
  rw [← hcs] at HR
  have HCS := Lib.hid hcs
  subst hB
  clear hX hbw hld hx hrow hr hs hcs c0 cf
  go_enter Tryz.func168, Tryz.ntmps168
  go_wp2_with fail
  go_region_held3 (fun w' => w'.cell? ⟨w.heap.size, 0, none⟩ = some (.iface 107 (.pointer (some ⟨q, 0, none⟩))) ∧ w'.cell? ⟨w.heap.size, 2, none⟩ = some (.func (.func 42) #[] #[])) (first | exact ⟨s0, s2⟩ | go_keep)
    (first | (go_at_call 160; refine HR.out.mono ?_; rintro e w1 ⟨rfl, hb1⟩; have s0 : w1.cell? ⟨w.heap.size, 0, none⟩ = some (.iface 107 (.pointer (some ⟨q, 0, none⟩))) := (by rw [hb1.cell (by simp)]; go_simp); have s2 : w1.cell? ⟨w.heap.size, 2, none⟩ = some (.func (.func 42) #[] #[]) := (by rw [hb1.cell (by simp)]; go_simp)) | (go_at_call 42; refine (outB8 _ s cs HCS.out HS.out).mono ?_; rintro e w2 ⟨rfl, hx, hb2⟩; have s0 : w2.cell? ⟨w.heap.size, 0, none⟩ = some (.iface 107 (.pointer (some ⟨q, 0, none⟩))) := (by rw [hb2.cell (by have := hb1.size; simp at this ⊢; omega)]; exact s0); have s2 : w2.cell? ⟨w.heap.size, 2, none⟩ = some (.func (.func 42) #[] #[]) := (by rw [hb2.cell (by have := hb1.size; simp at this ⊢; omega)]; exact s2)) | (refine step_append_since _ w2 [] s (by rfl) _ _ _ (by rfl) _ (by rfl) ⟨⟨fun _ => False, OwnB.nil _ _, fun _ h => h.elim⟩, Below.refl _ _⟩ _ (by rfl) hx.srcB HL.out ?_; intro q1 c1 w3 hs3; have s0 : w3.cell? ⟨w.heap.size, 0, none⟩ = some (.iface 107 (.pointer (some ⟨q, 0, none⟩))) := (by rw [hs3.below.cell (by have := hb2.size; have := hb1.size; simp at this ⊢; omega)]; exact s0); have s2 : w3.cell? ⟨w.heap.size, 2, none⟩ = some (.func (.func 42) #[] #[]) := (by rw [hs3.below.cell (by have := hb2.size; have := hb1.size; simp at this ⊢; omega)]; exact s2)))
  go_wp2_with fail
  go_ret
  exact made_at HB.out hb1 hb2 hs3
theorem info16 : (Tryz.prog.info? 120).map (·.size) = some 16 := by kernel_rfl
theorem info16z : (Tryz.prog.info? 120).map (fun i => (i.zero, i.size, i.bytes)) = some (some (.agg (Array.replicate 16 (.int .u8 0))), 16, 16) := by kernel_rfl
theorem elem16 : Elem 119 120 16 16 := elem_of Tryz.underlying119 info16z (by simp [Value.cells]) (by decide)
theorem zero16 : ∀ w, (zeroValue 120).run Tryz.prog w = .ok (.agg (Array.replicate 16 (.int .u8 0))) w := (zero_of_info (by have h := info16z; cases hq : Tryz.prog.info? 120 with | none => simp [hq] at h | some i => simp [hq] at h ⊢; exact ⟨h.1, h.2.1⟩)).1




set_option maxRecDepth 100000 in
theorem fixAppend16 (w : World) (F : Nat → Prop) (q n : Nat) (xs : List Value) (s : List UInt8) (hs : s.length = 16) (h : NumCol w F 119 120 16 q n xs) (hn : n + 1 ≤ 100000000) :
    Calls Tryz.prog 169 #[.pointer (some ⟨q, 0, none⟩), .agg (u8s s).toArray] w (PutN w F 119 120 16 q (n + 1) (xs ++ u8s s)) := by
  obtain ⟨v, hX, hF⟩ := h
  obtain ⟨c0, cf, hlt⟩ := hX.cell
  obtain ⟨p0, k0, rfl⟩ := hX.slice
  have hl : (u8s s).length = 16 := by simp [u8s, hs]
  have HX := Lib.hid hX
  have HF := Lib.hid hF
  obtain ⟨cs, hcs⟩ : ∃ cs, cs = u8s s := ⟨_, rfl⟩
  have H1 : Hid (∀ u ∈ cs, u.oneCell' = true) := Lib.hid (by rw [hcs]; exact u8s_one s)
  rw [← hcs] at hl ⊢
  have HL := Lib.hid hl
  have hld := load_new w cs 120
  rw [hl] at hld
  have hbs := fun W => run_build1 elem16 (by decide) W cs hl
  have HXA := Lib.hid (hX.keep (((Below.refl _ w).alloc (Nat.le_refl _) (.cells cs.toArray 120)).alloc (by simp) (.cells cs.toArray 120))).drew
  have HSR := Lib.hid (src_box elem16 w (.cells cs.toArray 120) cs 120 hl H1.out)
  clear hcs hl hX hF
  go_enter Tryz.func169, Tryz.ntmps169
  go_wp2_with fail
  go_region_law ((refine step_num elem16 (by rfl) _ q _ _ _ HXA.out _ _ _ (by rfl) (by rfl) _ (by rfl) 1 _ HSR.out (by omega) (by omega) ?_; intro p1 k1 w1 G1; have e0 := G1.c0; have ef := G1.cf))
  all_goals
    go_returns
    exact putN_of HF.out G1.ok ((((Upd.refl _ w).alloc _).alloc _).trans G1.upd.ofDrew)





set_option maxRecDepth 100000 in
theorem out16 (w : World) (s : List UInt8) (hs : s.length = 16) : Calls Tryz.prog 44 #[.agg (u8s s).toArray] w fun e w' => e = .returned (.slice (some ⟨w.heap.size, 0, none⟩) 16 16) ∧ w' = w.alloc (.cells (u8s s).toArray 120) := by
  go_enter Tryz.func44, Tryz.ntmps44
  go_wp2_with fail
  go_ret
  exact ⟨rfl, rfl⟩

theorem outB16 (w : World) (s : List UInt8) (cs : Array Value) (hc : cs = (u8s s).toArray) (hs : s.length = 16) : Calls Tryz.prog 44 #[.agg cs] w fun e w' => e = .returned (.slice (some ⟨w.heap.size, 0, none⟩) 16 16) ∧ BytesAt w' (.slice (some ⟨w.heap.size, 0, none⟩) 16 16) s ∧ Below w.heap.size w w' := by
  subst hc
  refine (out16 w s hs).mono ?_
  rintro e w' ⟨rfl, rfl⟩
  have h := bytesAt_row w s 120
  rw [hs] at h
  exact ⟨rfl, h, (Below.refl _ w).alloc (Nat.le_refl _) _⟩
set_option maxRecDepth 100000 in
theorem in16 (w : World) (x : Value) (s : List UInt8) (hx : BytesX w x s) (hs : s.length = 16) : Calls Tryz.prog 43 #[x] w fun e w' => e = .returned (.agg (u8s s).toArray) ∧ Below w.heap.size w w' := by
  obtain ⟨b, off, c, rfl, hc, hr⟩ := hx.range (by omega)
  have hl : (u8s s).length = 16 := by simp [u8s, hs]
  have h1 := u8s_one s
  rw [hs] at hc ⊢
  obtain ⟨cs, hcs⟩ : ∃ cs, cs = u8s s := ⟨_, rfl⟩
  rw [← hcs] at hr hl h1 ⊢
  have hld := fun o => load_mid (range_alloc hr o)
  have hst := store_new w cs 120 h1
  have hz0 := zero16
  rw [hl] at hld hst
  have hfin := load_mid (cs := cs) (range_new w cs 120)
  rw [hl] at hfin
  clear hx hr h1 hcs hs
  have har := fun W a c => run_arrayAt Tryz.underlying120 W a c
  go_enter Tryz.func43, Tryz.ntmps43
  go_wp2_with fail
  refine bodyPost_ret (v := .agg cs.toArray) (by simp [results, Tryz.results43, go_sem, hfin]) rfl ⟨rfl, (Below.refl _ w).alloc (Nat.le_refl _) _⟩
set_option maxRecDepth 100000 in
theorem fixRow16 (w : World) (v : Value) (g off n c i : Nat) (cs : List Value) (hi : i < n) (hn : n ≤ 8796093022208) (hr : w.rangeAt g (off + i * 16) cs) (hl : cs.length = 16) (h1 : ∀ u ∈ cs, u.oneCell' = true) :
   Calls Tryz.prog 174 #[.slice (some ⟨g, off, none⟩) n c, .int .i64 i] w fun e w' => e = .returned (.agg cs.toArray) ∧ Below w.heap.size w w' := by
  have hld := fun o => load_mid (range_alloc hr o)
  have hst := store_new w cs 120 h1
  have hz0 := zero16
  rw [hl] at hld hst
  have hfin := load_mid (cs := cs) (range_new w cs 120)
  rw [hl] at hfin
  clear hr h1
  go_enter Tryz.func174, Tryz.ntmps174
  go_wp2_with fail
  refine bodyPost_ret (v := .agg cs.toArray) (by simp [results, Tryz.results174, go_sem, hfin]) rfl ⟨rfl, (Below.refl _ w).alloc (Nat.le_refl _) _⟩
set_option maxRecDepth 100000 in
set_option maxHeartbeats 1000000 in
theorem fixEncode16 (w : World) (F : Nat → Prop) (p : Nat) (bs : List UInt8) (v : Value) (n : Nat) (flat : List UInt8) (hB : BufAt w F 179 p bs) (hF : In F w) (h : NumV w v n 16 (u8s flat)) (hv : ∀ g, v.ownBlock = some g → ¬ F g)
    (hl : bs.length + n * 16 ≤ 140737488355328) :
    Calls Tryz.prog 172 #[v, .pointer (some ⟨p, 0, none⟩)] w (Put w F 179 p (bs ++ flat)) := by
  obtain ⟨hfl, hcase⟩ := h
  rw [u8s_length] at hfl
  rcases hcase with ⟨rfl, rfl⟩ | ⟨gx, cx, rfl, hcx, hgx, hx⟩
  · obtain rfl : flat = [] := List.length_eq_zero_iff.1 (by omega)
    go_enter Tryz.func172, Tryz.ntmps172
    go_wp2_with fail
    go_returns
    exact ⟨rfl, F, by simpa using hB, Upd.refl _ _⟩
  · by_cases hn0 : n = 0
    · subst hn0
      obtain rfl : flat = [] := List.length_eq_zero_iff.1 (by omega)
      clear hx
      go_enter Tryz.func172, Tryz.ntmps172
      go_wp2_with fail
      go_returns
      exact ⟨rfl, F, by simpa using hB, Upd.refl _ _⟩
    · have hnI : ¬ (n : Int) = 0 := by omega
      obtain ⟨vb, hcb, hfb, hlb⟩ := hB.cell
      obtain ⟨pb, kb, rfl⟩ : ∃ p k, vb = .slice p bs.length k := by
        obtain ⟨v', h1, h2, -⟩ := hB.bytes
        rw [hcb] at h1
        obtain rfl := Option.some.inj h1
        exact h2.slice
      have hml : IntKind.i64.wrap (16 * (n : Int)) = ((n * 16 : Nat) : Int) := by rw [IntKind.wrap_i64]; omega
      have HB := Lib.hid hB
      have HX := Lib.hid hx
      have HF := Lib.hid hF
      have HFL := Lib.hid hfl
      have hgF := hv gx rfl
      have hgx0 := hgx
      clear hB hx hF hv hfl
      go_enter Tryz.func172, Tryz.ntmps172
      go_wp2_with (at_builtin; refine list_zeros_bufs rfl _ F _ p bs (n * 16) (by omega) _ _ rfl HB.out _ hcb rfl rfl hl ?_; intro g c w1 hc1 hf1 hst1)
      obtain ⟨F2, hB2, hu2⟩ := hst1
      obtain ⟨W1, hW1⟩ : ∃ W1, W1 = w1.setCell ⟨p, 0, none⟩ (.slice (some ⟨g, 0, none⟩) (bs.length + n * 16) c) := ⟨_, rfl⟩
      have hcW : W1.cell? ⟨p, 0, none⟩ = some (.slice (some ⟨g, 0, none⟩) (bs.length + n * 16) c) := by rw [hW1]; go_simp
      rw [← hW1] at hB2 hu2 ⊢
      obtain ⟨hG, hgF2, hpF2⟩ := hB2.two hcW
      have hgx : gx ≠ g := fun e => by
        rcases hu2.new g hgF2 with h | h
        · exact hgF (e ▸ h)
        · omega
      have hxW : W1.rangeAt gx 0 (u8s flat) := fun j x hj => by rw [hu2.chg.cell (p := ⟨gx, 0 + j, none⟩) hgx0 hgF]; exact HX.out j x hj
      have HG := Lib.hid hG
      have HU2 := Lib.hid hu2
      have HXW := Lib.hid hxW
      have HF2 := Lib.hid (And.intro hgF2 hpF2)
      obtain ⟨L, hL⟩ : ∃ L, L = bs.length + n * 16 := ⟨_, rfl⟩
      have HLL := Lib.hid hL
      rw [← hL] at HG
      clear hG hu2 hxW hgF2 hpF2 hB2 hcW hW1 hc1 hf1 hL
      go_loopw [5, 30] (fun vo vi wr => ∃ i off : Nat, i ≤ n ∧ vi = .int .i64 i ∧ vo = .int .i64 off ∧ off = bs.length + i * 16 ∧ BufG wr 179 p g L c (halfway bs flat 16 n i) ∧ Chg (· = g) W1 wr) (fun _ vi _ => n - (intOf vi).toNat)
      case atStart => exact ⟨0, bs.length, Nat.zero_le _, rfl, rfl, by simp, by rw [halfway_zero]; exact HG.out, Chg.refl _ _⟩
      case round =>
        obtain ⟨i, off, hi, rfl, rfl, hoff, hBG, hchg⟩ := hrel
        by_cases hlt : i < n
        · obtain ⟨b0, bf, bp, bg⟩ := hBG.cells
          obtain ⟨cur, hcur, hcl, hct⟩ := hBG.row
          obtain ⟨hl1, hl2, hl3⟩ := hBG.len
          obtain ⟨row, hrow⟩ : ∃ row, row = (flat.drop (i * 16)).take 16 := ⟨_, rfl⟩
          have hfl := HFL.out
          have hrl : row.length = 16 := by rw [hrow, List.length_take, List.length_drop, hfl]; omega
          have hnx := halfway_next bs flat 16 n i hfl hlt cur c L hcl HLL.out hl2 hct row hrow off hoff
          have hrr : wr.rangeAt gx (i * 16) (u8s row) := by
            have h := range_row (size := 16) (fun j x hj => by rw [hchg.cell (p := ⟨gx, 0 + j, none⟩) (by have := HU2.out.chg.size; simp; omega) (by simpa using hgx)]; exact HXW.out j x hj : wr.rangeAt gx 0 (u8s flat)) i
            rw [hrow]; simpa [u8s, List.map_take, List.map_drop] using h
          obtain ⟨cs, hcs⟩ : ∃ cs, cs = u8s row := ⟨_, rfl⟩
          have h1 := u8s_one row
          have hcsl : cs.length = 16 := by rw [hcs, u8s_length, hrl]
          rw [← hcs] at hrr h1 hnx
          have hld := load_mid hrr
          have hst := store_new wr cs 120 h1
          have hz0 := zero16
          rw [hcsl] at hld hst
          have hLv := HLL.out
          have w1 : IntKind.i64.wrap ((off : Int) + 16) = (off : Int) + 16 := by rw [IntKind.wrap_i64]; omega
          have n1 : ¬ c = off := by omega
          have n3 : (0 : Int) ≤ (off : Int) + 16 := by omega
          have n4 : ((off : Int) + 16).toNat = off + 16 := by omega
          have n2 : (off : Int) + 16 ≤ (c : Int) := by omega
          have HBG := Lib.hid hBG
          have HCG := Lib.hid hchg
          have HOFF := Lib.hid hoff
          have HNX := Lib.hid hnx
          have HCUR := Lib.hid (And.intro hcur (And.intro hcl hct))
          have HCS := Lib.hid (And.intro h1 hcsl)
          clear hBG hchg hcur hct hnx hrr h1 hcs hrow hl1 hl3 hoff
          go_wp2_with fail
          refine wp_region_still_tail 9 (by kernel_rfl) (by kernel_rfl) ?_
          simp only [List.take_succ_cons, List.take_zero, List.drop_succ_cons, List.drop_zero]
          change wpStill _ _ (World.drew _) _ _ _
          repeat still_step
          refine wpStill_nil ?_
          change wpList _ _ _ _ _ (World.drew _)
          obtain ⟨h1, h2⟩ := HCS.out
          obtain ⟨hcur, hcl', hct⟩ := HCUR.out
          have hcurA : (wr.alloc (.cells cs.toArray 120)).drew.heap[g]? = some (.cells cur.toArray 5 (0, 0)) := by
            show (wr.alloc _).heap[g]? = _
            rw [Below.heap_alloc _ _ _ bg]; exact hcur
          have hSRC : ∀ j v, cs[j]? = some v → (wr.alloc (.cells cs.toArray 120)).drew.cell? ((⟨wr.heap.size, 0, none⟩ : Addr).add j) = some v := fun j v hj => by rw [Addr.add_mid]; exact (World.rangeAt_drew _ _ _ _ |>.2 (range_new wr cs _)) j v hj
          refine list_copy_chg rfl _ _ _ _ rfl 5 Tryz.underlying34 (by kernel_rfl) g off _ _ _ _ _ rfl rfl cur _ hcurA cs (by rw [h2]; rfl) hSRC (by rw [h2, hcl]; omega) h1 ?_
          intro w2 hg2 hc2
          have hbA : Below wr.heap.size wr (wr.alloc (.cells cs.toArray 120)).drew := ((Below.refl _ wr).alloc (Nat.le_refl _) _).drew
          have hB2 : BufG w2 179 p g L c (halfway bs flat 16 n (i + 1)) := by
            obtain ⟨k1, -, ⟨k3, k4, k5⟩, k6⟩ := HBG.out
            exact ⟨by rw [hc2.block p (by simp; omega) (fun e => k6 e.symm), hbA.block p bp]; exact k1, ⟨_, hg2, HNX.out.2, HNX.out.1⟩, ⟨by rw [halfway_length _ _ _ _ _ hfl hlt]; exact HLL.out.symm, k4, k5⟩, k6⟩
          have hC2 : Chg (· = g) W1 w2 := (HCG.out.trans (Chg.of_below hbA) fun _ _ h => h).trans hc2 fun _ _ h => h
          clear hg2 hc2 hcur hct hcl' hcurA hSRC hbA
          go_wp2_with fail
          go_roundw
          case rel => exact ⟨i + 1, off + 16, hlt, by go_num, by go_num, by rw [HOFF.out, Nat.add_mul]; omega, hB2, hC2⟩
          case measure => simp [intOf]; omega
        · obtain rfl : i = n := by omega
          go_wp2_with fail
          go_returns
          rw [halfway_all _ _ _ _ HFL.out] at hBG
          exact ⟨rfl, F2, hBG.buf HF2.out.1 HF2.out.2, ⟨HU2.out.chg.trans hchg fun k hk h => by
            subst h
            rcases HU2.out.new _ HF2.out.1 with h | h
            · exact h
            · omega, fun k hk => by
            rcases HU2.out.new k hk with h | h
            · exact .inl h
            · exact .inr ⟨h.1, by have := hchg.size; omega⟩⟩⟩




set_option maxRecDepth 100000 in
set_option maxHeartbeats 1000000 in
theorem fixDecode16 (w : World) (Fr D F : Nat → Prop) (r q n : Nat) (flat tail rest cur : List UInt8) (ok : Bool) (hR : RdAt w Fr D r rest cur) (hX : NumCol w F 119 120 16 q 0 []) (hF : ∀ k, F k → ¬ Fr k ∧ ¬ D k)
    (hrest : (ok = true ∧ rest = flat ++ tail) ∨ (ok = false ∧ rest.length < flat.length)) (hn : flat.length = n * 16) (hbig : rest.length ≤ 1000000000) (hfl : flat.length ≤ 1000000000) :
    Calls Tryz.prog 171 #[.pointer (some ⟨q, 0, none⟩), .pointer (some ⟨r, 0, none⟩), .int .i64 n] w (DecNum w Fr D F r q 119 120 16 ok n (u8s flat) tail) := by
  obtain ⟨v0, hX, hFX⟩ := hX
  obtain ⟨c0, cf, hlt⟩ := hX.cell
  have hinD : In D w := by obtain ⟨_, _, _, h⟩ := hR; exact h.inD
  by_cases hn0 : n = 0
  · subst hn0
    obtain rfl : flat = [] := List.length_eq_zero_iff.1 (by omega)
    rcases hrest with ⟨rfl, rfl⟩ | ⟨rfl, h⟩
    · have HR := Lib.hid hR
      have HX := Lib.hid (And.intro hX (And.intro hFX hF))
      clear hR hX hFX hF
      go_enter Tryz.func171, Tryz.ntmps171
      go_wp2_with fail
      go_ret
      exact ⟨fun _ => ⟨rfl, Fr, cur, F, HR.out, ⟨v0, HX.out.1, HX.out.2.1⟩, Upd.refl _ _, HX.out.2.2⟩, fun h => by simp at h⟩
    · simp at h
  · have hnI : ¬ (n : Int) = 0 := by omega
    have hml : IntKind.i64.wrap ((n : Int) * 16) = ((n * 16 : Nat) : Int) := by rw [IntKind.wrap_i64]; omega
    rcases hrest with ⟨rfl, rfl⟩ | ⟨rfl, hsh⟩
    · have HRR := Lib.hid (rdRawN w Fr D r flat tail cur (n * 16) hn.symm hR (by omega))
      have HX := Lib.hid (And.intro hX (And.intro hFX (And.intro hF hinD)))
      have HN := Lib.hid hn
      have HC0 := Lib.hid (And.intro c0 cf)
      obtain ⟨p0, k0, rfl⟩ := hX.slice
      clear hR hX hFX hF hinD c0 cf
      go_enter Tryz.func171, Tryz.ntmps171
      go_wp2_with fail
      refine HRR.out.mono ?_
      rintro e w1 ⟨b, vb, F2, hbr, rfl, h2, hbv, hu2⟩
      obtain ⟨hXX, hFX, hF, hinD⟩ := HX.out
      have c1 : w1.cell? ⟨q, 0, none⟩ = some (.slice p0 0 k0) := by rw [hu2.chg.cell (p := ⟨q, 0, none⟩) hlt (hF q (hFX q (.inl rfl))).1]; exact HC0.out.1
      have f1 : w1.frozen? ⟨q, 0, none⟩ = false := by rw [hu2.chg.frozen (p := ⟨q, 0, none⟩) hlt (hF q (hFX q (.inl rfl))).1]; exact HC0.out.2
      obtain ⟨bb, off, cc, rfl, hcc, hbx⟩ : ∃ bb off cc : Nat, vb = .slice (some ⟨bb, off, none⟩) flat.length cc ∧ flat.length ≤ cc ∧ F2 bb := by
        rcases id hbv with ⟨rfl, h⟩ | ⟨bb, off, cc, rfl, hcc, -⟩
        · subst h; simp at hn; omega
        · refine ⟨bb, off, cc, rfl, hcc, ?_⟩
          obtain ⟨FB, hrow, -, hsub⟩ := h2.row
          exact hsub bb (hrow.2.2.2 bb rfl).1
      have HBV := Lib.hid hbv
      have H2 := Lib.hid (And.intro hbr (And.intro h2 (And.intro hu2 hbx)))
      have hln : flat.length = n * 16 := HN.out
      have hxl : (1 : Nat) ≤ n := by omega
      have hld0 : ∃ y : UInt8, w1.cell? ⟨bb, off + (n * 16 - 16), none⟩ = some (.int .u8 y.toNat) := by
        rcases hbv with ⟨h, -⟩ | ⟨b', o', c', h, -, hx⟩
        · simp at h
        · obtain ⟨⟨rfl, rfl⟩, -⟩ : (bb = b' ∧ off = o') ∧ cc = c' := by simpa using h
          exact ⟨_, hx (n * 16 - 16) (by omega)⟩
      obtain ⟨y, hy⟩ := hld0
      have s1 : IntKind.i64.wrap ((n * 16 : Nat) - 16 : Int) = ((n * 16 - 16 : Nat) : Int) := by rw [IntKind.wrap_i64]; omega
      rw [hln]
      clear hbv hbr h2 hu2 hXX hFX hF hinD hbx hn
      go_wp2_with fail
      go_loopw [9, 10] (fun vv vi wr => ∃ k m : Nat, ∃ p c, k ≤ n ∧ m = k * 16 ∧ vi = .int .i64 m ∧ vv = .slice p k c ∧ DecK w1 120 16 (.slice p0 0 k0) flat k (.slice p k c) wr) (fun _ vi _ => n * 16 - (intOf vi).toNat)
      case atStart =>
        obtain ⟨hXX, hFX, hF, hinD⟩ := HX.out
        exact ⟨0, 0, p0, k0, Nat.zero_le _, rfl, rfl, rfl, decK_zero (hXX.chg H2.out.2.2.1.chg fun k hk => (hF k (hFX k hk)).1)⟩
      case round =>
        obtain ⟨k, m, p, c, hk, hm, rfl, rfl, hD⟩ := hrel
        by_cases hkn : k < n
        · obtain ⟨Fk, hown, huk⟩ := hD
          obtain ⟨row, hrow⟩ : ∃ row, row = (flat.drop (k * 16)).take 16 := ⟨_, rfl⟩
          have hrl : row.length = 16 := by rw [hrow, List.length_take, List.length_drop, HN.out]; omega
          have hbr : BytesAt wr (.slice (some ⟨bb, off, none⟩) flat.length cc) flat := HBV.out.keep fun g hg => by
            obtain rfl : bb = g := by simpa [Value.ownBlock] using hg
            obtain ⟨-, hx2, hu2, hb2⟩ := H2.out
            obtain ⟨hXX, hFX, hF, hinD⟩ := HX.out
            refine huk.chg.block bb (hx2.inF bb hb2) fun e => ?_
            rcases hu2.new bb hb2 with h | h
            · exact (hF bb (hFX bb (.inr e))).1 h
            · have := hXX.inn bb (.inr e); omega
          have hrr := row_range hbr k 16 row hrow
          rw [← hm] at hrr
          obtain ⟨cs, hcs⟩ : ∃ cs, cs = u8s row := ⟨_, rfl⟩
          have h1 := u8s_one row
          have hcl : cs.length = 16 := by rw [hcs, u8s_length, hrl]
          rw [← hcs] at hrr h1
          have hld := load_mid hrr
          rw [hcl] at hld
          have har := fun W a c => run_arrayAt Tryz.underlying120 W a c
          have hbs := fun W => run_build1 elem16 (by decide) W cs hcl
          have g1 : IntKind.i64.wrap ((m : Int) + 16) = (m : Int) + 16 := by rw [IntKind.wrap_i64]; omega
          have g2 : (0 : Int) ≤ (m : Int) + 16 := by omega
          have g3 : ((m : Int) + 16).toNat = m + 16 := by omega
          have g4 : (m : Int) + 16 ≤ (cc : Int) := by omega
          have g5 : ¬ cc = m := by omega
          have g6 : (m : Int) ≤ ((n * 16 - 16 : Nat) : Int) := by omega
          have HO := Lib.hid (And.intro hown (And.intro huk (And.intro hrow hcs)))
          have HSR := Lib.hid (src_new elem16 wr.heap.size cs _ (heap_alloc_new wr (.cells cs.toArray 120)) hcl h1 1)
          have HM := Lib.hid hm
          clear hown huk hrow hbr hrr h1 hcs hm
          go_wp2_with (at_builtin; refine append_rows elem16 _ Fk k 1 (u8s (flat.take (k * 16))) _ rfl _ _ _ rfl _ rfl (HO.out.1.keep ((Below.refl _ wr).alloc (Nat.le_refl _) _)) _ rfl HSR.out (by omega) (by omega) ?_; intro p5 c5 w5 F5 hown5 hu5)
          go_roundw
          case rel =>
            obtain ⟨-, h2, h3, h4⟩ := HO.out
            rw [h4] at hown5
            exact ⟨k + 1, m + 16, p5, c5, hkn, by rw [HM.out]; omega, by go_num, rfl, decK_next h3 h2 hown5 hu5⟩
          case measure => simp [intOf]; omega
        · obtain rfl : k = n := by omega
          subst hm
          have g6 : ¬ ((k * 16 : Nat) : Int) ≤ ((k * 16 - 16 : Nat) : Int) := by omega
          have HD := Lib.hid hD
          obtain ⟨Fk, hown, huk⟩ := hD
          obtain ⟨hXX, hFX, hF, hinD⟩ := HX.out
          obtain ⟨hbr, h2, hu2, hbx⟩ := H2.out
          have hq1 : q < w1.heap.size := by have := hu2.chg.size; omega
          have hqn : ¬ (Value.slice p0 0 k0).ownBlock = some q := fun e => hXX.bq e rfl
          have c2 : wr.cell? ⟨q, 0, none⟩ = some (.slice p0 0 k0) := by rw [huk.chg.cell (p := ⟨q, 0, none⟩) hq1 hqn]; exact c1
          have f2 : wr.frozen? ⟨q, 0, none⟩ = false := by rw [huk.chg.frozen (p := ⟨q, 0, none⟩) hq1 hqn]; exact f1
          clear hown huk hXX hFX hF hinD hbr h2 hu2 hbx hqn
          go_wp2_with fail
          go_ret
          obtain ⟨hXX, hFX, hF, hinD⟩ := HX.out
          obtain ⟨hbr, h2, hu2, hbx⟩ := H2.out
          exact decK_done hXX hFX hF hinD hbr h2 hu2 HD.out HN.out
    · have HRR := Lib.hid (rdRawN_short w Fr D r rest cur hR (n * 16) (by omega))
      have HX := Lib.hid (And.intro hFX hF)
      clear hR hX hFX hF hinD
      go_enter Tryz.func171, Tryz.ntmps171
      go_wp2_with (first | (go_at_call 164; refine HRR.out.mono ?_; rintro e w1 ⟨a, F1, cur1, rfl, h1, hu⟩) | (go_at_call 89; refine (wrapErr _ _ _ _).mono ?_; rintro e w2 ⟨⟨a2, rfl⟩, hb2⟩))
      go_ret
      exact ⟨fun h => by simp at h, fun _ => ⟨⟨_, rfl⟩, (hu.chg.mono fun _ _ h => .inl h).trans (Chg.of_below hb2) fun _ _ h => h⟩⟩

set_option maxRecDepth 100000 in
theorem fixRows16 (w : World) (p : Option Addr) (n c : Nat) : Calls Tryz.prog 175 #[.slice p n c] w fun e w' => e = .returned (.int .i64 n) ∧ w = w' := by
  go_enter Tryz.func175, Tryz.ntmps175
  go_wp2_with fail
  go_ret
  exact ⟨rfl, rfl⟩

theorem rowAppF16 : MRow 117 "Append" [] (some (169, true)) := mRow_of (by kernel_rfl)
theorem rowRowF16 : MRow 117 "Row" [] (some (174, false)) := mRow_of (by kernel_rfl)

set_option maxRecDepth 100000 in
theorem addF16 (w : World) (F : Nat → Prop) (q n : Nat) (xs : List Value) (x : Value) (s : List UInt8) (f2 f3 : Value) (hx : BytesX w x s) (hs : s.length = 16) (h : NumCol w F 119 120 16 q n xs) (hF : In F w) (hn : n + 1 ≤ 100000000) :
    Calls Tryz.prog 178 #[.agg #[.iface 117 (.pointer (some ⟨q, 0, none⟩)), .func (.func 43) #[] #[], f2, f3], x] w (PutN w F 119 120 16 q (n + 1) (xs ++ u8s s)) := by
  have hm : ∀ W, (method 383 117 (.pointer (some ⟨q, 0, none⟩)) "Append").run Tryz.prog W = .ok (169, .pointer (some ⟨q, 0, none⟩)) W := fun W => meth_ptr 382 rowAppF16 Tryz.underlying117 (.pointer (some ⟨q, 0, none⟩)) W
  obtain ⟨px, cx, rfl⟩ := hx.slice
  obtain ⟨x, hxe⟩ : ∃ x, x = Value.slice px s.length cx := ⟨_, rfl⟩
  rw [← hxe] at hx ⊢
  clear hxe
  have HX := Lib.hid hx
  have HS := Lib.hid h
  have HL := Lib.hid hs
  have HF : Hid (¬ F w.heap.size) := Lib.hid fun h => by have := hF _ h; omega
  clear hx h hF hs
  go_enter Tryz.func178, Tryz.ntmps178
  go_wp2_with fail
  go_region_held3 (fun w' => w'.cell? ⟨w.heap.size, 0, none⟩ = some (.iface 117 (.pointer (some ⟨q, 0, none⟩))) ∧ w'.cell? ⟨w.heap.size, 1, none⟩ = some (.func (.func 43) #[] #[])) (first | exact ⟨s0, s1⟩ | go_keep)
    (first | (go_at_call 43; refine (in16 _ x s (HX.out.below (((Below.refl _ w).alloc (Nat.le_refl _) _).drew)) HL.out).mono ?_; rintro e w1 ⟨rfl, hb1⟩; have s0 : w1.cell? ⟨w.heap.size, 0, none⟩ = some (.iface 117 (.pointer (some ⟨q, 0, none⟩))) := (by rw [hb1.cell (by simp)]; go_simp); have s1 : w1.cell? ⟨w.heap.size, 1, none⟩ = some (.func (.func 43) #[] #[]) := (by rw [hb1.cell (by simp)]; go_simp)) | (go_at_call 169; refine (fixAppend16 _ F q n xs s HL.out (HS.out.keep ((((Below.refl _ w).alloc (Nat.le_refl _) _).drew).trans (hb1.mono (by simp)))) hn).mono ?_; rintro e w' ⟨rfl, F1, h1, hu1⟩; have s0 : w'.cell? ⟨w.heap.size, 0, none⟩ = some (.iface 117 (.pointer (some ⟨q, 0, none⟩))) := (by rw [hu1.chg.cell (p := ⟨w.heap.size, 0, none⟩) (by have := hb1.size; simp at this ⊢; omega) HF.out]; exact s0); have s1 : w'.cell? ⟨w.heap.size, 1, none⟩ = some (.func (.func 43) #[] #[]) := (by rw [hu1.chg.cell (p := ⟨w.heap.size, 1, none⟩) (by have := hb1.size; simp at this ⊢; omega) HF.out]; exact s1)))
  go_returns
  exact ⟨rfl, F1, h1, ((Upd.refl F w).below ((((Below.refl _ w).alloc (Nat.le_refl _) _).drew).trans (hb1.mono (by simp)))).trans hu1⟩

set_option maxRecDepth 100000 in
theorem atF16 (w : World) (F : Nat → Prop) (q n i : Nat) (xs : List Value) (s : List UInt8) (f1 f3 : Value) (h : NumCol w F 119 120 16 q n xs) (hi : i < n) (hn : n ≤ 100000000) (hs : s.length = 16) (hr : (xs.drop (i * 16)).take 16 = u8s s) :
    Calls Tryz.prog 181 #[.agg #[.iface 117 (.pointer (some ⟨q, 0, none⟩)), f1, .func (.func 44) #[] #[], f3], .int .i64 i] w (Made w s) := by
  obtain ⟨v, hX, -⟩ := h
  obtain ⟨c0, cf, hlt⟩ := hX.cell
  obtain ⟨B, hB⟩ : ∃ B, B = (Obj.cells #[.iface 117 (.pointer (some ⟨q, 0, none⟩)), f1, .func (.func 44) #[] #[], f3] 126) := ⟨_, rfl⟩
  have hbw : Below w.heap.size w (w.alloc B).drew := ((Below.refl _ w).alloc (Nat.le_refl _) _).drew
  have hld := load_one (w := (w.alloc B).drew) (by rw [hbw.block q hlt]; exact hX.at_) Tryz.underlying119
  have hmm := meth_val 382 rowRowF16 Tryz.underlying117 ⟨q, 0, none⟩ (w.alloc B).drew v hld
  obtain ⟨g, c, rfl, hcn, hg, hx⟩ : ∃ g c : Nat, v = .slice (some ⟨g, 0, none⟩) n c ∧ n ≤ c ∧ g < w.heap.size ∧ w.rangeAt g 0 xs := by
    rcases hX.view.2 with ⟨-, h⟩ | h
    · omega
    · exact h
  have hrow := range_row (size := 16) (fun j x hj => by rw [hbw.cell (p := ⟨g, 0 + j, none⟩) hg]; exact hx j x hj : (w.alloc B).drew.rangeAt g 0 xs) i
  rw [hr] at hrow
  have HR := Lib.hid (fixRow16 (w.alloc B).drew (.slice none 0 0) g 0 n c i (u8s s) hi (by omega) (by rw [Nat.zero_add]; exact hrow) (by rw [u8s_length, hs]) (u8s_one s))
  have HB := Lib.hid hbw
  have HS := Lib.hid hs
  have HL : Hid (([] : List UInt8).length + s.length ≤ 140737488355328) := Lib.hid (by simp; omega)
  obtain ⟨cs, hcs⟩ : ∃ cs, cs = (u8s s).toArray := ⟨_, rfl⟩
  rw [← hcs] at HR
  have HCS := Lib.hid hcs
  subst hB
  clear hX hbw hld hx hrow hr hs hcs c0 cf
  go_enter Tryz.func181, Tryz.ntmps181
  go_wp2_with fail
  go_region_held3 (fun w' => w'.cell? ⟨w.heap.size, 0, none⟩ = some (.iface 117 (.pointer (some ⟨q, 0, none⟩))) ∧ w'.cell? ⟨w.heap.size, 2, none⟩ = some (.func (.func 44) #[] #[])) (first | exact ⟨s0, s2⟩ | go_keep)
    (first | (go_at_call 174; refine HR.out.mono ?_; rintro e w1 ⟨rfl, hb1⟩; have s0 : w1.cell? ⟨w.heap.size, 0, none⟩ = some (.iface 117 (.pointer (some ⟨q, 0, none⟩))) := (by rw [hb1.cell (by simp)]; go_simp); have s2 : w1.cell? ⟨w.heap.size, 2, none⟩ = some (.func (.func 44) #[] #[]) := (by rw [hb1.cell (by simp)]; go_simp)) | (go_at_call 44; refine (outB16 _ s cs HCS.out HS.out).mono ?_; rintro e w2 ⟨rfl, hx, hb2⟩; have s0 : w2.cell? ⟨w.heap.size, 0, none⟩ = some (.iface 117 (.pointer (some ⟨q, 0, none⟩))) := (by rw [hb2.cell (by have := hb1.size; simp at this ⊢; omega)]; exact s0); have s2 : w2.cell? ⟨w.heap.size, 2, none⟩ = some (.func (.func 44) #[] #[]) := (by rw [hb2.cell (by have := hb1.size; simp at this ⊢; omega)]; exact s2)) | (refine step_append_since _ w2 [] s (by rfl) _ _ _ (by rfl) _ (by rfl) ⟨⟨fun _ => False, OwnB.nil _ _, fun _ h => h.elim⟩, Below.refl _ _⟩ _ (by rfl) hx.srcB HL.out ?_; intro q1 c1 w3 hs3; have s0 : w3.cell? ⟨w.heap.size, 0, none⟩ = some (.iface 117 (.pointer (some ⟨q, 0, none⟩))) := (by rw [hs3.below.cell (by have := hb2.size; have := hb1.size; simp at this ⊢; omega)]; exact s0); have s2 : w3.cell? ⟨w.heap.size, 2, none⟩ = some (.func (.func 44) #[] #[]) := (by rw [hs3.below.cell (by have := hb2.size; have := hb1.size; simp at this ⊢; omega)]; exact s2)))
  go_wp2_with fail
  go_ret
  exact made_at HB.out hb1 hb2 hs3
theorem info32 : (Tryz.prog.info? 130).map (·.size) = some 32 := by kernel_rfl
theorem info32z : (Tryz.prog.info? 130).map (fun i => (i.zero, i.size, i.bytes)) = some (some (.agg (Array.replicate 32 (.int .u8 0))), 32, 32) := by kernel_rfl
theorem elem32 : Elem 129 130 32 32 := elem_of Tryz.underlying129 info32z (by simp [Value.cells]) (by decide)
theorem zero32 : ∀ w, (zeroValue 130).run Tryz.prog w = .ok (.agg (Array.replicate 32 (.int .u8 0))) w := (zero_of_info (by have h := info32z; cases hq : Tryz.prog.info? 130 with | none => simp [hq] at h | some i => simp [hq] at h ⊢; exact ⟨h.1, h.2.1⟩)).1




set_option maxRecDepth 100000 in
theorem fixAppend32 (w : World) (F : Nat → Prop) (q n : Nat) (xs : List Value) (s : List UInt8) (hs : s.length = 32) (h : NumCol w F 129 130 32 q n xs) (hn : n + 1 ≤ 100000000) :
    Calls Tryz.prog 182 #[.pointer (some ⟨q, 0, none⟩), .agg (u8s s).toArray] w (PutN w F 129 130 32 q (n + 1) (xs ++ u8s s)) := by
  obtain ⟨v, hX, hF⟩ := h
  obtain ⟨c0, cf, hlt⟩ := hX.cell
  obtain ⟨p0, k0, rfl⟩ := hX.slice
  have hl : (u8s s).length = 32 := by simp [u8s, hs]
  have HX := Lib.hid hX
  have HF := Lib.hid hF
  obtain ⟨cs, hcs⟩ : ∃ cs, cs = u8s s := ⟨_, rfl⟩
  have H1 : Hid (∀ u ∈ cs, u.oneCell' = true) := Lib.hid (by rw [hcs]; exact u8s_one s)
  rw [← hcs] at hl ⊢
  have HL := Lib.hid hl
  have hld := load_new w cs 130
  rw [hl] at hld
  have hbs := fun W => run_build1 elem32 (by decide) W cs hl
  have HXA := Lib.hid (hX.keep (((Below.refl _ w).alloc (Nat.le_refl _) (.cells cs.toArray 130)).alloc (by simp) (.cells cs.toArray 130))).drew
  have HSR := Lib.hid (src_box elem32 w (.cells cs.toArray 130) cs 130 hl H1.out)
  clear hcs hl hX hF
  go_enter Tryz.func182, Tryz.ntmps182
  go_wp2_with fail
  go_region_law ((refine step_num elem32 (by rfl) _ q _ _ _ HXA.out _ _ _ (by rfl) (by rfl) _ (by rfl) 1 _ HSR.out (by omega) (by omega) ?_; intro p1 k1 w1 G1; have e0 := G1.c0; have ef := G1.cf))
  all_goals
    go_returns
    exact putN_of HF.out G1.ok ((((Upd.refl _ w).alloc _).alloc _).trans G1.upd.ofDrew)





set_option maxRecDepth 100000 in
theorem out32 (w : World) (s : List UInt8) (hs : s.length = 32) : Calls Tryz.prog 46 #[.agg (u8s s).toArray] w fun e w' => e = .returned (.slice (some ⟨w.heap.size, 0, none⟩) 32 32) ∧ w' = w.alloc (.cells (u8s s).toArray 130) := by
  go_enter Tryz.func46, Tryz.ntmps46
  go_wp2_with fail
  go_ret
  exact ⟨rfl, rfl⟩

theorem outB32 (w : World) (s : List UInt8) (cs : Array Value) (hc : cs = (u8s s).toArray) (hs : s.length = 32) : Calls Tryz.prog 46 #[.agg cs] w fun e w' => e = .returned (.slice (some ⟨w.heap.size, 0, none⟩) 32 32) ∧ BytesAt w' (.slice (some ⟨w.heap.size, 0, none⟩) 32 32) s ∧ Below w.heap.size w w' := by
  subst hc
  refine (out32 w s hs).mono ?_
  rintro e w' ⟨rfl, rfl⟩
  have h := bytesAt_row w s 130
  rw [hs] at h
  exact ⟨rfl, h, (Below.refl _ w).alloc (Nat.le_refl _) _⟩
set_option maxRecDepth 100000 in
theorem in32 (w : World) (x : Value) (s : List UInt8) (hx : BytesX w x s) (hs : s.length = 32) : Calls Tryz.prog 45 #[x] w fun e w' => e = .returned (.agg (u8s s).toArray) ∧ Below w.heap.size w w' := by
  obtain ⟨b, off, c, rfl, hc, hr⟩ := hx.range (by omega)
  have hl : (u8s s).length = 32 := by simp [u8s, hs]
  have h1 := u8s_one s
  rw [hs] at hc ⊢
  obtain ⟨cs, hcs⟩ : ∃ cs, cs = u8s s := ⟨_, rfl⟩
  rw [← hcs] at hr hl h1 ⊢
  have hld := fun o => load_mid (range_alloc hr o)
  have hst := store_new w cs 130 h1
  have hz0 := zero32
  rw [hl] at hld hst
  have hfin := load_mid (cs := cs) (range_new w cs 130)
  rw [hl] at hfin
  clear hx hr h1 hcs hs
  have har := fun W a c => run_arrayAt Tryz.underlying130 W a c
  go_enter Tryz.func45, Tryz.ntmps45
  go_wp2_with fail
  refine bodyPost_ret (v := .agg cs.toArray) (by simp [results, Tryz.results45, go_sem, hfin]) rfl ⟨rfl, (Below.refl _ w).alloc (Nat.le_refl _) _⟩
set_option maxRecDepth 100000 in
theorem fixRow32 (w : World) (v : Value) (g off n c i : Nat) (cs : List Value) (hi : i < n) (hn : n ≤ 8796093022208) (hr : w.rangeAt g (off + i * 32) cs) (hl : cs.length = 32) (h1 : ∀ u ∈ cs, u.oneCell' = true) :
   Calls Tryz.prog 187 #[.slice (some ⟨g, off, none⟩) n c, .int .i64 i] w fun e w' => e = .returned (.agg cs.toArray) ∧ Below w.heap.size w w' := by
  have hld := fun o => load_mid (range_alloc hr o)
  have hst := store_new w cs 130 h1
  have hz0 := zero32
  rw [hl] at hld hst
  have hfin := load_mid (cs := cs) (range_new w cs 130)
  rw [hl] at hfin
  clear hr h1
  go_enter Tryz.func187, Tryz.ntmps187
  go_wp2_with fail
  refine bodyPost_ret (v := .agg cs.toArray) (by simp [results, Tryz.results187, go_sem, hfin]) rfl ⟨rfl, (Below.refl _ w).alloc (Nat.le_refl _) _⟩
set_option maxRecDepth 100000 in
set_option maxHeartbeats 1000000 in
theorem fixEncode32 (w : World) (F : Nat → Prop) (p : Nat) (bs : List UInt8) (v : Value) (n : Nat) (flat : List UInt8) (hB : BufAt w F 179 p bs) (hF : In F w) (h : NumV w v n 32 (u8s flat)) (hv : ∀ g, v.ownBlock = some g → ¬ F g)
    (hl : bs.length + n * 32 ≤ 140737488355328) :
    Calls Tryz.prog 185 #[v, .pointer (some ⟨p, 0, none⟩)] w (Put w F 179 p (bs ++ flat)) := by
  obtain ⟨hfl, hcase⟩ := h
  rw [u8s_length] at hfl
  rcases hcase with ⟨rfl, rfl⟩ | ⟨gx, cx, rfl, hcx, hgx, hx⟩
  · obtain rfl : flat = [] := List.length_eq_zero_iff.1 (by omega)
    go_enter Tryz.func185, Tryz.ntmps185
    go_wp2_with fail
    go_returns
    exact ⟨rfl, F, by simpa using hB, Upd.refl _ _⟩
  · by_cases hn0 : n = 0
    · subst hn0
      obtain rfl : flat = [] := List.length_eq_zero_iff.1 (by omega)
      clear hx
      go_enter Tryz.func185, Tryz.ntmps185
      go_wp2_with fail
      go_returns
      exact ⟨rfl, F, by simpa using hB, Upd.refl _ _⟩
    · have hnI : ¬ (n : Int) = 0 := by omega
      obtain ⟨vb, hcb, hfb, hlb⟩ := hB.cell
      obtain ⟨pb, kb, rfl⟩ : ∃ p k, vb = .slice p bs.length k := by
        obtain ⟨v', h1, h2, -⟩ := hB.bytes
        rw [hcb] at h1
        obtain rfl := Option.some.inj h1
        exact h2.slice
      have hml : IntKind.i64.wrap (32 * (n : Int)) = ((n * 32 : Nat) : Int) := by rw [IntKind.wrap_i64]; omega
      have HB := Lib.hid hB
      have HX := Lib.hid hx
      have HF := Lib.hid hF
      have HFL := Lib.hid hfl
      have hgF := hv gx rfl
      have hgx0 := hgx
      clear hB hx hF hv hfl
      go_enter Tryz.func185, Tryz.ntmps185
      go_wp2_with (at_builtin; refine list_zeros_bufs rfl _ F _ p bs (n * 32) (by omega) _ _ rfl HB.out _ hcb rfl rfl hl ?_; intro g c w1 hc1 hf1 hst1)
      obtain ⟨F2, hB2, hu2⟩ := hst1
      obtain ⟨W1, hW1⟩ : ∃ W1, W1 = w1.setCell ⟨p, 0, none⟩ (.slice (some ⟨g, 0, none⟩) (bs.length + n * 32) c) := ⟨_, rfl⟩
      have hcW : W1.cell? ⟨p, 0, none⟩ = some (.slice (some ⟨g, 0, none⟩) (bs.length + n * 32) c) := by rw [hW1]; go_simp
      rw [← hW1] at hB2 hu2 ⊢
      obtain ⟨hG, hgF2, hpF2⟩ := hB2.two hcW
      have hgx : gx ≠ g := fun e => by
        rcases hu2.new g hgF2 with h | h
        · exact hgF (e ▸ h)
        · omega
      have hxW : W1.rangeAt gx 0 (u8s flat) := fun j x hj => by rw [hu2.chg.cell (p := ⟨gx, 0 + j, none⟩) hgx0 hgF]; exact HX.out j x hj
      have HG := Lib.hid hG
      have HU2 := Lib.hid hu2
      have HXW := Lib.hid hxW
      have HF2 := Lib.hid (And.intro hgF2 hpF2)
      obtain ⟨L, hL⟩ : ∃ L, L = bs.length + n * 32 := ⟨_, rfl⟩
      have HLL := Lib.hid hL
      rw [← hL] at HG
      clear hG hu2 hxW hgF2 hpF2 hB2 hcW hW1 hc1 hf1 hL
      go_loopw [5, 30] (fun vo vi wr => ∃ i off : Nat, i ≤ n ∧ vi = .int .i64 i ∧ vo = .int .i64 off ∧ off = bs.length + i * 32 ∧ BufG wr 179 p g L c (halfway bs flat 32 n i) ∧ Chg (· = g) W1 wr) (fun _ vi _ => n - (intOf vi).toNat)
      case atStart => exact ⟨0, bs.length, Nat.zero_le _, rfl, rfl, by simp, by rw [halfway_zero]; exact HG.out, Chg.refl _ _⟩
      case round =>
        obtain ⟨i, off, hi, rfl, rfl, hoff, hBG, hchg⟩ := hrel
        by_cases hlt : i < n
        · obtain ⟨b0, bf, bp, bg⟩ := hBG.cells
          obtain ⟨cur, hcur, hcl, hct⟩ := hBG.row
          obtain ⟨hl1, hl2, hl3⟩ := hBG.len
          obtain ⟨row, hrow⟩ : ∃ row, row = (flat.drop (i * 32)).take 32 := ⟨_, rfl⟩
          have hfl := HFL.out
          have hrl : row.length = 32 := by rw [hrow, List.length_take, List.length_drop, hfl]; omega
          have hnx := halfway_next bs flat 32 n i hfl hlt cur c L hcl HLL.out hl2 hct row hrow off hoff
          have hrr : wr.rangeAt gx (i * 32) (u8s row) := by
            have h := range_row (size := 32) (fun j x hj => by rw [hchg.cell (p := ⟨gx, 0 + j, none⟩) (by have := HU2.out.chg.size; simp; omega) (by simpa using hgx)]; exact HXW.out j x hj : wr.rangeAt gx 0 (u8s flat)) i
            rw [hrow]; simpa [u8s, List.map_take, List.map_drop] using h
          obtain ⟨cs, hcs⟩ : ∃ cs, cs = u8s row := ⟨_, rfl⟩
          have h1 := u8s_one row
          have hcsl : cs.length = 32 := by rw [hcs, u8s_length, hrl]
          rw [← hcs] at hrr h1 hnx
          have hld := load_mid hrr
          have hst := store_new wr cs 130 h1
          have hz0 := zero32
          rw [hcsl] at hld hst
          have hLv := HLL.out
          have w1 : IntKind.i64.wrap ((off : Int) + 32) = (off : Int) + 32 := by rw [IntKind.wrap_i64]; omega
          have n1 : ¬ c = off := by omega
          have n3 : (0 : Int) ≤ (off : Int) + 32 := by omega
          have n4 : ((off : Int) + 32).toNat = off + 32 := by omega
          have n2 : (off : Int) + 32 ≤ (c : Int) := by omega
          have HBG := Lib.hid hBG
          have HCG := Lib.hid hchg
          have HOFF := Lib.hid hoff
          have HNX := Lib.hid hnx
          have HCUR := Lib.hid (And.intro hcur (And.intro hcl hct))
          have HCS := Lib.hid (And.intro h1 hcsl)
          clear hBG hchg hcur hct hnx hrr h1 hcs hrow hl1 hl3 hoff
          go_wp2_with fail
          refine wp_region_still_tail 9 (by kernel_rfl) (by kernel_rfl) ?_
          simp only [List.take_succ_cons, List.take_zero, List.drop_succ_cons, List.drop_zero]
          change wpStill _ _ (World.drew _) _ _ _
          repeat still_step
          refine wpStill_nil ?_
          change wpList _ _ _ _ _ (World.drew _)
          obtain ⟨h1, h2⟩ := HCS.out
          obtain ⟨hcur, hcl', hct⟩ := HCUR.out
          have hcurA : (wr.alloc (.cells cs.toArray 130)).drew.heap[g]? = some (.cells cur.toArray 5 (0, 0)) := by
            show (wr.alloc _).heap[g]? = _
            rw [Below.heap_alloc _ _ _ bg]; exact hcur
          have hSRC : ∀ j v, cs[j]? = some v → (wr.alloc (.cells cs.toArray 130)).drew.cell? ((⟨wr.heap.size, 0, none⟩ : Addr).add j) = some v := fun j v hj => by rw [Addr.add_mid]; exact (World.rangeAt_drew _ _ _ _ |>.2 (range_new wr cs _)) j v hj
          refine list_copy_chg rfl _ _ _ _ rfl 5 Tryz.underlying34 (by kernel_rfl) g off _ _ _ _ _ rfl rfl cur _ hcurA cs (by rw [h2]; rfl) hSRC (by rw [h2, hcl]; omega) h1 ?_
          intro w2 hg2 hc2
          have hbA : Below wr.heap.size wr (wr.alloc (.cells cs.toArray 130)).drew := ((Below.refl _ wr).alloc (Nat.le_refl _) _).drew
          have hB2 : BufG w2 179 p g L c (halfway bs flat 32 n (i + 1)) := by
            obtain ⟨k1, -, ⟨k3, k4, k5⟩, k6⟩ := HBG.out
            exact ⟨by rw [hc2.block p (by simp; omega) (fun e => k6 e.symm), hbA.block p bp]; exact k1, ⟨_, hg2, HNX.out.2, HNX.out.1⟩, ⟨by rw [halfway_length _ _ _ _ _ hfl hlt]; exact HLL.out.symm, k4, k5⟩, k6⟩
          have hC2 : Chg (· = g) W1 w2 := (HCG.out.trans (Chg.of_below hbA) fun _ _ h => h).trans hc2 fun _ _ h => h
          clear hg2 hc2 hcur hct hcl' hcurA hSRC hbA
          go_wp2_with fail
          go_roundw
          case rel => exact ⟨i + 1, off + 32, hlt, by go_num, by go_num, by rw [HOFF.out, Nat.add_mul]; omega, hB2, hC2⟩
          case measure => simp [intOf]; omega
        · obtain rfl : i = n := by omega
          go_wp2_with fail
          go_returns
          rw [halfway_all _ _ _ _ HFL.out] at hBG
          exact ⟨rfl, F2, hBG.buf HF2.out.1 HF2.out.2, ⟨HU2.out.chg.trans hchg fun k hk h => by
            subst h
            rcases HU2.out.new _ HF2.out.1 with h | h
            · exact h
            · omega, fun k hk => by
            rcases HU2.out.new k hk with h | h
            · exact .inl h
            · exact .inr ⟨h.1, by have := hchg.size; omega⟩⟩⟩




set_option maxRecDepth 100000 in
set_option maxHeartbeats 1000000 in
theorem fixDecode32 (w : World) (Fr D F : Nat → Prop) (r q n : Nat) (flat tail rest cur : List UInt8) (ok : Bool) (hR : RdAt w Fr D r rest cur) (hX : NumCol w F 129 130 32 q 0 []) (hF : ∀ k, F k → ¬ Fr k ∧ ¬ D k)
    (hrest : (ok = true ∧ rest = flat ++ tail) ∨ (ok = false ∧ rest.length < flat.length)) (hn : flat.length = n * 32) (hbig : rest.length ≤ 1000000000) (hfl : flat.length ≤ 1000000000) :
    Calls Tryz.prog 184 #[.pointer (some ⟨q, 0, none⟩), .pointer (some ⟨r, 0, none⟩), .int .i64 n] w (DecNum w Fr D F r q 129 130 32 ok n (u8s flat) tail) := by
  obtain ⟨v0, hX, hFX⟩ := hX
  obtain ⟨c0, cf, hlt⟩ := hX.cell
  have hinD : In D w := by obtain ⟨_, _, _, h⟩ := hR; exact h.inD
  by_cases hn0 : n = 0
  · subst hn0
    obtain rfl : flat = [] := List.length_eq_zero_iff.1 (by omega)
    rcases hrest with ⟨rfl, rfl⟩ | ⟨rfl, h⟩
    · have HR := Lib.hid hR
      have HX := Lib.hid (And.intro hX (And.intro hFX hF))
      clear hR hX hFX hF
      go_enter Tryz.func184, Tryz.ntmps184
      go_wp2_with fail
      go_ret
      exact ⟨fun _ => ⟨rfl, Fr, cur, F, HR.out, ⟨v0, HX.out.1, HX.out.2.1⟩, Upd.refl _ _, HX.out.2.2⟩, fun h => by simp at h⟩
    · simp at h
  · have hnI : ¬ (n : Int) = 0 := by omega
    have hml : IntKind.i64.wrap ((n : Int) * 32) = ((n * 32 : Nat) : Int) := by rw [IntKind.wrap_i64]; omega
    rcases hrest with ⟨rfl, rfl⟩ | ⟨rfl, hsh⟩
    · have HRR := Lib.hid (rdRawN w Fr D r flat tail cur (n * 32) hn.symm hR (by omega))
      have HX := Lib.hid (And.intro hX (And.intro hFX (And.intro hF hinD)))
      have HN := Lib.hid hn
      have HC0 := Lib.hid (And.intro c0 cf)
      obtain ⟨p0, k0, rfl⟩ := hX.slice
      clear hR hX hFX hF hinD c0 cf
      go_enter Tryz.func184, Tryz.ntmps184
      go_wp2_with fail
      refine HRR.out.mono ?_
      rintro e w1 ⟨b, vb, F2, hbr, rfl, h2, hbv, hu2⟩
      obtain ⟨hXX, hFX, hF, hinD⟩ := HX.out
      have c1 : w1.cell? ⟨q, 0, none⟩ = some (.slice p0 0 k0) := by rw [hu2.chg.cell (p := ⟨q, 0, none⟩) hlt (hF q (hFX q (.inl rfl))).1]; exact HC0.out.1
      have f1 : w1.frozen? ⟨q, 0, none⟩ = false := by rw [hu2.chg.frozen (p := ⟨q, 0, none⟩) hlt (hF q (hFX q (.inl rfl))).1]; exact HC0.out.2
      obtain ⟨bb, off, cc, rfl, hcc, hbx⟩ : ∃ bb off cc : Nat, vb = .slice (some ⟨bb, off, none⟩) flat.length cc ∧ flat.length ≤ cc ∧ F2 bb := by
        rcases id hbv with ⟨rfl, h⟩ | ⟨bb, off, cc, rfl, hcc, -⟩
        · subst h; simp at hn; omega
        · refine ⟨bb, off, cc, rfl, hcc, ?_⟩
          obtain ⟨FB, hrow, -, hsub⟩ := h2.row
          exact hsub bb (hrow.2.2.2 bb rfl).1
      have HBV := Lib.hid hbv
      have H2 := Lib.hid (And.intro hbr (And.intro h2 (And.intro hu2 hbx)))
      have hln : flat.length = n * 32 := HN.out
      have hxl : (1 : Nat) ≤ n := by omega
      have hld0 : ∃ y : UInt8, w1.cell? ⟨bb, off + (n * 32 - 32), none⟩ = some (.int .u8 y.toNat) := by
        rcases hbv with ⟨h, -⟩ | ⟨b', o', c', h, -, hx⟩
        · simp at h
        · obtain ⟨⟨rfl, rfl⟩, -⟩ : (bb = b' ∧ off = o') ∧ cc = c' := by simpa using h
          exact ⟨_, hx (n * 32 - 32) (by omega)⟩
      obtain ⟨y, hy⟩ := hld0
      have s1 : IntKind.i64.wrap ((n * 32 : Nat) - 32 : Int) = ((n * 32 - 32 : Nat) : Int) := by rw [IntKind.wrap_i64]; omega
      rw [hln]
      clear hbv hbr h2 hu2 hXX hFX hF hinD hbx hn
      go_wp2_with fail
      go_loopw [9, 10] (fun vv vi wr => ∃ k m : Nat, ∃ p c, k ≤ n ∧ m = k * 32 ∧ vi = .int .i64 m ∧ vv = .slice p k c ∧ DecK w1 130 32 (.slice p0 0 k0) flat k (.slice p k c) wr) (fun _ vi _ => n * 32 - (intOf vi).toNat)
      case atStart =>
        obtain ⟨hXX, hFX, hF, hinD⟩ := HX.out
        exact ⟨0, 0, p0, k0, Nat.zero_le _, rfl, rfl, rfl, decK_zero (hXX.chg H2.out.2.2.1.chg fun k hk => (hF k (hFX k hk)).1)⟩
      case round =>
        obtain ⟨k, m, p, c, hk, hm, rfl, rfl, hD⟩ := hrel
        by_cases hkn : k < n
        · obtain ⟨Fk, hown, huk⟩ := hD
          obtain ⟨row, hrow⟩ : ∃ row, row = (flat.drop (k * 32)).take 32 := ⟨_, rfl⟩
          have hrl : row.length = 32 := by rw [hrow, List.length_take, List.length_drop, HN.out]; omega
          have hbr : BytesAt wr (.slice (some ⟨bb, off, none⟩) flat.length cc) flat := HBV.out.keep fun g hg => by
            obtain rfl : bb = g := by simpa [Value.ownBlock] using hg
            obtain ⟨-, hx2, hu2, hb2⟩ := H2.out
            obtain ⟨hXX, hFX, hF, hinD⟩ := HX.out
            refine huk.chg.block bb (hx2.inF bb hb2) fun e => ?_
            rcases hu2.new bb hb2 with h | h
            · exact (hF bb (hFX bb (.inr e))).1 h
            · have := hXX.inn bb (.inr e); omega
          have hrr := row_range hbr k 32 row hrow
          rw [← hm] at hrr
          obtain ⟨cs, hcs⟩ : ∃ cs, cs = u8s row := ⟨_, rfl⟩
          have h1 := u8s_one row
          have hcl : cs.length = 32 := by rw [hcs, u8s_length, hrl]
          rw [← hcs] at hrr h1
          have hld := load_mid hrr
          rw [hcl] at hld
          have har := fun W a c => run_arrayAt Tryz.underlying130 W a c
          have hbs := fun W => run_build1 elem32 (by decide) W cs hcl
          have g1 : IntKind.i64.wrap ((m : Int) + 32) = (m : Int) + 32 := by rw [IntKind.wrap_i64]; omega
          have g2 : (0 : Int) ≤ (m : Int) + 32 := by omega
          have g3 : ((m : Int) + 32).toNat = m + 32 := by omega
          have g4 : (m : Int) + 32 ≤ (cc : Int) := by omega
          have g5 : ¬ cc = m := by omega
          have g6 : (m : Int) ≤ ((n * 32 - 32 : Nat) : Int) := by omega
          have HO := Lib.hid (And.intro hown (And.intro huk (And.intro hrow hcs)))
          have HSR := Lib.hid (src_new elem32 wr.heap.size cs _ (heap_alloc_new wr (.cells cs.toArray 130)) hcl h1 1)
          have HM := Lib.hid hm
          clear hown huk hrow hbr hrr h1 hcs hm
          go_wp2_with (at_builtin; refine append_rows elem32 _ Fk k 1 (u8s (flat.take (k * 32))) _ rfl _ _ _ rfl _ rfl (HO.out.1.keep ((Below.refl _ wr).alloc (Nat.le_refl _) _)) _ rfl HSR.out (by omega) (by omega) ?_; intro p5 c5 w5 F5 hown5 hu5)
          go_roundw
          case rel =>
            obtain ⟨-, h2, h3, h4⟩ := HO.out
            rw [h4] at hown5
            exact ⟨k + 1, m + 32, p5, c5, hkn, by rw [HM.out]; omega, by go_num, rfl, decK_next h3 h2 hown5 hu5⟩
          case measure => simp [intOf]; omega
        · obtain rfl : k = n := by omega
          subst hm
          have g6 : ¬ ((k * 32 : Nat) : Int) ≤ ((k * 32 - 32 : Nat) : Int) := by omega
          have HD := Lib.hid hD
          obtain ⟨Fk, hown, huk⟩ := hD
          obtain ⟨hXX, hFX, hF, hinD⟩ := HX.out
          obtain ⟨hbr, h2, hu2, hbx⟩ := H2.out
          have hq1 : q < w1.heap.size := by have := hu2.chg.size; omega
          have hqn : ¬ (Value.slice p0 0 k0).ownBlock = some q := fun e => hXX.bq e rfl
          have c2 : wr.cell? ⟨q, 0, none⟩ = some (.slice p0 0 k0) := by rw [huk.chg.cell (p := ⟨q, 0, none⟩) hq1 hqn]; exact c1
          have f2 : wr.frozen? ⟨q, 0, none⟩ = false := by rw [huk.chg.frozen (p := ⟨q, 0, none⟩) hq1 hqn]; exact f1
          clear hown huk hXX hFX hF hinD hbr h2 hu2 hbx hqn
          go_wp2_with fail
          go_ret
          obtain ⟨hXX, hFX, hF, hinD⟩ := HX.out
          obtain ⟨hbr, h2, hu2, hbx⟩ := H2.out
          exact decK_done hXX hFX hF hinD hbr h2 hu2 HD.out HN.out
    · have HRR := Lib.hid (rdRawN_short w Fr D r rest cur hR (n * 32) (by omega))
      have HX := Lib.hid (And.intro hFX hF)
      clear hR hX hFX hF hinD
      go_enter Tryz.func184, Tryz.ntmps184
      go_wp2_with (first | (go_at_call 164; refine HRR.out.mono ?_; rintro e w1 ⟨a, F1, cur1, rfl, h1, hu⟩) | (go_at_call 89; refine (wrapErr _ _ _ _).mono ?_; rintro e w2 ⟨⟨a2, rfl⟩, hb2⟩))
      go_ret
      exact ⟨fun h => by simp at h, fun _ => ⟨⟨_, rfl⟩, (hu.chg.mono fun _ _ h => .inl h).trans (Chg.of_below hb2) fun _ _ h => h⟩⟩

set_option maxRecDepth 100000 in
theorem fixRows32 (w : World) (p : Option Addr) (n c : Nat) : Calls Tryz.prog 188 #[.slice p n c] w fun e w' => e = .returned (.int .i64 n) ∧ w = w' := by
  go_enter Tryz.func188, Tryz.ntmps188
  go_wp2_with fail
  go_ret
  exact ⟨rfl, rfl⟩

theorem rowAppF32 : MRow 127 "Append" [] (some (182, true)) := mRow_of (by kernel_rfl)
theorem rowRowF32 : MRow 127 "Row" [] (some (187, false)) := mRow_of (by kernel_rfl)

set_option maxRecDepth 100000 in
theorem addF32 (w : World) (F : Nat → Prop) (q n : Nat) (xs : List Value) (x : Value) (s : List UInt8) (f2 f3 : Value) (hx : BytesX w x s) (hs : s.length = 32) (h : NumCol w F 129 130 32 q n xs) (hF : In F w) (hn : n + 1 ≤ 100000000) :
    Calls Tryz.prog 191 #[.agg #[.iface 127 (.pointer (some ⟨q, 0, none⟩)), .func (.func 45) #[] #[], f2, f3], x] w (PutN w F 129 130 32 q (n + 1) (xs ++ u8s s)) := by
  have hm : ∀ W, (method 383 127 (.pointer (some ⟨q, 0, none⟩)) "Append").run Tryz.prog W = .ok (182, .pointer (some ⟨q, 0, none⟩)) W := fun W => meth_ptr 382 rowAppF32 Tryz.underlying127 (.pointer (some ⟨q, 0, none⟩)) W
  obtain ⟨px, cx, rfl⟩ := hx.slice
  obtain ⟨x, hxe⟩ : ∃ x, x = Value.slice px s.length cx := ⟨_, rfl⟩
  rw [← hxe] at hx ⊢
  clear hxe
  have HX := Lib.hid hx
  have HS := Lib.hid h
  have HL := Lib.hid hs
  have HF : Hid (¬ F w.heap.size) := Lib.hid fun h => by have := hF _ h; omega
  clear hx h hF hs
  go_enter Tryz.func191, Tryz.ntmps191
  go_wp2_with fail
  go_region_held3 (fun w' => w'.cell? ⟨w.heap.size, 0, none⟩ = some (.iface 127 (.pointer (some ⟨q, 0, none⟩))) ∧ w'.cell? ⟨w.heap.size, 1, none⟩ = some (.func (.func 45) #[] #[])) (first | exact ⟨s0, s1⟩ | go_keep)
    (first | (go_at_call 45; refine (in32 _ x s (HX.out.below (((Below.refl _ w).alloc (Nat.le_refl _) _).drew)) HL.out).mono ?_; rintro e w1 ⟨rfl, hb1⟩; have s0 : w1.cell? ⟨w.heap.size, 0, none⟩ = some (.iface 127 (.pointer (some ⟨q, 0, none⟩))) := (by rw [hb1.cell (by simp)]; go_simp); have s1 : w1.cell? ⟨w.heap.size, 1, none⟩ = some (.func (.func 45) #[] #[]) := (by rw [hb1.cell (by simp)]; go_simp)) | (go_at_call 182; refine (fixAppend32 _ F q n xs s HL.out (HS.out.keep ((((Below.refl _ w).alloc (Nat.le_refl _) _).drew).trans (hb1.mono (by simp)))) hn).mono ?_; rintro e w' ⟨rfl, F1, h1, hu1⟩; have s0 : w'.cell? ⟨w.heap.size, 0, none⟩ = some (.iface 127 (.pointer (some ⟨q, 0, none⟩))) := (by rw [hu1.chg.cell (p := ⟨w.heap.size, 0, none⟩) (by have := hb1.size; simp at this ⊢; omega) HF.out]; exact s0); have s1 : w'.cell? ⟨w.heap.size, 1, none⟩ = some (.func (.func 45) #[] #[]) := (by rw [hu1.chg.cell (p := ⟨w.heap.size, 1, none⟩) (by have := hb1.size; simp at this ⊢; omega) HF.out]; exact s1)))
  go_returns
  exact ⟨rfl, F1, h1, ((Upd.refl F w).below ((((Below.refl _ w).alloc (Nat.le_refl _) _).drew).trans (hb1.mono (by simp)))).trans hu1⟩

set_option maxRecDepth 100000 in
theorem atF32 (w : World) (F : Nat → Prop) (q n i : Nat) (xs : List Value) (s : List UInt8) (f1 f3 : Value) (h : NumCol w F 129 130 32 q n xs) (hi : i < n) (hn : n ≤ 100000000) (hs : s.length = 32) (hr : (xs.drop (i * 32)).take 32 = u8s s) :
    Calls Tryz.prog 194 #[.agg #[.iface 127 (.pointer (some ⟨q, 0, none⟩)), f1, .func (.func 46) #[] #[], f3], .int .i64 i] w (Made w s) := by
  obtain ⟨v, hX, -⟩ := h
  obtain ⟨c0, cf, hlt⟩ := hX.cell
  obtain ⟨B, hB⟩ : ∃ B, B = (Obj.cells #[.iface 127 (.pointer (some ⟨q, 0, none⟩)), f1, .func (.func 46) #[] #[], f3] 136) := ⟨_, rfl⟩
  have hbw : Below w.heap.size w (w.alloc B).drew := ((Below.refl _ w).alloc (Nat.le_refl _) _).drew
  have hld := load_one (w := (w.alloc B).drew) (by rw [hbw.block q hlt]; exact hX.at_) Tryz.underlying129
  have hmm := meth_val 382 rowRowF32 Tryz.underlying127 ⟨q, 0, none⟩ (w.alloc B).drew v hld
  obtain ⟨g, c, rfl, hcn, hg, hx⟩ : ∃ g c : Nat, v = .slice (some ⟨g, 0, none⟩) n c ∧ n ≤ c ∧ g < w.heap.size ∧ w.rangeAt g 0 xs := by
    rcases hX.view.2 with ⟨-, h⟩ | h
    · omega
    · exact h
  have hrow := range_row (size := 32) (fun j x hj => by rw [hbw.cell (p := ⟨g, 0 + j, none⟩) hg]; exact hx j x hj : (w.alloc B).drew.rangeAt g 0 xs) i
  rw [hr] at hrow
  have HR := Lib.hid (fixRow32 (w.alloc B).drew (.slice none 0 0) g 0 n c i (u8s s) hi (by omega) (by rw [Nat.zero_add]; exact hrow) (by rw [u8s_length, hs]) (u8s_one s))
  have HB := Lib.hid hbw
  have HS := Lib.hid hs
  have HL : Hid (([] : List UInt8).length + s.length ≤ 140737488355328) := Lib.hid (by simp; omega)
  obtain ⟨cs, hcs⟩ : ∃ cs, cs = (u8s s).toArray := ⟨_, rfl⟩
  rw [← hcs] at HR
  have HCS := Lib.hid hcs
  subst hB
  clear hX hbw hld hx hrow hr hs hcs c0 cf
  go_enter Tryz.func194, Tryz.ntmps194
  go_wp2_with fail
  go_region_held3 (fun w' => w'.cell? ⟨w.heap.size, 0, none⟩ = some (.iface 127 (.pointer (some ⟨q, 0, none⟩))) ∧ w'.cell? ⟨w.heap.size, 2, none⟩ = some (.func (.func 46) #[] #[])) (first | exact ⟨s0, s2⟩ | go_keep)
    (first | (go_at_call 187; refine HR.out.mono ?_; rintro e w1 ⟨rfl, hb1⟩; have s0 : w1.cell? ⟨w.heap.size, 0, none⟩ = some (.iface 127 (.pointer (some ⟨q, 0, none⟩))) := (by rw [hb1.cell (by simp)]; go_simp); have s2 : w1.cell? ⟨w.heap.size, 2, none⟩ = some (.func (.func 46) #[] #[]) := (by rw [hb1.cell (by simp)]; go_simp)) | (go_at_call 46; refine (outB32 _ s cs HCS.out HS.out).mono ?_; rintro e w2 ⟨rfl, hx, hb2⟩; have s0 : w2.cell? ⟨w.heap.size, 0, none⟩ = some (.iface 127 (.pointer (some ⟨q, 0, none⟩))) := (by rw [hb2.cell (by have := hb1.size; simp at this ⊢; omega)]; exact s0); have s2 : w2.cell? ⟨w.heap.size, 2, none⟩ = some (.func (.func 46) #[] #[]) := (by rw [hb2.cell (by have := hb1.size; simp at this ⊢; omega)]; exact s2)) | (refine step_append_since _ w2 [] s (by rfl) _ _ _ (by rfl) _ (by rfl) ⟨⟨fun _ => False, OwnB.nil _ _, fun _ h => h.elim⟩, Below.refl _ _⟩ _ (by rfl) hx.srcB HL.out ?_; intro q1 c1 w3 hs3; have s0 : w3.cell? ⟨w.heap.size, 0, none⟩ = some (.iface 127 (.pointer (some ⟨q, 0, none⟩))) := (by rw [hs3.below.cell (by have := hb2.size; have := hb1.size; simp at this ⊢; omega)]; exact s0); have s2 : w3.cell? ⟨w.heap.size, 2, none⟩ = some (.func (.func 46) #[] #[]) := (by rw [hs3.below.cell (by have := hb2.size; have := hb1.size; simp at this ⊢; omega)]; exact s2)))
  go_wp2_with fail
  go_ret
  exact made_at HB.out hb1 hb2 hs3
theorem info64 : (Tryz.prog.info? 140).map (·.size) = some 64 := by kernel_rfl
theorem info64z : (Tryz.prog.info? 140).map (fun i => (i.zero, i.size, i.bytes)) = some (some (.agg (Array.replicate 64 (.int .u8 0))), 64, 64) := by kernel_rfl
theorem elem64 : Elem 139 140 64 64 := elem_of Tryz.underlying139 info64z (by simp [Value.cells]) (by decide)
theorem zero64 : ∀ w, (zeroValue 140).run Tryz.prog w = .ok (.agg (Array.replicate 64 (.int .u8 0))) w := (zero_of_info (by have h := info64z; cases hq : Tryz.prog.info? 140 with | none => simp [hq] at h | some i => simp [hq] at h ⊢; exact ⟨h.1, h.2.1⟩)).1




set_option maxRecDepth 100000 in
theorem fixAppend64 (w : World) (F : Nat → Prop) (q n : Nat) (xs : List Value) (s : List UInt8) (hs : s.length = 64) (h : NumCol w F 139 140 64 q n xs) (hn : n + 1 ≤ 100000000) :
    Calls Tryz.prog 195 #[.pointer (some ⟨q, 0, none⟩), .agg (u8s s).toArray] w (PutN w F 139 140 64 q (n + 1) (xs ++ u8s s)) := by
  obtain ⟨v, hX, hF⟩ := h
  obtain ⟨c0, cf, hlt⟩ := hX.cell
  obtain ⟨p0, k0, rfl⟩ := hX.slice
  have hl : (u8s s).length = 64 := by simp [u8s, hs]
  have HX := Lib.hid hX
  have HF := Lib.hid hF
  obtain ⟨cs, hcs⟩ : ∃ cs, cs = u8s s := ⟨_, rfl⟩
  have H1 : Hid (∀ u ∈ cs, u.oneCell' = true) := Lib.hid (by rw [hcs]; exact u8s_one s)
  rw [← hcs] at hl ⊢
  have HL := Lib.hid hl
  have hld := load_new w cs 140
  rw [hl] at hld
  have hbs := fun W => run_build1 elem64 (by decide) W cs hl
  have HXA := Lib.hid (hX.keep (((Below.refl _ w).alloc (Nat.le_refl _) (.cells cs.toArray 140)).alloc (by simp) (.cells cs.toArray 140))).drew
  have HSR := Lib.hid (src_box elem64 w (.cells cs.toArray 140) cs 140 hl H1.out)
  clear hcs hl hX hF
  go_enter Tryz.func195, Tryz.ntmps195
  go_wp2_with fail
  go_region_law ((refine step_num elem64 (by rfl) _ q _ _ _ HXA.out _ _ _ (by rfl) (by rfl) _ (by rfl) 1 _ HSR.out (by omega) (by omega) ?_; intro p1 k1 w1 G1; have e0 := G1.c0; have ef := G1.cf))
  all_goals
    go_returns
    exact putN_of HF.out G1.ok ((((Upd.refl _ w).alloc _).alloc _).trans G1.upd.ofDrew)





set_option maxRecDepth 100000 in
theorem out64 (w : World) (s : List UInt8) (hs : s.length = 64) : Calls Tryz.prog 48 #[.agg (u8s s).toArray] w fun e w' => e = .returned (.slice (some ⟨w.heap.size, 0, none⟩) 64 64) ∧ w' = w.alloc (.cells (u8s s).toArray 140) := by
  go_enter Tryz.func48, Tryz.ntmps48
  go_wp2_with fail
  go_ret
  exact ⟨rfl, rfl⟩

theorem outB64 (w : World) (s : List UInt8) (cs : Array Value) (hc : cs = (u8s s).toArray) (hs : s.length = 64) : Calls Tryz.prog 48 #[.agg cs] w fun e w' => e = .returned (.slice (some ⟨w.heap.size, 0, none⟩) 64 64) ∧ BytesAt w' (.slice (some ⟨w.heap.size, 0, none⟩) 64 64) s ∧ Below w.heap.size w w' := by
  subst hc
  refine (out64 w s hs).mono ?_
  rintro e w' ⟨rfl, rfl⟩
  have h := bytesAt_row w s 140
  rw [hs] at h
  exact ⟨rfl, h, (Below.refl _ w).alloc (Nat.le_refl _) _⟩
set_option maxRecDepth 100000 in
theorem in64 (w : World) (x : Value) (s : List UInt8) (hx : BytesX w x s) (hs : s.length = 64) : Calls Tryz.prog 47 #[x] w fun e w' => e = .returned (.agg (u8s s).toArray) ∧ Below w.heap.size w w' := by
  obtain ⟨b, off, c, rfl, hc, hr⟩ := hx.range (by omega)
  have hl : (u8s s).length = 64 := by simp [u8s, hs]
  have h1 := u8s_one s
  rw [hs] at hc ⊢
  obtain ⟨cs, hcs⟩ : ∃ cs, cs = u8s s := ⟨_, rfl⟩
  rw [← hcs] at hr hl h1 ⊢
  have hld := fun o => load_mid (range_alloc hr o)
  have hst := store_new w cs 140 h1
  have hz0 := zero64
  rw [hl] at hld hst
  have hfin := load_mid (cs := cs) (range_new w cs 140)
  rw [hl] at hfin
  clear hx hr h1 hcs hs
  have har := fun W a c => run_arrayAt Tryz.underlying140 W a c
  go_enter Tryz.func47, Tryz.ntmps47
  go_wp2_with fail
  refine bodyPost_ret (v := .agg cs.toArray) (by simp [results, Tryz.results47, go_sem, hfin]) rfl ⟨rfl, (Below.refl _ w).alloc (Nat.le_refl _) _⟩
set_option maxRecDepth 100000 in
theorem fixRow64 (w : World) (v : Value) (g off n c i : Nat) (cs : List Value) (hi : i < n) (hn : n ≤ 8796093022208) (hr : w.rangeAt g (off + i * 64) cs) (hl : cs.length = 64) (h1 : ∀ u ∈ cs, u.oneCell' = true) :
   Calls Tryz.prog 200 #[.slice (some ⟨g, off, none⟩) n c, .int .i64 i] w fun e w' => e = .returned (.agg cs.toArray) ∧ Below w.heap.size w w' := by
  have hld := fun o => load_mid (range_alloc hr o)
  have hst := store_new w cs 140 h1
  have hz0 := zero64
  rw [hl] at hld hst
  have hfin := load_mid (cs := cs) (range_new w cs 140)
  rw [hl] at hfin
  clear hr h1
  go_enter Tryz.func200, Tryz.ntmps200
  go_wp2_with fail
  refine bodyPost_ret (v := .agg cs.toArray) (by simp [results, Tryz.results200, go_sem, hfin]) rfl ⟨rfl, (Below.refl _ w).alloc (Nat.le_refl _) _⟩
set_option maxRecDepth 100000 in
set_option maxHeartbeats 1000000 in
theorem fixEncode64 (w : World) (F : Nat → Prop) (p : Nat) (bs : List UInt8) (v : Value) (n : Nat) (flat : List UInt8) (hB : BufAt w F 179 p bs) (hF : In F w) (h : NumV w v n 64 (u8s flat)) (hv : ∀ g, v.ownBlock = some g → ¬ F g)
    (hl : bs.length + n * 64 ≤ 140737488355328) :
    Calls Tryz.prog 198 #[v, .pointer (some ⟨p, 0, none⟩)] w (Put w F 179 p (bs ++ flat)) := by
  obtain ⟨hfl, hcase⟩ := h
  rw [u8s_length] at hfl
  rcases hcase with ⟨rfl, rfl⟩ | ⟨gx, cx, rfl, hcx, hgx, hx⟩
  · obtain rfl : flat = [] := List.length_eq_zero_iff.1 (by omega)
    go_enter Tryz.func198, Tryz.ntmps198
    go_wp2_with fail
    go_returns
    exact ⟨rfl, F, by simpa using hB, Upd.refl _ _⟩
  · by_cases hn0 : n = 0
    · subst hn0
      obtain rfl : flat = [] := List.length_eq_zero_iff.1 (by omega)
      clear hx
      go_enter Tryz.func198, Tryz.ntmps198
      go_wp2_with fail
      go_returns
      exact ⟨rfl, F, by simpa using hB, Upd.refl _ _⟩
    · have hnI : ¬ (n : Int) = 0 := by omega
      obtain ⟨vb, hcb, hfb, hlb⟩ := hB.cell
      obtain ⟨pb, kb, rfl⟩ : ∃ p k, vb = .slice p bs.length k := by
        obtain ⟨v', h1, h2, -⟩ := hB.bytes
        rw [hcb] at h1
        obtain rfl := Option.some.inj h1
        exact h2.slice
      have hml : IntKind.i64.wrap (64 * (n : Int)) = ((n * 64 : Nat) : Int) := by rw [IntKind.wrap_i64]; omega
      have HB := Lib.hid hB
      have HX := Lib.hid hx
      have HF := Lib.hid hF
      have HFL := Lib.hid hfl
      have hgF := hv gx rfl
      have hgx0 := hgx
      clear hB hx hF hv hfl
      go_enter Tryz.func198, Tryz.ntmps198
      go_wp2_with (at_builtin; refine list_zeros_bufs rfl _ F _ p bs (n * 64) (by omega) _ _ rfl HB.out _ hcb rfl rfl hl ?_; intro g c w1 hc1 hf1 hst1)
      obtain ⟨F2, hB2, hu2⟩ := hst1
      obtain ⟨W1, hW1⟩ : ∃ W1, W1 = w1.setCell ⟨p, 0, none⟩ (.slice (some ⟨g, 0, none⟩) (bs.length + n * 64) c) := ⟨_, rfl⟩
      have hcW : W1.cell? ⟨p, 0, none⟩ = some (.slice (some ⟨g, 0, none⟩) (bs.length + n * 64) c) := by rw [hW1]; go_simp
      rw [← hW1] at hB2 hu2 ⊢
      obtain ⟨hG, hgF2, hpF2⟩ := hB2.two hcW
      have hgx : gx ≠ g := fun e => by
        rcases hu2.new g hgF2 with h | h
        · exact hgF (e ▸ h)
        · omega
      have hxW : W1.rangeAt gx 0 (u8s flat) := fun j x hj => by rw [hu2.chg.cell (p := ⟨gx, 0 + j, none⟩) hgx0 hgF]; exact HX.out j x hj
      have HG := Lib.hid hG
      have HU2 := Lib.hid hu2
      have HXW := Lib.hid hxW
      have HF2 := Lib.hid (And.intro hgF2 hpF2)
      obtain ⟨L, hL⟩ : ∃ L, L = bs.length + n * 64 := ⟨_, rfl⟩
      have HLL := Lib.hid hL
      rw [← hL] at HG
      clear hG hu2 hxW hgF2 hpF2 hB2 hcW hW1 hc1 hf1 hL
      go_loopw [5, 30] (fun vo vi wr => ∃ i off : Nat, i ≤ n ∧ vi = .int .i64 i ∧ vo = .int .i64 off ∧ off = bs.length + i * 64 ∧ BufG wr 179 p g L c (halfway bs flat 64 n i) ∧ Chg (· = g) W1 wr) (fun _ vi _ => n - (intOf vi).toNat)
      case atStart => exact ⟨0, bs.length, Nat.zero_le _, rfl, rfl, by simp, by rw [halfway_zero]; exact HG.out, Chg.refl _ _⟩
      case round =>
        obtain ⟨i, off, hi, rfl, rfl, hoff, hBG, hchg⟩ := hrel
        by_cases hlt : i < n
        · obtain ⟨b0, bf, bp, bg⟩ := hBG.cells
          obtain ⟨cur, hcur, hcl, hct⟩ := hBG.row
          obtain ⟨hl1, hl2, hl3⟩ := hBG.len
          obtain ⟨row, hrow⟩ : ∃ row, row = (flat.drop (i * 64)).take 64 := ⟨_, rfl⟩
          have hfl := HFL.out
          have hrl : row.length = 64 := by rw [hrow, List.length_take, List.length_drop, hfl]; omega
          have hnx := halfway_next bs flat 64 n i hfl hlt cur c L hcl HLL.out hl2 hct row hrow off hoff
          have hrr : wr.rangeAt gx (i * 64) (u8s row) := by
            have h := range_row (size := 64) (fun j x hj => by rw [hchg.cell (p := ⟨gx, 0 + j, none⟩) (by have := HU2.out.chg.size; simp; omega) (by simpa using hgx)]; exact HXW.out j x hj : wr.rangeAt gx 0 (u8s flat)) i
            rw [hrow]; simpa [u8s, List.map_take, List.map_drop] using h
          obtain ⟨cs, hcs⟩ : ∃ cs, cs = u8s row := ⟨_, rfl⟩
          have h1 := u8s_one row
          have hcsl : cs.length = 64 := by rw [hcs, u8s_length, hrl]
          rw [← hcs] at hrr h1 hnx
          have hld := load_mid hrr
          have hst := store_new wr cs 140 h1
          have hz0 := zero64
          rw [hcsl] at hld hst
          have hLv := HLL.out
          have w1 : IntKind.i64.wrap ((off : Int) + 64) = (off : Int) + 64 := by rw [IntKind.wrap_i64]; omega
          have n1 : ¬ c = off := by omega
          have n3 : (0 : Int) ≤ (off : Int) + 64 := by omega
          have n4 : ((off : Int) + 64).toNat = off + 64 := by omega
          have n2 : (off : Int) + 64 ≤ (c : Int) := by omega
          have HBG := Lib.hid hBG
          have HCG := Lib.hid hchg
          have HOFF := Lib.hid hoff
          have HNX := Lib.hid hnx
          have HCUR := Lib.hid (And.intro hcur (And.intro hcl hct))
          have HCS := Lib.hid (And.intro h1 hcsl)
          clear hBG hchg hcur hct hnx hrr h1 hcs hrow hl1 hl3 hoff
          go_wp2_with fail
          refine wp_region_still_tail 9 (by kernel_rfl) (by kernel_rfl) ?_
          simp only [List.take_succ_cons, List.take_zero, List.drop_succ_cons, List.drop_zero]
          change wpStill _ _ (World.drew _) _ _ _
          repeat still_step
          refine wpStill_nil ?_
          change wpList _ _ _ _ _ (World.drew _)
          obtain ⟨h1, h2⟩ := HCS.out
          obtain ⟨hcur, hcl', hct⟩ := HCUR.out
          have hcurA : (wr.alloc (.cells cs.toArray 140)).drew.heap[g]? = some (.cells cur.toArray 5 (0, 0)) := by
            show (wr.alloc _).heap[g]? = _
            rw [Below.heap_alloc _ _ _ bg]; exact hcur
          have hSRC : ∀ j v, cs[j]? = some v → (wr.alloc (.cells cs.toArray 140)).drew.cell? ((⟨wr.heap.size, 0, none⟩ : Addr).add j) = some v := fun j v hj => by rw [Addr.add_mid]; exact (World.rangeAt_drew _ _ _ _ |>.2 (range_new wr cs _)) j v hj
          refine list_copy_chg rfl _ _ _ _ rfl 5 Tryz.underlying34 (by kernel_rfl) g off _ _ _ _ _ rfl rfl cur _ hcurA cs (by rw [h2]; rfl) hSRC (by rw [h2, hcl]; omega) h1 ?_
          intro w2 hg2 hc2
          have hbA : Below wr.heap.size wr (wr.alloc (.cells cs.toArray 140)).drew := ((Below.refl _ wr).alloc (Nat.le_refl _) _).drew
          have hB2 : BufG w2 179 p g L c (halfway bs flat 64 n (i + 1)) := by
            obtain ⟨k1, -, ⟨k3, k4, k5⟩, k6⟩ := HBG.out
            exact ⟨by rw [hc2.block p (by simp; omega) (fun e => k6 e.symm), hbA.block p bp]; exact k1, ⟨_, hg2, HNX.out.2, HNX.out.1⟩, ⟨by rw [halfway_length _ _ _ _ _ hfl hlt]; exact HLL.out.symm, k4, k5⟩, k6⟩
          have hC2 : Chg (· = g) W1 w2 := (HCG.out.trans (Chg.of_below hbA) fun _ _ h => h).trans hc2 fun _ _ h => h
          clear hg2 hc2 hcur hct hcl' hcurA hSRC hbA
          go_wp2_with fail
          go_roundw
          case rel => exact ⟨i + 1, off + 64, hlt, by go_num, by go_num, by rw [HOFF.out, Nat.add_mul]; omega, hB2, hC2⟩
          case measure => simp [intOf]; omega
        · obtain rfl : i = n := by omega
          go_wp2_with fail
          go_returns
          rw [halfway_all _ _ _ _ HFL.out] at hBG
          exact ⟨rfl, F2, hBG.buf HF2.out.1 HF2.out.2, ⟨HU2.out.chg.trans hchg fun k hk h => by
            subst h
            rcases HU2.out.new _ HF2.out.1 with h | h
            · exact h
            · omega, fun k hk => by
            rcases HU2.out.new k hk with h | h
            · exact .inl h
            · exact .inr ⟨h.1, by have := hchg.size; omega⟩⟩⟩




set_option maxRecDepth 100000 in
set_option maxHeartbeats 1000000 in
theorem fixDecode64 (w : World) (Fr D F : Nat → Prop) (r q n : Nat) (flat tail rest cur : List UInt8) (ok : Bool) (hR : RdAt w Fr D r rest cur) (hX : NumCol w F 139 140 64 q 0 []) (hF : ∀ k, F k → ¬ Fr k ∧ ¬ D k)
    (hrest : (ok = true ∧ rest = flat ++ tail) ∨ (ok = false ∧ rest.length < flat.length)) (hn : flat.length = n * 64) (hbig : rest.length ≤ 1000000000) (hfl : flat.length ≤ 1000000000) :
    Calls Tryz.prog 197 #[.pointer (some ⟨q, 0, none⟩), .pointer (some ⟨r, 0, none⟩), .int .i64 n] w (DecNum w Fr D F r q 139 140 64 ok n (u8s flat) tail) := by
  obtain ⟨v0, hX, hFX⟩ := hX
  obtain ⟨c0, cf, hlt⟩ := hX.cell
  have hinD : In D w := by obtain ⟨_, _, _, h⟩ := hR; exact h.inD
  by_cases hn0 : n = 0
  · subst hn0
    obtain rfl : flat = [] := List.length_eq_zero_iff.1 (by omega)
    rcases hrest with ⟨rfl, rfl⟩ | ⟨rfl, h⟩
    · have HR := Lib.hid hR
      have HX := Lib.hid (And.intro hX (And.intro hFX hF))
      clear hR hX hFX hF
      go_enter Tryz.func197, Tryz.ntmps197
      go_wp2_with fail
      go_ret
      exact ⟨fun _ => ⟨rfl, Fr, cur, F, HR.out, ⟨v0, HX.out.1, HX.out.2.1⟩, Upd.refl _ _, HX.out.2.2⟩, fun h => by simp at h⟩
    · simp at h
  · have hnI : ¬ (n : Int) = 0 := by omega
    have hml : IntKind.i64.wrap ((n : Int) * 64) = ((n * 64 : Nat) : Int) := by rw [IntKind.wrap_i64]; omega
    rcases hrest with ⟨rfl, rfl⟩ | ⟨rfl, hsh⟩
    · have HRR := Lib.hid (rdRawN w Fr D r flat tail cur (n * 64) hn.symm hR (by omega))
      have HX := Lib.hid (And.intro hX (And.intro hFX (And.intro hF hinD)))
      have HN := Lib.hid hn
      have HC0 := Lib.hid (And.intro c0 cf)
      obtain ⟨p0, k0, rfl⟩ := hX.slice
      clear hR hX hFX hF hinD c0 cf
      go_enter Tryz.func197, Tryz.ntmps197
      go_wp2_with fail
      refine HRR.out.mono ?_
      rintro e w1 ⟨b, vb, F2, hbr, rfl, h2, hbv, hu2⟩
      obtain ⟨hXX, hFX, hF, hinD⟩ := HX.out
      have c1 : w1.cell? ⟨q, 0, none⟩ = some (.slice p0 0 k0) := by rw [hu2.chg.cell (p := ⟨q, 0, none⟩) hlt (hF q (hFX q (.inl rfl))).1]; exact HC0.out.1
      have f1 : w1.frozen? ⟨q, 0, none⟩ = false := by rw [hu2.chg.frozen (p := ⟨q, 0, none⟩) hlt (hF q (hFX q (.inl rfl))).1]; exact HC0.out.2
      obtain ⟨bb, off, cc, rfl, hcc, hbx⟩ : ∃ bb off cc : Nat, vb = .slice (some ⟨bb, off, none⟩) flat.length cc ∧ flat.length ≤ cc ∧ F2 bb := by
        rcases id hbv with ⟨rfl, h⟩ | ⟨bb, off, cc, rfl, hcc, -⟩
        · subst h; simp at hn; omega
        · refine ⟨bb, off, cc, rfl, hcc, ?_⟩
          obtain ⟨FB, hrow, -, hsub⟩ := h2.row
          exact hsub bb (hrow.2.2.2 bb rfl).1
      have HBV := Lib.hid hbv
      have H2 := Lib.hid (And.intro hbr (And.intro h2 (And.intro hu2 hbx)))
      have hln : flat.length = n * 64 := HN.out
      have hxl : (1 : Nat) ≤ n := by omega
      have hld0 : ∃ y : UInt8, w1.cell? ⟨bb, off + (n * 64 - 64), none⟩ = some (.int .u8 y.toNat) := by
        rcases hbv with ⟨h, -⟩ | ⟨b', o', c', h, -, hx⟩
        · simp at h
        · obtain ⟨⟨rfl, rfl⟩, -⟩ : (bb = b' ∧ off = o') ∧ cc = c' := by simpa using h
          exact ⟨_, hx (n * 64 - 64) (by omega)⟩
      obtain ⟨y, hy⟩ := hld0
      have s1 : IntKind.i64.wrap ((n * 64 : Nat) - 64 : Int) = ((n * 64 - 64 : Nat) : Int) := by rw [IntKind.wrap_i64]; omega
      rw [hln]
      clear hbv hbr h2 hu2 hXX hFX hF hinD hbx hn
      go_wp2_with fail
      go_loopw [9, 10] (fun vv vi wr => ∃ k m : Nat, ∃ p c, k ≤ n ∧ m = k * 64 ∧ vi = .int .i64 m ∧ vv = .slice p k c ∧ DecK w1 140 64 (.slice p0 0 k0) flat k (.slice p k c) wr) (fun _ vi _ => n * 64 - (intOf vi).toNat)
      case atStart =>
        obtain ⟨hXX, hFX, hF, hinD⟩ := HX.out
        exact ⟨0, 0, p0, k0, Nat.zero_le _, rfl, rfl, rfl, decK_zero (hXX.chg H2.out.2.2.1.chg fun k hk => (hF k (hFX k hk)).1)⟩
      case round =>
        obtain ⟨k, m, p, c, hk, hm, rfl, rfl, hD⟩ := hrel
        by_cases hkn : k < n
        · obtain ⟨Fk, hown, huk⟩ := hD
          obtain ⟨row, hrow⟩ : ∃ row, row = (flat.drop (k * 64)).take 64 := ⟨_, rfl⟩
          have hrl : row.length = 64 := by rw [hrow, List.length_take, List.length_drop, HN.out]; omega
          have hbr : BytesAt wr (.slice (some ⟨bb, off, none⟩) flat.length cc) flat := HBV.out.keep fun g hg => by
            obtain rfl : bb = g := by simpa [Value.ownBlock] using hg
            obtain ⟨-, hx2, hu2, hb2⟩ := H2.out
            obtain ⟨hXX, hFX, hF, hinD⟩ := HX.out
            refine huk.chg.block bb (hx2.inF bb hb2) fun e => ?_
            rcases hu2.new bb hb2 with h | h
            · exact (hF bb (hFX bb (.inr e))).1 h
            · have := hXX.inn bb (.inr e); omega
          have hrr := row_range hbr k 64 row hrow
          rw [← hm] at hrr
          obtain ⟨cs, hcs⟩ : ∃ cs, cs = u8s row := ⟨_, rfl⟩
          have h1 := u8s_one row
          have hcl : cs.length = 64 := by rw [hcs, u8s_length, hrl]
          rw [← hcs] at hrr h1
          have hld := load_mid hrr
          rw [hcl] at hld
          have har := fun W a c => run_arrayAt Tryz.underlying140 W a c
          have hbs := fun W => run_build1 elem64 (by decide) W cs hcl
          have g1 : IntKind.i64.wrap ((m : Int) + 64) = (m : Int) + 64 := by rw [IntKind.wrap_i64]; omega
          have g2 : (0 : Int) ≤ (m : Int) + 64 := by omega
          have g3 : ((m : Int) + 64).toNat = m + 64 := by omega
          have g4 : (m : Int) + 64 ≤ (cc : Int) := by omega
          have g5 : ¬ cc = m := by omega
          have g6 : (m : Int) ≤ ((n * 64 - 64 : Nat) : Int) := by omega
          have HO := Lib.hid (And.intro hown (And.intro huk (And.intro hrow hcs)))
          have HSR := Lib.hid (src_new elem64 wr.heap.size cs _ (heap_alloc_new wr (.cells cs.toArray 140)) hcl h1 1)
          have HM := Lib.hid hm
          clear hown huk hrow hbr hrr h1 hcs hm
          go_wp2_with (at_builtin; refine append_rows elem64 _ Fk k 1 (u8s (flat.take (k * 64))) _ rfl _ _ _ rfl _ rfl (HO.out.1.keep ((Below.refl _ wr).alloc (Nat.le_refl _) _)) _ rfl HSR.out (by omega) (by omega) ?_; intro p5 c5 w5 F5 hown5 hu5)
          go_roundw
          case rel =>
            obtain ⟨-, h2, h3, h4⟩ := HO.out
            rw [h4] at hown5
            exact ⟨k + 1, m + 64, p5, c5, hkn, by rw [HM.out]; omega, by go_num, rfl, decK_next h3 h2 hown5 hu5⟩
          case measure => simp [intOf]; omega
        · obtain rfl : k = n := by omega
          subst hm
          have g6 : ¬ ((k * 64 : Nat) : Int) ≤ ((k * 64 - 64 : Nat) : Int) := by omega
          have HD := Lib.hid hD
          obtain ⟨Fk, hown, huk⟩ := hD
          obtain ⟨hXX, hFX, hF, hinD⟩ := HX.out
          obtain ⟨hbr, h2, hu2, hbx⟩ := H2.out
          have hq1 : q < w1.heap.size := by have := hu2.chg.size; omega
          have hqn : ¬ (Value.slice p0 0 k0).ownBlock = some q := fun e => hXX.bq e rfl
          have c2 : wr.cell? ⟨q, 0, none⟩ = some (.slice p0 0 k0) := by rw [huk.chg.cell (p := ⟨q, 0, none⟩) hq1 hqn]; exact c1
          have f2 : wr.frozen? ⟨q, 0, none⟩ = false := by rw [huk.chg.frozen (p := ⟨q, 0, none⟩) hq1 hqn]; exact f1
          clear hown huk hXX hFX hF hinD hbr h2 hu2 hbx hqn
          go_wp2_with fail
          go_ret
          obtain ⟨hXX, hFX, hF, hinD⟩ := HX.out
          obtain ⟨hbr, h2, hu2, hbx⟩ := H2.out
          exact decK_done hXX hFX hF hinD hbr h2 hu2 HD.out HN.out
    · have HRR := Lib.hid (rdRawN_short w Fr D r rest cur hR (n * 64) (by omega))
      have HX := Lib.hid (And.intro hFX hF)
      clear hR hX hFX hF hinD
      go_enter Tryz.func197, Tryz.ntmps197
      go_wp2_with (first | (go_at_call 164; refine HRR.out.mono ?_; rintro e w1 ⟨a, F1, cur1, rfl, h1, hu⟩) | (go_at_call 89; refine (wrapErr _ _ _ _).mono ?_; rintro e w2 ⟨⟨a2, rfl⟩, hb2⟩))
      go_ret
      exact ⟨fun h => by simp at h, fun _ => ⟨⟨_, rfl⟩, (hu.chg.mono fun _ _ h => .inl h).trans (Chg.of_below hb2) fun _ _ h => h⟩⟩

set_option maxRecDepth 100000 in
theorem fixRows64 (w : World) (p : Option Addr) (n c : Nat) : Calls Tryz.prog 201 #[.slice p n c] w fun e w' => e = .returned (.int .i64 n) ∧ w = w' := by
  go_enter Tryz.func201, Tryz.ntmps201
  go_wp2_with fail
  go_ret
  exact ⟨rfl, rfl⟩

theorem rowAppF64 : MRow 137 "Append" [] (some (195, true)) := mRow_of (by kernel_rfl)
theorem rowRowF64 : MRow 137 "Row" [] (some (200, false)) := mRow_of (by kernel_rfl)

set_option maxRecDepth 100000 in
theorem addF64 (w : World) (F : Nat → Prop) (q n : Nat) (xs : List Value) (x : Value) (s : List UInt8) (f2 f3 : Value) (hx : BytesX w x s) (hs : s.length = 64) (h : NumCol w F 139 140 64 q n xs) (hF : In F w) (hn : n + 1 ≤ 100000000) :
    Calls Tryz.prog 204 #[.agg #[.iface 137 (.pointer (some ⟨q, 0, none⟩)), .func (.func 47) #[] #[], f2, f3], x] w (PutN w F 139 140 64 q (n + 1) (xs ++ u8s s)) := by
  have hm : ∀ W, (method 383 137 (.pointer (some ⟨q, 0, none⟩)) "Append").run Tryz.prog W = .ok (195, .pointer (some ⟨q, 0, none⟩)) W := fun W => meth_ptr 382 rowAppF64 Tryz.underlying137 (.pointer (some ⟨q, 0, none⟩)) W
  obtain ⟨px, cx, rfl⟩ := hx.slice
  obtain ⟨x, hxe⟩ : ∃ x, x = Value.slice px s.length cx := ⟨_, rfl⟩
  rw [← hxe] at hx ⊢
  clear hxe
  have HX := Lib.hid hx
  have HS := Lib.hid h
  have HL := Lib.hid hs
  have HF : Hid (¬ F w.heap.size) := Lib.hid fun h => by have := hF _ h; omega
  clear hx h hF hs
  go_enter Tryz.func204, Tryz.ntmps204
  go_wp2_with fail
  go_region_held3 (fun w' => w'.cell? ⟨w.heap.size, 0, none⟩ = some (.iface 137 (.pointer (some ⟨q, 0, none⟩))) ∧ w'.cell? ⟨w.heap.size, 1, none⟩ = some (.func (.func 47) #[] #[])) (first | exact ⟨s0, s1⟩ | go_keep)
    (first | (go_at_call 47; refine (in64 _ x s (HX.out.below (((Below.refl _ w).alloc (Nat.le_refl _) _).drew)) HL.out).mono ?_; rintro e w1 ⟨rfl, hb1⟩; have s0 : w1.cell? ⟨w.heap.size, 0, none⟩ = some (.iface 137 (.pointer (some ⟨q, 0, none⟩))) := (by rw [hb1.cell (by simp)]; go_simp); have s1 : w1.cell? ⟨w.heap.size, 1, none⟩ = some (.func (.func 47) #[] #[]) := (by rw [hb1.cell (by simp)]; go_simp)) | (go_at_call 195; refine (fixAppend64 _ F q n xs s HL.out (HS.out.keep ((((Below.refl _ w).alloc (Nat.le_refl _) _).drew).trans (hb1.mono (by simp)))) hn).mono ?_; rintro e w' ⟨rfl, F1, h1, hu1⟩; have s0 : w'.cell? ⟨w.heap.size, 0, none⟩ = some (.iface 137 (.pointer (some ⟨q, 0, none⟩))) := (by rw [hu1.chg.cell (p := ⟨w.heap.size, 0, none⟩) (by have := hb1.size; simp at this ⊢; omega) HF.out]; exact s0); have s1 : w'.cell? ⟨w.heap.size, 1, none⟩ = some (.func (.func 47) #[] #[]) := (by rw [hu1.chg.cell (p := ⟨w.heap.size, 1, none⟩) (by have := hb1.size; simp at this ⊢; omega) HF.out]; exact s1)))
  go_returns
  exact ⟨rfl, F1, h1, ((Upd.refl F w).below ((((Below.refl _ w).alloc (Nat.le_refl _) _).drew).trans (hb1.mono (by simp)))).trans hu1⟩

set_option maxRecDepth 100000 in
theorem atF64 (w : World) (F : Nat → Prop) (q n i : Nat) (xs : List Value) (s : List UInt8) (f1 f3 : Value) (h : NumCol w F 139 140 64 q n xs) (hi : i < n) (hn : n ≤ 100000000) (hs : s.length = 64) (hr : (xs.drop (i * 64)).take 64 = u8s s) :
    Calls Tryz.prog 207 #[.agg #[.iface 137 (.pointer (some ⟨q, 0, none⟩)), f1, .func (.func 48) #[] #[], f3], .int .i64 i] w (Made w s) := by
  obtain ⟨v, hX, -⟩ := h
  obtain ⟨c0, cf, hlt⟩ := hX.cell
  obtain ⟨B, hB⟩ : ∃ B, B = (Obj.cells #[.iface 137 (.pointer (some ⟨q, 0, none⟩)), f1, .func (.func 48) #[] #[], f3] 146) := ⟨_, rfl⟩
  have hbw : Below w.heap.size w (w.alloc B).drew := ((Below.refl _ w).alloc (Nat.le_refl _) _).drew
  have hld := load_one (w := (w.alloc B).drew) (by rw [hbw.block q hlt]; exact hX.at_) Tryz.underlying139
  have hmm := meth_val 382 rowRowF64 Tryz.underlying137 ⟨q, 0, none⟩ (w.alloc B).drew v hld
  obtain ⟨g, c, rfl, hcn, hg, hx⟩ : ∃ g c : Nat, v = .slice (some ⟨g, 0, none⟩) n c ∧ n ≤ c ∧ g < w.heap.size ∧ w.rangeAt g 0 xs := by
    rcases hX.view.2 with ⟨-, h⟩ | h
    · omega
    · exact h
  have hrow := range_row (size := 64) (fun j x hj => by rw [hbw.cell (p := ⟨g, 0 + j, none⟩) hg]; exact hx j x hj : (w.alloc B).drew.rangeAt g 0 xs) i
  rw [hr] at hrow
  have HR := Lib.hid (fixRow64 (w.alloc B).drew (.slice none 0 0) g 0 n c i (u8s s) hi (by omega) (by rw [Nat.zero_add]; exact hrow) (by rw [u8s_length, hs]) (u8s_one s))
  have HB := Lib.hid hbw
  have HS := Lib.hid hs
  have HL : Hid (([] : List UInt8).length + s.length ≤ 140737488355328) := Lib.hid (by simp; omega)
  obtain ⟨cs, hcs⟩ : ∃ cs, cs = (u8s s).toArray := ⟨_, rfl⟩
  rw [← hcs] at HR
  have HCS := Lib.hid hcs
  subst hB
  clear hX hbw hld hx hrow hr hs hcs c0 cf
  go_enter Tryz.func207, Tryz.ntmps207
  go_wp2_with fail
  go_region_held3 (fun w' => w'.cell? ⟨w.heap.size, 0, none⟩ = some (.iface 137 (.pointer (some ⟨q, 0, none⟩))) ∧ w'.cell? ⟨w.heap.size, 2, none⟩ = some (.func (.func 48) #[] #[])) (first | exact ⟨s0, s2⟩ | go_keep)
    (first | (go_at_call 200; refine HR.out.mono ?_; rintro e w1 ⟨rfl, hb1⟩; have s0 : w1.cell? ⟨w.heap.size, 0, none⟩ = some (.iface 137 (.pointer (some ⟨q, 0, none⟩))) := (by rw [hb1.cell (by simp)]; go_simp); have s2 : w1.cell? ⟨w.heap.size, 2, none⟩ = some (.func (.func 48) #[] #[]) := (by rw [hb1.cell (by simp)]; go_simp)) | (go_at_call 48; refine (outB64 _ s cs HCS.out HS.out).mono ?_; rintro e w2 ⟨rfl, hx, hb2⟩; have s0 : w2.cell? ⟨w.heap.size, 0, none⟩ = some (.iface 137 (.pointer (some ⟨q, 0, none⟩))) := (by rw [hb2.cell (by have := hb1.size; simp at this ⊢; omega)]; exact s0); have s2 : w2.cell? ⟨w.heap.size, 2, none⟩ = some (.func (.func 48) #[] #[]) := (by rw [hb2.cell (by have := hb1.size; simp at this ⊢; omega)]; exact s2)) | (refine step_append_since _ w2 [] s (by rfl) _ _ _ (by rfl) _ (by rfl) ⟨⟨fun _ => False, OwnB.nil _ _, fun _ h => h.elim⟩, Below.refl _ _⟩ _ (by rfl) hx.srcB HL.out ?_; intro q1 c1 w3 hs3; have s0 : w3.cell? ⟨w.heap.size, 0, none⟩ = some (.iface 137 (.pointer (some ⟨q, 0, none⟩))) := (by rw [hs3.below.cell (by have := hb2.size; have := hb1.size; simp at this ⊢; omega)]; exact s0); have s2 : w3.cell? ⟨w.heap.size, 2, none⟩ = some (.func (.func 48) #[] #[]) := (by rw [hs3.below.cell (by have := hb2.size; have := hb1.size; simp at this ⊢; omega)]; exact s2)))
  go_wp2_with fail
  go_ret
  exact made_at HB.out hb1 hb2 hs3
end Go.Proofs.YtkidcgaogjlpaaaGreat
