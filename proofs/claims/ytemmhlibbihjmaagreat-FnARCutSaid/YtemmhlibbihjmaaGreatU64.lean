/- proto.ColUInt64.DecodeColumn, of a column that is a struct's first field. -/
import Derived.Test.YtemmhlibbihjmaaGreatHd
import Derived.Test.YtemmhlibbihjmaaGreatLst
import Derived.Shelf.Bin.LEUint64
import Derived.Deep.RegionHeld3
namespace Go.Proofs.YtemmhlibbihjmaaGreat
open Go.RowKit Go.Shelf
set_option linter.unusedVariables false
set_option linter.unusedSimpArgs false

def lays33_ren : Go.Shelf.Ren := ⟨fun | 33 => 52 | n => n, fun | 25 => 129 | 22 => 29 | 33 => 57 | 0 => 0 | 5 => 5 | 45 => 96 | n => n, fun | n => n⟩
theorem lays33 : Go.Proofs.LaysBin.n33 Tryz.prog lays33_ren := {
  mixed := by kernel_rfl
  f33 := Tryz.func52.trans (congrArg some (by kernel_rfl))
  t0 := Tryz.underlying0
  a0 := Tryz.isAgg0
  z0 := Tryz.sizeOf0
  v0 := Tryz.zeroValue0
  i0 := by kernel_rfl
  t5 := Tryz.underlying5
  a5 := Tryz.isAgg5
  z5 := Tryz.sizeOf5
  v5 := Tryz.zeroValue5
  i5 := by kernel_rfl
  t22 := Tryz.underlying29
  a22 := Tryz.isAgg29
  z22 := Tryz.sizeOf29
  v22 := Tryz.zeroValue29
  i22 := by kernel_rfl
  t25 := Tryz.underlying129
  a25 := Tryz.isAgg129
  z25 := Tryz.sizeOf129
  v25 := Tryz.zeroValue129
  i25 := by kernel_rfl
  t33 := Tryz.underlying57
  a33 := Tryz.isAgg57
  z33 := Tryz.sizeOf57
  v33 := Tryz.zeroValue57
  i33 := by kernel_rfl
  t45 := Tryz.underlying96
  a45 := Tryz.isAgg96
  z45 := Tryz.sizeOf96
  v45 := Tryz.zeroValue96
  i45 := by kernel_rfl }

def le8 (x : Nat) : List UInt8 := Lib.leBytes 8 x
theorem le8_length (x : Nat) : (le8 x).length = 8 := rfl
theorem le8s_length : ∀ l : List Nat, (l.flatMap le8).length = l.length * 8
  | [] => rfl
  | x :: l => by rw [List.flatMap_cons, List.length_append, le8_length, le8s_length l, List.length_cons]; omega
theorem le8s_drop : ∀ (l : List Nat) (k x : Nat), l[k]? = some x → ∃ rest, (l.flatMap le8).drop (k * 8) = le8 x ++ rest
  | [], k, x, h => by simp at h
  | y :: l, 0, x, h => by
    obtain rfl : y = x := by simpa using h
    exact ⟨l.flatMap le8, by simp⟩
  | y :: l, k + 1, x, h => by
    obtain ⟨rest, hr⟩ := le8s_drop l k x (by simpa using h)
    refine ⟨rest, ?_⟩
    rw [List.flatMap_cons, List.drop_append, le8_length, List.drop_of_length_le (by rw [le8_length]; omega), List.nil_append, show (k + 1) * 8 - 8 = k * 8 by omega]
    exact hr
theorem leU64 (w : World) (g off n c x : Nat) (hx : x < 18446744073709551616) (hn : 8 ≤ n) (hg : ∀ (j : Nat) (u : UInt8), (le8 x)[j]? = some u → w.cell? ⟨g, off + j, none⟩ = some (.int .u8 u.toNat)) :
    Calls Tryz.prog 52 #[.agg #[], .slice (some ⟨g, off, none⟩) n c] w fun e w' => e = .returned (.int .u64 x) ∧ Below w.heap.size w w' :=
  (Any.binary_LE_Uint64 lays33 g off n c _ _ _ _ _ _ _ _ w hn (hg 0 _ rfl) (hg 1 _ rfl) (hg 2 _ rfl) (hg 3 _ rfl) (hg 4 _ rfl) (hg 5 _ rfl) (hg 6 _ rfl) (hg 7 _ rfl)).mono fun _ _ h => ⟨h.1.trans (congrArg (fun n : Nat => Ending.returned (.int .u64 n)) (Lib.leNat_leBytes 8 x hx)), h.2⟩

theorem elemU64 : Elem 117 57 1 8 := elem_of (z := .int .u64 0) Tryz.underlying117 (by kernel_rfl) rfl (by decide)
def u64s (l : List Nat) : List Value := l.map fun x : Nat => Value.int .u64 (x : Int)

set_option maxRecDepth 100000 in
set_option maxHeartbeats 1000000 in
theorem u64Decode (w : World) (Fr D F : Nat → Prop) (T : TypeId) (ys : List Value) (r q n : Nat) (l : List Nat) (tail rest cur : List UInt8) (ok : Bool) (hR : RdAt w Fr D r rest cur) (hX : HeadCol w F T 57 1 q ys 0 []) (hF : ∀ k, F k → ¬ Fr k ∧ ¬ D k)
    (hrest : (ok = true ∧ rest = l.flatMap le8 ++ tail) ∨ (ok = false ∧ rest.length < (l.flatMap le8).length)) (hn : l.length = n) (hbig : rest.length ≤ 1000000000) (hfl : l.length ≤ 100000000) (hlt64 : ∀ x ∈ l, x < 18446744073709551616) :
    Calls Tryz.prog 47 #[.pointer (some ⟨q, 0, none⟩), .pointer (some ⟨r, 0, none⟩), .int .i64 n] w (DecH w Fr D F r q T 57 1 ys ok n (u64s l) tail) := by
  obtain ⟨v0, hX, hFX⟩ := hX
  obtain ⟨c0, -, cf, hlt⟩ := hX.cell
  have hinD : In D w := by obtain ⟨_, _, _, h⟩ := hR; exact h.inD
  have hnb : n ≤ 100000000 := by omega
  have hxl : (u64s l).length = n * 1 := by unfold u64s; simp; omega
  have hfll : (l.flatMap le8).length = n * 8 := by rw [le8s_length, hn]
  have HGET := Lib.hid (le8s_drop l)
  have HL64 := Lib.hid hlt64
  generalize hflat : l.flatMap le8 = flat at *
  by_cases hn0 : n = 0
  · subst hn0
    obtain rfl : flat = [] := List.length_eq_zero_iff.1 (by omega)
    obtain rfl : l = [] := List.length_eq_zero_iff.1 hn
    rcases hrest with ⟨rfl, rfl⟩ | ⟨rfl, h⟩
    · have HR := Lib.hid hR
      have HX := Lib.hid (And.intro hX (And.intro hFX hF))
      clear hR hX hFX hF HGET HL64 hlt64
      go_enter Tryz.func47, Tryz.ntmps47
      go_wp2_with fail
      go_ret
      exact ⟨fun _ => ⟨rfl, Fr, cur, F, HR.out, ⟨v0, show HeadX w T 57 1 q v0 ys 0 [] from HX.out.1, HX.out.2.1⟩, Upd.refl _ _, HX.out.2.2⟩, fun h => by simp at h⟩
    · simp at h
  · have hnI : ¬ (n : Int) = 0 := by omega
    have hml : IntKind.i64.wrap ((n : Int) * 8) = ((n * 8 : Nat) : Int) := by rw [IntKind.wrap_i64]; omega
    rcases hrest with ⟨rfl, rfl⟩ | ⟨rfl, hsh⟩
    · have HRR := Lib.hid (rdRawN w Fr D r flat tail cur (n * 8) hfll.symm hR (by omega))
      have HX := Lib.hid (And.intro hX (And.intro hFX (And.intro hF hinD)))
      have HN := Lib.hid hfll
      have HXL := Lib.hid hxl
      have HLN := Lib.hid hn
      have HC0 := Lib.hid (And.intro c0 cf)
      obtain ⟨p0, k0, rfl⟩ := hX.slice
      clear hR hX hFX hF hinD c0 cf hlt64 hxl hflat hn
      go_enter Tryz.func47, Tryz.ntmps47
      go_wp2_with fail
      refine HRR.out.mono ?_
      rintro e w1 ⟨b, vb, F2, hbr, rfl, h2, hbv, hu2⟩
      obtain ⟨hXX, hFX, hF, hinD⟩ := HX.out
      have c1 : w1.cell? ⟨q, 0, none⟩ = some (.slice p0 0 k0) := by rw [hu2.chg.cell (p := ⟨q, 0, none⟩) hlt (hF q (hFX q (.inl rfl))).1]; exact HC0.out.1
      have f1 : w1.frozen? ⟨q, 0, none⟩ = false := by rw [hu2.chg.frozen (p := ⟨q, 0, none⟩) hlt (hF q (hFX q (.inl rfl))).1]; exact HC0.out.2
      obtain ⟨bb, off, cc, rfl, hcc, hbx⟩ : ∃ bb off cc : Nat, vb = .slice (some ⟨bb, off, none⟩) flat.length cc ∧ flat.length ≤ cc ∧ F2 bb := by
        rcases id hbv with ⟨rfl, h⟩ | ⟨bb, off, cc, rfl, hcc, -⟩
        · subst h; simp at hfll; omega
        · refine ⟨bb, off, cc, rfl, hcc, ?_⟩
          obtain ⟨FB, hrow, -, hsub⟩ := h2.row
          exact hsub bb (hrow.2.2.2 bb rfl).1
      have HBV := Lib.hid hbv
      have H2 := Lib.hid (And.intro hbr (And.intro h2 (And.intro hu2 hbx)))
      have hln : flat.length = n * 8 := HN.out
      have hxl : (1 : Nat) ≤ n := by omega
      have hld0 : ∃ y : UInt8, w1.cell? ⟨bb, off + (n * 8 - 8), none⟩ = some (.int .u8 y.toNat) := by
        rcases hbv with ⟨h, -⟩ | ⟨b', o', c', h, -, hx⟩
        · simp at h
        · obtain ⟨⟨rfl, rfl⟩, -⟩ : (bb = b' ∧ off = o') ∧ cc = c' := by simpa using h
          exact ⟨_, hx (n * 8 - 8) (by omega)⟩
      obtain ⟨y, hy⟩ := hld0
      have s1 : IntKind.i64.wrap ((n * 8 : Nat) - 8 : Int) = ((n * 8 - 8 : Nat) : Int) := by rw [IntKind.wrap_i64]; omega
      rw [hln] at hcc ⊢
      clear hbv hbr h2 hu2 hXX hFX hF hinD hbx hfll
      go_wp2_with fail
      go_loopw [9, 10] (fun vv vi wr => ∃ k m : Nat, ∃ p c, k ≤ n ∧ m = k * 8 ∧ vi = .int .i64 m ∧ vv = .slice p k c ∧ DecV w1 57 1 (.slice p0 0 k0) (u64s l) k (.slice p k c) wr) (fun _ vi _ => n * 8 - (intOf vi).toNat)
      case atStart =>
        obtain ⟨hXX, hFX, hF, hinD⟩ := HX.out
        exact ⟨0, 0, p0, k0, Nat.zero_le _, rfl, rfl, rfl, decV_zero (hXX.chg H2.out.2.2.1.chg fun k hk => (hF k (hFX k hk)).1)⟩
      case round =>
        obtain ⟨k, m, p, c, hk, hm, rfl, rfl, hD⟩ := hrel
        by_cases hkn : k < n
        · obtain ⟨Fk, hown, huk⟩ := hD
          have hbr : BytesAt wr (.slice (some ⟨bb, off, none⟩) flat.length cc) flat := HBV.out.keep fun g hg => by
            obtain rfl : bb = g := by simpa [Value.ownBlock] using hg
            obtain ⟨-, hx2, hu2, hb2⟩ := H2.out
            obtain ⟨hXX, hFX, hF, hinD⟩ := HX.out
            refine huk.chg.block bb (hx2.inF bb hb2) fun e => ?_
            rcases hu2.new bb hb2 with h | h
            · exact (hF bb (hFX bb (.inr e))).1 h
            · have := hXX.inn bb (.inr e); omega
          obtain ⟨x, hxk⟩ : ∃ x, l[k]? = some x := ⟨_, List.getElem?_eq_getElem (by rw [HLN.out]; exact hkn)⟩
          obtain ⟨rst, hrst⟩ := HGET.out k x hxk
          have hx64 := HL64.out x (List.mem_of_getElem? hxk)
          have HLE := Lib.hid (leU64 wr.drew bb (off + m) 8 (cc - m) x hx64 (Nat.le_refl _) (fun j u hj => bytes_rows hbr m j u (by rw [hm, hrst]; exact (List.getElem?_append_left (by rw [le8_length]; exact (List.getElem?_eq_some_iff.1 hj).1 |> fun h => by simpa [le8_length] using h)).trans hj)))
          have HROW : Hid ([Value.int .u64 x] = ((u64s l).drop (k * 1)).take 1) := Lib.hid (by
            unfold u64s
            rw [Nat.mul_one, ← List.map_drop, ← List.map_take, List.drop_eq_getElem_cons (by rw [HLN.out]; exact hkn)]
            obtain ⟨h1, h2⟩ := List.getElem?_eq_some_iff.1 hxk
            simp [h2])
          have HOWN : Hid (∀ W, Below wr.heap.size wr W → OwnR (W.alloc (.cells #[.int .u64 x] 57)) Fk 57 1 (.slice p k c) k ((u64s l).take (k * 1))) := Lib.hid fun W hb => (hown.keep hb).keep ((Below.refl _ W).alloc (Nat.le_refl _) _)
          have HSR : Hid (∀ W : World, Src Tryz.prog 1 117 (.slice (some ⟨W.heap.size, 0, none⟩) 1 1) 1 [.int .u64 x] (W.alloc (.cells #[.int .u64 x] 57))) := Lib.hid fun W => src_new elemU64 W.heap.size [.int .u64 x] _ (heap_alloc_new W _) rfl (by simp [Value.oneCell']) 1
          have g1 : IntKind.i64.wrap ((m : Int) + 8) = (m : Int) + 8 := by rw [IntKind.wrap_i64]; omega
          have g2 : (0 : Int) ≤ (m : Int) + 8 := by omega
          have g3 : ((m : Int) + 8).toNat = m + 8 := by omega
          have g4 : (m : Int) + 8 ≤ (cc : Int) := by omega
          have g5 : ¬ cc = m := by omega
          have g6 : (m : Int) ≤ ((n * 8 - 8 : Nat) : Int) := by omega
          have HUK := Lib.hid huk
          have HM := Lib.hid hm
          have HB1 : Hid (k + 1 ≤ 140737488355328 ∧ (k + 1) * 8 ≤ 140737488355328) := Lib.hid (by have := HLN.out; omega)
          clear hown huk hbr hm hxk hrst
          go_wp2_with fail
          go_region_held3 (fun _ => True) (exact trivial)
            (first
              | (go_at_call 52; refine HLE.out.mono ?_; rintro e w4 ⟨rfl, hb4⟩; have hb4r := drewTrans hb4)
              | (refine step_append_rows elemU64 _ Fk k 1 _ _ (by rfl) _ _ _ (by rfl) _ (by rfl) (HOWN.out w4 hb4r) _ (by rfl) (HSR.out w4) HB1.out.1 HB1.out.2 ?_; intro p5 c5 w5 F5 hown5 hu5))
          all_goals
            go_wp2_with fail
            go_roundw
            case rel => exact ⟨k + 1, m + 8, p5, c5, hkn, by rw [HM.out]; omega, by go_num, rfl, decV_next HROW.out HUK.out (below_alloc hb4r (Nat.le_refl _) _) hown5 hu5⟩
            case measure => simp [intOf]; omega
        · obtain rfl : k = n := by omega
          subst hm
          have g6 : ¬ ((k * 8 : Nat) : Int) ≤ ((k * 8 - 8 : Nat) : Int) := by omega
          have HD := Lib.hid hD
          obtain ⟨Fk, hown, huk⟩ := hD
          obtain ⟨hXX, hFX, hF, hinD⟩ := HX.out
          obtain ⟨hbr, h2, hu2, hbx⟩ := H2.out
          have hq1 : q < w1.heap.size := by have := hu2.chg.size; omega
          have hqn : ¬ (Value.slice p0 0 k0).ownBlock = some q := fun e => hXX.bq e rfl
          have c2 : wr.cell? ⟨q, 0, none⟩ = some (.slice p0 0 k0) := by rw [huk.chg.cell (p := ⟨q, 0, none⟩) hq1 hqn]; exact c1
          have f2 : wr.frozen? ⟨q, 0, none⟩ = false := by rw [huk.chg.frozen (p := ⟨q, 0, none⟩) hq1 hqn]; exact f1
          clear hown huk hXX hFX hF hinD hbr h2 hu2 hbx hqn
          go_wp2_with fail
          go_ret
          obtain ⟨hXX, hFX, hF, hinD⟩ := HX.out
          obtain ⟨hbr, h2, hu2, hbx⟩ := H2.out
          exact decH_done hXX hFX hF hinD hbr h2 hu2 HD.out HXL.out
    · have HRR := Lib.hid (rdRawN_short w Fr D r rest cur hR (n * 8) (by omega))
      have HX := Lib.hid (And.intro hFX hF)
      clear hR hX hFX hF hinD HGET HL64 hlt64
      go_enter Tryz.func47, Tryz.ntmps47
      go_wp2_with (first | (go_at_call 51; refine HRR.out.mono ?_; rintro e w1 ⟨a, F1, cur1, rfl, h1, hu⟩) | (go_at_call 48; refine (wrapErr _ _ _ _).mono ?_; rintro e w2 ⟨⟨a2, rfl⟩, hb2⟩))
      go_ret
      exact ⟨fun h => by simp at h, fun _ => ⟨⟨_, rfl⟩, (hu.chg.mono fun _ _ h => .inl h).trans (Chg.of_below hb2) fun _ _ h => h⟩⟩
end Go.Proofs.YtemmhlibbihjmaaGreat
