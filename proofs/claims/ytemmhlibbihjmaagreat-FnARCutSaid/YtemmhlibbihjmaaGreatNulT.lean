/- impl.maybe, impl.turned, impl.ARReadNull; spec.ARNulls, spec.ARSameList over impl.Maybe. -/
import Derived.Test.YtemmhlibbihjmaaGreatNulR
namespace Go.Proofs.YtemmhlibbihjmaaGreat
open Go.RowKit
set_option linter.unusedVariables false
set_option linter.unusedSimpArgs false

theorem two_new (w : World) (a b : Obj) : Below w.heap.size w ((w.alloc a).alloc b) := below_alloc ((Below.refl _ w).alloc (Nat.le_refl _) _) (Nat.le_refl _) _
set_option maxRecDepth 100000 in
theorem maybeV (w : World) (b : Bool) (s : ByteArray) : Calls Tryz.prog 33 #[.agg #[.bool b, .string s]] w fun e w' => e = .returned (.agg #[.bool b, .string s]) ∧ Below w.heap.size w w' := by
  go_enter Tryz.func33, Tryz.ntmps33
  go_wp2_with fail
  refine bodyPost_ret (v := .agg #[.bool b, .string s]) (by simp [results, Tryz.results33, go_sem]) rfl ⟨rfl, ?_⟩
  exact two_new _ _ _

set_option maxRecDepth 100000 in
theorem turnedN (w : World) (v : Value) (ms : List May) (h : MayL w v ms) (hn : ms.length ≤ 1000000) :
    Calls Tryz.prog 32 #[v, .func (.func 33) #[] #[]] w fun e w' => ∃ x, e = .returned x ∧ MayL w' x ms ∧ Below w.heap.size w w' := by
  obtain ⟨p, c, rfl, hc⟩ := h.slice
  have HL := Lib.hid h
  clear h
  go_enter Tryz.func32, Tryz.ntmps32
  go_wp2_with fail
  go_loopw [5, 10] (fun vo vi wr => ∃ (i : Nat) (F : Nat → Prop), i ≤ ms.length ∧ vi = .int .i64 i ∧ Acc w F 52 2 vo i (mcells (ms.take i)) wr) (fun _ vi _ => ms.length - (intOf vi).toNat)
  case atStart => exact ⟨0, _, Nat.zero_le _, rfl, Acc.start _ _ _⟩
  case round =>
    obtain ⟨i, F, hi, rfl, hA⟩ := hrel
    obtain ⟨po, co, rfl⟩ := hA.slice
    by_cases hlt : i < ms.length
    · obtain ⟨m, hsi⟩ : ∃ m, ms[i]? = some m := ⟨_, List.getElem?_eq_getElem hlt⟩
      obtain ⟨g, o, rfl, -, -, -, hcx, hcy⟩ := (HL.out.below hA.below).row hsi
      have HS : Hid (mcells (ms.take (i + 1)) = mcells (ms.take i) ++ [.bool m.1, .string m.2]) := Lib.hid (by rw [takeSnoc hsi, mcells_snoc]; rfl)
      obtain ⟨bm, sm⟩ := m
      simp only at hcx hcy HS
      have HA := Lib.hid hA
      have HM := Lib.hid (fun W => maybeV W bm sm)
      have HOWN : Hid (∀ W2, Below wr.heap.size wr W2 → OwnR (W2.alloc (.cells #[.bool bm, .string sm] 52)) F 52 2 (.slice po i co) i (mcells (ms.take i))) := Lib.hid fun W2 hb => (hA.own.keep hb).keep ((Below.refl _ _).alloc (Nat.le_refl _) _)
      have HSR : Hid (∀ W2 : World, Src Tryz.prog 2 23 (.slice (some ⟨W2.heap.size, 0, none⟩) 1 1) 1 [.bool bm, .string sm] (W2.alloc (.cells #[.bool bm, .string sm] 52))) := Lib.hid fun W2 => src_new elemMay W2.heap.size [.bool bm, .string sm] _ (heap_alloc_new W2 _) rfl (by simp [Value.oneCell']) 1
      clear hA hsi
      go_wp2_with (first | (go_at_call 33; refine (HM.out _).mono ?_; rintro e w2 ⟨rfl, hb2⟩; have hbr2 : Below wr.heap.size wr w2 := Below.trans ((Below.refl _ wr).alloc (Nat.le_refl _) _) (hb2.mono (by simp))) | (at_builtin; refine append_rows elemMay _ F i 1 _ _ rfl _ _ _ rfl _ rfl (HOWN.out w2 hbr2) _ rfl (HSR.out w2) (by omega) (by omega) ?_; intro p5 c5 w5 F5 hown5 hu5))
      go_roundw
      case rel => exact ⟨i + 1, F5, hlt, by go_num, by rw [HS.out]; exact (HA.out.keep (below_alloc hbr2 (Nat.le_refl _) _)).next hown5 hu5⟩
      case measure => simp [intOf]; omega
    · obtain rfl : i = ms.length := by omega
      have HA := Lib.hid hA
      clear hA
      go_wp2_with fail
      go_ret
      have h := HA.out
      rw [List.take_length] at h
      exact ⟨_, rfl, h.own.flat, h.below⟩

set_option maxRecDepth 100000 in
theorem foundN (w : World) (p : Option Addr) (n c : Nat) (left : Int) : Calls Tryz.prog 29 #[.slice p n c, .int .i64 left, .bool true] w fun e w' => e = .returned (.tuple #[.slice p n c, .int .i64 left, .bool true]) ∧ w = w' := by
  go_enter Tryz.func29, Tryz.ntmps29
  go_wp2_with fail
  refine bodyPost_ret (v := .tuple #[.slice p n c, .int .i64 left, .bool true]) (by simp [results, Tryz.results29, go_sem]) rfl ⟨rfl, rfl⟩
set_option maxRecDepth 100000 in
theorem foundN_not (w : World) : Calls Tryz.prog 29 #[.slice none 0 0, .int .i64 0, .bool false] w fun e w' => e = .returned (.tuple #[.slice none 0 0, .int .i64 0, .bool false]) ∧ w = w' := by
  go_enter Tryz.func29, Tryz.ntmps29
  go_wp2_with fail
  refine bodyPost_ret (v := .tuple #[.slice none 0 0, .int .i64 0, .bool false]) (by simp [results, Tryz.results29, go_sem]) rfl ⟨rfl, rfl⟩

def ReadN (w : World) (ok : Bool) (ms : List May) (tail : List UInt8) (e : Ending) (w' : World) : Prop :=
  (ok = true → ∃ x, e = .returned (.tuple #[x, .int .i64 tail.length, .bool true]) ∧ MayL w' x (normOf ms) ∧ Below w.heap.size w w') ∧
  (ok = false → ∃ x, e = .returned (.tuple #[x, .int .i64 0, .bool false]) ∧ MayL w' x [] ∧ Below w.heap.size w w')

set_option maxRecDepth 100000 in
set_option maxHeartbeats 1000000 in
theorem arReadNull (w : World) (ms : List May) (dv : Value) (bs tail : List UInt8) (ok : Bool) (hd : BytesAt w dv bs) (hD : ∀ g, dv.ownBlock = some g → g < w.heap.size)
    (hrest : RestN ok ms tail bs) (hbig : bs.length ≤ 1000000000) (hl : ms.length ≤ 100000) (hE : (encS (bytesOf (ms.map valOf))).length ≤ 1000000000) :
    Calls Tryz.prog 16 #[dv, .int .i64 ms.length] w (ReadN w ok ms tail) := by
  obtain ⟨pd, cd, rfl⟩ := hd.slice
  have HNU := Lib.hid (nulX_new w)
  have HX := Lib.hid (And.intro hd (And.intro hD (And.intro hrest hE)))
  have HNL : Hid ((normOf ms).length = ms.length) := Lib.hid (by simp [normOf])
  clear hd hD hrest hE
  go_enter Tryz.func16, Tryz.ntmps16
  go_wp2_with (go_at_call 31; refine (strNullable _ _).mono ?_; rintro e w9 ⟨rfl, rfl⟩)
  obtain ⟨w1, hw1⟩ : ∃ w1, w1 = (w.alloc (.cells #[.slice none 0 0, .slice none 0 0] 77)).alloc (.cells (.slice none 0 0 :: arrY w.heap.size).toArray 109) := ⟨_, rfl⟩
  have hX1 := HNU.out
  rw [← hw1] at hX1 ⊢
  have hb1 : Below w.heap.size w w1 := by rw [hw1]; exact two_new _ _ _
  have hs1 : w1.heap.size = w.heap.size + 2 := by rw [hw1]; simp
  obtain ⟨hd, hD, hrest, hE⟩ := HX.out
  have HDEC := Lib.hid (decodesN w1 _ _ _ _ ms _ bs tail ok hX1 (hd.below hb1) (fun g hg => ⟨by have := hD g hg; omega, by have := hD g hg; omega, by have := hD g hg; omega⟩) hrest hbig hl hE)
  have HBEL : Hid (∀ w2, Chg (fun k => k = w.heap.size + 1 ∨ k = w.heap.size) w1 w2 → Below w.heap.size w w2) := Lib.hid fun w2 hc => hb1.trans (hc.below (by omega) fun k hk => by omega)
  clear hb1 hs1 hX1 hd hD hrest hE hw1 HNU
  cases ok
  · go_wp2_with fail
    refine HDEC.out.mono ?_
    rintro e w2 ⟨-, h2⟩
    obtain ⟨rfl, hc⟩ := h2 rfl
    have HC := Lib.hid (HBEL.out w2 hc)
    have HT := Lib.hid (turnedN w2 (.slice none 0 0) [] ⟨none, 0, rfl, Nat.zero_le _, fun h => absurd rfl h⟩ (by simp))
    clear h2 hc
    go_wp2_with (go_at_call 29; refine (foundN_not _).mono ?_; rintro e w3 ⟨rfl, rfl⟩)
    refine HT.out.mono ?_
    rintro e w4 ⟨x4, rfl, hx4, hb4⟩
    obtain ⟨p4, c4, rfl, -⟩ := hx4.slice
    have H4 := Lib.hid (And.intro hx4 (HC.out.trans (hb4.mono HC.out.size)))
    clear hx4 hb4
    go_wp2_with fail
    refine bodyPost_ret (v := .tuple #[.slice p4 0 c4, .int .i64 0, .bool false]) (by simp [results, Tryz.results16, go_sem]) rfl ?_
    exact ⟨fun h => by simp at h, fun _ => ⟨_, rfl, H4.out.1, H4.out.2⟩⟩
  · go_wp2_with fail
    refine HDEC.out.mono ?_
    rintro e w2 ⟨h2, -⟩
    obtain ⟨x, rfl, hx, hc⟩ := h2 rfl
    have HT := Lib.hid (turnedN w2 x _ hx (by rw [HNL.out]; omega))
    obtain ⟨px, cx, rfl, -⟩ := hx.slice
    have HC := Lib.hid (HBEL.out w2 hc)
    rw [HNL.out] at HT ⊢
    clear h2 hc hx
    go_wp2_with (go_at_call 29; refine (foundN _ _ _ _ _).mono ?_; rintro e w3 ⟨rfl, rfl⟩)
    refine HT.out.mono ?_
    rintro e w4 ⟨x4, rfl, hx4, hb4⟩
    obtain ⟨p4, c4, rfl, -⟩ := hx4.slice
    have H4 := Lib.hid (And.intro hx4 (HC.out.trans (hb4.mono HC.out.size)))
    clear hx4 hb4
    rw [HNL.out] at H4 ⊢
    go_wp2_with fail
    refine bodyPost_ret (v := .tuple #[.slice p4 ms.length c4, .int .i64 tail.length, .bool true]) (by simp [results, Tryz.results16, go_sem]) rfl ?_
    exact ⟨fun _ => ⟨_, rfl, H4.out.1, H4.out.2⟩, fun h => by simp at h⟩

end Go.Proofs.YtemmhlibbihjmaaGreat
