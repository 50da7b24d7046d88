/- impl.PKServer, impl.PKServerGet. -/
import Derived.Test.YtlohpmncagfecaaMSrv0
import Derived.Test.YtlohpmncagfecaaMSrv1
import Derived.Test.YtlohpmncagfecaaMSrv2
import Derived.Test.YtlohpmncagfecaaMSrv3
import Derived.Test.YtlohpmncagfecaaProf
namespace Go.Proofs.Ytlohpmncagfecaa
open Go.RowKit

def srvBytes (ver : Int) (m : ByteArray) (a b c : Nat) (y d : ByteArray) (u : Nat) : List UInt8 :=
  if ver < 54058 then mSrv0Bytes m a b c y d u else if ver < 54372 then mSrv1Bytes m a b c y d u else if ver < 54401 then mSrv2Bytes m a b c y d u else mSrv3Bytes m a b c y d u
def srvVals (m : ByteArray) (a b c : Nat) (y d : ByteArray) (u : Nat) : List Value := [.string m, .int .i64 (a : Nat), .int .i64 (b : Nat), .int .i64 (c : Nat), .string y, .string d, .int .i64 (u : Nat)]
def verT (ver : Int) (y : ByteArray) : ByteArray := if ver < 54058 then ⟨#[]⟩ else y
def verD (ver : Int) (d : ByteArray) : ByteArray := if ver < 54372 then ⟨#[]⟩ else d
def verP (ver : Int) (u : Nat) : Nat := if ver < 54401 then 0 else u
def srvDec (ver : Int) (m : ByteArray) (a b c : Nat) (y d : ByteArray) (u : Nat) : List Value := srvVals m a b c (verT ver y) (verD ver d) (verP ver u)

theorem srvLen (ver : Int) (m : ByteArray) (a b c : Nat) (y d : ByteArray) (u : Nat) (hm : m.size ≤ 100) (ha : a ≤ 9223372036854775807) (hb : b ≤ 9223372036854775807) (hc : c ≤ 9223372036854775807) (hy : y.size ≤ 100) (hd : d.size ≤ 100) (hu : u ≤ 9223372036854775807) : (srvBytes ver m a b c y d u).length ≤ 1000 := by
  unfold srvBytes
  split
  · exact mSrv0Len m a b c y d u hm ha hb hc hy hd hu
  · split
    · exact mSrv1Len m a b c y d u hm ha hb hc hy hd hu
    · split
      · exact mSrv2Len m a b c y d u hm ha hb hc hy hd hu
      · exact mSrv3Len m a b c y d u hm ha hb hc hy hd hu

theorem srvEncode (w : World) (F : Nat → Prop) (p q : Nat) (ver : Int) (m : ByteArray) (a b c : Nat) (y d : ByteArray) (u : Nat) (hm : m.size ≤ 100) (ha : a ≤ 9223372036854775807) (hb : b ≤ 9223372036854775807) (hc : c ≤ 9223372036854775807) (hy : y.size ≤ 100) (hd : d.size ≤ 100) (hu : u ≤ 9223372036854775807) (h : BufAt w F 119 p []) (hF : In F w) (hq : RowIs w q (srvVals m a b c y d u)) (hn : ¬ F q) :
    Calls Try.prog 160 #[.pointer (some ⟨q, 0, none⟩), .pointer (some ⟨p, 0, none⟩), .int .i64 ver] w (Put w F 119 p (0 :: srvBytes ver m a b c y d u)) := by
  unfold srvBytes
  split
  · next h1 => exact mSrv0Encode w F p q m a b c y d u hm ha hb hc hy hd hu ver h1 h hF hq hn
  · next h1 =>
    split
    · next h2 => exact mSrv1Encode w F p q m a b c y d u hm ha hb hc hy hd hu ver (by omega) h2 h hF hq hn
    · next h2 =>
      split
      · next h3 => exact mSrv2Encode w F p q m a b c y d u hm ha hb hc hy hd hu ver (by omega) h3 h hF hq hn
      · next h3 => exact mSrv3Encode w F p q m a b c y d u hm ha hb hc hy hd hu ver (by omega) h hF hq hn

theorem srvDecode (w : World) (F D : Nat → Prop) (r q : Nat) (tail : List UInt8) (ver : Int) (m : ByteArray) (a b c : Nat) (y d : ByteArray) (u : Nat) (hm : m.size ≤ 100) (ha : a ≤ 9223372036854775807) (hb : b ≤ 9223372036854775807) (hc : c ≤ 9223372036854775807) (hy : y.size ≤ 100) (hd : d.size ≤ 100) (hu : u ≤ 9223372036854775807) (ht : tail.length ≤ 100) (hz : w.heap[q]? = some (.cells ([.string ⟨#[]⟩, .int .i64 0, .int .i64 0, .int .i64 0, .string ⟨#[]⟩, .string ⟨#[]⟩, .int .i64 0] : List Value).toArray 112 (0, 0))) (h : Ready w F D r q 112 7 (srvBytes ver m a b c y d u ++ tail)) :
    Calls Try.prog 159 #[.pointer (some ⟨q, 0, none⟩), .pointer (some ⟨r, 0, none⟩), .int .i64 ver] w (DecOk w F D r q 112 tail (srvDec ver m a b c y d u)) := by
  unfold srvDec verT verD verP
  unfold srvBytes at h
  by_cases h1 : ver < 54058
  · have h2 : ver < 54372 := by omega
    have h3 : ver < 54401 := by omega
    rw [if_pos h1] at h
    rw [if_pos h1, if_pos h2, if_pos h3]
    exact mSrv0Decode w F D r q tail m a b c y d u hm ha hb hc hy hd hu ver ht h1 hz h
  · rw [if_neg h1] at h
    rw [if_neg h1]
    by_cases h2 : ver < 54372
    · have h3 : ver < 54401 := by omega
      rw [if_pos h2] at h
      rw [if_pos h2, if_pos h3]
      exact mSrv1Decode w F D r q tail m a b c y d u hm ha hb hc hy hd hu ver ht (by omega) h2 hz h
    · rw [if_neg h2] at h
      rw [if_neg h2]
      by_cases h3 : ver < 54401
      · rw [if_pos h3] at h
        rw [if_pos h3]
        exact mSrv2Decode w F D r q tail m a b c y d u hm ha hb hc hy hd hu ver ht (by omega) h3 hz h
      · rw [if_neg h3] at h
        rw [if_neg h3]
        exact mSrv3Decode w F D r q tail m a b c y d u hm ha hb hc hy hd hu ver ht (by omega) hz h

theorem srvShort (w : World) (F D : Nat → Prop) (r q : Nat) (bs : List UInt8) (ver : Int) (m : ByteArray) (a b c : Nat) (y d : ByteArray) (u : Nat) (hm : m.size ≤ 100) (ha : a ≤ 9223372036854775807) (hb : b ≤ 9223372036854775807) (hc : c ≤ 9223372036854775807) (hy : y.size ≤ 100) (hd : d.size ≤ 100) (hu : u ≤ 9223372036854775807) (hs : Short bs (srvBytes ver m a b c y d u)) (h : Ready w F D r q 112 7 bs) :
    Calls Try.prog 159 #[.pointer (some ⟨q, 0, none⟩), .pointer (some ⟨r, 0, none⟩), .int .i64 ver] w (DecBad w F q) := by
  unfold srvBytes at hs
  split at hs
  · next h1 => exact mSrv0Short w F D r q bs m a b c y d u hm ha hb hc hy hd hu ver h1 hs h
  · next h1 =>
    split at hs
    · next h2 => exact mSrv1Short w F D r q bs m a b c y d u hm ha hb hc hy hd hu ver (by omega) h2 hs h
    · next h2 =>
      split at hs
      · next h3 => exact mSrv2Short w F D r q bs m a b c y d u hm ha hb hc hy hd hu ver (by omega) h3 hs h
      · next h3 => exact mSrv3Short w F D r q bs m a b c y d u hm ha hb hc hy hd hu ver (by omega) hs h

set_option maxRecDepth 100000 in
theorem srvPut (w : World) (F : Nat → Prop) (p q s : Nat) (ver : Int) (m : ByteArray) (a b c : Nat) (y d : ByteArray) (u : Nat) (hm : m.size ≤ 100) (ha : a ≤ 9223372036854775807) (hb : b ≤ 9223372036854775807) (hc : c ≤ 9223372036854775807) (hy : y.size ≤ 100) (hd : d.size ≤ 100) (hu : u ≤ 9223372036854775807)
    (h : BufAt w F 119 p []) (hF : In F w) (hs : RowIs w s (srvVals m a b c y d u)) (hn : ¬ F s) (h1 : w.cell? ⟨q, 0, none⟩ = some (.iface 109 (.pointer (some ⟨s, 0, none⟩)))) (h2 : w.cell? ⟨q + 1, 0, none⟩ = some (.int .i64 ver)) :
    Calls Try.prog 107 #[.pointer (some ⟨p, 0, none⟩), .pointer (some ⟨q, 0, none⟩), .pointer (some ⟨q + 1, 0, none⟩)] w (Put w F 119 p (0 :: srvBytes ver m a b c y d u)) := by
  have HE := Lib.hid (srvEncode w F p s ver m a b c y d u hm ha hb hc hy hd hu h hF hs hn)
  clear h hF hs
  go_enter Try.func107, Try.ntmps107
  go_wp2_with fail
  refine HE.out.mono ?_
  rintro e w' ⟨rfl, hp⟩
  go_wp2_with fail
  go_returns
  exact ⟨rfl, hp⟩

set_option maxRecDepth 100000 in
theorem putAwareSrv (w : World) (s : Nat) (ver : Int) (m : ByteArray) (a b c : Nat) (y d : ByteArray) (u : Nat) (hm : m.size ≤ 100) (ha : a ≤ 9223372036854775807) (hb : b ≤ 9223372036854775807) (hc : c ≤ 9223372036854775807) (hy : y.size ≤ 100) (hd : d.size ≤ 100) (hu : u ≤ 9223372036854775807) (hs : RowIs w s (srvVals m a b c y d u)) :
    Calls Try.prog 55 #[.iface 109 (.pointer (some ⟨s, 0, none⟩)), .int .i64 ver] w (Made w (0 :: srvBytes ver m a b c y d u)) := by
  have hsl : s < w.heap.size := by unfold srvVals at hs; exact hs.lt
  have hE := fun w1 F p h hF hr hn h1 h2 => srvPut w1 F p w.heap.size s ver m a b c y d u hm ha hb hc hy hd hu h hF hr hn h1 h2
  have HE := Lib.hid hE
  have HS := Lib.hid hs
  clear hE hs hm ha hb hc hy hd hu
  have HB := Lib.hid (((Below.refl _ w).alloc (Nat.le_refl _) (.cells #[.iface 109 (.pointer (some ⟨s, 0, none⟩))] 177)).alloc (by simp) (.cells #[.int .i64 ver] 3))
  go_enter Try.func55, Try.ntmps55
  go_wp2_with fail
  refine (encodedC _ _ _ _ (0 :: srvBytes ver m a b c y d u) own_profPut fun w1 F p h hF hF2 hb1 => HE.out w1 F p h hF ?_ ?_ ?_ ?_).mono ?_
  · exact HS.out.below (HB.out.trans (hb1.mono HB.out.size))
  · intro hk
    have h3 := hF2 _ hk
    simp only [World.size_alloc] at h3
    omega
  · rw [hb1.cell (by simp; omega)]; go_simp
  · rw [hb1.cell (by simp)]; go_simp
  intro e w1 hm
  obtain ⟨hb, v1, rfl, hv1, ho⟩ := hm
  have HO := Lib.hid ho
  clear ho
  go_wp2_with fail
  go_ret
  exact Made.of_below HB.out ⟨hb, v1, rfl, hv1, HO.out⟩

set_option maxRecDepth 100000 in
theorem pkServer (w : World) (ver : Int) (m : ByteArray) (a b c : Nat) (y d : ByteArray) (u : Nat) (hm : m.size ≤ 100) (ha : a ≤ 9223372036854775807) (hb : b ≤ 9223372036854775807) (hc : c ≤ 9223372036854775807) (hy : y.size ≤ 100) (hd : d.size ≤ 100) (hu : u ≤ 9223372036854775807) :
    Calls Try.prog 34 #[.agg (srvVals m a b c y d u).toArray, .int .i64 ver] w (Made w (0 :: srvBytes ver m a b c y d u)) := by
  have hE := fun w1 s hs => putAwareSrv w1 s ver m a b c y d u hm ha hb hc hy hd hu hs
  have HE := Lib.hid hE
  clear hE hm ha hb hc hy hd hu
  unfold srvVals at HE ⊢
  go_enter Try.func34, Try.ntmps34
  go_wp2_with (go_at_call 62; go_in)
  refine (HE.out _ (w.heap.size + 1 + 1) ?_).mono ?_
  · have := rowIs_new ((w.alloc (.cells ([.string m, .int .i64 (a : Nat), .int .i64 (b : Nat), .int .i64 (c : Nat), .string y, .string d, .int .i64 (u : Nat)] : List Value).toArray 65)).alloc (.cells ([.string m, .int .i64 (a : Nat), .int .i64 (b : Nat), .int .i64 (c : Nat), .string y, .string d, .int .i64 (u : Nat)] : List Value).toArray 65)) [.string m, .int .i64 (a : Nat), .int .i64 (b : Nat), .int .i64 (c : Nat), .string y, .string d, .int .i64 (u : Nat)] 112
    simpa using this
  rintro e w1 ⟨hb, v1, rfl, hv1, ho⟩
  have HO := Lib.hid ho
  clear ho
  go_wp2_with fail
  go_ret
  exact Made.of_below ((((Below.refl _ w).alloc (Nat.le_refl _) _).alloc (by simp) _).alloc (by simp; omega) _) ⟨hb, v1, rfl, hv1, HO.out⟩

/-! ### Reading -/
set_option maxRecDepth 100000 in
theorem srvGet (w : World) (F D : Nat → Prop) (r q p : Nat) (rest : List UInt8) (ver : Int) (m : ByteArray) (a b c : Nat) (y d : ByteArray) (u : Nat) (hm : m.size ≤ 100) (ha : a ≤ 9223372036854775807) (hb : b ≤ 9223372036854775807) (hc : c ≤ 9223372036854775807) (hy : y.size ≤ 100) (hd : d.size ≤ 100) (hu : u ≤ 9223372036854775807) (hrl : rest.length ≤ 100) (hz : w.heap[q]? = some (.cells ([.string ⟨#[]⟩, .int .i64 0, .int .i64 0, .int .i64 0, .string ⟨#[]⟩, .string ⟨#[]⟩, .int .i64 0] : List Value).toArray 112 (0, 0)))
    (h : Ready w F D r q 112 7 (srvBytes ver m a b c y d u ++ rest)) (h1 : w.cell? ⟨p, 0, none⟩ = some (.iface 109 (.pointer (some ⟨q, 0, none⟩)))) (h2 : w.cell? ⟨p + 1, 0, none⟩ = some (.int .i64 ver)) :
    Calls Try.prog 108 #[.pointer (some ⟨r, 0, none⟩), .pointer (some ⟨p, 0, none⟩), .pointer (some ⟨p + 1, 0, none⟩)] w (DecOk w F D r q 112 rest (srvDec ver m a b c y d u)) := by
  have HE := Lib.hid (srvDecode w F D r q rest ver m a b c y d u hm ha hb hc hy hd hu hrl hz h)
  clear h hz
  go_enter Try.func108, Try.ntmps108
  go_wp2_with fail
  refine HE.out.mono ?_
  rintro e w' ⟨rfl, hp⟩
  have HP := Lib.hid hp
  clear hp
  go_wp2_with fail
  go_ret
  exact ⟨rfl, HP.out⟩
set_option maxRecDepth 100000 in
theorem srvGet_bad (w : World) (F D : Nat → Prop) (r q p : Nat) (bs : List UInt8) (ver : Int) (m : ByteArray) (a b c : Nat) (y d : ByteArray) (u : Nat) (hm : m.size ≤ 100) (ha : a ≤ 9223372036854775807) (hb : b ≤ 9223372036854775807) (hc : c ≤ 9223372036854775807) (hy : y.size ≤ 100) (hd : d.size ≤ 100) (hu : u ≤ 9223372036854775807) (hs : Short bs (srvBytes ver m a b c y d u))
    (h : Ready w F D r q 112 7 bs) (h1 : w.cell? ⟨p, 0, none⟩ = some (.iface 109 (.pointer (some ⟨q, 0, none⟩)))) (h2 : w.cell? ⟨p + 1, 0, none⟩ = some (.int .i64 ver)) :
    Calls Try.prog 108 #[.pointer (some ⟨r, 0, none⟩), .pointer (some ⟨p, 0, none⟩), .pointer (some ⟨p + 1, 0, none⟩)] w (DecBad w F q) := by
  have HE := Lib.hid (srvShort w F D r q bs ver m a b c y d u hm ha hb hc hy hd hu hs h)
  clear h hs
  go_enter Try.func108, Try.ntmps108
  go_wp2_with fail
  refine HE.out.mono ?_
  rintro e w' ⟨a1, rfl, hp⟩
  have HP := Lib.hid hp
  clear hp
  go_wp2_with fail
  go_ret
  exact ⟨_, rfl, HP.out⟩

set_option maxRecDepth 100000 in
theorem gotAwareSrv (w : World) (v : Value) (q : Nat) (rest : List UInt8) (ver : Int) (m : ByteArray) (a b c : Nat) (y d : ByteArray) (u : Nat) (hm : m.size ≤ 100) (ha : a ≤ 9223372036854775807) (hb : b ≤ 9223372036854775807) (hc : c ≤ 9223372036854775807) (hy : y.size ≤ 100) (hd : d.size ≤ 100) (hu : u ≤ 9223372036854775807) (hrl : rest.length ≤ 100)
    (all : List UInt8) (hall : all = 0 :: (srvBytes ver m a b c y d u ++ rest)) (hv : BytesAt w v all) (hD : ∀ g, v.ownBlock = some g → g < w.heap.size ∧ g ≠ q)
    (hq1 : w.heap[q]? = some (.cells ([.string ⟨#[]⟩, .int .i64 0, .int .i64 0, .int .i64 0, .string ⟨#[]⟩, .string ⟨#[]⟩, .int .i64 0] : List Value).toArray 112 (0, 0))) :
    Calls Try.prog 57 #[v, .int .i64 0, .iface 109 (.pointer (some ⟨q, 0, none⟩)), .int .i64 ver] w (GotOk w q 112 rest (srvDec ver m a b c y d u)) := by
  have hE := fun w1 F D r hz h h1 h2 => srvGet w1 F D r q w.heap.size rest ver m a b c y d u hm ha hb hc hy hd hu hrl hz h h1 h2
  have HE := Lib.hid hE
  have HL := Lib.hid (srvLen ver m a b c y d u hm ha hb hc hy hd hu)
  have HA := Lib.hid hall
  have HD := Lib.hid hD
  have HQ := Lib.hid hq1
  have hql := (Array.getElem?_eq_some_iff.1 hq1).1
  clear hE hm ha hb hc hy hd hu hD hq1 hall
  obtain ⟨p, cp, rfl⟩ := hv.slice
  go_enter Try.func57, Try.ntmps57
  go_wp2_with fail
  refine (gotK_ok' _ 0 0 (by decide) _ _ _ (srvBytes ver m a b c y d u ++ rest) rest _ HA.out q 7 112 (srvDec ver m a b c y d u) 108 ((hv.alloc _).alloc _) (by have := HL.out; rw [List.length_append]; omega) (fun g h => by have := HD.out g h; simp only [World.size_alloc]; omega) ⟨_, rfl, row_two HQ.out⟩ own_profGet fun w1 F D r h hb1 => HE.out w1 F D r ?_ h ?_ ?_).mono ?_
  · rw [hb1.block q (by simp only [World.size_alloc]; omega)]; exact row_two HQ.out
  · rw [hb1.cell (by simp; omega)]; go_simp
  · rw [hb1.cell (by simp)]; go_simp
  rintro e w1 ⟨rfl, hc1, hq1⟩
  have HP := Lib.hid (And.intro (chg_of_two hc1) hq1)
  clear hc1 hq1
  go_wp2_with fail
  go_ret2
  exact ⟨rfl, HP.out⟩

set_option maxRecDepth 100000 in
theorem gotAwareSrv_bad (w : World) (v : Value) (q : Nat) (ver : Int) (m : ByteArray) (a b c : Nat) (y d : ByteArray) (u : Nat) (hm : m.size ≤ 100) (ha : a ≤ 9223372036854775807) (hb : b ≤ 9223372036854775807) (hc : c ≤ 9223372036854775807) (hy : y.size ≤ 100) (hd : d.size ≤ 100) (hu : u ≤ 9223372036854775807)
    (all : List UInt8) (hs : Short all (0 :: srvBytes ver m a b c y d u)) (hv : BytesAt w v all) (hD : ∀ g, v.ownBlock = some g → g < w.heap.size ∧ g ≠ q)
    (hq1 : w.heap[q]? = some (.cells ([.string ⟨#[]⟩, .int .i64 0, .int .i64 0, .int .i64 0, .string ⟨#[]⟩, .string ⟨#[]⟩, .int .i64 0] : List Value).toArray 112 (0, 0))) :
    Calls Try.prog 57 #[v, .int .i64 0, .iface 109 (.pointer (some ⟨q, 0, none⟩)), .int .i64 ver] w (GotBad w q) := by
  have hE := fun r hr w1 F D r1 h h1 h2 => srvGet_bad w1 F D r1 q w.heap.size r ver m a b c y d u hm ha hb hc hy hd hu hr h h1 h2
  have HE := Lib.hid hE
  have HL := Lib.hid (srvLen ver m a b c y d u hm ha hb hc hy hd hu)
  have HD := Lib.hid hD
  have HQ := Lib.hid hq1
  have hql := (Array.getElem?_eq_some_iff.1 hq1).1
  clear hE hm ha hb hc hy hd hu hD hq1
  obtain ⟨p, cp, rfl⟩ := hv.slice
  rcases short_cons hs with h0 | ⟨r0, h0, hs0⟩
  · have HA := Lib.hid h0
    clear h0 hs
    go_enter Try.func57, Try.ntmps57
    go_wp2_with fail
    refine (gotK_none' _ 0 0 (by decide) _ _ _ _ HA.out q 108 ((hv.alloc _).alloc _) (fun g h => by have := HD.out g h; simp only [World.size_alloc]; omega)).mono ?_
    rintro e w1 ⟨rfl, hc1⟩
    have HP := Lib.hid (chg_of_two hc1)
    clear hc1
    go_wp2_with fail
    go_ret2
    exact ⟨rfl, HP.out⟩
  · have HA := Lib.hid h0
    have HS := Lib.hid hs0
    have hl0 := hs0.lt
    clear h0 hs hs0
    go_enter Try.func57, Try.ntmps57
    go_wp2_with fail
    refine (gotK_bad' _ 0 0 (by decide) _ _ _ r0 _ HA.out q 7 112 108 ((hv.alloc _).alloc _) (by have := HL.out; omega) (fun g h => by have := HD.out g h; simp only [World.size_alloc]; omega) ⟨_, rfl, row_two HQ.out⟩ own_profGet fun w1 F D r h hb1 => HE.out _ HS.out w1 F D r h ?_ ?_).mono ?_
    · rw [hb1.cell (by simp; omega)]; go_simp
    · rw [hb1.cell (by simp)]; go_simp
    rintro e w1 ⟨rfl, hc1⟩
    have HP := Lib.hid (chg_of_two hc1)
    clear hc1
    go_wp2_with fail
    go_ret2
    exact ⟨rfl, HP.out⟩

set_option maxRecDepth 100000 in
theorem pkServerGet (w : World) (v : Value) (rest : List UInt8) (ver : Int) (m : ByteArray) (a b c : Nat) (y d : ByteArray) (u : Nat) (hm : m.size ≤ 100) (ha : a ≤ 9223372036854775807) (hb : b ≤ 9223372036854775807) (hc : c ≤ 9223372036854775807) (hy : y.size ≤ 100) (hd : d.size ≤ 100) (hu : u ≤ 9223372036854775807) (hrl : rest.length ≤ 100)
    (all : List UInt8) (hall : all = 0 :: (srvBytes ver m a b c y d u ++ rest)) (hv : BytesAt w v all) (hD : ∀ g, v.ownBlock = some g → g < w.heap.size) :
    Calls Try.prog 36 #[v, .int .i64 ver] w fun e w' => e = .returned (.tuple #[.agg (srvDec ver m a b c y d u).toArray, .int .i64 rest.length, .bool true]) ∧ Below w.heap.size w w' := by
  have hE := fun w1 q hv1 hD1 hq1 => gotAwareSrv w1 v q rest ver m a b c y d u hm ha hb hc hy hd hu hrl all hall hv1 hD1 hq1
  unfold srvDec at hE ⊢
  obtain ⟨Y, hY⟩ : ∃ Y, Y = verT ver y := ⟨_, rfl⟩
  obtain ⟨D, hDD⟩ : ∃ D, D = verD ver d := ⟨_, rfl⟩
  obtain ⟨U, hU⟩ : ∃ U, U = verP ver u := ⟨_, rfl⟩
  rw [← hY, ← hDD, ← hU] at hE ⊢
  unfold srvVals at hE ⊢
  have HE := Lib.hid hE
  have HD := Lib.hid hD
  clear hE hm ha hb hc hy hd hu hD hall hY hDD hU
  obtain ⟨p, cp, rfl⟩ := hv.slice
  go_enter Try.func36, Try.ntmps36
  go_wp2_with fail
  refine (HE.out _ (w.heap.size + 1) ((hv.alloc _).alloc _) (fun g h => by have := HD.out g h; simp only [World.size_alloc]; omega) ?_).mono ?_
  · have := heap_alloc_new (w.alloc (.cells #[.string ⟨#[]⟩, .int .i64 0, .int .i64 0, .int .i64 0, .string ⟨#[]⟩, .string ⟨#[]⟩, .int .i64 0] 65)) (.cells #[.string ⟨#[]⟩, .int .i64 0, .int .i64 0, .int .i64 0, .string ⟨#[]⟩, .string ⟨#[]⟩, .int .i64 0] 112)
    simpa using this
  rintro e w1 ⟨rfl, hc1, hq1⟩
  have hs1 := hc1.size
  simp at hs1
  have x0 : w1.cell? ⟨w.heap.size + 1, 0, none⟩ = some (.string m) := by simp [World.cell?, hq1]
  have x1 : w1.cell? ⟨w.heap.size + 1, 1, none⟩ = some (.int .i64 a) := by simp [World.cell?, hq1]
  have x2 : w1.cell? ⟨w.heap.size + 1, 2, none⟩ = some (.int .i64 b) := by simp [World.cell?, hq1]
  have x3 : w1.cell? ⟨w.heap.size + 1, 3, none⟩ = some (.int .i64 c) := by simp [World.cell?, hq1]
  have x4 : w1.cell? ⟨w.heap.size + 1, 4, none⟩ = some (.string Y) := by simp [World.cell?, hq1]
  have x5 : w1.cell? ⟨w.heap.size + 1, 5, none⟩ = some (.string D) := by simp [World.cell?, hq1]
  have x6 : w1.cell? ⟨w.heap.size + 1, 6, none⟩ = some (.int .i64 U) := by simp [World.cell?, hq1]
  have hq0 : w1.heap[w.heap.size]? = some (.cells ([.string ⟨#[]⟩, .int .i64 0, .int .i64 0, .int .i64 0, .string ⟨#[]⟩, .string ⟨#[]⟩, .int .i64 0] : List Value).toArray 65 (0, 0)) := by
    rw [hc1.block _ (by simp; omega) (by omega), Below.heap_alloc _ _ _ (by simp)]; exact heap_alloc_new _ _
  have z : ∀ j, w1.frozen? ⟨w.heap.size, j, none⟩ = false := fun j => by simp [World.frozen?, hq0]
  have y0 : w1.cell? ⟨w.heap.size, 0, none⟩ = some (.string ⟨#[]⟩) := by simp [World.cell?, hq0]
  have y1 : w1.cell? ⟨w.heap.size, 1, none⟩ = some (.int .i64 0) := by simp [World.cell?, hq0]
  have y2 : w1.cell? ⟨w.heap.size, 2, none⟩ = some (.int .i64 0) := by simp [World.cell?, hq0]
  have y3 : w1.cell? ⟨w.heap.size, 3, none⟩ = some (.int .i64 0) := by simp [World.cell?, hq0]
  have y4 : w1.cell? ⟨w.heap.size, 4, none⟩ = some (.string ⟨#[]⟩) := by simp [World.cell?, hq0]
  have y5 : w1.cell? ⟨w.heap.size, 5, none⟩ = some (.string ⟨#[]⟩) := by simp [World.cell?, hq0]
  have y6 : w1.cell? ⟨w.heap.size, 6, none⟩ = some (.int .i64 0) := by simp [World.cell?, hq0]
  have HB := Lib.hid (chg_below (((Below.refl _ w).alloc (Nat.le_refl _) _).alloc (by simp) _) hc1 (by omega))
  clear hq0 hq1 hc1
  go_wp2_with fail
  refine bodyPost_ret (v := .tuple #[.agg #[.string m, .int .i64 (a : Nat), .int .i64 (b : Nat), .int .i64 (c : Nat), .string Y, .string D, .int .i64 (U : Nat)], .int .i64 rest.length, .bool true]) (by simp [results, Try.results36, go_sem, y0, y1, y2, y3, y4, y5, y6]) rfl ⟨rfl, ?_⟩
  exact ((((((HB.out.setCell (Nat.le_refl _) _).setCell (Nat.le_refl _) _).setCell (Nat.le_refl _) _).setCell (Nat.le_refl _) _).setCell (Nat.le_refl _) _).setCell (Nat.le_refl _) _).setCell (Nat.le_refl _) _

set_option maxRecDepth 100000 in
theorem pkServerGet_bad (w : World) (v : Value) (ver : Int) (m : ByteArray) (a b c : Nat) (y d : ByteArray) (u : Nat) (hm : m.size ≤ 100) (ha : a ≤ 9223372036854775807) (hb : b ≤ 9223372036854775807) (hc : c ≤ 9223372036854775807) (hy : y.size ≤ 100) (hd : d.size ≤ 100) (hu : u ≤ 9223372036854775807)
    (all : List UInt8) (hs : Short all (0 :: srvBytes ver m a b c y d u)) (hv : BytesAt w v all) (hD : ∀ g, v.ownBlock = some g → g < w.heap.size) :
    Calls Try.prog 36 #[v, .int .i64 ver] w fun e w' => e = .returned (.tuple #[.agg #[.string ⟨#[]⟩, .int .i64 0, .int .i64 0, .int .i64 0, .string ⟨#[]⟩, .string ⟨#[]⟩, .int .i64 0], .int .i64 0, .bool false]) ∧ Below w.heap.size w w' := by
  have hE := fun w1 q hv1 hD1 hq1 => gotAwareSrv_bad w1 v q ver m a b c y d u hm ha hb hc hy hd hu all hs hv1 hD1 hq1
  have HE := Lib.hid hE
  have HD := Lib.hid hD
  clear hE hm ha hb hc hy hd hu hD hs
  obtain ⟨p, cp, rfl⟩ := hv.slice
  go_enter Try.func36, Try.ntmps36
  go_wp2_with fail
  refine (HE.out _ (w.heap.size + 1) ((hv.alloc _).alloc _) (fun g h => by have := HD.out g h; simp only [World.size_alloc]; omega) ?_).mono ?_
  · have := heap_alloc_new (w.alloc (.cells #[.string ⟨#[]⟩, .int .i64 0, .int .i64 0, .int .i64 0, .string ⟨#[]⟩, .string ⟨#[]⟩, .int .i64 0] 65)) (.cells #[.string ⟨#[]⟩, .int .i64 0, .int .i64 0, .int .i64 0, .string ⟨#[]⟩, .string ⟨#[]⟩, .int .i64 0] 112)
    simpa using this
  rintro e w1 ⟨rfl, hc1⟩
  have hs1 := hc1.size
  simp at hs1
  have hq0 : w1.heap[w.heap.size]? = some (.cells ([.string ⟨#[]⟩, .int .i64 0, .int .i64 0, .int .i64 0, .string ⟨#[]⟩, .string ⟨#[]⟩, .int .i64 0] : List Value).toArray 65 (0, 0)) := by
    rw [hc1.block _ (by simp; omega) (by omega), Below.heap_alloc _ _ _ (by simp)]; exact heap_alloc_new _ _
  have z : ∀ j, w1.frozen? ⟨w.heap.size, j, none⟩ = false := fun j => by simp [World.frozen?, hq0]
  have y0 : w1.cell? ⟨w.heap.size, 0, none⟩ = some (.string ⟨#[]⟩) := by simp [World.cell?, hq0]
  have y1 : w1.cell? ⟨w.heap.size, 1, none⟩ = some (.int .i64 0) := by simp [World.cell?, hq0]
  have y2 : w1.cell? ⟨w.heap.size, 2, none⟩ = some (.int .i64 0) := by simp [World.cell?, hq0]
  have y3 : w1.cell? ⟨w.heap.size, 3, none⟩ = some (.int .i64 0) := by simp [World.cell?, hq0]
  have y4 : w1.cell? ⟨w.heap.size, 4, none⟩ = some (.string ⟨#[]⟩) := by simp [World.cell?, hq0]
  have y5 : w1.cell? ⟨w.heap.size, 5, none⟩ = some (.string ⟨#[]⟩) := by simp [World.cell?, hq0]
  have y6 : w1.cell? ⟨w.heap.size, 6, none⟩ = some (.int .i64 0) := by simp [World.cell?, hq0]
  have HB := Lib.hid (chg_below (((Below.refl _ w).alloc (Nat.le_refl _) _).alloc (by simp) _) hc1 (by omega))
  clear hq0 hc1
  go_wp2_with fail
  refine bodyPost_ret (v := .tuple #[.agg #[.string ⟨#[]⟩, .int .i64 0, .int .i64 0, .int .i64 0, .string ⟨#[]⟩, .string ⟨#[]⟩, .int .i64 0], .int .i64 0, .bool false]) (by simp [results, Try.results36, go_sem, y0, y1, y2, y3, y4, y5, y6]) rfl ⟨rfl, ?_⟩
  exact ((((((HB.out.setCell (Nat.le_refl _) _).setCell (Nat.le_refl _) _).setCell (Nat.le_refl _) _).setCell (Nat.le_refl _) _).setCell (Nat.le_refl _) _).setCell (Nat.le_refl _) _).setCell (Nat.le_refl _) _
end Go.Proofs.Ytlohpmncagfecaa
