/- impl.PKFault, impl.PKFaultGet. -/
import Derived.Test.YtlohpmncagfecaaMExc
import Derived.Test.YtlohpmncagfecaaProf
namespace Go.Proofs.Ytlohpmncagfecaa
open Go.RowKit

set_option maxRecDepth 100000 in
theorem excPut (w : World) (F : Nat → Prop) (p q s : Nat) (k : Nat) (a b c : ByteArray) (hk : k ≤ 2147483647) (ha : a.size ≤ 100) (hb : b.size ≤ 100) (hc : c.size ≤ 100)
    (h : BufAt w F 119 p []) (hF : In F w) (hs : RowIs w s (mExcVals k a b c)) (hn : ¬ F s) (h1 : w.cell? ⟨q, 0, none⟩ = some (.iface 103 (.pointer (some ⟨s, 0, none⟩)))) (h2 : w.cell? ⟨q + 1, 0, none⟩ = some (.int .i64 0)) :
    Calls Try.prog 107 #[.pointer (some ⟨p, 0, none⟩), .pointer (some ⟨q, 0, none⟩), .pointer (some ⟨q + 1, 0, none⟩)] w (Put w F 119 p (mExcBytes k a b c)) := by
  have hE := fun w' => mExcEncode w F p s k a b c hk ha hb hc w' h hF hs hn
  have HE := Lib.hid hE
  clear hE h hF hs
  go_enter Try.func107, Try.ntmps107
  go_wp2_with fail
  refine (HE.out 0).mono ?_
  rintro e w' ⟨rfl, hp⟩
  go_wp2_with fail
  go_returns
  exact ⟨rfl, hp⟩

set_option maxRecDepth 100000 in
theorem putAwareExc (w : World) (s : Nat) (k : Nat) (a b c : ByteArray) (hk : k ≤ 2147483647) (ha : a.size ≤ 100) (hb : b.size ≤ 100) (hc : c.size ≤ 100) (hs : RowIs w s (mExcVals k a b c)) :
    Calls Try.prog 55 #[.iface 103 (.pointer (some ⟨s, 0, none⟩)), .int .i64 0] w (Made w (mExcBytes k a b c)) := by
  have hsl : s < w.heap.size := by unfold mExcVals at hs; exact hs.lt
  have hE := fun w1 F p h hF hr hn h1 h2 => excPut w1 F p w.heap.size s k a b c hk ha hb hc h hF hr hn h1 h2
  have HE := Lib.hid hE
  have HS := Lib.hid hs
  clear hE ha hb hc hs hk
  have HB := Lib.hid (((Below.refl _ w).alloc (Nat.le_refl _) (.cells #[.iface 103 (.pointer (some ⟨s, 0, none⟩))] 177)).alloc (by simp) (.cells #[.int .i64 0] 3))
  go_enter Try.func55, Try.ntmps55
  go_wp2_with fail
  refine (encodedC _ _ _ _ (mExcBytes k a b c) own_profPut fun w1 F p h hF hF2 hb1 => HE.out w1 F p h hF ?_ ?_ ?_ ?_).mono ?_
  · exact HS.out.below (HB.out.trans (hb1.mono HB.out.size))
  · intro hk
    have h3 := hF2 _ hk
    simp only [World.size_alloc] at h3
    omega
  · rw [hb1.cell (by simp; omega)]; go_simp
  · rw [hb1.cell (by simp)]; go_simp
  intro e w1 hm
  obtain ⟨hb, v1, rfl, hv1, ho⟩ := hm
  have HO := Lib.hid ho
  clear ho
  go_wp2_with fail
  go_ret
  exact Made.of_below HB.out ⟨hb, v1, rfl, hv1, HO.out⟩

set_option maxRecDepth 100000 in
theorem pkFault (w : World) (k : Nat) (a b c : ByteArray) (hk : k ≤ 2147483647) (ha : a.size ≤ 100) (hb : b.size ≤ 100) (hc : c.size ≤ 100) :
    Calls Try.prog 29 #[.agg (mExcVals k a b c).toArray] w (Made w (mExcBytes k a b c)) := by
  have hE := fun w1 s hs => putAwareExc w1 s k a b c hk ha hb hc hs
  have HE := Lib.hid hE
  clear hE ha hb hc hk
  unfold mExcVals at HE ⊢
  go_enter Try.func29, Try.ntmps29
  go_wp2_with fail
  refine (HE.out _ (w.heap.size + 1) ?_).mono ?_
  · have := rowIs_new (w.alloc (.cells #[.int .i64 (k : Nat), .string a, .string b, .string c] 57)) [.int .i64 (k : Nat), .string a, .string b, .string c] 106
    simpa using this
  rintro e w1 ⟨hb, v1, rfl, hv1, ho⟩
  have HO := Lib.hid ho
  clear ho
  go_wp2_with fail
  go_ret
  exact Made.of_below (((Below.refl _ w).alloc (Nat.le_refl _) _).alloc (by simp) _) ⟨hb, v1, rfl, hv1, HO.out⟩

/-! ### Reading -/
set_option maxRecDepth 100000 in
theorem excGet (w : World) (F D : Nat → Prop) (r q p : Nat) (rest : List UInt8) (k : Nat) (a b c : ByteArray) (hk : k ≤ 2147483647) (ha : a.size ≤ 100) (hb : b.size ≤ 100) (hc : c.size ≤ 100) (hrl : rest.length ≤ 100)
    (h : Ready w F D r q 106 4 (mExcBytes k a b c ++ rest)) (h1 : w.cell? ⟨p, 0, none⟩ = some (.iface 103 (.pointer (some ⟨q, 0, none⟩)))) (h2 : w.cell? ⟨p + 1, 0, none⟩ = some (.int .i64 0)) :
    Calls Try.prog 108 #[.pointer (some ⟨r, 0, none⟩), .pointer (some ⟨p, 0, none⟩), .pointer (some ⟨p + 1, 0, none⟩)] w (DecOk w F D r q 106 rest [.int .i64 (k : Nat), .string ⟨a.data.toList.toArray⟩, .string ⟨b.data.toList.toArray⟩, .string ⟨c.data.toList.toArray⟩]) := by
  have hE := fun w' => mExcDecode w F D r q rest k a b c hk ha hb hc w' hrl h
  have HE := Lib.hid hE
  clear hE h
  go_enter Try.func108, Try.ntmps108
  go_wp2_with fail
  refine (HE.out 0).mono ?_
  rintro e w' ⟨rfl, hp⟩
  have HP := Lib.hid hp
  clear hp
  go_wp2_with fail
  go_ret
  exact ⟨rfl, HP.out⟩
set_option maxRecDepth 100000 in
theorem excGet_bad (w : World) (F D : Nat → Prop) (r q p : Nat) (bs : List UInt8) (k : Nat) (a b c : ByteArray) (hk : k ≤ 2147483647) (ha : a.size ≤ 100) (hb : b.size ≤ 100) (hc : c.size ≤ 100) (hs : Short bs (mExcBytes k a b c))
    (h : Ready w F D r q 106 4 bs) (h1 : w.cell? ⟨p, 0, none⟩ = some (.iface 103 (.pointer (some ⟨q, 0, none⟩)))) (h2 : w.cell? ⟨p + 1, 0, none⟩ = some (.int .i64 0)) :
    Calls Try.prog 108 #[.pointer (some ⟨r, 0, none⟩), .pointer (some ⟨p, 0, none⟩), .pointer (some ⟨p + 1, 0, none⟩)] w (DecBad w F q) := by
  have hE := fun w' => mExcShort w F D r q bs k a b c hk ha hb hc w' hs h
  have HE := Lib.hid hE
  clear hE h hs
  go_enter Try.func108, Try.ntmps108
  go_wp2_with fail
  refine (HE.out 0).mono ?_
  rintro e w' ⟨a1, rfl, hp⟩
  have HP := Lib.hid hp
  clear hp
  go_wp2_with fail
  go_ret
  exact ⟨_, rfl, HP.out⟩

set_option maxRecDepth 100000 in
theorem gotAwareExc (w : World) (v : Value) (q : Nat) (rest : List UInt8) (k : Nat) (a b c : ByteArray) (hk : k ≤ 2147483647) (ha : a.size ≤ 100) (hb : b.size ≤ 100) (hc : c.size ≤ 100) (hrl : rest.length ≤ 100)
    (all : List UInt8) (hall : all = mExcBytes k a b c ++ rest) (hv : BytesAt w v all) (hD : ∀ g, v.ownBlock = some g → g < w.heap.size ∧ g ≠ q)
    (hq : ∃ olds : List Value, olds.length = 4 ∧ w.heap[q]? = some (.cells olds.toArray 106 (0, 0))) :
    Calls Try.prog 57 #[v, .int .i64 (-1), .iface 103 (.pointer (some ⟨q, 0, none⟩)), .int .i64 0] w (GotOk w q 106 rest [.int .i64 (k : Nat), .string ⟨a.data.toList.toArray⟩, .string ⟨b.data.toList.toArray⟩, .string ⟨c.data.toList.toArray⟩]) := by
  have hE := fun w1 F D r h h1 h2 => excGet w1 F D r q w.heap.size rest k a b c hk ha hb hc hrl h h1 h2
  rw [← hall] at hE
  have HE := Lib.hid hE
  have HD := Lib.hid hD
  obtain ⟨olds, hol, hq1⟩ := hq
  have HQ := Lib.hid hq1
  have hql := (Array.getElem?_eq_some_iff.1 hq1).1
  clear hE ha hb hc hk hD hq1 hall
  obtain ⟨p, cp, rfl⟩ := hv.slice
  go_enter Try.func57, Try.ntmps57
  go_wp2_with fail
  refine (gotC_ok _ _ _ _ all rest q 4 106 [.int .i64 (k : Nat), .string ⟨a.data.toList.toArray⟩, .string ⟨b.data.toList.toArray⟩, .string ⟨c.data.toList.toArray⟩] 108 ((hv.alloc _).alloc _) (fun g h => by have := HD.out g h; simp only [World.size_alloc]; omega) ⟨olds, hol, row_two HQ.out⟩ own_profGet fun w1 F D r h hb1 => HE.out w1 F D r h ?_ ?_).mono ?_
  · rw [hb1.cell (by simp; omega)]; go_simp
  · rw [hb1.cell (by simp)]; go_simp
  rintro e w1 ⟨rfl, hc1, hq1⟩
  have HP := Lib.hid (And.intro (chg_of_two hc1) hq1)
  clear hc1 hq1
  go_wp2_with fail
  go_ret2
  exact ⟨rfl, HP.out⟩

set_option maxRecDepth 100000 in
theorem gotAwareExc_bad (w : World) (v : Value) (q : Nat) (k : Nat) (a b c : ByteArray) (hk : k ≤ 2147483647) (ha : a.size ≤ 100) (hb : b.size ≤ 100) (hc : c.size ≤ 100)
    (all : List UInt8) (hs : Short all (mExcBytes k a b c)) (hv : BytesAt w v all) (hD : ∀ g, v.ownBlock = some g → g < w.heap.size ∧ g ≠ q)
    (hq : ∃ olds : List Value, olds.length = 4 ∧ w.heap[q]? = some (.cells olds.toArray 106 (0, 0))) :
    Calls Try.prog 57 #[v, .int .i64 (-1), .iface 103 (.pointer (some ⟨q, 0, none⟩)), .int .i64 0] w (GotBad w q) := by
  have hE := fun w1 F D r1 h h1 h2 => excGet_bad w1 F D r1 q w.heap.size all k a b c hk ha hb hc hs h h1 h2
  have HE := Lib.hid hE
  have HD := Lib.hid hD
  obtain ⟨olds, hol, hq1⟩ := hq
  have HQ := Lib.hid hq1
  have hql := (Array.getElem?_eq_some_iff.1 hq1).1
  clear hE ha hb hc hk hD hq1 hs
  obtain ⟨p, cp, rfl⟩ := hv.slice
  go_enter Try.func57, Try.ntmps57
  go_wp2_with fail
  refine (gotC_bad _ _ _ _ all q 4 106 108 ((hv.alloc _).alloc _) (fun g h => by have := HD.out g h; simp only [World.size_alloc]; omega) ⟨olds, hol, row_two HQ.out⟩ own_profGet fun w1 F D r h hb1 => HE.out w1 F D r h ?_ ?_).mono ?_
  · rw [hb1.cell (by simp; omega)]; go_simp
  · rw [hb1.cell (by simp)]; go_simp
  rintro e w1 ⟨rfl, hc1⟩
  have HP := Lib.hid (chg_of_two hc1)
  clear hc1
  go_wp2_with fail
  go_ret2
  exact ⟨rfl, HP.out⟩

set_option maxRecDepth 100000 in
theorem pkFaultGet (w : World) (v : Value) (rest : List UInt8) (k : Nat) (a b c : ByteArray) (hk : k ≤ 2147483647) (ha : a.size ≤ 100) (hb : b.size ≤ 100) (hc : c.size ≤ 100) (hrl : rest.length ≤ 100)
    (all : List UInt8) (hall : all = mExcBytes k a b c ++ rest) (hv : BytesAt w v all) (hD : ∀ g, v.ownBlock = some g → g < w.heap.size) :
    Calls Try.prog 31 #[v] w fun e w' => e = .returned (.tuple #[.agg (mExcVals k a b c).toArray, .int .i64 rest.length, .bool true]) ∧ Below w.heap.size w w' := by
  have hE := fun w1 q hv1 hD1 hq1 => gotAwareExc w1 v q rest k a b c hk ha hb hc hrl all hall hv1 hD1 hq1
  have HE := Lib.hid hE
  have HD := Lib.hid hD
  have hw64 := wrap64_small hk
  clear hE ha hb hc hk hD hall
  obtain ⟨p, cp, rfl⟩ := hv.slice
  unfold mExcVals
  go_enter Try.func31, Try.ntmps31
  go_wp2_with fail
  refine (HE.out _ (w.heap.size + 1) ((hv.alloc _).alloc _) (fun g h => by have := HD.out g h; simp only [World.size_alloc]; omega) ?_).mono ?_
  · refine ⟨[.int .i64 0, .string ⟨#[]⟩, .string ⟨#[]⟩, .string ⟨#[]⟩], rfl, ?_⟩
    have := heap_alloc_new (w.alloc (.cells #[.int .i64 0, .string ⟨#[]⟩, .string ⟨#[]⟩, .string ⟨#[]⟩] 57)) (.cells #[.int .i64 0, .string ⟨#[]⟩, .string ⟨#[]⟩, .string ⟨#[]⟩] 106)
    simpa using this
  rintro e w1 ⟨rfl, hc1, hq1⟩
  have hs1 := hc1.size
  simp at hs1
  obtain ⟨x0, x1, x2, x3⟩ : (w1.cell? ⟨w.heap.size + 1, 0, none⟩ = some (.int .i64 k)) ∧ (w1.cell? ⟨w.heap.size + 1, 1, none⟩ = some (.string a)) ∧ (w1.cell? ⟨w.heap.size + 1, 2, none⟩ = some (.string b)) ∧ (w1.cell? ⟨w.heap.size + 1, 3, none⟩ = some (.string c)) := by
    simp [World.cell?, hq1]
  have hq0 : w1.heap[w.heap.size]? = some (.cells ([.int .i64 0, .string ⟨#[]⟩, .string ⟨#[]⟩, .string ⟨#[]⟩] : List Value).toArray 57 (0, 0)) := by
    rw [hc1.block _ (by simp; omega) (by omega), Below.heap_alloc _ _ _ (by simp)]; exact heap_alloc_new _ _
  have z : ∀ j, w1.frozen? ⟨w.heap.size, j, none⟩ = false := fun j => by simp [World.frozen?, hq0]
  obtain ⟨y0, y1, y2, y3⟩ : (w1.cell? ⟨w.heap.size, 0, none⟩ = some (.int .i64 0)) ∧ (w1.cell? ⟨w.heap.size, 1, none⟩ = some (.string ⟨#[]⟩)) ∧ (w1.cell? ⟨w.heap.size, 2, none⟩ = some (.string ⟨#[]⟩)) ∧ (w1.cell? ⟨w.heap.size, 3, none⟩ = some (.string ⟨#[]⟩)) := by
    simp [World.cell?, hq0]
  have HB := Lib.hid (chg_below (((Below.refl _ w).alloc (Nat.le_refl _) _).alloc (by simp) _) hc1 (by omega))
  clear hq0 hq1 hc1
  go_wp2_with fail
  refine bodyPost_ret (v := .tuple #[.agg #[.int .i64 (k : Nat), .string a, .string b, .string c], .int .i64 rest.length, .bool true]) (by simp [results, Try.results31, go_sem, y0, y1, y2, y3]) rfl ⟨rfl, ?_⟩
  exact (((HB.out.setCell (Nat.le_refl _) _).setCell (Nat.le_refl _) _).setCell (Nat.le_refl _) _).setCell (Nat.le_refl _) _

set_option maxRecDepth 100000 in
theorem pkFaultGet_bad (w : World) (v : Value) (k : Nat) (a b c : ByteArray) (hk : k ≤ 2147483647) (ha : a.size ≤ 100) (hb : b.size ≤ 100) (hc : c.size ≤ 100)
    (all : List UInt8) (hs : Short all (mExcBytes k a b c)) (hv : BytesAt w v all) (hD : ∀ g, v.ownBlock = some g → g < w.heap.size) :
    Calls Try.prog 31 #[v] w fun e w' => e = .returned (.tuple #[.agg #[.int .i64 0, .string ⟨#[]⟩, .string ⟨#[]⟩, .string ⟨#[]⟩], .int .i64 0, .bool false]) ∧ Below w.heap.size w w' := by
  have hE := fun w1 q hv1 hD1 hq1 => gotAwareExc_bad w1 v q k a b c hk ha hb hc all hs hv1 hD1 hq1
  have HE := Lib.hid hE
  have HD := Lib.hid hD
  clear hE ha hb hc hk hD hs
  obtain ⟨p, cp, rfl⟩ := hv.slice
  go_enter Try.func31, Try.ntmps31
  go_wp2_with fail
  refine (HE.out _ (w.heap.size + 1) ((hv.alloc _).alloc _) (fun g h => by have := HD.out g h; simp only [World.size_alloc]; omega) ?_).mono ?_
  · refine ⟨[.int .i64 0, .string ⟨#[]⟩, .string ⟨#[]⟩, .string ⟨#[]⟩], rfl, ?_⟩
    have := heap_alloc_new (w.alloc (.cells #[.int .i64 0, .string ⟨#[]⟩, .string ⟨#[]⟩, .string ⟨#[]⟩] 57)) (.cells #[.int .i64 0, .string ⟨#[]⟩, .string ⟨#[]⟩, .string ⟨#[]⟩] 106)
    simpa using this
  rintro e w1 ⟨rfl, hc1⟩
  have hs1 := hc1.size
  simp at hs1
  have hq0 : w1.heap[w.heap.size]? = some (.cells ([.int .i64 0, .string ⟨#[]⟩, .string ⟨#[]⟩, .string ⟨#[]⟩] : List Value).toArray 57 (0, 0)) := by
    rw [hc1.block _ (by simp; omega) (by omega), Below.heap_alloc _ _ _ (by simp)]; exact heap_alloc_new _ _
  have z : ∀ j, w1.frozen? ⟨w.heap.size, j, none⟩ = false := fun j => by simp [World.frozen?, hq0]
  obtain ⟨y0, y1, y2, y3⟩ : (w1.cell? ⟨w.heap.size, 0, none⟩ = some (.int .i64 0)) ∧ (w1.cell? ⟨w.heap.size, 1, none⟩ = some (.string ⟨#[]⟩)) ∧ (w1.cell? ⟨w.heap.size, 2, none⟩ = some (.string ⟨#[]⟩)) ∧ (w1.cell? ⟨w.heap.size, 3, none⟩ = some (.string ⟨#[]⟩)) := by
    simp [World.cell?, hq0]
  have HB := Lib.hid (chg_below (((Below.refl _ w).alloc (Nat.le_refl _) _).alloc (by simp) _) hc1 (by omega))
  clear hq0 hc1
  go_wp2_with fail
  refine bodyPost_ret (v := .tuple #[.agg #[.int .i64 0, .string ⟨#[]⟩, .string ⟨#[]⟩, .string ⟨#[]⟩], .int .i64 0, .bool false]) (by simp [results, Try.results31, go_sem, y0, y1, y2, y3]) rfl ⟨rfl, ?_⟩
  exact (((HB.out.setCell (Nat.le_refl _) _).setCell (Nat.le_refl _) _).setCell (Nat.le_refl _) _).setCell (Nat.le_refl _) _
end Go.Proofs.Ytlohpmncagfecaa
