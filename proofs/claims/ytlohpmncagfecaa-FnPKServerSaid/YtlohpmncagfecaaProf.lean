/- impl.PKProfile, impl.PKProfileGet. -/
import Derived.Test.YtlohpmncagfecaaMProf
namespace Go.Proofs.Ytlohpmncagfecaa
open Go.RowKit

theorem own_profC : Own 107 := fun _ _ => by kernel_rfl
theorem own_profG : Own 108 := fun _ _ => by kernel_rfl

set_option maxRecDepth 100000 in
theorem profPut (w : World) (F : Nat → Prop) (p q : Nat) (a b c d : Nat) (x y : Bool) (ha : a < 18446744073709551616) (hb : b < 18446744073709551616) (hc : c < 18446744073709551616) (hd : d < 18446744073709551616)
    (h : BufAt w F 119 p []) (hF : In F w) (h1 : w.cell? ⟨q, 0, none⟩ = some (.iface 96 (.agg (mProfVals a b c x d y).toArray))) (h2 : w.cell? ⟨q + 1, 0, none⟩ = some (.int .i64 0)) :
    Calls Try.prog 107 #[.pointer (some ⟨p, 0, none⟩), .pointer (some ⟨q, 0, none⟩), .pointer (some ⟨q + 1, 0, none⟩)] w (Put w F 119 p (6 :: mProfBytes a b c x d y)) := by
  have hE := fun w' => mProfEncode w F p a b c x d y ha hb hc hd w' h hF
  have HE := Lib.hid hE
  clear hE h hF
  unfold mProfVals at h1 HE
  go_enter Try.func107, Try.ntmps107
  go_wp2_with fail
  refine (HE.out 0).mono ?_
  rintro e w' ⟨rfl, hp⟩
  go_wp2_with fail
  go_returns
  exact ⟨rfl, hp⟩
theorem own_profPut : Own 107 := fun _ _ => by kernel_rfl

def iProf (a b c d : Nat) (x y : Bool) : List Value := [.int .u64 a, .int .u64 b, .int .u64 c, .int .u64 d, .bool x, .bool y]

set_option maxRecDepth 100000 in
theorem putAwareProf (w : World) (a b c d : Nat) (x y : Bool) (ha : a < 18446744073709551616) (hb : b < 18446744073709551616) (hc : c < 18446744073709551616) (hd : d < 18446744073709551616) :
    Calls Try.prog 55 #[.iface 96 (.agg (mProfVals a b c x d y).toArray), .int .i64 0] w (Made w (6 :: mProfBytes a b c x d y)) := by
  have hE := fun w1 F p h hF h1 h2 => profPut w1 F p w.heap.size a b c d x y ha hb hc hd h hF h1 h2
  have HE := Lib.hid hE
  clear hE ha hb hc hd
  have HB := Lib.hid (((Below.refl _ w).alloc (Nat.le_refl _) (.cells #[.iface 96 (.agg (mProfVals a b c x d y).toArray)] 177)).alloc (by simp) (.cells #[.int .i64 0] 3))
  go_enter Try.func55, Try.ntmps55
  go_wp2_with fail
  refine (encodedC _ _ _ _ (6 :: mProfBytes a b c x d y) own_profPut fun w1 F p h hF hF2 hb1 => HE.out w1 F p h hF ?_ ?_).mono ?_
  · rw [hb1.cell (by simp; omega)]; go_simp
  · rw [hb1.cell (by simp)]; go_simp
  intro e w1 hm
  obtain ⟨hb, v1, rfl, hv1, ho⟩ := hm
  have HO := Lib.hid ho
  clear ho
  go_wp2_with fail
  go_ret
  exact Made.of_below HB.out ⟨hb, v1, rfl, hv1, HO.out⟩

set_option maxRecDepth 100000 in
theorem pkProfile (w : World) (a b c d : Nat) (x y : Bool) (ha : a < 18446744073709551616) (hb : b < 18446744073709551616) (hc : c < 18446744073709551616) (hd : d < 18446744073709551616) :
    Calls Try.prog 23 #[.agg (iProf a b c d x y).toArray] w (Made w (6 :: mProfBytes a b c x d y)) := by
  have hE := fun w1 => putAwareProf w1 a b c d x y ha hb hc hd
  have HE := Lib.hid hE
  clear hE ha hb hc hd
  unfold mProfVals at HE
  unfold iProf
  go_enter Try.func23, Try.ntmps23
  go_wp2_with fail
  refine (HE.out _).mono ?_
  rintro e w1 ⟨hb, v1, rfl, hv1, ho⟩
  have HO := Lib.hid ho
  clear ho
  go_wp2_with fail
  go_ret
  exact Made.of_below ((Below.refl _ w).alloc (Nat.le_refl _) _) ⟨hb, v1, rfl, hv1, HO.out⟩

/-! ### Reading -/
set_option maxRecDepth 100000 in
theorem profGet (w : World) (F D : Nat → Prop) (r q p : Nat) (rest : List UInt8) (a b c d : Nat) (x y : Bool) (ha : a < 18446744073709551616) (hb : b < 18446744073709551616) (hc : c < 18446744073709551616) (hd : d < 18446744073709551616) (hrl : rest.length ≤ 100)
    (h : Ready w F D r q 96 6 (mProfBytes a b c x d y ++ rest)) (h1 : w.cell? ⟨p, 0, none⟩ = some (.iface 100 (.pointer (some ⟨q, 0, none⟩)))) (h2 : w.cell? ⟨p + 1, 0, none⟩ = some (.int .i64 0)) :
    Calls Try.prog 108 #[.pointer (some ⟨r, 0, none⟩), .pointer (some ⟨p, 0, none⟩), .pointer (some ⟨p + 1, 0, none⟩)] w (DecOk w F D r q 96 rest (mProfVals a b c x d y)) := by
  have hE := fun w' => mProfDecode w F D r q rest a b c x d y ha hb hc hd w' hrl h
  have HE := Lib.hid hE
  clear hE h
  go_enter Try.func108, Try.ntmps108
  go_wp2_with fail
  refine (HE.out 0).mono ?_
  rintro e w' ⟨rfl, hp⟩
  have HP := Lib.hid hp
  clear hp
  go_wp2_with fail
  go_ret
  exact ⟨rfl, HP.out⟩
set_option maxRecDepth 100000 in
theorem profGet_bad (w : World) (F D : Nat → Prop) (r q p : Nat) (bs : List UInt8) (a b c d : Nat) (x y : Bool) (ha : a < 18446744073709551616) (hb : b < 18446744073709551616) (hc : c < 18446744073709551616) (hd : d < 18446744073709551616) (hs : Short bs (mProfBytes a b c x d y))
    (h : Ready w F D r q 96 6 bs) (h1 : w.cell? ⟨p, 0, none⟩ = some (.iface 100 (.pointer (some ⟨q, 0, none⟩)))) (h2 : w.cell? ⟨p + 1, 0, none⟩ = some (.int .i64 0)) :
    Calls Try.prog 108 #[.pointer (some ⟨r, 0, none⟩), .pointer (some ⟨p, 0, none⟩), .pointer (some ⟨p + 1, 0, none⟩)] w (DecBad w F q) := by
  have hE := fun w' => mProfShort w F D r q bs a b c x d y ha hb hc hd w' hs h
  have HE := Lib.hid hE
  clear hE h hs
  go_enter Try.func108, Try.ntmps108
  go_wp2_with fail
  refine (HE.out 0).mono ?_
  rintro e w' ⟨a1, rfl, hp⟩
  have HP := Lib.hid hp
  clear hp
  go_wp2_with fail
  go_ret
  exact ⟨_, rfl, HP.out⟩
theorem own_profGet : Own 108 := fun _ _ => by kernel_rfl

theorem chg_of_two {w w' : World} {q : Nat} {o1 o2 : Obj} (h : Chg (· = q) ((w.alloc o1).alloc o2) w') : Chg (· = q) w w' :=
  (((Chg.refl (· = q) w).alloc _).alloc _).trans h fun _ _ h => h

theorem row_two {w : World} {q : Nat} {o1 o2 o : Obj} (h : w.heap[q]? = some o) : ((w.alloc o1).alloc o2).heap[q]? = some o := by
  have hl := (Array.getElem?_eq_some_iff.1 h).1
  rw [Below.heap_alloc _ _ _ (by simp; omega), Below.heap_alloc _ _ _ hl]; exact h

theorem gotK_ok' (w : World) (k : UInt8) (n0 : Int) (hn0 : n0 = (k.toNat : Int)) (v c1 c2 : Value) (bs rest all : List UInt8) (hall : all = k :: bs) (q n : Nat) (T : TypeId) (fields : List Value) (g : FuncId) (hv : BytesAt w v all) (hm : bs.length ≤ 1000000) (hD : ∀ g, v.ownBlock = some g → g < w.heap.size ∧ g ≠ q)
    (hq : ∃ olds : List Value, olds.length = n ∧ w.heap[q]? = some (.cells olds.toArray T (0, 0))) (hg : Own g)
    (H : ∀ w1 F D r, Ready w1 F D r q T n bs → Below w.heap.size w w1 → Calls Try.prog g #[.pointer (some ⟨r, 0, none⟩), c1, c2] w1 (DecOk w1 F D r q T rest fields)) :
    Calls Try.prog 47 #[v, .int .i64 n0, .func (.func g) #[] #[c1, c2]] w (GotOk w q T rest fields) := by
  subst hn0 hall
  exact gotK_ok w k v c1 c2 bs rest q n T fields g hv hm hD hq hg H
theorem gotK_bad' (w : World) (k : UInt8) (n0 : Int) (hn0 : n0 = (k.toNat : Int)) (v c1 c2 : Value) (bs all : List UInt8) (hall : all = k :: bs) (q n : Nat) (T : TypeId) (g : FuncId) (hv : BytesAt w v all) (hm : bs.length ≤ 1000000) (hD : ∀ g, v.ownBlock = some g → g < w.heap.size ∧ g ≠ q)
    (hq : ∃ olds : List Value, olds.length = n ∧ w.heap[q]? = some (.cells olds.toArray T (0, 0))) (hg : Own g)
    (H : ∀ w1 F D r, Ready w1 F D r q T n bs → Below w.heap.size w w1 → Calls Try.prog g #[.pointer (some ⟨r, 0, none⟩), c1, c2] w1 (DecBad w1 F q)) :
    Calls Try.prog 47 #[v, .int .i64 n0, .func (.func g) #[] #[c1, c2]] w (GotBad w q) := by
  subst hn0 hall
  exact gotK_bad w k v c1 c2 bs q n T g hv hm hD hq hg H
theorem gotK_none' (w : World) (k : UInt8) (n0 : Int) (hn0 : n0 = (k.toNat : Int)) (v c1 c2 : Value) (all : List UInt8) (hall : all = []) (q : Nat) (g : FuncId) (hv : BytesAt w v all) (hD : ∀ g, v.ownBlock = some g → g < w.heap.size ∧ g ≠ q) :
    Calls Try.prog 47 #[v, .int .i64 n0, .func (.func g) #[] #[c1, c2]] w (GotBad w q) := by
  subst hn0 hall
  exact gotK_none w k v c1 c2 q g hv hD

set_option maxRecDepth 100000 in
theorem gotAwareProf (w : World) (v : Value) (q : Nat) (rest : List UInt8) (a b c d : Nat) (x y : Bool) (ha : a < 18446744073709551616) (hb : b < 18446744073709551616) (hc : c < 18446744073709551616) (hd : d < 18446744073709551616) (hrl : rest.length ≤ 100)
    (all : List UInt8) (hall : all = 6 :: (mProfBytes a b c x d y ++ rest)) (hv : BytesAt w v all) (hD : ∀ g, v.ownBlock = some g → g < w.heap.size ∧ g ≠ q)
    (hq : ∃ olds : List Value, olds.length = 6 ∧ w.heap[q]? = some (.cells olds.toArray 96 (0, 0))) :
    Calls Try.prog 57 #[v, .int .i64 6, .iface 100 (.pointer (some ⟨q, 0, none⟩)), .int .i64 0] w (GotOk w q 96 rest (mProfVals a b c x d y)) := by
  have hE := fun w1 F D r h h1 h2 => profGet w1 F D r q w.heap.size rest a b c d x y ha hb hc hd hrl h h1 h2
  have HE := Lib.hid hE
  have HL := Lib.hid (mProfLen a b c x d y ha hb hc hd)
  have HA := Lib.hid hall
  have HD := Lib.hid hD
  obtain ⟨olds, hol, hq1⟩ := hq
  have HQ := Lib.hid hq1
  have hql := (Array.getElem?_eq_some_iff.1 hq1).1
  clear hE ha hb hc hd hD hq1 hall
  obtain ⟨p, cp, rfl⟩ := hv.slice
  go_enter Try.func57, Try.ntmps57
  go_wp2_with fail
  refine (gotK_ok' _ 6 6 (by decide) _ _ _ (mProfBytes a b c x d y ++ rest) rest _ HA.out q 6 96 (mProfVals a b c x d y) 108 ((hv.alloc _).alloc _) (by have := HL.out; rw [List.length_append]; omega) (fun g h => by have := HD.out g h; simp only [World.size_alloc]; omega) ⟨olds, hol, row_two HQ.out⟩ own_profGet fun w1 F D r h hb1 => HE.out w1 F D r h ?_ ?_).mono ?_
  · rw [hb1.cell (by simp; omega)]; go_simp
  · rw [hb1.cell (by simp)]; go_simp
  rintro e w1 ⟨rfl, hc1, hq1⟩
  have HP := Lib.hid (And.intro (chg_of_two hc1) hq1)
  clear hc1 hq1
  go_wp2_with fail
  go_ret2
  exact ⟨rfl, HP.out⟩

theorem short_cons {all bs : List UInt8} {k : UInt8} (h : Short all (k :: bs)) : all = [] ∨ ∃ r, all = k :: r ∧ Short r bs := by
  obtain ⟨t, ht, he⟩ := h
  cases all with
  | nil => exact .inl rfl
  | cons z r =>
    have h1 : k = z ∧ bs = r ++ t := by simpa using he
    obtain ⟨rfl, h1⟩ := h1
    exact .inr ⟨r, rfl, t, ht, h1⟩

set_option maxRecDepth 100000 in
theorem gotAwareProf_bad (w : World) (v : Value) (q : Nat) (a b c d : Nat) (x y : Bool) (ha : a < 18446744073709551616) (hb : b < 18446744073709551616) (hc : c < 18446744073709551616) (hd : d < 18446744073709551616)
    (all : List UInt8) (hs : Short all (6 :: mProfBytes a b c x d y)) (hv : BytesAt w v all) (hD : ∀ g, v.ownBlock = some g → g < w.heap.size ∧ g ≠ q)
    (hq : ∃ olds : List Value, olds.length = 6 ∧ w.heap[q]? = some (.cells olds.toArray 96 (0, 0))) :
    Calls Try.prog 57 #[v, .int .i64 6, .iface 100 (.pointer (some ⟨q, 0, none⟩)), .int .i64 0] w (GotBad w q) := by
  have hE := fun r hr w1 F D r1 h h1 h2 => profGet_bad w1 F D r1 q w.heap.size r a b c d x y ha hb hc hd hr h h1 h2
  have HE := Lib.hid hE
  have HL := Lib.hid (mProfLen a b c x d y ha hb hc hd)
  have HD := Lib.hid hD
  obtain ⟨olds, hol, hq1⟩ := hq
  have HQ := Lib.hid hq1
  have hql := (Array.getElem?_eq_some_iff.1 hq1).1
  clear hE ha hb hc hd hD hq1
  obtain ⟨p, cp, rfl⟩ := hv.slice
  rcases short_cons hs with h0 | ⟨r0, h0, hs0⟩
  · have HA := Lib.hid h0
    clear h0 hs
    go_enter Try.func57, Try.ntmps57
    go_wp2_with fail
    refine (gotK_none' _ 6 6 (by decide) _ _ _ _ HA.out q 108 ((hv.alloc _).alloc _) (fun g h => by have := HD.out g h; simp only [World.size_alloc]; omega)).mono ?_
    rintro e w1 ⟨rfl, hc1⟩
    have HP := Lib.hid (chg_of_two hc1)
    clear hc1
    go_wp2_with fail
    go_ret2
    exact ⟨rfl, HP.out⟩
  · have HA := Lib.hid h0
    have HS := Lib.hid hs0
    have hl0 := hs0.lt
    clear h0 hs hs0
    go_enter Try.func57, Try.ntmps57
    go_wp2_with fail
    refine (gotK_bad' _ 6 6 (by decide) _ _ _ r0 _ HA.out q 6 96 108 ((hv.alloc _).alloc _) (by have := HL.out; omega) (fun g h => by have := HD.out g h; simp only [World.size_alloc]; omega) ⟨olds, hol, row_two HQ.out⟩ own_profGet fun w1 F D r h hb1 => HE.out _ HS.out w1 F D r h ?_ ?_).mono ?_
    · rw [hb1.cell (by simp; omega)]; go_simp
    · rw [hb1.cell (by simp)]; go_simp
    rintro e w1 ⟨rfl, hc1⟩
    have HP := Lib.hid (chg_of_two hc1)
    clear hc1
    go_wp2_with fail
    go_ret2
    exact ⟨rfl, HP.out⟩

set_option maxRecDepth 100000 in
theorem pkProfileGet (w : World) (v : Value) (rest : List UInt8) (a b c d : Nat) (x y : Bool) (ha : a < 18446744073709551616) (hb : b < 18446744073709551616) (hc : c < 18446744073709551616) (hd : d < 18446744073709551616) (hrl : rest.length ≤ 100)
    (all : List UInt8) (hall : all = 6 :: (mProfBytes a b c x d y ++ rest)) (hv : BytesAt w v all) (hD : ∀ g, v.ownBlock = some g → g < w.heap.size) :
    Calls Try.prog 26 #[v] w fun e w' => e = .returned (.tuple #[.agg (iProf a b c d x y).toArray, .int .i64 rest.length, .bool true]) ∧ Below w.heap.size w w' := by
  have hE := fun w1 q hv1 hD1 hq1 => gotAwareProf w1 v q rest a b c d x y ha hb hc hd hrl all hall hv1 hD1 hq1
  have HE := Lib.hid hE
  have HD := Lib.hid hD
  clear hE ha hb hc hd hD hall
  obtain ⟨p, cp, rfl⟩ := hv.slice
  unfold mProfVals at HE
  unfold iProf
  go_enter Try.func26, Try.ntmps26
  go_wp2_with fail
  refine (HE.out _ (w.heap.size + 1) ((hv.alloc _).alloc _) (fun g h => by have := HD.out g h; simp only [World.size_alloc]; omega) ?_).mono ?_
  · refine ⟨[.int .u64 0, .int .u64 0, .int .u64 0, .bool false, .int .u64 0, .bool false], rfl, ?_⟩
    have := heap_alloc_new (w.alloc (.cells #[.int .u64 0, .int .u64 0, .int .u64 0, .int .u64 0, .bool false, .bool false] 50)) (.cells #[.int .u64 0, .int .u64 0, .int .u64 0, .bool false, .int .u64 0, .bool false] 96)
    simpa using this
  rintro e w1 ⟨rfl, hc1, hq1⟩
  have hs1 := hc1.size
  simp at hs1
  obtain ⟨x0, x1, x2, x3, x4, x5⟩ : (w1.cell? ⟨w.heap.size + 1, 0, none⟩ = some (.int .u64 a)) ∧ (w1.cell? ⟨w.heap.size + 1, 1, none⟩ = some (.int .u64 b)) ∧ (w1.cell? ⟨w.heap.size + 1, 2, none⟩ = some (.int .u64 c)) ∧ (w1.cell? ⟨w.heap.size + 1, 3, none⟩ = some (.bool x)) ∧ (w1.cell? ⟨w.heap.size + 1, 4, none⟩ = some (.int .u64 d)) ∧ (w1.cell? ⟨w.heap.size + 1, 5, none⟩ = some (.bool y)) := by
    simp [World.cell?, hq1]
  have hq0 : w1.heap[w.heap.size]? = some (.cells [Value.int .u64 0, .int .u64 0, .int .u64 0, .int .u64 0, .bool false, .bool false].toArray 50 (0, 0)) := by
    rw [hc1.block _ (by simp; omega) (by omega), Below.heap_alloc _ _ _ (by simp)]; exact heap_alloc_new _ _
  have z : ∀ j, w1.frozen? ⟨w.heap.size, j, none⟩ = false := fun j => by simp [World.frozen?, hq0]
  obtain ⟨y0, y1, y2, y3, y4, y5⟩ : (w1.cell? ⟨w.heap.size, 0, none⟩ = some (.int .u64 0)) ∧ (w1.cell? ⟨w.heap.size, 1, none⟩ = some (.int .u64 0)) ∧ (w1.cell? ⟨w.heap.size, 2, none⟩ = some (.int .u64 0)) ∧ (w1.cell? ⟨w.heap.size, 3, none⟩ = some (.int .u64 0)) ∧ (w1.cell? ⟨w.heap.size, 4, none⟩ = some (.bool false)) ∧ (w1.cell? ⟨w.heap.size, 5, none⟩ = some (.bool false)) := by
    simp [World.cell?, hq0]
  have HB := Lib.hid (chg_below (((Below.refl _ w).alloc (Nat.le_refl _) _).alloc (by simp) _) hc1 (by omega))
  clear hq0 hq1 hc1
  go_wp2_with fail
  refine bodyPost_ret (v := .tuple #[.agg #[.int .u64 a, .int .u64 b, .int .u64 c, .int .u64 d, .bool x, .bool y], .int .i64 rest.length, .bool true]) (by simp [results, Try.results26, go_sem, y0, y1, y2, y3, y4, y5]) rfl ⟨rfl, ?_⟩
  exact (((((HB.out.setCell (Nat.le_refl _) _).setCell (Nat.le_refl _) _).setCell (Nat.le_refl _) _).setCell (Nat.le_refl _) _).setCell (Nat.le_refl _) _).setCell (Nat.le_refl _) _

set_option maxRecDepth 100000 in
theorem pkProfileGet_bad (w : World) (v : Value) (a b c d : Nat) (x y : Bool) (ha : a < 18446744073709551616) (hb : b < 18446744073709551616) (hc : c < 18446744073709551616) (hd : d < 18446744073709551616)
    (all : List UInt8) (hs : Short all (6 :: mProfBytes a b c x d y)) (hv : BytesAt w v all) (hD : ∀ g, v.ownBlock = some g → g < w.heap.size) :
    Calls Try.prog 26 #[v] w fun e w' => e = .returned (.tuple #[.agg #[.int .u64 0, .int .u64 0, .int .u64 0, .int .u64 0, .bool false, .bool false], .int .i64 0, .bool false]) ∧ Below w.heap.size w w' := by
  have hE := fun w1 q hv1 hD1 hq1 => gotAwareProf_bad w1 v q a b c d x y ha hb hc hd all hs hv1 hD1 hq1
  have HE := Lib.hid hE
  have HD := Lib.hid hD
  clear hE ha hb hc hd hD hs
  obtain ⟨p, cp, rfl⟩ := hv.slice
  go_enter Try.func26, Try.ntmps26
  go_wp2_with fail
  refine (HE.out _ (w.heap.size + 1) ((hv.alloc _).alloc _) (fun g h => by have := HD.out g h; simp only [World.size_alloc]; omega) ?_).mono ?_
  · refine ⟨[.int .u64 0, .int .u64 0, .int .u64 0, .bool false, .int .u64 0, .bool false], rfl, ?_⟩
    have := heap_alloc_new (w.alloc (.cells #[.int .u64 0, .int .u64 0, .int .u64 0, .int .u64 0, .bool false, .bool false] 50)) (.cells #[.int .u64 0, .int .u64 0, .int .u64 0, .bool false, .int .u64 0, .bool false] 96)
    simpa using this
  rintro e w1 ⟨rfl, hc1⟩
  have hs1 := hc1.size
  simp at hs1
  have hq0 : w1.heap[w.heap.size]? = some (.cells [Value.int .u64 0, .int .u64 0, .int .u64 0, .int .u64 0, .bool false, .bool false].toArray 50 (0, 0)) := by
    rw [hc1.block _ (by simp; omega) (by omega), Below.heap_alloc _ _ _ (by simp)]; exact heap_alloc_new _ _
  have z : ∀ j, w1.frozen? ⟨w.heap.size, j, none⟩ = false := fun j => by simp [World.frozen?, hq0]
  obtain ⟨y0, y1, y2, y3, y4, y5⟩ : (w1.cell? ⟨w.heap.size, 0, none⟩ = some (.int .u64 0)) ∧ (w1.cell? ⟨w.heap.size, 1, none⟩ = some (.int .u64 0)) ∧ (w1.cell? ⟨w.heap.size, 2, none⟩ = some (.int .u64 0)) ∧ (w1.cell? ⟨w.heap.size, 3, none⟩ = some (.int .u64 0)) ∧ (w1.cell? ⟨w.heap.size, 4, none⟩ = some (.bool false)) ∧ (w1.cell? ⟨w.heap.size, 5, none⟩ = some (.bool false)) := by
    simp [World.cell?, hq0]
  have HB := Lib.hid (chg_below (((Below.refl _ w).alloc (Nat.le_refl _) _).alloc (by simp) _) hc1 (by omega))
  clear hq0 hc1
  go_wp2_with fail
  refine bodyPost_ret (v := .tuple #[.agg #[.int .u64 0, .int .u64 0, .int .u64 0, .int .u64 0, .bool false, .bool false], .int .i64 0, .bool false]) (by simp [results, Try.results26, go_sem, y0, y1, y2, y3, y4, y5]) rfl ⟨rfl, ?_⟩
  exact (((((HB.out.setCell (Nat.le_refl _) _).setCell (Nat.le_refl _) _).setCell (Nat.le_refl _) _).setCell (Nat.le_refl _) _).setCell (Nat.le_refl _) _).setCell (Nat.le_refl _) _
end Go.Proofs.Ytlohpmncagfecaa
