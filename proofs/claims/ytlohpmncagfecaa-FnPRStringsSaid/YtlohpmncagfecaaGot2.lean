/- impl.got of a closure, with and without a code. -/
import Derived.Test.YtlohpmncagfecaaGot
namespace Go.Proofs.Ytlohpmncagfecaa
open Go.RowKit

theorem encodedC (w : World) (g : FuncId) (c1 c2 : Value) (bs : List UInt8) (hg : Own g)
    (H : ∀ w1 F p, BufAt w1 F 119 p [] → In F w1 → (∀ k, F k → w.heap.size ≤ k) → Below w.heap.size w w1 → Calls Try.prog g #[.pointer (some ⟨p, 0, none⟩), c1, c2] w1 (Put w1 F 119 p bs)) :
    Calls Try.prog 41 #[.func (.func g) #[] #[c1, c2]] w (Made w bs) := by
  have HH := Lib.hid H
  clear H
  have h1 := hg #[Value.pointer (some { block := w.heap.size, off := 0 }), c1, c2] (w.alloc (Obj.cells #[Value.slice none 0 0] 119))
  go_enter Try.func41, Try.ntmps41
  go_wp2_with fail
  refine (HH.out _ _ _ (bufAt_new _ _) (fun k hk => by simp [hk]) (fun k hk => by omega) ((Below.refl _ _).alloc (Nat.le_refl _) _)).mono ?_
  rintro e w1 ⟨rfl, F', hb, hu⟩
  obtain ⟨v, hc, hbv, hown⟩ := hb.bytes
  have HO := Lib.hid hown
  have hbl := hu.chg
  clear hown
  go_wp2
  go_ret
  refine ⟨?_, v, rfl, hbv, fun k hk => ⟨?_, (HO.out k hk).2⟩⟩
  · exact (((Chg.refl (· = w.heap.size) w).alloc _).trans hbl (fun _ _ h => h)).below (Nat.le_refl _) (fun k hk => by omega)
  · rcases hu.new k (HO.out k hk).1 with h | h
    · omega
    · simp at h; omega

set_option maxRecDepth 100000 in
theorem gotC_ok (w : World) (v c1 c2 : Value) (bs rest : List UInt8) (q n : Nat) (T : TypeId) (fields : List Value) (g : FuncId) (hv : BytesAt w v bs) (hD : ∀ g, v.ownBlock = some g → g < w.heap.size ∧ g ≠ q)
    (hq : ∃ olds : List Value, olds.length = n ∧ w.heap[q]? = some (.cells olds.toArray T (0, 0))) (hg : Own g)
    (H : ∀ w1 F D r, Ready w1 F D r q T n bs → Below w.heap.size w w1 → Calls Try.prog g #[.pointer (some ⟨r, 0, none⟩), c1, c2] w1 (DecOk w1 F D r q T rest fields)) :
    Calls Try.prog 47 #[v, .int .i64 (-1), .func (.func g) #[] #[c1, c2]] w (GotOk w q T rest fields) := by
  have HH := Lib.hid H
  have HD := Lib.hid hD
  have HQ := Lib.hid hq
  have HQL := Lib.hid (show q < w.heap.size by obtain ⟨_, _, h⟩ := hq; exact (Array.getElem?_eq_some_iff.1 h).1)
  have hcf := fun W => hg #[.pointer (some ⟨w.heap.size + 1 + 1, 0, none⟩), c1, c2] W
  clear H hD hq hg
  go_enter_defers Try.func47, Try.ntmps47
  go_wp2_with fail
  refine (newReader _ v bs (hv.alloc _) (fun g h => by have := (HD.out g h).1; simp; omega)).mono ?_
  rintro e w1 ⟨rfl, hb1, hs1, hr1⟩
  simp only [World.size_alloc] at hb1 hs1 hr1 ⊢
  have hok1 : w1.cell? ⟨w.heap.size, 0, none⟩ = some (.bool false) := by rw [hb1.cell (by simp)]; go_simp
  have hof1 : w1.frozen? ⟨w.heap.size, 0, none⟩ = false := by rw [hb1.frozen (by simp)]; go_simp
  have HB1 : Hid (Below w.heap.size w w1) := ((Below.refl _ w).alloc (Nat.le_refl _) _).trans (hb1.mono (by omega))
  have hrdy : Ready w1 (fun k => k = w.heap.size + 1 ∨ k = w.heap.size + 1 + 1) (fun k => v.ownBlock = some k) (w.heap.size + 1 + 1) q T n bs :=
    ⟨⟨[], hr1⟩, by
      obtain ⟨olds, h1, h2⟩ := HQ.out
      refine ⟨olds, h1, ?_⟩
      rw [hb1.block q (by have := HQL.out; omega), Below.heap_alloc _ _ _ HQL.out]; exact h2, by have := HQL.out; omega, fun h => (HD.out q h).2 rfl⟩
  go_wp2_with fail
  refine (HH.out w1 _ _ _ hrdy HB1.out).mono ?_
  rintro e w2 ⟨rfl, F2, cur2, hr2, hq2, hc2⟩
  have hs2 := hc2.size
  have hok2 : w2.cell? ⟨w.heap.size, 0, none⟩ = some (.bool false) := by rw [hc2.cell (by simp; omega) (by have := HQL.out; simp; omega)]; exact hok1
  have hof2 : w2.frozen? ⟨w.heap.size, 0, none⟩ = false := by rw [hc2.frozen (by simp; omega) (by have := HQL.out; simp; omega)]; exact hof1
  clear hok1 hof1
  go_wp2_with fail
  refine (rdLeft _ _ _ _ rest cur2 hr2).mono ?_
  rintro e w3 ⟨rfl, rfl⟩
  go_wp2_with fail
  refine leaves_cons (f := 71) (args := #[.pointer (some ⟨w.heap.size, 0, none⟩)]) (by simp) (by simp [go_sem]) ?_
  refine (caught_idle _ _).mono ?_
  rintro e u' w3 ⟨rfl, rfl, rfl⟩
  have hcell : (w2.setCell ⟨w.heap.size, 0, none⟩ (.bool true)).cell? ⟨w.heap.size, 0, none⟩ = some (.bool true) := by go_simp
  refine ⟨.tuple #[.int .i64 rest.length, .bool true], by simp [results, Try.results47, go_sem, hcell], rfl, ?_, ?_⟩
  · have h0 : Chg (· = q) w (w.alloc (.cells #[.bool false] 4)) := (Chg.refl _ _).alloc _
    have h1 : Chg (· = q) w w1 := h0.trans (Chg.of_below (F := (· = q)) (by simpa using hb1)) (fun _ _ h => h)
    refine (h1.trans hc2 fun k hk h => ?_).setCell (.inr (Nat.le_refl _)) _
    rcases h with (h | h) | h
    · omega
    · omega
    · exact h
  · rw [Below.heap_setCell _ _ _ _ (by have := HQL.out; simp; omega)]
    exact hq2

set_option maxRecDepth 100000 in
theorem gotC_bad (w : World) (v c1 c2 : Value) (bs : List UInt8) (q n : Nat) (T : TypeId) (g : FuncId) (hv : BytesAt w v bs) (hD : ∀ g, v.ownBlock = some g → g < w.heap.size ∧ g ≠ q)
    (hq : ∃ olds : List Value, olds.length = n ∧ w.heap[q]? = some (.cells olds.toArray T (0, 0))) (hg : Own g)
    (H : ∀ w1 F D r, Ready w1 F D r q T n bs → Below w.heap.size w w1 → Calls Try.prog g #[.pointer (some ⟨r, 0, none⟩), c1, c2] w1 (DecBad w1 F q)) :
    Calls Try.prog 47 #[v, .int .i64 (-1), .func (.func g) #[] #[c1, c2]] w (GotBad w q) := by
  have HH := Lib.hid H
  have HD := Lib.hid hD
  have HQ := Lib.hid hq
  have HQL := Lib.hid (show q < w.heap.size by obtain ⟨_, _, h⟩ := hq; exact (Array.getElem?_eq_some_iff.1 h).1)
  have hcf := fun W => hg #[.pointer (some ⟨w.heap.size + 1 + 1, 0, none⟩), c1, c2] W
  clear H hD hq hg
  go_enter_defers Try.func47, Try.ntmps47
  go_wp2_with fail
  refine (newReader _ v bs (hv.alloc _) (fun g h => by have := (HD.out g h).1; simp; omega)).mono ?_
  rintro e w1 ⟨rfl, hb1, hs1, hr1⟩
  simp only [World.size_alloc] at hb1 hs1 hr1 ⊢
  have hok1 : w1.cell? ⟨w.heap.size, 0, none⟩ = some (.bool false) := by rw [hb1.cell (by simp)]; go_simp
  have hof1 : w1.frozen? ⟨w.heap.size, 0, none⟩ = false := by rw [hb1.frozen (by simp)]; go_simp
  have HB1 : Hid (Below w.heap.size w w1) := ((Below.refl _ w).alloc (Nat.le_refl _) _).trans (hb1.mono (by omega))
  have hrdy : Ready w1 (fun k => k = w.heap.size + 1 ∨ k = w.heap.size + 1 + 1) (fun k => v.ownBlock = some k) (w.heap.size + 1 + 1) q T n bs :=
    ⟨⟨[], hr1⟩, by
      obtain ⟨olds, h1, h2⟩ := HQ.out
      refine ⟨olds, h1, ?_⟩
      rw [hb1.block q (by have := HQL.out; omega), Below.heap_alloc _ _ _ HQL.out]; exact h2, by have := HQL.out; omega, fun h => (HD.out q h).2 rfl⟩
  go_wp2_with fail
  refine (HH.out w1 _ _ _ hrdy HB1.out).mono ?_
  rintro e w2 ⟨a, rfl, hc2⟩
  have hs2 := hc2.size
  have hok2 : w2.cell? ⟨w.heap.size, 0, none⟩ = some (.bool false) := by rw [hc2.cell (by simp; omega) (by have := HQL.out; simp; omega)]; exact hok1
  have hof2 : w2.frozen? ⟨w.heap.size, 0, none⟩ = false := by rw [hc2.frozen (by simp; omega) (by have := HQL.out; simp; omega)]; exact hof1
  clear hok1 hof1
  go_wp2_with fail
  refine leaves_cons (f := 71) (args := #[.pointer (some ⟨w.heap.size, 0, none⟩)]) (by simp) (by simp [go_sem]) ?_
  refine (caught_idle _ _).mono ?_
  rintro e u' w3 ⟨rfl, rfl, rfl⟩
  have hcell : (w2.setCell ⟨w.heap.size, 0, none⟩ (.bool false)).cell? ⟨w.heap.size, 0, none⟩ = some (.bool false) := by go_simp
  refine ⟨.tuple #[.int .i64 0, .bool false], by simp [results, Try.results47, go_sem, hcell], rfl, ?_⟩
  have h0 : Chg (· = q) w (w.alloc (.cells #[.bool false] 4)) := (Chg.refl _ _).alloc _
  have h1 : Chg (· = q) w w1 := h0.trans (Chg.of_below (F := (· = q)) (by simpa using hb1)) (fun _ _ h => h)
  refine (h1.trans hc2 fun k hk h => ?_).setCell (.inr (Nat.le_refl _)) _
  rcases h with (h | h) | h
  · omega
  · omega
  · exact h
set_option maxRecDepth 100000 in
theorem gotK_ok (w : World) (k : UInt8) (v c1 c2 : Value) (bs rest : List UInt8) (q n : Nat) (T : TypeId) (fields : List Value) (g : FuncId) (hv : BytesAt w v (k :: bs)) (hm : bs.length ≤ 1000000) (hD : ∀ g, v.ownBlock = some g → g < w.heap.size ∧ g ≠ q)
    (hq : ∃ olds : List Value, olds.length = n ∧ w.heap[q]? = some (.cells olds.toArray T (0, 0))) (hg : Own g)
    (H : ∀ w1 F D r, Ready w1 F D r q T n bs → Below w.heap.size w w1 → Calls Try.prog g #[.pointer (some ⟨r, 0, none⟩), c1, c2] w1 (DecOk w1 F D r q T rest fields)) :
    Calls Try.prog 47 #[v, .int .i64 k.toNat, .func (.func g) #[] #[c1, c2]] w (GotOk w q T rest fields) := by
  have HH := Lib.hid H
  have HD := Lib.hid hD
  have HQ := Lib.hid hq
  have HQL := Lib.hid (show q < w.heap.size by obtain ⟨_, _, h⟩ := hq; exact (Array.getElem?_eq_some_iff.1 h).1)
  have hcf := fun W => hg #[.pointer (some ⟨w.heap.size + 1 + 1, 0, none⟩), c1, c2] W
  clear H hD hq hg
  go_enter_defers Try.func47, Try.ntmps47
  go_wp2_with fail
  refine (newReader _ v (k :: bs) (hv.alloc _) (fun g h => by have := (HD.out g h).1; simp; omega)).mono ?_
  rintro e w1 ⟨rfl, hb1, hs1, hr1⟩
  simp only [World.size_alloc] at hb1 hs1 hr1 ⊢
  have hok1 : w1.cell? ⟨w.heap.size, 0, none⟩ = some (.bool false) := by rw [hb1.cell (by simp)]; go_simp
  have hof1 : w1.frozen? ⟨w.heap.size, 0, none⟩ = false := by rw [hb1.frozen (by simp)]; go_simp
  have HB1 : Hid (Below w.heap.size w w1) := ((Below.refl _ w).alloc (Nat.le_refl _) _).trans (hb1.mono (by omega))
  have hk := UInt8.toNat_lt k
  go_wp2_with fail
  refine (uint8 _ _ _ _ k bs [] hr1 (by simp; omega)).mono ?_
  rintro e wa ⟨rfl, Fa, hra, hua⟩
  have hsa := hua.chg.size
  have hoka : wa.cell? ⟨w.heap.size, 0, none⟩ = some (.bool false) := by rw [hua.chg.cell (by simp; omega) (by simp; omega)]; exact hok1
  have hofa : wa.frozen? ⟨w.heap.size, 0, none⟩ = false := by rw [hua.chg.frozen (by simp; omega) (by simp; omega)]; exact hof1
  clear hok1 hof1
  have HBa : Hid (Below w.heap.size w wa) := HB1.out.trans (hua.chg.below (by omega) (by rintro k (h | h) <;> omega))
  have hrdy : Ready wa Fa (fun k => v.ownBlock = some k) (w.heap.size + 1 + 1) q T n bs :=
    ⟨⟨_, hra⟩, by
      obtain ⟨olds, h1, h2⟩ := HQ.out
      refine ⟨olds, h1, ?_⟩
      rw [HBa.out.block q HQL.out]; exact h2, fun hk => by
        have := HQL.out
        rcases hua.new q hk with (h | h) | h <;> omega, fun h => (HD.out q h).2 rfl⟩
  have hnFa : ¬ Fa w.heap.size := fun hk => by rcases hua.new _ hk with (h | h) | h <;> omega
  go_wp2_with fail
  refine (HH.out wa _ _ _ hrdy HBa.out).mono ?_
  rintro e w2 ⟨rfl, F2, cur2, hr2, hq2, hc2⟩
  have hs2 := hc2.size
  have hok2 : w2.cell? ⟨w.heap.size, 0, none⟩ = some (.bool false) := by rw [hc2.cell (by simp; omega) (fun h => h.elim hnFa fun h => by have := HQL.out; simp at h; omega)]; exact hoka
  have hof2 : w2.frozen? ⟨w.heap.size, 0, none⟩ = false := by rw [hc2.frozen (by simp; omega) (fun h => h.elim hnFa fun h => by have := HQL.out; simp at h; omega)]; exact hofa
  clear hoka hofa
  go_wp2_with fail
  refine (rdLeft _ _ _ _ rest cur2 hr2).mono ?_
  rintro e w3 ⟨rfl, rfl⟩
  go_wp2_with fail
  refine leaves_cons (f := 71) (args := #[.pointer (some ⟨w.heap.size, 0, none⟩)]) (by simp) (by simp [go_sem]) ?_
  refine (caught_idle _ _).mono ?_
  rintro e u' w3 ⟨rfl, rfl, rfl⟩
  have hcell : (w2.setCell ⟨w.heap.size, 0, none⟩ (.bool true)).cell? ⟨w.heap.size, 0, none⟩ = some (.bool true) := by go_simp
  refine ⟨.tuple #[.int .i64 rest.length, .bool true], by simp [results, Try.results47, go_sem, hcell], rfl, ?_, ?_⟩
  · have h0 : Chg (· = q) w (w.alloc (.cells #[.bool false] 4)) := (Chg.refl _ _).alloc _
    have h1 : Chg (· = q) w w1 := h0.trans (Chg.of_below (F := (· = q)) (by simpa using hb1)) (fun _ _ h => h)
    refine ((h1.trans (hua.chg.mono (G := fun k => w.heap.size ≤ k) (by rintro k hk (h | h) <;> omega)) fun k hk h => absurd hk (by omega)).trans hc2 fun k hk h => ?_).setCell (.inr (Nat.le_refl _)) _
    rcases h with h | h
    · rcases hua.new k h with (h | h) | h <;> omega
    · exact h
  · rw [Below.heap_setCell _ _ _ _ (by have := HQL.out; simp; omega)]
    exact hq2

set_option maxRecDepth 100000 in
theorem gotK_bad (w : World) (k : UInt8) (v c1 c2 : Value) (bs : List UInt8) (q n : Nat) (T : TypeId) (g : FuncId) (hv : BytesAt w v (k :: bs)) (hm : bs.length ≤ 1000000) (hD : ∀ g, v.ownBlock = some g → g < w.heap.size ∧ g ≠ q)
    (hq : ∃ olds : List Value, olds.length = n ∧ w.heap[q]? = some (.cells olds.toArray T (0, 0))) (hg : Own g)
    (H : ∀ w1 F D r, Ready w1 F D r q T n bs → Below w.heap.size w w1 → Calls Try.prog g #[.pointer (some ⟨r, 0, none⟩), c1, c2] w1 (DecBad w1 F q)) :
    Calls Try.prog 47 #[v, .int .i64 k.toNat, .func (.func g) #[] #[c1, c2]] w (GotBad w q) := by
  have HH := Lib.hid H
  have HD := Lib.hid hD
  have HQ := Lib.hid hq
  have HQL := Lib.hid (show q < w.heap.size by obtain ⟨_, _, h⟩ := hq; exact (Array.getElem?_eq_some_iff.1 h).1)
  have hcf := fun W => hg #[.pointer (some ⟨w.heap.size + 1 + 1, 0, none⟩), c1, c2] W
  clear H hD hq hg
  go_enter_defers Try.func47, Try.ntmps47
  go_wp2_with fail
  refine (newReader _ v (k :: bs) (hv.alloc _) (fun g h => by have := (HD.out g h).1; simp; omega)).mono ?_
  rintro e w1 ⟨rfl, hb1, hs1, hr1⟩
  simp only [World.size_alloc] at hb1 hs1 hr1 ⊢
  have hok1 : w1.cell? ⟨w.heap.size, 0, none⟩ = some (.bool false) := by rw [hb1.cell (by simp)]; go_simp
  have hof1 : w1.frozen? ⟨w.heap.size, 0, none⟩ = false := by rw [hb1.frozen (by simp)]; go_simp
  have HB1 : Hid (Below w.heap.size w w1) := ((Below.refl _ w).alloc (Nat.le_refl _) _).trans (hb1.mono (by omega))
  have hk := UInt8.toNat_lt k
  go_wp2_with fail
  refine (uint8 _ _ _ _ k bs [] hr1 (by simp; omega)).mono ?_
  rintro e wa ⟨rfl, Fa, hra, hua⟩
  have hsa := hua.chg.size
  have hoka : wa.cell? ⟨w.heap.size, 0, none⟩ = some (.bool false) := by rw [hua.chg.cell (by simp; omega) (by simp; omega)]; exact hok1
  have hofa : wa.frozen? ⟨w.heap.size, 0, none⟩ = false := by rw [hua.chg.frozen (by simp; omega) (by simp; omega)]; exact hof1
  clear hok1 hof1
  have HBa : Hid (Below w.heap.size w wa) := HB1.out.trans (hua.chg.below (by omega) (by rintro k (h | h) <;> omega))
  have hrdy : Ready wa Fa (fun k => v.ownBlock = some k) (w.heap.size + 1 + 1) q T n bs :=
    ⟨⟨_, hra⟩, by
      obtain ⟨olds, h1, h2⟩ := HQ.out
      refine ⟨olds, h1, ?_⟩
      rw [HBa.out.block q HQL.out]; exact h2, fun hk => by
        have := HQL.out
        rcases hua.new q hk with (h | h) | h <;> omega, fun h => (HD.out q h).2 rfl⟩
  have hnFa : ¬ Fa w.heap.size := fun hk => by rcases hua.new _ hk with (h | h) | h <;> omega
  go_wp2_with fail
  refine (HH.out wa _ _ _ hrdy HBa.out).mono ?_
  rintro e w2 ⟨a, rfl, hc2⟩
  have hs2 := hc2.size
  have hok2 : w2.cell? ⟨w.heap.size, 0, none⟩ = some (.bool false) := by rw [hc2.cell (by simp; omega) (fun h => h.elim hnFa fun h => by have := HQL.out; simp at h; omega)]; exact hoka
  have hof2 : w2.frozen? ⟨w.heap.size, 0, none⟩ = false := by rw [hc2.frozen (by simp; omega) (fun h => h.elim hnFa fun h => by have := HQL.out; simp at h; omega)]; exact hofa
  clear hoka hofa
  go_wp2_with fail
  refine leaves_cons (f := 71) (args := #[.pointer (some ⟨w.heap.size, 0, none⟩)]) (by simp) (by simp [go_sem]) ?_
  refine (caught_idle _ _).mono ?_
  rintro e u' w3 ⟨rfl, rfl, rfl⟩
  have hcell : (w2.setCell ⟨w.heap.size, 0, none⟩ (.bool false)).cell? ⟨w.heap.size, 0, none⟩ = some (.bool false) := by go_simp
  refine ⟨.tuple #[.int .i64 0, .bool false], by simp [results, Try.results47, go_sem, hcell], rfl, ?_⟩
  have h0 : Chg (· = q) w (w.alloc (.cells #[.bool false] 4)) := (Chg.refl _ _).alloc _
  have h1 : Chg (· = q) w w1 := h0.trans (Chg.of_below (F := (· = q)) (by simpa using hb1)) (fun _ _ h => h)
  refine ((h1.trans (hua.chg.mono (G := fun k => w.heap.size ≤ k) (by rintro k hk (h | h) <;> omega)) fun k hk h => absurd hk (by omega)).trans hc2 fun k hk h => ?_).setCell (.inr (Nat.le_refl _)) _
  rcases h with h | h
  · rcases hua.new k h with (h | h) | h <;> omega
  · exact h

set_option maxRecDepth 100000 in
theorem gotK_none (w : World) (k : UInt8) (v c1 c2 : Value) (q : Nat) (g : FuncId) (hv : BytesAt w v []) (hD : ∀ g, v.ownBlock = some g → g < w.heap.size ∧ g ≠ q) :
    Calls Try.prog 47 #[v, .int .i64 k.toNat, .func (.func g) #[] #[c1, c2]] w (GotBad w q) := by
  have HD := Lib.hid hD
  clear hD
  go_enter_defers Try.func47, Try.ntmps47
  go_wp2_with fail
  refine (newReader _ v [] (hv.alloc _) (fun g h => by have := (HD.out g h).1; simp; omega)).mono ?_
  rintro e w1 ⟨rfl, hb1, hs1, hr1⟩
  simp only [World.size_alloc] at hb1 hs1 hr1 ⊢
  have hok1 : w1.cell? ⟨w.heap.size, 0, none⟩ = some (.bool false) := by rw [hb1.cell (by simp)]; go_simp
  have hof1 : w1.frozen? ⟨w.heap.size, 0, none⟩ = false := by rw [hb1.frozen (by simp)]; go_simp
  have hk := UInt8.toNat_lt k
  go_wp2_with fail
  refine (uint8_short _ _ _ _ [] hr1).mono ?_
  rintro e w2 ⟨a, Fa, cura, rfl, hra, hua⟩
  have hs2 := hua.chg.size
  have hok2 : w2.cell? ⟨w.heap.size, 0, none⟩ = some (.bool false) := by rw [hua.chg.cell (by simp; omega) (by simp; omega)]; exact hok1
  have hof2 : w2.frozen? ⟨w.heap.size, 0, none⟩ = false := by rw [hua.chg.frozen (by simp; omega) (by simp; omega)]; exact hof1
  clear hok1 hof1
  go_wp2_with fail
  refine leaves_cons (f := 71) (args := #[.pointer (some ⟨w.heap.size, 0, none⟩)]) (by simp) (by simp [go_sem]) ?_
  refine (caught_idle _ _).mono ?_
  rintro e u' w3 ⟨rfl, rfl, rfl⟩
  have hcell : (w2.setCell ⟨w.heap.size, 0, none⟩ (.bool false)).cell? ⟨w.heap.size, 0, none⟩ = some (.bool false) := by go_simp
  refine ⟨.tuple #[.int .i64 0, .bool false], by simp [results, Try.results47, go_sem, hcell], rfl, ?_⟩
  have h0 : Chg (· = q) w (w.alloc (.cells #[.bool false] 4)) := (Chg.refl _ _).alloc _
  have h1 : Chg (· = q) w w1 := h0.trans (Chg.of_below (F := (· = q)) (by simpa using hb1)) (fun _ _ h => h)
  exact (h1.trans (hua.chg.mono (G := fun k => w.heap.size ≤ k) (by rintro k hk (h | h) <;> omega)) fun k hk h => absurd hk (by omega)).setCell (.inr (Nat.le_refl _)) _

end Go.Proofs.Ytlohpmncagfecaa
