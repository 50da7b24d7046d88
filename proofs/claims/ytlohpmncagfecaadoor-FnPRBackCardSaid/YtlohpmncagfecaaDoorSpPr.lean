/- spec.PRWidth, spec.PRBytes; laws.prWhole. -/
import Derived.Test.YtlohpmncagfecaaDoorLow
import Derived.Test.YtlohpmncagfecaaDoorPrims
namespace Go.Proofs.YtlohpmncagfecaaDoor
open Go.RowKit
set_option linter.unnecessarySimpa false
set_option linter.unusedVariables false
set_option linter.unusedSimpArgs false

def widths : List Nat := [0, 1, 1, 1, 2, 4, 8, 1, 2, 4, 8, 4, 8, 16, 16, 0, 0, 0, 0, 0]
/-- The table of widths lies in its variable. -/
def Wid (w : World) : Prop := RowIs w 0 (ints widths)
theorem Wid.below {w w' : World} (h : Wid w) (hb : Below w.heap.size w w') : Wid w' := RowIs.below h hb
theorem Wid.alloc {w : World} (h : Wid w) (o : Obj) : Wid (w.alloc o) := h.below ((Below.refl _ _).alloc (Nat.le_refl _) _)

theorem prWidth (w : World) (h : Wid w) (op n : Nat) (hn : widths[op]? = some n) : Calls Tryd.prog 19 #[.int .i64 op] w fun e w' => e = .returned (.int .i64 n) ∧ w = w' := by
  have hop : op < 20 := by have := (List.getElem?_eq_some_iff.1 hn).1; simpa [widths] using this
  have hc : w.cell? ⟨0, op, none⟩ = some (.int .i64 (n : Int)) := h op _ (by simp [ints, hn])
  clear hn
  have h0 : (0 : Int) ≤ (op : Int) := Int.natCast_nonneg _
  go_enter Tryd.func19, Tryd.ntmps19
  go_wp2_with fail
  go_ret
  exact ⟨rfl, rfl⟩

theorem lows1 (u v : Nat) : lows u v 1 = Lib.leBytes 1 u := by simp [lows, lowB, Lib.leBytes, List.range_succ]
theorem lows2 (u v : Nat) : lows u v 2 = Lib.leBytes 2 u := by simp [lows, lowB, Lib.leBytes, List.range_succ]
theorem lows4 (u v : Nat) : lows u v 4 = Lib.leBytes 4 u := by simp [lows, lowB, Lib.leBytes, List.range_succ, Nat.div_div_eq_div_mul]
theorem lows8 (u v : Nat) : lows u v 8 = Lib.leBytes 8 u := by simp [lows, lowB, Lib.leBytes, List.range_succ, Nat.div_div_eq_div_mul]
theorem lows16 (u v : Nat) : lows u v 16 = Lib.leBytes 8 u ++ Lib.leBytes 8 v := by simp [lows, lowB, Lib.leBytes, List.range_succ, Nat.div_div_eq_div_mul]

set_option maxRecDepth 100000 in
theorem prStringX (w : World) (v : Value) (s : List UInt8) (hv : BytesX w v s) (hs : (strBytes s).length ≤ 140737488355328) :
    Calls Tryd.prog 21 #[v] w (MadeO w (strBytes s)) := by
  have hl : (uv s.length).length + s.length ≤ 140737488355328 := by simpa [strBytes] using hs
  obtain ⟨p0, c0, rfl⟩ := hv.slice
  go_enter Tryd.func21, Tryd.ntmps21
  go_wp2_with (first | (go_at_call 22; refine (prVar _ s.length (by omega)).mono ?_; rintro e w1 ⟨p, c, F, rfl, h1, hF1, hb1⟩; have HF := Lib.hid hF1; clear hF1) | (at_builtin; refine append_made _ F (uv s.length) s rfl _ _ _ rfl _ rfl h1 _ rfl (hv.below hb1).srcB hl w HF.out hb1 ?_; intro q1 c1 w2 F2 h2 hF2 hb2; have HF2 := Lib.hid hF2; clear hF2))
  go_ret
  exact ⟨q1, c1, F2, by simp [strBytes], by simpa [strBytes] using h2, HF2.out, hb2⟩

/-- A function hands back what reads as bytes. -/
def Reads (w : World) (bs : List UInt8) (e : Ending) (w' : World) : Prop := (∃ v, e = .returned v ∧ BytesX w' v bs) ∧ Below w.heap.size w w'

theorem MadeO.reads {w w1 : World} {bs : List UInt8} {e : Ending} {w' : World} (h : MadeO w1 bs e w') (hb : Below w.heap.size w w1) : Reads w bs e w' := by
  obtain ⟨p, c, F, rfl, ho, hF, hb2⟩ := h
  exact ⟨⟨_, rfl, ho.bytes.x⟩, hb.trans (hb2.mono hb.size)⟩

set_option maxRecDepth 100000 in
theorem spPrim (w : World) (hw : Wid w) (op u v : Nat) (sv : Value) (s : List UInt8) (h1 : 1 ≤ op) (h19 : op ≤ 19) (hu : u < 18446744073709551616) (hv : v < 18446744073709551616) (hs : BytesX w sv s) (hsl : s.length ≤ 100) :
    Calls Tryd.prog 8 #[.agg #[.int .i64 op, .int .u64 u, .int .u64 v, sv]] w (Reads w (primBytes op u v s)) := by
  obtain ⟨q, cq, rfl⟩ := id hs.slice
  have hbA : Below w.heap.size w (w.alloc (.cells #[.int .i64 (op : Nat), .int .u64 (u : Nat), .int .u64 (v : Nat), .slice q s.length cq] 28)) := (Below.refl _ w).alloc (Nat.le_refl _) _
  have HW := Lib.hid (hw.below hbA)
  have HS := Lib.hid (hs.below hbA)
  have HU := Lib.hid (And.intro hu hv)
  have HB := Lib.hid hbA
  have hsb : (strBytes s).length ≤ 1000 := by have := uv_length_le 10 s.length (by omega) (by omega); simp [strBytes]; omega
  have HL := Lib.hid hsb
  clear hw hs hu hv hbA hsb
  by_cases h2 : op = 2
  · subst h2
    by_cases h0 : u = 0
    · subst h0
      go_enter Tryd.func8, Tryd.ntmps8
      go_wp2_with fail
      go_ret
      refine ⟨⟨.slice (some ⟨w.heap.size + 1, 0, none⟩) 1 1, rfl, ?_⟩, HB.out.alloc HB.out.size _⟩
      have hn := BytesAt.new1 (w.alloc (.cells #[.int .i64 2, .int .u64 0, .int .u64 (v : Nat), .slice q s.length cq] 28)) 0 0 (by decide)
      rw [World.size_alloc] at hn
      exact hn.x
    · have h0' : ((u : Int) != 0) = true := by rw [bne_iff_ne]; omega
      go_enter Tryd.func8, Tryd.ntmps8
      go_wp2_with fail
      go_ret
      refine ⟨⟨.slice (some ⟨w.heap.size + 1, 0, none⟩) 1 1, rfl, ?_⟩, HB.out.alloc HB.out.size _⟩
      have e : primBytes 2 u v s = [1] := by simp [primBytes, bB, h0]
      rw [e]
      have hn := BytesAt.new1 (w.alloc (.cells #[.int .i64 2, .int .u64 (u : Nat), .int .u64 (v : Nat), .slice q s.length cq] 28)) 1 1 (by decide)
      rw [World.size_alloc] at hn
      exact hn.x
  · obtain ⟨n, hn⟩ : ∃ n, widths[op]? = some n := ⟨_, List.getElem?_eq_getElem (by simp [widths]; omega)⟩
    have HN := Lib.hid hn
    clear hn
    have h2' : ((op : Int) == 2) = false := by rw [beq_eq_false_iff_ne]; omega
    by_cases hlt : op ≤ 14
    · have hn16 : 1 ≤ n ∧ n ≤ 16 ∧ lows u v n = primBytes op u v s := by
        have hh := HN.out
        rcases (by omega : op = 1 ∨ op = 3 ∨ op = 4 ∨ op = 5 ∨ op = 6 ∨ op = 7 ∨ op = 8 ∨ op = 9 ∨ op = 10 ∨ op = 11 ∨ op = 12 ∨ op = 13 ∨ op = 14) with rfl | rfl | rfl | rfl | rfl | rfl | rfl | rfl | rfl | rfl | rfl | rfl | rfl
        all_goals
          simp [widths] at hh
          subst hh
          exact ⟨by omega, by omega, by first | (rw [lows1]; simp [primBytes]; done) | (rw [lows2]; simp [primBytes]; done) | (rw [lows4]; simp [primBytes]; done) | (rw [lows8]; simp [primBytes]; done) | (rw [lows16]; simp [primBytes]; done)⟩
      have HE := Lib.hid hn16.2.2
      have hnn : 1 ≤ n ∧ n ≤ 16 := ⟨hn16.1, hn16.2.1⟩
      clear hn16
      go_enter Tryd.func8, Tryd.ntmps8
      go_wp2_with fail
      refine (prWidth _ HW.out op n HN.out).mono ?_
      rintro e w1 ⟨rfl, rfl⟩
      go_wp2_with fail
      have HWD := Lib.hid (show Wid (w.alloc (.cells #[.int .i64 (op : Nat), .int .u64 (u : Nat), .int .u64 (v : Nat), .slice q s.length cq] 28)).drew from HW.out)
      go_region_held3 (fun w' => w'.cell? ⟨w.heap.size, 0, none⟩ = some (.int .i64 (op : Nat)) ∧ w'.cell? ⟨w.heap.size, 1, none⟩ = some (.int .u64 (u : Nat)) ∧ w'.cell? ⟨w.heap.size, 2, none⟩ = some (.int .u64 (v : Nat))) (first | go_keep | (go_split_ands; refine ⟨?_, ?_, ?_⟩ <;> assumption)) (first
        | (go_at_call 19; refine (prWidth _ (by exact HWD.out) op n HN.out).mono ?_; rintro e w1 ⟨rfl, rfl⟩)
        | (go_at_call 20; refine (prLow _ u v n HU.out.1 HU.out.2 hnn.2).mono ?_; intro e w2 hm; have hr := hm.reads (w := w) (HB.out.trans ((below_d' _).mono HB.out.size)); obtain ⟨⟨v2, rfl, hv2⟩, hb2⟩ := hr; have x0 : w2.cell? ⟨w.heap.size, 0, none⟩ = some (.int .i64 (op : Nat)) := (by obtain ⟨p, c, F, -, -, -, hb3⟩ := hm; rw [hb3.cell (by simp)]; go_simp); have x1 : w2.cell? ⟨w.heap.size, 1, none⟩ = some (.int .u64 (u : Nat)) := (by obtain ⟨p, c, F, -, -, -, hb3⟩ := hm; rw [hb3.cell (by simp)]; go_simp); have x2 : w2.cell? ⟨w.heap.size, 2, none⟩ = some (.int .u64 (v : Nat)) := (by obtain ⟨p, c, F, -, -, -, hb3⟩ := hm; rw [hb3.cell (by simp)]; go_simp))
        | fail)
      all_goals
        go_wp2_with fail
        go_ret
        exact ⟨⟨_, rfl, by rw [← HE.out]; exact hv2⟩, hb2⟩
    · have hn0 : n = 0 := by
        have hh := HN.out
        rcases (by omega : op = 15 ∨ op = 16 ∨ op = 17 ∨ op = 18 ∨ op = 19) with rfl | rfl | rfl | rfl | rfl
        all_goals
          simp [widths] at hh
          exact hh.symm
      subst hn0
      rcases (by omega : op = 15 ∨ op = 16 ∨ op = 17 ∨ op = 18 ∨ op = 19) with rfl | rfl | rfl | rfl | rfl
      all_goals
        have hw0 := prWidth _ HW.out _ 0 HN.out
        have HWW := Lib.hid hw0
        clear hw0
        go_enter Tryd.func8, Tryd.ntmps8
        go_wp2_with fail
        refine HWW.out.mono ?_
        rintro e w1 ⟨rfl, rfl⟩
        go_wp2_with fail
      · refine (prVar _ u HU.out.1).mono ?_
        intro e w2 hm
        obtain ⟨⟨v2, rfl, hv2⟩, hb2⟩ := hm.reads HB.out
        go_wp2_with fail
        go_ret
        exact ⟨⟨_, rfl, hv2⟩, hb2⟩
      · refine (prVar _ u HU.out.1).mono ?_
        intro e w2 hm
        obtain ⟨⟨v2, rfl, hv2⟩, hb2⟩ := hm.reads HB.out
        go_wp2_with fail
        go_ret
        exact ⟨⟨_, rfl, hv2⟩, hb2⟩
      · refine (prVar _ u HU.out.1).mono ?_
        intro e w2 hm
        obtain ⟨⟨v2, rfl, hv2⟩, hb2⟩ := hm.reads HB.out
        go_wp2_with fail
        go_ret
        exact ⟨⟨_, rfl, hv2⟩, hb2⟩
      · refine (prStringX _ _ s HS.out (by have := HL.out; omega)).mono ?_
        intro e w2 hm
        obtain ⟨⟨v2, rfl, hv2⟩, hb2⟩ := hm.reads HB.out
        go_wp2_with fail
        go_ret
        exact ⟨⟨_, rfl, hv2⟩, hb2⟩
      · go_ret
        exact ⟨⟨_, rfl, HS.out⟩, HB.out⟩

/-- Reports whether a number may be put as it is. -/
def wholePr (x : Pr) : Bool := (decide (x.op ≠ 16) && decide (x.op ≠ 17)) || decide (x.u < 9223372036854775808)
end Go.Proofs.YtlohpmncagfecaaDoor
