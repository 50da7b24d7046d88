/- impl.Prim.more of the kinds that read strings and lengths. -/
import Derived.Test.YtlohpmncagfecaaDoorRd2
namespace Go.Proofs.YtlohpmncagfecaaDoor
open Go.RowKit
set_option linter.unnecessarySimpa false
set_option linter.unusedVariables false
set_option linter.unusedSimpArgs false

theorem GotRaw.gotE {w : World} {F D : Nat → Prop} {r : Nat} {s rest : List UInt8} {e : Ending} {w' : World} (h : GotRaw w F D r s rest e w') :
    ∃ p c F', e = .returned (.tuple #[.slice p s.length c, .nilIface]) ∧ RdAt w' F' D r rest s ∧ BytesAt w' (.slice p s.length c) s ∧ (∀ g, (Value.slice p s.length c).ownBlock = some g → F' g) ∧ Upd w w' F F' := by
  obtain ⟨b, v, F', hbr, rfl, hx, hbv, hu⟩ := h
  obtain ⟨p, c, rfl⟩ := hbv.slice
  obtain ⟨FB, hrow, -, hsub⟩ := hx.row
  exact ⟨p, c, F', rfl, ⟨b, _, hbr, hx⟩, hbv, fun g hg => hsub g (hrow.2.2.2 g hg).1, hu⟩

/-- Behind a call that leaves new bytes beside the Reader. -/
theorem GotApp.rs {w0 w w' : World} {F0 F Fb D : Nat → Prop} {r q : Nat} {T : TypeId} {row : List Value} {bs rest bs0 : List UInt8} {e : Ending} (hrs : RS w0 F0 w F D r q T row bs0) (hFb : ∀ k, Fb k → w0.heap.size ≤ k ∧ k ≠ q) (h : GotApp w F Fb D r bs rest e w') :
    ∃ p c F', e = .returned (.tuple #[.slice p bs.length c, .nilIface]) ∧ BytesAt w' (.slice p bs.length c) bs ∧ RS w0 F0 w' F' D r q T row rest ∧ (∀ g, (Value.slice p bs.length c).ownBlock = some g → g ≠ q) := by
  obtain ⟨p, c, F', Fb', rfl, hown, hr, hc, hF', hFb', hd⟩ := h
  have hql : q < w.heap.size := (Array.getElem?_eq_some_iff.1 hrs.row).1
  have hs := hrs.chg.size
  refine ⟨p, c, F', rfl, hown.bytes, ⟨⟨_, hr⟩, by rw [hc.block q hql (fun e => by rcases e with e | e; exact hrs.notF e; exact (hFb q e).2 rfl)]; exact hrs.row, fun e => ?_, hrs.notD, ?_, fun k hk => ?_⟩, fun g hg e => ?_⟩
  · rcases hF' q e with h | h
    · exact hrs.notF h
    · omega
  · refine hrs.chg.trans hc fun i hi hg => ?_
    rcases hg with h | h
    · rcases hrs.new i h with h2 | h2
      · exact .inl h2
      · omega
    · have := (hFb i h).1; omega
  · rcases hF' k hk with h | h
    · exact hrs.new k h
    · exact .inr (by omega)
  · subst e
    rcases hFb' g (hown.2 g hg) with h | h
    · exact (hFb g h).2 rfl
    · omega

/-- Behind the store of the bytes: all that the copy behind it asks. -/
theorem out_ready {w W2 : World} {F F2 D : Nat → Prop} {r : Nat} {row : List Value} {rest S : List UInt8} {x : Pr} {q : Option Addr} {cq : Nat} {sv : Value} (rs : RS (W3 w x q cq) F W2 F2 D r (w.heap.size + 1 + 1) 40 row rest) (hs : BytesAt W2 sv S) (hn : ∀ g, sv.ownBlock = some g → g ≠ w.heap.size + 1 + 1) :
    RS (W3 w x q cq) F (W2.setCell ⟨w.heap.size + 1 + 1, 2, none⟩ sv) F2 D r (w.heap.size + 1 + 1) 40 (row.set 2 sv) rest ∧ BytesAt (W2.setCell ⟨w.heap.size + 1 + 1, 2, none⟩ sv) sv S :=
  ⟨rs.store 2 sv, hs.keep fun g hg => Below.heap_setCell _ _ _ _ (hn g hg)⟩

set_option maxRecDepth 100000 in
theorem more18 (u v : Nat) (s0 : List UInt8) (s tail : List UInt8) : AskOk 60 ⟨18, u, v, s0⟩ (strBytes s ++ tail) ⟨0, 0, s, false⟩ tail := by
  intro w F D r cur sv hr hs hsv hl
  obtain ⟨q, cq, rfl⟩ := hs.slice
  unfold askV
  have rs0 := W3.rs hr ⟨18, u, v, s0⟩ q cq
  have HR := Lib.hid hr
  have hr3 : RdAt (W3 w ⟨18, u, v, s0⟩ q cq) F D r (strBytes s ++ tail) cur := hr.below (W3.below w _ q cq).1
  have HRS := Lib.hid rs0
  have HR3 := Lib.hid hr3
  have HSV := Lib.hid (And.intro hs hsv)
  have HL := Lib.hid hl
  have hk := fun (w : World) (s : ByteArray) => Lib.run_convert_string_bytes (P := Tryd.prog) w 9 25 5 s Tryd.underlying9 Tryd.underlying25 Tryd.underlying5
  clear hs hsv hr rs0 hr3
  go_enter Tryd.func60, Tryd.ntmps60
  go_wp2_with fail
  refine (str _ F D r s tail cur HR3.out (by have := HL.out; omega)).mono ?_
  rintro e w1 ⟨rfl, F1, cur1, h1, hu1⟩
  have rs1 := HRS.out.read h1 hu1
  have hbw := bytesWorld_below w1 5 ⟨s.toArray⟩
  have rs2 := rs1.below hbw
  have hs2 : BytesAt (Lib.bytesWorld w1 5 ⟨s.toArray⟩) (.slice (some ⟨w1.heap.size, 0, none⟩) s.length (grownCap w1 s.length 0 5)) s := by
    have h := bytesWorld_bytes w1 ⟨s.toArray⟩
    have e1 : (⟨s.toArray⟩ : ByteArray).size = s.length := by show s.toArray.size = _; simp
    rw [e1] at h
    simpa using h
  have hn2 : ∀ g, (Value.slice (some ⟨w1.heap.size, 0, none⟩) s.length (grownCap w1 s.length 0 5)).ownBlock = some g → g ≠ w.heap.size + 1 + 1 := fun g hg => by
    have h1 := rs1.chg.size
    have h2 := (W3.below w ⟨18, u, v, s0⟩ q cq).2
    simp [Value.ownBlock] at hg
    omega

  have hrdy := out_ready rs2 hs2 hn2
  have HRS2 := Lib.hid hrdy.1
  have HS2 := Lib.hid hrdy.2
  obtain ⟨⟨c0, c1, c2, c3⟩, z0, z1, z2, z3⟩ := row4 rs2.row
  have hSl : s.length ≤ 300000 := by have := HL.out; simp [strBytes] at this; omega
  clear HRS HR3 rs2 hs2 hn2 hrdy
  go_wp2_with (at_builtin; refine append_bytes _ (fun _ => False) [] s rfl _ _ _ rfl _ rfl (OwnB.nil _ _) _ rfl HS2.out.srcB (by simp; omega) ?_; intro q1 c1 w3 F3 hown hu3; have hb3 := hu3.chg.below (Nat.le_refl _) (fun k h => h.elim); have rs3 := RS.below HRS2.out hb3; obtain ⟨⟨d0, d1, d2, d3⟩, y0, y1, y2, y3⟩ := row4 rs3.row; obtain ⟨⟨e0, e1, e2, e3⟩, f0, f1, f2, f3⟩ := row4 (W3.res HR.out rs3).1)
  refine bodyPost_ret (v := .agg #[.int .u64 0, .int .u64 0, .slice q1 (0 + s.length) c1, .bool false]) (by obtain ⟨g0, g1, g2, g3⟩ := more_res (p := q1) (n := 0 + s.length) (c := c1) HR.out HRS2.out hu3 (.int .u64 0) (.int .u64 0) (.bool false) _ rfl; simp only [Nat.zero_add] at g0 g1 g2 g3; simp [results, Tryd.results60, go_sem, g0, g1, g2, g3]) rfl ?_
  have hfin := more_fin (S := s) (U := 0) (V := 0) HR.out HRS2.out (by simpa using hown) hu3 (by simp) (.int .u64 0) (.int .u64 0) (.bool false)
  simpa using hfin

set_option maxRecDepth 100000 in
theorem more20 (u v : Nat) (s0 : List UInt8) (s tail : List UInt8) : AskOk 60 ⟨20, u, v, s0⟩ (strBytes s ++ tail) ⟨0, 0, s, false⟩ tail := by
  intro w F D r cur sv hr hs hsv hl
  obtain ⟨q, cq, rfl⟩ := hs.slice
  unfold askV
  have rs0 := W3.rs hr ⟨20, u, v, s0⟩ q cq
  have HR := Lib.hid hr
  have hr3 : RdAt (W3 w ⟨20, u, v, s0⟩ q cq) F D r (strBytes s ++ tail) cur := hr.below (W3.below w _ q cq).1
  have HRS := Lib.hid rs0
  have HR3 := Lib.hid hr3
  have HSV := Lib.hid (And.intro hs hsv)
  have HL := Lib.hid hl
  clear hs hsv hr rs0 hr3
  go_enter Tryd.func60, Tryd.ntmps60
  go_wp2_with fail
  refine (strBytesRd _ F D r s tail cur HR3.out (by have := HL.out; omega)).mono ?_
  intro e w1 hg
  obtain ⟨p1, c1, F1, rfl, hs2, rs2, hn2⟩ := hg.rs HRS.out (fun k h => h.elim)
  clear hg

  have hrdy := out_ready rs2 hs2 hn2
  have HRS2 := Lib.hid hrdy.1
  have HS2 := Lib.hid hrdy.2
  obtain ⟨⟨c0, c1, c2, c3⟩, z0, z1, z2, z3⟩ := row4 rs2.row
  have hSl : s.length ≤ 300000 := by have := HL.out; simp [strBytes] at this; omega
  clear HRS HR3 rs2 hs2 hn2 hrdy
  go_wp2_with (at_builtin; refine append_bytes _ (fun _ => False) [] s rfl _ _ _ rfl _ rfl (OwnB.nil _ _) _ rfl HS2.out.srcB (by simp; omega) ?_; intro q1 c1 w3 F3 hown hu3; have hb3 := hu3.chg.below (Nat.le_refl _) (fun k h => h.elim); have rs3 := RS.below HRS2.out hb3; obtain ⟨⟨d0, d1, d2, d3⟩, y0, y1, y2, y3⟩ := row4 rs3.row; obtain ⟨⟨e0, e1, e2, e3⟩, f0, f1, f2, f3⟩ := row4 (W3.res HR.out rs3).1)
  refine bodyPost_ret (v := .agg #[.int .u64 0, .int .u64 0, .slice q1 (0 + s.length) c1, .bool false]) (by obtain ⟨g0, g1, g2, g3⟩ := more_res (p := q1) (n := 0 + s.length) (c := c1) HR.out HRS2.out hu3 (.int .u64 0) (.int .u64 0) (.bool false) _ rfl; simp only [Nat.zero_add] at g0 g1 g2 g3; simp [results, Tryd.results60, go_sem, g0, g1, g2, g3]) rfl ?_
  have hfin := more_fin (S := s) (U := 0) (V := 0) HR.out HRS2.out (by simpa using hown) hu3 (by simp) (.int .u64 0) (.int .u64 0) (.bool false)
  simpa using hfin

set_option maxRecDepth 100000 in
theorem more21 (u v : Nat) (s0 : List UInt8) (s tail : List UInt8) : AskOk 60 ⟨21, u, v, s0⟩ (strBytes s ++ tail) ⟨0, 0, s, false⟩ tail := by
  intro w F D r cur sv hr hs hsv hl
  obtain ⟨q, cq, rfl⟩ := hs.slice
  unfold askV
  have rs0 := W3.rs hr ⟨21, u, v, s0⟩ q cq
  have HR := Lib.hid hr
  have hr3 : RdAt (W3 w ⟨21, u, v, s0⟩ q cq) F D r (strBytes s ++ tail) cur := hr.below (W3.below w _ q cq).1
  have HRS := Lib.hid rs0
  have HR3 := Lib.hid hr3
  have HSV := Lib.hid (And.intro hs hsv)
  have HL := Lib.hid hl
  clear hs hsv hr rs0 hr3
  go_enter Tryd.func60, Tryd.ntmps60
  go_wp2_with fail
  refine (strRaw _ F D r s tail cur HR3.out (by have := HL.out; omega)).mono ?_
  intro e w1 hg
  obtain ⟨p1, c1, F1, rfl, h1, hs2, hn, hu1⟩ := hg.gotE
  have rs2 := HRS.out.read h1 hu1
  have hn2 : ∀ g, (Value.slice p1 s.length c1).ownBlock = some g → g ≠ w.heap.size + 1 + 1 := fun g hg e => rs2.notF (e ▸ hn g hg)
  clear hg h1 hn hu1

  have hrdy := out_ready rs2 hs2 hn2
  have HRS2 := Lib.hid hrdy.1
  have HS2 := Lib.hid hrdy.2
  obtain ⟨⟨c0, c1, c2, c3⟩, z0, z1, z2, z3⟩ := row4 rs2.row
  have hSl : s.length ≤ 300000 := by have := HL.out; simp [strBytes] at this; omega
  clear HRS HR3 rs2 hs2 hn2 hrdy
  go_wp2_with (at_builtin; refine append_bytes _ (fun _ => False) [] s rfl _ _ _ rfl _ rfl (OwnB.nil _ _) _ rfl HS2.out.srcB (by simp; omega) ?_; intro q1 c1 w3 F3 hown hu3; have hb3 := hu3.chg.below (Nat.le_refl _) (fun k h => h.elim); have rs3 := RS.below HRS2.out hb3; obtain ⟨⟨d0, d1, d2, d3⟩, y0, y1, y2, y3⟩ := row4 rs3.row; obtain ⟨⟨e0, e1, e2, e3⟩, f0, f1, f2, f3⟩ := row4 (W3.res HR.out rs3).1)
  refine bodyPost_ret (v := .agg #[.int .u64 0, .int .u64 0, .slice q1 (0 + s.length) c1, .bool false]) (by obtain ⟨g0, g1, g2, g3⟩ := more_res (p := q1) (n := 0 + s.length) (c := c1) HR.out HRS2.out hu3 (.int .u64 0) (.int .u64 0) (.bool false) _ rfl; simp only [Nat.zero_add] at g0 g1 g2 g3; simp [results, Tryd.results60, go_sem, g0, g1, g2, g3]) rfl ?_
  have hfin := more_fin (S := s) (U := 0) (V := 0) HR.out HRS2.out (by simpa using hown) hu3 (by simp) (.int .u64 0) (.int .u64 0) (.bool false)
  simpa using hfin

end Go.Proofs.YtlohpmncagfecaaDoor
