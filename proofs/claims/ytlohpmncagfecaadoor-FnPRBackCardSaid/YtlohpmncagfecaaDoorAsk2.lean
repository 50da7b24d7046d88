/- impl.Prim.more: lengths, raw bytes, strings behind others; impl.Prim.get of a byte that is not there. -/
import Derived.Test.YtlohpmncagfecaaDoorAsk
import Derived.Test.YtlohpmncagfecaaDoorGets
namespace Go.Proofs.YtlohpmncagfecaaDoor
open Go.RowKit
set_option linter.unnecessarySimpa false
set_option linter.unusedVariables false
set_option linter.unusedSimpArgs false

set_option maxRecDepth 100000 in
theorem more17 (u v x : Nat) (s tail : List UInt8) (hx : x ≤ 9223372036854775807) : AskOk 60 ⟨17, u, v, s⟩ (uv x ++ tail) ⟨x, 0, [], false⟩ tail := by
  intro w F D r cur sv hr hs hsv hl
  obtain ⟨q, cq, rfl⟩ := hs.slice
  unfold askV
  have rs0 := W3.rs hr ⟨17, u, v, s⟩ q cq
  have HR := Lib.hid hr
  have hr3 : RdAt (W3 w ⟨17, u, v, s⟩ q cq) F D r (uv x ++ tail) cur := hr.below (W3.below w _ q cq).1
  have HX := Lib.hid hx
  have HRS := Lib.hid rs0
  have HR3 := Lib.hid hr3
  clear hs hsv hr rs0 hr3
  go_enter Tryd.func60, Tryd.ntmps60
  go_wp2_with fail
  refine (strLen _ F D r x tail cur HX.out HR3.out (by omega)).mono ?_
  rintro e w1 ⟨rfl, F1, cur1, h1, hu1⟩
  have rs1 := HRS.out.read h1 hu1
  obtain ⟨⟨c0, -, -, -⟩, z0, -, -, -⟩ := row4 rs1.row
  have rs2 := rs1.store 0 (.int .u64 (x : Nat))
  have HRS2 := Lib.hid rs2
  obtain ⟨⟨-, -, c2, -⟩, -, -, z2, -⟩ := row4 rs2.row
  clear HRS HR3 rs1 rs2 h1 hu1
  go_wp2_with (at_builtin; refine append_bytes _ (fun _ => False) [] [] rfl _ _ _ rfl _ rfl (OwnB.nil _ _) _ rfl (nil_src _) (by simp) ?_; intro q1 c1 w3 F3 hown hu3; have hb3 := hu3.chg.below (Nat.le_refl _) (fun k h => h.elim); have rs3 := RS.below HRS2.out hb3; obtain ⟨⟨d0, d1, d2, d3⟩, y0, y1, y2, y3⟩ := row4 rs3.row; obtain ⟨⟨e0, e1, e2, e3⟩, f0, f1, f2, f3⟩ := row4 (W3.res HR.out rs3).1)
  refine bodyPost_ret (v := .agg #[.int .u64 (x : Nat), .int .u64 0, .slice q1 0 c1, .bool false]) (by obtain ⟨g0, g1, g2, g3⟩ := more_res (p := q1) (n := 0) (c := c1) HR.out HRS2.out hu3 (.int .u64 (x : Nat)) (.int .u64 0) (.bool false) _ rfl; simp [results, Tryd.results60, go_sem, g0, g1, g2, g3]) rfl ?_
  exact more_fin HR.out HRS2.out hown hu3 rfl _ _ _

set_option maxRecDepth 100000 in
theorem more19 (v : Nat) (s0 : List UInt8) (s tail : List UInt8) : AskOk 60 ⟨19, s.length, v, s0⟩ (s ++ tail) ⟨0, 0, s, false⟩ tail := by
  intro w F D r cur sv hr hs hsv hl
  obtain ⟨q, cq, rfl⟩ := hs.slice
  unfold askV
  have rs0 := W3.rs hr ⟨19, s.length, v, s0⟩ q cq
  have HR := Lib.hid hr
  have hr3 : RdAt (W3 w ⟨19, s.length, v, s0⟩ q cq) F D r (s ++ tail) cur := hr.below (W3.below w _ q cq).1
  have HRS := Lib.hid rs0
  have HR3 := Lib.hid hr3
  have HSV := Lib.hid (And.intro hs hsv)
  have HL := Lib.hid hl
  have hsl : s.length ≤ 100000 := by simp at hl; omega
  clear hs hsv hr rs0 hr3
  go_enter Tryd.func60, Tryd.ntmps60
  go_wp2_with fail
  refine (rdRaw _ F D r s tail cur _ rfl HR3.out HL.out).mono ?_
  intro e w1 hg
  obtain ⟨p1, c1, F1, rfl, h1, hs2, hn, hu1⟩ := hg.gotE
  have rs2 := HRS.out.read h1 hu1
  have hn2 : ∀ g, (Value.slice p1 s.length c1).ownBlock = some g → g ≠ w.heap.size + 1 + 1 := fun g hg e => rs2.notF (e ▸ hn g hg)
  clear hg h1 hn hu1

  have hrdy := out_ready rs2 hs2 hn2
  have HRS2 := Lib.hid hrdy.1
  have HS2 := Lib.hid hrdy.2
  obtain ⟨⟨c0, c1, c2, c3⟩, z0, z1, z2, z3⟩ := row4 rs2.row
  have hSl : s.length ≤ 300000 := by have := HL.out; simp at this; omega
  clear HRS HR3 rs2 hs2 hn2 hrdy
  go_wp2_with (at_builtin; refine append_bytes _ (fun _ => False) [] s rfl _ _ _ rfl _ rfl (OwnB.nil _ _) _ rfl HS2.out.srcB (by simp; omega) ?_; intro q1 c1 w3 F3 hown hu3; have hb3 := hu3.chg.below (Nat.le_refl _) (fun k h => h.elim); have rs3 := RS.below HRS2.out hb3; obtain ⟨⟨d0, d1, d2, d3⟩, y0, y1, y2, y3⟩ := row4 rs3.row; obtain ⟨⟨e0, e1, e2, e3⟩, f0, f1, f2, f3⟩ := row4 (W3.res HR.out rs3).1)
  refine bodyPost_ret (v := .agg #[.int .u64 0, .int .u64 0, .slice q1 (0 + s.length) c1, .bool false]) (by obtain ⟨g0, g1, g2, g3⟩ := more_res (p := q1) (n := 0 + s.length) (c := c1) HR.out HRS2.out hu3 (.int .u64 0) (.int .u64 0) (.bool false) _ rfl; simp only [Nat.zero_add] at g0 g1 g2 g3; simp [results, Tryd.results60, go_sem, g0, g1, g2, g3]) rfl ?_
  have hfin := more_fin (S := s) (U := 0) (V := 0) HR.out HRS2.out (by simpa using hown) hu3 (by simp) (.int .u64 0) (.int .u64 0) (.bool false)
  first | rw [← HSS.out] | skip
  simpa using hfin

theorem RS.other {w0 w w' : World} {F0 F G D : Nat → Prop} {r q : Nat} {T : TypeId} {row : List Value} {rest : List UInt8} (h : RS w0 F0 w F D r q T row rest) (hc : Chg G w w') (hG : ∀ k, G k → w0.heap.size ≤ k ∧ k ≠ q ∧ ¬ F k ∧ ¬ D k) : RS w0 F0 w' F D r q T row rest := by
  obtain ⟨cur, hr⟩ := h.rd
  have hql : q < w.heap.size := (Array.getElem?_eq_some_iff.1 h.row).1
  exact ⟨⟨cur, hr.upd hc (fun k hk e => (hG k e).2.2.1 hk) (fun k hk e => (hG k e).2.2.2 hk)⟩, by rw [hc.block q hql fun e => (hG q e).2.1 rfl]; exact h.row, h.notF, h.notD, h.chg.trans hc fun i hi e => by have := (hG i e).1; omega, h.new⟩

set_option maxRecDepth 100000 in
theorem more22 (u v : Nat) (s0 : List UInt8) (s tail : List UInt8) (h0 : s0.length ≤ 1000) : AskOk 60 ⟨22, u, v, s0⟩ (strBytes s ++ tail) ⟨0, 0, (s0 ++ s), false⟩ tail := by
  intro w F D r cur sv hr hs hsv hl
  obtain ⟨q, cq, rfl⟩ := hs.slice
  unfold askV
  have rs0 := W3.rs hr ⟨22, u, v, s0⟩ q cq
  have HR := Lib.hid hr
  have hr3 : RdAt (W3 w ⟨22, u, v, s0⟩ q cq) F D r (strBytes s ++ tail) cur := hr.below (W3.below w _ q cq).1
  have HRS := Lib.hid rs0
  have HR3 := Lib.hid hr3
  have HSV := Lib.hid (And.intro hs hsv)
  have HL := Lib.hid hl
  have hsl0 : s0.length ≤ 1000 := h0
  have hsz3 := (W3.below w ⟨22, u, v, s0⟩ q cq).2
  have hoE : OwnB ((W3 w ⟨22, u, v, s0⟩ q cq).alloc (.cells #[] 5)) (· = w.heap.size + 1 + 1 + 1) (.slice (some ⟨w.heap.size + 1 + 1 + 1, 0, none⟩) 0 0) [] := by
    have e1 : w.heap.size + 1 + 1 + 1 = (W3 w ⟨22, u, v, s0⟩ q cq).heap.size := by rw [hsz3]
    rw [e1]
    exact ⟨⟨rfl, .inr ⟨_, 0, #[], rfl, Nat.zero_le _, heap_alloc_new _ _, Nat.le_refl _, Nat.zero_le _, rfl, rfl⟩⟩, by simp [Value.ownBlock]⟩
  have hbE : Below w.heap.size w ((W3 w ⟨22, u, v, s0⟩ q cq).alloc (.cells #[] 5)) := (W3.below w _ q cq).1.alloc (W3.below w _ q cq).1.size _
  have HXE := Lib.hid (hs.below hbE)
  have HOE := Lib.hid hoE
  have HZ := Lib.hid hsz3
  have HRSE := Lib.hid (rs0.below ((Below.refl _ _).alloc (Nat.le_refl _) (.cells #[] 5)))
  have hcopy := W3.copy (F := F) (w1 := w) (w := w) ⟨22, u, v, s0⟩ q cq
  have hc3 := (hcopy.below ((Below.refl _ _).alloc (Nat.le_refl _) (.cells #[] 5))) 3 _ rfl
  clear hsz3 hoE hbE hcopy
  clear hs hsv hr rs0 hr3
  go_enter Tryd.func60, Tryd.ntmps60
  go_wp2_with (at_builtin; refine append_bytes _ (· = w.heap.size + 1 + 1 + 1) [] s0 rfl _ _ _ rfl _ rfl HOE.out _ rfl HXE.out.srcB (by simp; omega) ?_; intro p2 c2 w2 Fb2 hown2 hu2)
  have hu20 := hu2
  have hszE : ((W3 w ⟨22, u, v, s0⟩ q cq).alloc (.cells #[] 5)).heap.size = w.heap.size + 4 := by simp [HZ.out]
  obtain ⟨b0, v0, hbr0, hx0⟩ := id HR.out
  have hFb2 : ∀ k, Fb2 k → w.heap.size + 3 ≤ k := fun k hk => by
    rcases hu2.new k hk with h1 | h1
    · omega
    · have h2 := h1.1; simp only [World.size_alloc] at h2; omega
  have rsE := HRSE.out.other hu2.chg (fun k hk => ⟨by rw [HZ.out]; omega, by omega, fun e => by have := hx0.inF k e; omega, fun e => by have := hx0.inD k e; omega⟩)
  obtain ⟨curE, hrE⟩ := rsE.rd
  have hIn : In Fb2 w2 := fun k hk => by
    rcases hu2.new k hk with h1 | h1
    · have h2 := hu2.chg.size; simp only [World.size_alloc] at h2; omega
    · exact h1.2
  have HA := Lib.hid (strAppend w2 F D Fb2 r s tail curE s0 (.slice p2 s0.length c2) hrE HL.out (by simpa using hown2) (fun k hk e => by have := hFb2 k hk; have := hx0.inF k e; omega) (fun k hk e => by have := hFb2 k hk; have := hx0.inD k e; omega) hIn (by omega))
  have HRE := Lib.hid rsE
  have HFB := Lib.hid hFb2
  clear hu20 hu2 hszE hbr0 hx0 hFb2 rsE hrE hIn hown2
  go_wp2_with fail
  refine HA.out.mono ?_
  intro e w1 hg
  obtain ⟨p1, c1, F1, rfl, hs2, rs2, hn2⟩ := hg.rs HRE.out (fun k hk => ⟨by rw [HZ.out]; exact HFB.out k hk, by have := HFB.out k hk; omega⟩)
  obtain ⟨S, hS⟩ : ∃ S, S = s0 ++ s := ⟨_, rfl⟩
  rw [← hS] at hs2 hn2 ⊢
  have HSS := Lib.hid hS
  clear hg hS

  have hrdy := out_ready rs2 hs2 hn2
  have HRS2 := Lib.hid hrdy.1
  have HS2 := Lib.hid hrdy.2
  obtain ⟨⟨c0, c1, c2, c3⟩, z0, z1, z2, z3⟩ := row4 rs2.row
  have hSl : S.length ≤ 300000 := by have := HL.out; rw [HSS.out]; simp [strBytes] at this; simp; omega
  clear HRS HR3 rs2 hs2 hn2 hrdy
  go_wp2_with (at_builtin; refine append_bytes _ (fun _ => False) [] S rfl _ _ _ rfl _ rfl (OwnB.nil _ _) _ rfl HS2.out.srcB (by simp; omega) ?_; intro q1 c1 w3 F3 hown hu3; have hb3 := hu3.chg.below (Nat.le_refl _) (fun k h => h.elim); have rs3 := RS.below HRS2.out hb3; obtain ⟨⟨d0, d1, d2, d3⟩, y0, y1, y2, y3⟩ := row4 rs3.row; obtain ⟨⟨e0, e1, e2, e3⟩, f0, f1, f2, f3⟩ := row4 (W3.res HR.out rs3).1)
  refine bodyPost_ret (v := .agg #[.int .u64 0, .int .u64 0, .slice q1 (0 + S.length) c1, .bool false]) (by obtain ⟨g0, g1, g2, g3⟩ := more_res (p := q1) (n := 0 + S.length) (c := c1) HR.out HRS2.out hu3 (.int .u64 0) (.int .u64 0) (.bool false) _ rfl; simp only [Nat.zero_add] at g0 g1 g2 g3; simp [results, Tryd.results60, go_sem, g0, g1, g2, g3]) rfl ?_
  have hfin := more_fin (S := S) (U := 0) (V := 0) HR.out HRS2.out (by simpa using hown) hu3 (by simp) (.int .u64 0) (.int .u64 0) (.bool false)
  first | rw [← HSS.out] | skip
  simpa using hfin

set_option maxRecDepth 100000 in
theorem get1_bad (u v : Nat) (s0 : List UInt8) : AskBad 28 ⟨1, u, v, s0⟩ [] := by
  intro w F D r cur sv hr hs hsv hl
  obtain ⟨q, cq, rfl⟩ := hs.slice
  unfold askV
  have HR := Lib.hid hr
  have hr3 : RdAt (W3 w ⟨1, u, v, s0⟩ q cq) F D r [] cur := hr.below (W3.below w _ q cq).1
  have HRS := Lib.hid (W3.rs hr ⟨1, u, v, s0⟩ q cq)
  have HR3 := Lib.hid hr3
  clear hs hsv hr hr3
  go_enter Tryd.func28, Tryd.ntmps28
  go_wp2_with fail
  refine (rdByte_short _ F D r cur HR3.out).mono ?_
  rintro e w1 ⟨a, F1, cur1, rfl, h1, hu1⟩
  have rs1 := HRS.out.read h1 hu1
  have HRS1 := Lib.hid rs1
  obtain ⟨⟨c0, c1, c2, c3⟩, z0, z1, z2, z3⟩ := row4 rs1.row
  have rs2 := rs1.store 0 (.int .u64 0)
  obtain ⟨⟨e0, e1, e2, e3⟩, f0, f1, f2, f3⟩ := row4 (W3.res HR.out rs1).1
  have HRES := Lib.hid (W3.res HR.out rs2).1
  have HRS2 := Lib.hid rs2
  clear HRS HR3 rs1 rs2 h1 hu1 HRS1
  go_wp2_with fail
  refine bodyPost_ret (v := .agg #[.int .u64 0, .int .u64 0, .slice none 0 0, .bool true]) (by obtain ⟨g0, g1, g2, g3⟩ := res4 HRES.out (.int .u64 0) (.int .u64 0) (.slice none 0 0) (.bool true) _ rfl; simp [results, Tryd.results28, go_sem, g0, g1, g2, g3]) rfl ?_
  refine ⟨rfl, F1, ?_⟩
  have hrs := HRS2.out
  obtain ⟨W1, hW1⟩ : ∃ W1 : World, W1 = w1.setCell ⟨w.heap.size + 1 + 1, 0, none⟩ (.int .u64 0) := ⟨_, rfl⟩
  rw [← hW1] at hrs ⊢
  obtain ⟨W5, hW5⟩ : ∃ W5 : World, W5 = ((((W1.setCell ⟨w.heap.size + 1, 0, none⟩ (.int .u64 0)).setCell ⟨w.heap.size + 1, 1, none⟩ (.int .u64 0)).setCell ⟨w.heap.size + 1, 2, none⟩ (.slice none 0 0)).setCell ⟨w.heap.size + 1, 3, none⟩ (.bool true)) := ⟨_, rfl⟩
  have hC : Chg (· = w.heap.size + 1) W1 W5 := by rw [hW5]; exact (((((Chg.refl (· = w.heap.size + 1) W1).setCell (.inl rfl) _).setCell (.inl rfl) _).setCell (.inl rfl) _).setCell (.inl rfl) _)
  rw [← hW5]
  have h3 := (W3.below w ⟨1, u, v, s0⟩ q cq)
  obtain ⟨cur2, hrd2⟩ := hrs.rd
  obtain ⟨b2, v2, -, hx2⟩ := hrd2
  have hC1 : Chg F w W1 := (Chg.of_below (F := F) h3.1).trans hrs.chg fun i hi e => by rcases e with e | e; exact e; omega
  refine ⟨hC1.trans hC fun i hi e => by omega, fun k hk => ?_⟩
  have hs5 := hC.size
  rcases hrs.new k hk with h | h
  · exact .inl h
  · exact .inr ⟨by omega, by have := hx2.inF k hk; omega⟩

end Go.Proofs.YtlohpmncagfecaaDoor
