/- proto.Reader: raw bytes, StrAppend, StrBytes. -/
import Derived.Test.YtlohpmncagfecaaDoorGet
namespace Go.Proofs.YtlohpmncagfecaaDoor
open Go.RowKit
set_option linter.unnecessarySimpa false
set_option linter.unusedVariables false
set_option linter.unusedSimpArgs false

theorem RdX.upd {w w' : World} {F D G : Nat → Prop} {r : Nat} {rest : List UInt8} {b : Nat} {v : Value} {xs : List Value} (h : RdX w F D r rest b v xs) (hc : Chg G w w') (hF : ∀ k, F k → ¬ G k) (hD : ∀ k, D k → ¬ G k) : RdX w' F D r rest b v xs := by
  obtain ⟨FB, ⟨hFb, hpb, hownb, hvb⟩, hnr, hsub⟩ := h.row
  obtain ⟨vd, hr, hbd, hvd⟩ := h.data
  have hs := hc.size
  exact ⟨h.own, h.ne, ⟨FB, ⟨hFb, by rw [hc.block b (h.inF b (hsub b hFb)) (hF b (hsub b hFb))]; exact hpb, ownsRow_block hownb fun g hg => hc.block g (h.inF g (hsub g (hvb g hg).1)) (hF g (hsub g (hvb g hg).1)), hvb⟩, hnr, hsub⟩,
    ⟨vd, by rw [hc.block r (h.inF r h.own) (hF r h.own)]; exact hr, hbd.keep fun g hg => hc.block g (h.inD g (hvd g hg)) (hD g (hvd g hg)), hvd⟩, h.disj, h.inD.mono hs, h.inF.mono hs⟩

set_option maxRecDepth 100000 in
theorem rdRaw (w : World) (F D : Nat → Prop) (r : Nat) (s tail cur : List UInt8) (n : Int) (hn : n = (s.length : Int)) (h : RdAt w F D r (s ++ tail) cur) (hm : (s ++ tail).length ≤ 100000) :
    Calls Tryd.prog 82 #[.pointer (some ⟨r, 0, none⟩), .int .i64 n] w (GotRaw w F D r s tail) := by
  subst hn
  go_enter Tryd.func82, Tryd.ntmps82
  go_wp2_with fail
  refine (readFull _ F D r (s ++ tail) cur h s.length (by simp) (by omega)).mono ?_
  rintro e w2 ⟨rfl, F2, h2, hu2⟩
  simp only [List.drop_left, List.take_left] at h2
  obtain ⟨b, v, hbr, h2⟩ := h2
  have HBR := Lib.hid hbr
  clear hbr
  obtain ⟨vd, hc0, hc1, hf, hb, hcb⟩ := h2.cells
  have hbv := h2.bytes
  go_wp2_with fail
  go_ret2
  exact ⟨b, v, F2, HBR.out, rfl, h2, hbv, hu2⟩

/-- What StrAppend leaves. -/
def GotApp (w : World) (F Fb D : Nat → Prop) (r : Nat) (bs rest : List UInt8) (e : Ending) (w' : World) : Prop :=
  ∃ p c F' Fb', e = .returned (.tuple #[.slice p bs.length c, .nilIface]) ∧ OwnB w' Fb' (.slice p bs.length c) bs ∧ RdAt w' F' D r rest [] ∧ Chg (fun k => F k ∨ Fb k) w w' ∧
    (∀ k, F' k → F k ∨ (w.heap.size ≤ k ∧ k < w'.heap.size)) ∧ (∀ k, Fb' k → Fb k ∨ (w.heap.size ≤ k ∧ k < w'.heap.size)) ∧ Disj Fb' F'

set_option maxRecDepth 100000 in
theorem strAppend (w : World) (F D Fb : Nat → Prop) (r : Nat) (s tail cur pre : List UInt8) (vb : Value) (h : RdAt w F D r (strBytes s ++ tail) cur) (hm : (strBytes s ++ tail).length ≤ 100000) (hb : OwnB w Fb vb pre) (hd : Disj Fb F) (hdD : Disj Fb D) (hI : In Fb w) (hl : pre.length ≤ 100000) :
    Calls Tryd.prog 85 #[.pointer (some ⟨r, 0, none⟩), vb] w (GotApp w F Fb D r (pre ++ s) tail) := by
  obtain ⟨b0, v0, hbr0, h0⟩ := id h
  have HBR := Lib.hid hbr0
  obtain ⟨p0, c0', rfl⟩ := hb.slice
  have hsl : s.length ≤ 100000 := by simp [strBytes] at hm; omega
  have HD := Lib.hid (And.intro hd (And.intro hdD hI))
  have HOWN := Lib.hid hb
  clear hbr0 hd hdD hI hb
  obtain ⟨vd0, hc0, hc1, hf, hbd, hcb⟩ := h0.cells
  go_enter_defers Tryd.func85, Tryd.ntmps85
  go_wp2_with fail
  refine (strRaw _ F D r s tail cur h (by omega)).mono ?_
  rintro e w1 ⟨b, v, F1, hbr, rfl, h1, hbv, hu1⟩
  obtain rfl : b0 = b := by have := HBR.out; omega
  have HOWN1 := Lib.hid (HOWN.out.upd hu1.chg HD.out.1)
  have H1 := Lib.hid (And.intro h1 (And.intro hbv hu1))
  obtain ⟨q1, c1, rfl⟩ := hbv.slice
  clear hbr h1 hbv hu1
  go_wp2_with (at_builtin; refine append_bytes _ Fb pre s rfl _ _ _ rfl _ rfl HOWN1.out _ rfl H1.out.2.1.srcB (by omega) ?_; intro p2 c2 w2 Fb2 hown2 hu2)
  obtain ⟨h1, hbv, hu1⟩ := H1.out
  obtain ⟨hd, hdD, hI⟩ := HD.out
  have hs1 := hu1.chg.size
  have hFb1 : ∀ k, F1 k → ¬ Fb k := fun k hk e => by
    rcases hu1.new k hk with h | h
    · exact hd k e h
    · have := hI k e; omega
  have h2 := h1.upd hu2.chg hFb1 (fun k hk e => hdD k e hk)
  refine leaves_cons (f := 92) (args := #[.pointer (some ⟨b0, 0, none⟩)]) (by simp) (by simp [go_sem]) ?_
  refine (reset_d w2 F1 D r b0 tail s _ .returning h2 HBR.out).mono ?_
  rintro e u' w3 ⟨rfl, rfl, h3, hu3⟩
  have hs2 := hu2.chg.size
  have hs3 := hu3.chg.size
  have hFb2 : Disj Fb2 F1 := fun k hk e => by
    rcases hu2.new k hk with h | h
    · exact hFb1 k e h
    · have := h1.inF k e; omega
  refine ⟨_, results_tmp2 rfl _ _ _, p2, c2, F1, Fb2, ?_, ?_, h3, ?_, fun k hk => ?_, fun k hk => ?_, hFb2⟩
  · simp [List.length_append]
  · have := hown2.upd hu3.chg hFb2
    simpa [List.length_append] using this
  · refine ((hu1.chg.mono (G := fun k => F k ∨ Fb k) fun k _ hk => .inl hk).trans hu2.chg fun i hi hg => .inr hg).trans hu3.chg fun i hi hg => ?_
    rcases hu1.new i hg with h | h
    · exact .inl h
    · omega
  · rcases hu1.new k hk with h | h
    · exact .inl h
    · exact .inr (by omega)
  · rcases hu2.new k hk with h | h
    · exact .inl h
    · exact .inr (by omega)

theorem strBytesRd (w : World) (F D : Nat → Prop) (r : Nat) (s tail cur : List UInt8) (h : RdAt w F D r (strBytes s ++ tail) cur) (hm : (strBytes s ++ tail).length ≤ 100000) :
    Calls Tryd.prog 83 #[.pointer (some ⟨r, 0, none⟩)] w (GotApp w F (fun _ => False) D r s tail) := by
  go_enter Tryd.func83, Tryd.ntmps83
  go_wp2_with fail
  refine (strAppend _ F D (fun _ => False) r s tail cur [] _ h hm (OwnB.nil _ _) (fun _ h => h.elim) (fun _ h => h.elim) (fun _ h => h.elim) (by simp)).mono ?_
  rintro e w1 ⟨p, c, F', Fb', rfl, h1⟩
  have H1 := Lib.hid h1
  clear h1
  go_wp2_with fail
  go_ret2
  exact ⟨p, c, F', Fb', rfl, H1.out⟩

theorem rdByte_short (w : World) (F D : Nat → Prop) (r : Nat) (cur : List UInt8) (h : RdAt w F D r [] cur) :
    Calls Tryd.prog 50 #[.pointer (some ⟨r, 0, none⟩)] w (Fell w F D r fun v => .tuple #[.int .u8 0, v]) := by
  go_enter Tryd.func50, Tryd.ntmps50
  go_wp2_with (go_at_call 56; refine (uint8_short _ F D r cur h).mono ?_; rintro e w1 ⟨a, F1, cur1, rfl, h1, hu⟩)
  go_ret2
  exact ⟨_, F1, cur1, rfl, h1, hu⟩
end Go.Proofs.YtlohpmncagfecaaDoor
