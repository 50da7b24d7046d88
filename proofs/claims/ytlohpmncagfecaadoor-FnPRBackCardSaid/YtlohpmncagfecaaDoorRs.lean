/- proto.Reader: lengths, strings, raw bytes. -/
import Derived.Test.YtlohpmncagfecaaDoorRv
import Derived.Defers
namespace Go.Proofs.YtlohpmncagfecaaDoor
open Go.RowKit

/-- What a Reader's method leaves that reads on: whatever its Buffer holds. -/
def GotE (w : World) (F D : Nat → Prop) (r : Nat) (res : Value) (rest : List UInt8) (e : Ending) (w' : World) : Prop :=
  e = .returned res ∧ ∃ F' cur, RdAt w' F' D r rest cur ∧ Upd w w' F F'

theorem rdInt (w : World) (F D : Nat → Prop) (r x : Nat) (tail cur : List UInt8) (hx : x ≤ 9223372036854775807) (h : RdAt w F D r (uv x ++ tail) cur) (hm : (uv x ++ tail).length ≤ 140737488355328) :
    Calls Tryd.prog 79 #[.pointer (some ⟨r, 0, none⟩)] w (GotE w F D r (.tuple #[.int .i64 x, .nilIface]) tail) := by
  go_enter Tryd.func79, Tryd.ntmps79
  go_wp2_with (go_at_call 78; refine (uvarint _ F D r x tail cur (by omega) h hm).mono ?_; rintro e w1 ⟨rfl, F1, cur1, h1, hu1⟩)
  go_ret2
  exact ⟨rfl, F1, cur1, h1, hu1⟩

theorem rdInt_short (w : World) (F D : Nat → Prop) (r x : Nat) (rest cur : List UInt8) (hx : x ≤ 9223372036854775807) (h : RdAt w F D r rest cur) (hs : Short rest (uv x)) :
    Calls Tryd.prog 79 #[.pointer (some ⟨r, 0, none⟩)] w (Fell w F D r fun v => .tuple #[.int .i64 0, v]) := by
  go_enter Tryd.func79, Tryd.ntmps79
  go_wp2_with (first | (go_at_call 78; refine (uvarint_short _ F D r x rest cur (by omega) h hs).mono ?_; rintro e w1 ⟨a, F1, cur1, rfl, h1, hu1⟩) | (go_at_call 68; refine (wrapErr _ _ _ _).mono ?_; rintro e w2 ⟨⟨a2, rfl⟩, hb2⟩))
  go_ret2
  exact ⟨_, F1, cur1, rfl, h1.below hb2, hu1.below hb2⟩

theorem strLen (w : World) (F D : Nat → Prop) (r x : Nat) (tail cur : List UInt8) (hx : x ≤ 9223372036854775807) (h : RdAt w F D r (uv x ++ tail) cur) (hm : (uv x ++ tail).length ≤ 140737488355328) :
    Calls Tryd.prog 80 #[.pointer (some ⟨r, 0, none⟩)] w (GotE w F D r (.tuple #[.int .i64 x, .nilIface]) tail) := by
  go_enter Tryd.func80, Tryd.ntmps80
  go_wp2_with (go_at_call 79; refine (rdInt _ F D r x tail cur hx h hm).mono ?_; rintro e w1 ⟨rfl, F1, cur1, h1, hu1⟩)
  go_ret2
  exact ⟨rfl, F1, cur1, h1, hu1⟩

theorem strLen_short (w : World) (F D : Nat → Prop) (r x : Nat) (rest cur : List UInt8) (hx : x ≤ 9223372036854775807) (h : RdAt w F D r rest cur) (hs : Short rest (uv x)) :
    Calls Tryd.prog 80 #[.pointer (some ⟨r, 0, none⟩)] w (Fell w F D r fun v => .tuple #[.int .i64 0, v]) := by
  go_enter Tryd.func80, Tryd.ntmps80
  go_wp2_with (first | (go_at_call 79; refine (rdInt_short _ F D r x rest cur hx h hs).mono ?_; rintro e w1 ⟨a, F1, cur1, rfl, h1, hu1⟩) | (go_at_call 68; refine (wrapErr _ _ _ _).mono ?_; rintro e w2 ⟨⟨a2, rfl⟩, hb2⟩))
  go_ret2
  exact ⟨_, F1, cur1, rfl, h1.below hb2, hu1.below hb2⟩

theorem RdAt.buf {w : World} {F D : Nat → Prop} {r : Nat} {rest cur : List UInt8} (h : RdAt w F D r rest cur) :
    ∃ b v, w.cell? ⟨r, 1, none⟩ = some (.pointer (some ⟨b, 0, none⟩)) ∧ w.cell? ⟨b, 0, none⟩ = some v ∧ BytesAt w v cur ∧ (∀ g, v.ownBlock = some g → F g) := by
  obtain ⟨b, v, -, h⟩ := h
  obtain ⟨vd, -, h1, -, -, h2⟩ := h.cells
  obtain ⟨FB, hrow, -, hsub⟩ := h.row
  have hb : BufAt w FB 57 b cur := ⟨hrow.1, v, hrow.2.1, by simpa using hrow.2.2.1, hrow.2.2.2⟩
  obtain ⟨v', hc, hv, -⟩ := hb.bytes
  rw [h2] at hc
  obtain rfl := Option.some.inj hc
  exact ⟨b, v, h1, h2, hv, fun g hg => hsub g (hrow.2.2.2 g hg).1⟩

/-- A string's bytes: its length, and itself. -/
def strBytes (s : List UInt8) : List UInt8 := uv s.length ++ s

/-- What StrRaw leaves: the Buffer's slice holds the string. -/
def GotRaw (w : World) (F D : Nat → Prop) (r : Nat) (s rest : List UInt8) (e : Ending) (w' : World) : Prop :=
  ∃ b v F', b + 1 = r ∧ e = .returned (.tuple #[v, .nilIface]) ∧ RdX w' F' D r rest b v (u8s s) ∧ BytesAt w' v s ∧ Upd w w' F F'

theorem RdX.bytes {w : World} {F D : Nat → Prop} {r : Nat} {rest : List UInt8} {b : Nat} {v : Value} {s : List UInt8} (h : RdX w F D r rest b v (u8s s)) : BytesAt w v s := by
  obtain ⟨FB, hrow, -, hsub⟩ := h.row
  have hb : BufAt w FB 57 b s := ⟨hrow.1, v, hrow.2.1, by simpa using hrow.2.2.1, hrow.2.2.2⟩
  obtain ⟨v', hc, hv, -⟩ := hb.bytes
  rw [hrow.cell.1] at hc
  obtain rfl := Option.some.inj hc
  exact hv

theorem strRaw (w : World) (F D : Nat → Prop) (r : Nat) (s tail cur : List UInt8) (h : RdAt w F D r (strBytes s ++ tail) cur) (hm : (strBytes s ++ tail).length ≤ 140737488355328) :
    Calls Tryd.prog 84 #[.pointer (some ⟨r, 0, none⟩)] w (GotRaw w F D r s tail) := by
  have hm' : s.length + tail.length ≤ 140737488355328 := by simp [strBytes] at hm; omega
  have h' : RdAt w F D r (uv s.length ++ (s ++ tail)) cur := by simpa [strBytes] using h
  have hm2 : (uv s.length ++ (s ++ tail)).length ≤ 140737488355328 := by simpa [strBytes] using hm
  go_enter Tryd.func84, Tryd.ntmps84
  go_wp2_with (go_at_call 80; refine (strLen _ F D r s.length (s ++ tail) cur (by omega) h' hm2).mono ?_; rintro e w1 ⟨rfl, F1, cur1, h1, hu1⟩)
  refine (readFull _ F1 D r (s ++ tail) cur1 h1 s.length (by simp) (by simpa using hm')).mono ?_
  rintro e w2 ⟨rfl, F2, h2, hu2⟩
  simp only [List.drop_left, List.take_left] at h2
  obtain ⟨b, v, hbr, h2⟩ := h2
  have HBR := Lib.hid hbr
  clear hbr
  obtain ⟨vd, hc0, hc1, hf, hb, hcb⟩ := h2.cells
  have hbv := h2.bytes
  go_wp2_with fail
  go_ret2
  exact ⟨b, v, F2, HBR.out, rfl, h2, hbv, hu1.trans hu2⟩
theorem Short.split {rest a b : List UInt8} (h : Short rest (a ++ b)) : Short rest a ∨ ∃ r', rest = a ++ r' ∧ Short r' b := by
  obtain ⟨t, ht, he⟩ := h
  rcases List.append_eq_append_iff.1 he with ⟨c, h1, h2⟩ | ⟨c, h1, h2⟩
  · exact .inr ⟨c, h1, t, ht, h2⟩
  · by_cases hc : c = []
    · subst hc
      simp at h1 h2
      exact .inr ⟨[], by simp [h1], t, ht, by simp [h2]⟩
    · exact .inl ⟨c, hc, h1⟩

theorem Short.lt {rest a : List UInt8} (h : Short rest a) : rest.length < a.length := by
  obtain ⟨t, ht, rfl⟩ := h
  have := List.length_pos_iff.2 ht
  simp; omega

theorem strRaw_short (w : World) (F D : Nat → Prop) (r : Nat) (s rest cur : List UInt8) (h : RdAt w F D r rest cur) (hs : Short rest (strBytes s)) (hm : (strBytes s).length ≤ 140737488355328) :
    Calls Tryd.prog 84 #[.pointer (some ⟨r, 0, none⟩)] w (Fell w F D r fun v => .tuple #[.slice none 0 0, v]) := by
  have hm' : s.length ≤ 140737488355328 := by simp [strBytes] at hm; omega
  rcases Short.split hs with hs2 | ⟨r', rfl, hs2⟩
  · go_enter Tryd.func84, Tryd.ntmps84
    go_wp2_with (first | (go_at_call 80; refine (strLen_short _ F D r s.length rest cur (by omega) h hs2).mono ?_; rintro e w1 ⟨a, F1, cur1, rfl, h1, hu1⟩) | (go_at_call 68; refine (wrapErr _ _ _ _).mono ?_; rintro e w2 ⟨⟨a2, rfl⟩, hb2⟩))
    go_ret2
    exact ⟨_, F1, cur1, rfl, h1.below hb2, hu1.below hb2⟩
  · have hl := hs2.lt
    have hm2 : (uv s.length ++ r').length ≤ 140737488355328 := by simp [strBytes] at hm; simp; omega
    go_enter Tryd.func84, Tryd.ntmps84
    go_wp2_with (first | (go_at_call 80; refine (strLen _ F D r s.length r' cur (by omega) h hm2).mono ?_; rintro e w1 ⟨rfl, F1, cur1, h1, hu1⟩) | (go_at_call 70; refine (readFull_short _ F1 D r r' cur1 h1 s.length hl).mono ?_; rintro e w2 ⟨a2, F2, cur2, rfl, h2, hu2⟩) | (go_at_call 68; refine (wrapErr _ _ _ _).mono ?_; rintro e w3 ⟨⟨a3, rfl⟩, hb3⟩))
    go_ret2
    exact ⟨_, F2, cur2, rfl, h2.below hb3, (hu1.trans hu2).below hb3⟩

/-! ### Str: the Buffer is reset behind it -/
theorem RdX.reset {w : World} {F D : Nat → Prop} {r b n cap : Nat} {rest : List UInt8} {p : Option Addr} {xs : List Value} (h : RdX w F D r rest b (.slice p n cap) xs) (hbr : b + 1 = r) :
    RdAt (w.setCell ⟨b, 0, none⟩ (.slice p 0 cap)) F D r rest [] ∧ Upd w (w.setCell ⟨b, 0, none⟩ (.slice p 0 cap)) F F := by
  obtain ⟨FB, hrow, hnr, hsub⟩ := h.row
  obtain ⟨vd, hr, hb, hD⟩ := h.data
  have hU : Upd w (w.setCell ⟨b, 0, none⟩ (.slice p 0 cap)) F F := ⟨(Chg.refl F w).setCell (.inl (hsub b hrow.1)) _, fun k hk => .inl hk⟩
  refine ⟨⟨b, .slice p 0 cap, hbr, ⟨h.own, h.ne, ⟨FB, ?_, hnr, hsub⟩, ⟨vd, ?_, ?_, hD⟩, h.disj, h.inD.mono hU.chg.size, h.inF.mono hU.chg.size⟩⟩, hU⟩
  · rcases hrow.cap with ⟨hv, hx⟩ | ⟨g, cap', hv, hl, hm⟩
    · obtain ⟨rfl, rfl, rfl⟩ : p = none ∧ n = 0 ∧ cap = 0 := by simpa using hv
      exact ⟨hrow.1, setCell_one hrow.2.1, World.ownsRow_nil _ _ _ _, hrow.2.2.2⟩
    · obtain ⟨rfl, rfl, rfl⟩ : p = some ⟨g, 0, none⟩ ∧ n = xs.length ∧ cap = cap' := by simpa using hv
      obtain ⟨ys, hy, hc⟩ := hrow.cut 0 (Nat.zero_le _)
      obtain rfl := List.length_eq_zero_iff.1 hy
      exact hc
  · rw [Below.heap_setCell _ _ _ _ h.ne.symm]; exact hr
  · exact hb.keep fun g hg => Below.heap_setCell _ _ _ _ fun e => h.disj g (hD g hg) (e ▸ hsub b hrow.1)

theorem reset_d (w : World) (F D : Nat → Prop) (r b : Nat) (rest s : List UInt8) (v : Value) (u : FrameMode) (h : RdX w F D r rest b v (u8s s)) (hbr : b + 1 = r) :
    CallsD Tryd.prog 92 #[.pointer (some ⟨b, 0, none⟩)] u w fun e u' w' => u' = u ∧ e = .returned (.tuple #[]) ∧ RdAt w' F D r rest [] ∧ Upd w w' F F := by
  obtain ⟨vd, hc0, hc1, hf, hb, hcb⟩ := h.cells
  obtain ⟨FB, hrow, hnr, hsub⟩ := h.row
  have hfb := hrow.cell.2.1
  have HBR := Lib.hid hbr
  clear hbr
  go_enter_d Tryd.func92, Tryd.ntmps92
  rcases hrow.cap with ⟨rfl, hx⟩ | ⟨g, cap, rfl, hl, hm⟩
  · go_wp2
    go_end0
    exact ⟨rfl, h.reset HBR.out⟩
  · go_wp2
    go_end0
    exact ⟨rfl, h.reset HBR.out⟩

theorem str (w : World) (F D : Nat → Prop) (r : Nat) (s tail cur : List UInt8) (h : RdAt w F D r (strBytes s ++ tail) cur) (hm : (strBytes s ++ tail).length ≤ 140737488355328) :
    Calls Tryd.prog 81 #[.pointer (some ⟨r, 0, none⟩)] w (GotE w F D r (.tuple #[.string ⟨s.toArray⟩, .nilIface]) tail) := by
  obtain ⟨b0, v0, hbr0, h0⟩ := id h
  have HBR := Lib.hid hbr0
  clear hbr0
  obtain ⟨vd0, hc0, hc1, hf, hb, hcb⟩ := h0.cells
  go_enter_defers Tryd.func81, Tryd.ntmps81
  go_wp2_with fail
  refine (strRaw _ F D r s tail cur h hm).mono ?_
  rintro e w1 ⟨b, v, F1, hbr, rfl, h1, hbv, hu1⟩
  obtain rfl : b0 = b := by have := HBR.out; omega
  have hcv := run_convert_at hbv
  clear hbr
  go_wp2_with fail
  refine leaves_cons (f := 92) (args := #[.pointer (some ⟨b0, 0, none⟩)]) (by simp) (by simp [go_sem]) ?_
  refine (reset_d w1 F1 D r b0 tail s v .returning h1 HBR.out).mono ?_
  rintro e u' w2 ⟨rfl, rfl, h2, hu2⟩
  exact ⟨_, results_tmp2 rfl _ _ _, rfl, F1, [], h2, hu1.trans hu2⟩

theorem str_short (w : World) (F D : Nat → Prop) (r : Nat) (s rest cur : List UInt8) (h : RdAt w F D r rest cur) (hs : Short rest (strBytes s)) (hm : (strBytes s).length ≤ 140737488355328) :
    Calls Tryd.prog 81 #[.pointer (some ⟨r, 0, none⟩)] w (Fell w F D r fun v => .tuple #[.string ⟨#[]⟩, v]) := by
  obtain ⟨b0, v0, hbr0, h0⟩ := id h
  have HBR := Lib.hid hbr0
  clear hbr0
  obtain ⟨vd0, hc0, hc1, hf, hb, hcb⟩ := h0.cells
  go_enter_defers Tryd.func81, Tryd.ntmps81
  go_wp2_with fail
  refine (strRaw_short _ F D r s rest cur h hs hm).mono ?_
  rintro e w1 ⟨a, F1, cur1, rfl, h1, hu1⟩
  go_wp2_with fail
  refine (wrapErr _ _ _ _).mono ?_
  rintro e w2 ⟨⟨a2, rfl⟩, hb2⟩
  obtain ⟨b, v, hbr, h2⟩ := h1.below hb2
  obtain rfl : b0 = b := by have := HBR.out; omega
  clear hbr
  go_wp2_with fail
  refine leaves_cons (f := 92) (args := #[.pointer (some ⟨b0, 0, none⟩)]) (by simp) (by simp [go_sem]) ?_
  refine (reset_d w2 F1 D r b0 [] cur1 v .returning h2 HBR.out).mono ?_
  rintro e u' w3 ⟨rfl, rfl, h3, hu3⟩
  exact ⟨_, results_tmp2 rfl _ _ _, _, F1, [], rfl, h3, (hu1.below hb2).trans hu3⟩
end Go.Proofs.YtlohpmncagfecaaDoor
