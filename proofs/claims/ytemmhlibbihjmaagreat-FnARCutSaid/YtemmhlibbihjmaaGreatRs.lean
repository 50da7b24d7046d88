/- proto.Reader: lengths, strings, raw bytes. -/
import Derived.Test.YtemmhlibbihjmaaGreatRv
import Derived.Defers
namespace Go.Proofs.YtemmhlibbihjmaaGreat
open Go.RowKit

/-- What a Reader's method leaves that reads on: whatever its Buffer holds. -/
def GotE (w : World) (F D : Nat → Prop) (r : Nat) (res : Value) (rest : List UInt8) (e : Ending) (w' : World) : Prop :=
  e = .returned res ∧ ∃ F' cur, RdAt w' F' D r rest cur ∧ Upd w w' F F'

theorem rdInt (w : World) (F D : Nat → Prop) (r x : Nat) (tail cur : List UInt8) (hx : x ≤ 9223372036854775807) (h : RdAt w F D r (uv x ++ tail) cur) (hm : (uv x ++ tail).length ≤ 140737488355328) :
    Calls Tryz.prog 94 #[.pointer (some ⟨r, 0, none⟩)] w (GotE w F D r (.tuple #[.int .i64 x, .nilIface]) tail) := by
  go_enter Tryz.func94, Tryz.ntmps94
  go_wp2_with (go_at_call 95; refine (uvarint _ F D r x tail cur (by omega) h hm).mono ?_; rintro e w1 ⟨rfl, F1, cur1, h1, hu1⟩)
  go_ret2
  exact ⟨rfl, F1, cur1, h1, hu1⟩

theorem rdInt_short (w : World) (F D : Nat → Prop) (r x : Nat) (rest cur : List UInt8) (hx : x ≤ 9223372036854775807) (h : RdAt w F D r rest cur) (hs : Short rest (uv x)) :
    Calls Tryz.prog 94 #[.pointer (some ⟨r, 0, none⟩)] w (Fell w F D r fun v => .tuple #[.int .i64 0, v]) := by
  go_enter Tryz.func94, Tryz.ntmps94
  go_wp2_with (first | (go_at_call 95; refine (uvarint_short _ F D r x rest cur (by omega) h hs).mono ?_; rintro e w1 ⟨a, F1, cur1, rfl, h1, hu1⟩) | (go_at_call 48; refine (wrapErr _ _ _ _).mono ?_; rintro e w2 ⟨⟨a2, rfl⟩, hb2⟩))
  go_ret2
  exact ⟨_, F1, cur1, rfl, h1.below hb2, hu1.below hb2⟩

theorem strLen (w : World) (F D : Nat → Prop) (r x : Nat) (tail cur : List UInt8) (hx : x ≤ 9223372036854775807) (h : RdAt w F D r (uv x ++ tail) cur) (hm : (uv x ++ tail).length ≤ 140737488355328) :
    Calls Tryz.prog 92 #[.pointer (some ⟨r, 0, none⟩)] w (GotE w F D r (.tuple #[.int .i64 x, .nilIface]) tail) := by
  go_enter Tryz.func92, Tryz.ntmps92
  go_wp2_with (go_at_call 94; refine (rdInt _ F D r x tail cur hx h hm).mono ?_; rintro e w1 ⟨rfl, F1, cur1, h1, hu1⟩)
  go_ret2
  exact ⟨rfl, F1, cur1, h1, hu1⟩

theorem strLen_short (w : World) (F D : Nat → Prop) (r x : Nat) (rest cur : List UInt8) (hx : x ≤ 9223372036854775807) (h : RdAt w F D r rest cur) (hs : Short rest (uv x)) :
    Calls Tryz.prog 92 #[.pointer (some ⟨r, 0, none⟩)] w (Fell w F D r fun v => .tuple #[.int .i64 0, v]) := by
  go_enter Tryz.func92, Tryz.ntmps92
  go_wp2_with (first | (go_at_call 94; refine (rdInt_short _ F D r x rest cur hx h hs).mono ?_; rintro e w1 ⟨a, F1, cur1, rfl, h1, hu1⟩) | (go_at_call 48; refine (wrapErr _ _ _ _).mono ?_; rintro e w2 ⟨⟨a2, rfl⟩, hb2⟩))
  go_ret2
  exact ⟨_, F1, cur1, rfl, h1.below hb2, hu1.below hb2⟩

theorem RdAt.buf {w : World} {F D : Nat → Prop} {r : Nat} {rest cur : List UInt8} (h : RdAt w F D r rest cur) :
    ∃ b v, w.cell? ⟨r, 1, none⟩ = some (.pointer (some ⟨b, 0, none⟩)) ∧ w.cell? ⟨b, 0, none⟩ = some v ∧ BytesAt w v cur ∧ (∀ g, v.ownBlock = some g → F g) := by
  obtain ⟨b, v, -, h⟩ := h
  obtain ⟨vd, -, h1, -, -, h2⟩ := h.cells
  obtain ⟨FB, hrow, -, hsub⟩ := h.row
  have hb : BufAt w FB 113 b cur := ⟨hrow.1, v, hrow.2.1, by simpa using hrow.2.2.1, hrow.2.2.2⟩
  obtain ⟨v', hc, hv, -⟩ := hb.bytes
  rw [h2] at hc
  obtain rfl := Option.some.inj hc
  exact ⟨b, v, h1, h2, hv, fun g hg => hsub g (hrow.2.2.2 g hg).1⟩

/-- A string's bytes: its length, and itself. -/
def strBytes (s : List UInt8) : List UInt8 := uv s.length ++ s

/-- What StrRaw leaves: the Buffer's slice holds the string. -/
def GotRaw (w : World) (F D : Nat → Prop) (r : Nat) (s rest : List UInt8) (e : Ending) (w' : World) : Prop :=
  ∃ b v F', b + 1 = r ∧ e = .returned (.tuple #[v, .nilIface]) ∧ RdX w' F' D r rest b v (u8s s) ∧ BytesAt w' v s ∧ Upd w w' F F'

theorem RdX.bytes {w : World} {F D : Nat → Prop} {r : Nat} {rest : List UInt8} {b : Nat} {v : Value} {s : List UInt8} (h : RdX w F D r rest b v (u8s s)) : BytesAt w v s := by
  obtain ⟨FB, hrow, -, hsub⟩ := h.row
  have hb : BufAt w FB 113 b s := ⟨hrow.1, v, hrow.2.1, by simpa using hrow.2.2.1, hrow.2.2.2⟩
  obtain ⟨v', hc, hv, -⟩ := hb.bytes
  rw [hrow.cell.1] at hc
  obtain rfl := Option.some.inj hc
  exact hv

theorem Short.split {rest a b : List UInt8} (h : Short rest (a ++ b)) : Short rest a ∨ ∃ r', rest = a ++ r' ∧ Short r' b := by
  obtain ⟨t, ht, he⟩ := h
  rcases List.append_eq_append_iff.1 he with ⟨c, h1, h2⟩ | ⟨c, h1, h2⟩
  · exact .inr ⟨c, h1, t, ht, h2⟩
  · by_cases hc : c = []
    · subst hc
      simp at h1 h2
      exact .inr ⟨[], by simp [h1], t, ht, by simp [h2]⟩
    · exact .inl ⟨c, hc, h1⟩

theorem Short.lt {rest a : List UInt8} (h : Short rest a) : rest.length < a.length := by
  obtain ⟨t, ht, rfl⟩ := h
  have := List.length_pos_iff.2 ht
  simp; omega

/-! ### Str: the Buffer is reset behind it -/
theorem RdX.reset {w : World} {F D : Nat → Prop} {r b n cap : Nat} {rest : List UInt8} {p : Option Addr} {xs : List Value} (h : RdX w F D r rest b (.slice p n cap) xs) (hbr : b + 1 = r) :
    RdAt (w.setCell ⟨b, 0, none⟩ (.slice p 0 cap)) F D r rest [] ∧ Upd w (w.setCell ⟨b, 0, none⟩ (.slice p 0 cap)) F F := by
  obtain ⟨FB, hrow, hnr, hsub⟩ := h.row
  obtain ⟨vd, hr, hb, hD⟩ := h.data
  have hU : Upd w (w.setCell ⟨b, 0, none⟩ (.slice p 0 cap)) F F := ⟨(Chg.refl F w).setCell (.inl (hsub b hrow.1)) _, fun k hk => .inl hk⟩
  refine ⟨⟨b, .slice p 0 cap, hbr, ⟨h.own, h.ne, ⟨FB, ?_, hnr, hsub⟩, ⟨vd, ?_, ?_, hD⟩, h.disj, h.inD.mono hU.chg.size, h.inF.mono hU.chg.size⟩⟩, hU⟩
  · rcases hrow.cap with ⟨hv, hx⟩ | ⟨g, cap', hv, hl, hm⟩
    · obtain ⟨rfl, rfl, rfl⟩ : p = none ∧ n = 0 ∧ cap = 0 := by simpa using hv
      exact ⟨hrow.1, setCell_one hrow.2.1, World.ownsRow_nil _ _ _ _, hrow.2.2.2⟩
    · obtain ⟨rfl, rfl, rfl⟩ : p = some ⟨g, 0, none⟩ ∧ n = xs.length ∧ cap = cap' := by simpa using hv
      obtain ⟨ys, hy, hc⟩ := hrow.cut 0 (Nat.zero_le _)
      obtain rfl := List.length_eq_zero_iff.1 hy
      exact hc
  · rw [Below.heap_setCell _ _ _ _ h.ne.symm]; exact hr
  · exact hb.keep fun g hg => Below.heap_setCell _ _ _ _ fun e => h.disj g (hD g hg) (e ▸ hsub b hrow.1)

end Go.Proofs.YtemmhlibbihjmaaGreat
