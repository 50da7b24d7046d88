/- The specification's bytes: PRVar, PRString, PKText. -/
import Derived.Test.YtgnkinhjfcbdbaaDoorOwn
import Derived.Test.YtgnkinhjfcbdbaaDoorRs
import Derived.Lib.ConvBytes
namespace Go.Proofs.YtgnkinhjfcbdbaaDoor
open Go.RowKit

/-- New bytes that the caller may go on with: nothing that was there has changed. -/
def MadeO (w : World) (bs : List UInt8) (e : Ending) (w' : World) : Prop :=
  ∃ p c F, e = .returned (.slice p bs.length c) ∧ OwnB w' F (.slice p bs.length c) bs ∧ (∀ k, F k → w.heap.size ≤ k ∧ k < w'.heap.size) ∧ Below w.heap.size w w'

theorem MadeO.mk {w w' : World} {F : Nat → Prop} {p : Option Addr} {c : Nat} {bs : List UInt8} (h : OwnB w' F (.slice p bs.length c) bs) (hu : Upd w w' (fun _ => False) F) : MadeO w bs (.returned (.slice p bs.length c)) w' :=
  ⟨p, c, F, rfl, h, fun k hk => (hu.new k hk).elim False.elim id, hu.chg.below (Nat.le_refl _) (fun _ h => h.elim)⟩

theorem MadeO.made {w w' : World} {bs : List UInt8} {e : Ending} (h : MadeO w bs e w') : ∃ p c, e = .returned (.slice p bs.length c) ∧ BytesAt w' (.slice p bs.length c) bs ∧ Below w.heap.size w w' := by
  obtain ⟨p, c, F, rfl, ho, -, hb⟩ := h
  exact ⟨p, c, rfl, ho.bytes, hb⟩

/-- Behind some rounds of PRVar. -/
def PvInv (w : World) (x : Nat) (xk : Nat) (pre : List UInt8) (v : Value) (wr : World) : Prop :=
  uv x = pre ++ uv xk ∧ ∃ F, OwnB wr F v pre ∧ Upd w wr (fun _ => False) F

theorem PvInv.len {w : World} {x xk : Nat} {pre : List UInt8} {v : Value} {wr : World} (h : PvInv w x xk pre v wr) (hx : x < 18446744073709551616) : pre.length + 1 ≤ 10 := by
  obtain ⟨h1, -⟩ := h
  have h2 := uv_length_le 10 x (by omega) (by omega)
  have h3 := uv_length_pos xk
  rw [h1] at h2
  simp at h2
  omega

theorem BytesAt.new1 (w : World) (n : Int) (b : UInt8) (h : n = b.toNat) : BytesAt (w.alloc (.cells #[.int .u8 n] 5)) (.slice (some ⟨w.heap.size, 0, none⟩) 1 1) [b] := by
  subst h
  exact bytesAt_new w b

theorem MadeO.of_below {w w1 w2 : World} {bs : List UInt8} {e : Ending} (hb : Below w.heap.size w w1) (h : MadeO w1 bs e w2) : MadeO w bs e w2 := by
  obtain ⟨p, c, F, rfl, ho, hF, hb2⟩ := h
  have := hb.size
  exact ⟨p, c, F, rfl, ho, fun k hk => ⟨by have := hF k hk; omega, (hF k hk).2⟩, hb.trans (hb2.mono this)⟩

/-- The append of bytes to new bytes. -/
theorem append_made {ops : Array Oper} {rest : List Oper} {o : Oper} {a : Act} {Q : Exit → Act → World → Prop} (w : World) (F : Nat → Prop) (bs news : List UInt8) (hgd : o.guard = none) (s x : Operand) (tx : TypeId)
    (ho : o.op = .call { callee := .builtin .append, args := #[s, x], argTypes := #[25, tx] }) (v : Value) (hv : a.eval s = v) (h : OwnB w F v bs) (xv : Value) (hx : a.eval x = xv) (hs : SrcB w tx xv news) (hl : bs.length + news.length ≤ 140737488355328)
    (w0 : World) (hF : ∀ k, F k → w0.heap.size ≤ k ∧ k < w.heap.size) (hb : Below w0.heap.size w0 w)
    (hK : ∀ p c w' F', OwnB w' F' (.slice p (bs.length + news.length) c) (bs ++ news) → (∀ k, F' k → w0.heap.size ≤ k ∧ k < w'.heap.size) → Below w0.heap.size w0 w' → wpList Tryd.prog ops Q rest (a.put o.dst (.slice p (bs.length + news.length) c)) w') : wpList Tryd.prog ops Q (o :: rest) a w := by
  refine append_bytes w F bs news hgd s x tx ho v hv h xv hx hs hl fun p c w' F' h1 hu => hK p c w' F' h1 ?_ ?_
  · intro k hk
    have := hu.chg.size
    have := hb.size
    rcases hu.new k hk with h2 | h2
    · have := hF k h2; omega
    · omega
  · exact hb.trans (hu.chg.below hb.size fun k hk => (hF k hk).1)

theorem step_append_made {ops : Array Oper} {o : Oper} {a : Act} {K : Act → World → Prop} {Q : Exit → Act → World → Prop} {E : Prop} (w : World) (F : Nat → Prop) (bs news : List UInt8) (hgd : o.guard = none) (s x : Operand) (tx : TypeId)
    (ho : o.op = .call { callee := .builtin .append, args := #[s, x], argTypes := #[25, tx] }) (v : Value) (hv : a.eval s = v) (h : OwnB w F v bs) (xv : Value) (hx : a.eval x = xv) (hs : SrcB w tx xv news) (hl : bs.length + news.length ≤ 140737488355328)
    (w0 : World) (hF : ∀ k, F k → w0.heap.size ≤ k ∧ k < w.heap.size) (hb : Below w0.heap.size w0 w)
    (hK : ∀ p c w' F', OwnB w' F' (.slice p (bs.length + news.length) c) (bs ++ news) → (∀ k, F' k → w0.heap.size ≤ k ∧ k < w'.heap.size) → Below w0.heap.size w0 w' → K (a.put o.dst (.slice p (bs.length + news.length) c)) w') :
    if Region.wanted o (yielded ops a.tmps) = true then Oper.wp Tryd.prog o a w K Q else E := by
  rw [if_pos (by simp [Region.wanted, hgd])]
  refine wp_append_bytes w F bs news s x tx ho v hv h xv hx hs hl fun p c w' F' h1 hu => hK p c w' F' h1 ?_ ?_
  · intro k hk
    have := hu.chg.size
    have := hb.size
    rcases hu.new k hk with h2 | h2
    · have := hF k h2; omega
    · omega
  · exact hb.trans (hu.chg.below hb.size fun k hk => (hF k hk).1)

/-- New bytes since a world: owned, and all that was there then is as it was. -/
structure Since (w0 w : World) (v : Value) (bs : List UInt8) : Prop where
  own : ∃ F, OwnB w F v bs ∧ ∀ k, F k → w0.heap.size ≤ k ∧ k < w.heap.size
  below : Below w0.heap.size w0 w

theorem Since.later {w0 w w' : World} {v : Value} {bs : List UInt8} (h : Since w0 w v bs) (hb : Below w.heap.size w w') : Since w0 w' v bs := by
  obtain ⟨F, ho, hF⟩ := h.own
  exact ⟨⟨F, ho.keep hb, fun k hk => ⟨(hF k hk).1, Nat.lt_of_lt_of_le (hF k hk).2 hb.size⟩⟩, h.below.trans (hb.mono h.below.size)⟩
theorem Since.alloc {w0 w : World} {v : Value} {bs : List UInt8} (h : Since w0 w v bs) (o : Obj) : Since w0 (w.alloc o) v bs := h.later ((Below.refl _ _).alloc (Nat.le_refl _) o)
theorem Since.bytes {w0 w : World} {v : Value} {bs : List UInt8} (h : Since w0 w v bs) : BytesAt w v bs := let ⟨_, ho, _⟩ := h.own; ho.bytes
theorem MadeO.since {w w0 w' : World} {bs : List UInt8} {e : Ending} (h : MadeO w bs e w') (hb : Below w0.heap.size w0 w) : ∃ p c, e = .returned (.slice p bs.length c) ∧ Since w0 w' (.slice p bs.length c) bs ∧ Below w.heap.size w w' := by
  obtain ⟨p, c, F, rfl, ho, hF, hb2⟩ := h
  have := hb.size
  exact ⟨p, c, rfl, ⟨⟨F, ho, fun k hk => ⟨by have := hF k hk; omega, (hF k hk).2⟩⟩, hb.trans (hb2.mono this)⟩, hb2⟩
theorem Since.madeO {w0 w : World} {p : Option Addr} {c : Nat} {bs : List UInt8} (h : Since w0 w (.slice p bs.length c) bs) : MadeO w0 bs (.returned (.slice p bs.length c)) w :=
  let ⟨F, ho, hF⟩ := h.own
  ⟨p, c, F, rfl, ho, hF, h.below⟩
theorem Since.made {w w0 w1 : World} {v : Value} {bs : List UInt8} (h : Since w0 w1 v bs) (hb : Below w.heap.size w w0) : Made w bs (.returned v) w1 := by
  obtain ⟨F, ho, hF⟩ := h.own
  have := hb.size
  exact ⟨hb.trans (h.below.mono this), v, rfl, ho.bytes, fun g hg => ⟨by have := hF g (ho.2 g hg); omega, (hF g (ho.2 g hg)).2⟩⟩
theorem MadeO.toMade {w : World} {bs : List UInt8} {e : Ending} {w' : World} (h : MadeO w bs e w') : Made w bs e w' := by
  obtain ⟨p, c, F, rfl, ho, hF, hb⟩ := h
  exact ⟨hb, _, rfl, ho.bytes, fun g hg => hF g (ho.2 g hg)⟩

theorem step_append_since {ops : Array Oper} {o : Oper} {a : Act} {K : Act → World → Prop} {Q : Exit → Act → World → Prop} {E : Prop} (w w0 : World) (bs news : List UInt8) (hgd : o.guard = none) (s x : Operand) (tx : TypeId)
    (ho : o.op = .call { callee := .builtin .append, args := #[s, x], argTypes := #[25, tx] }) (v : Value) (hv : a.eval s = v) (h : Since w0 w v bs) (xv : Value) (hx : a.eval x = xv) (hs : SrcB w tx xv news) (hl : bs.length + news.length ≤ 140737488355328)
    (hK : ∀ p c w', Since w0 w' (.slice p (bs.length + news.length) c) (bs ++ news) → K (a.put o.dst (.slice p (bs.length + news.length) c)) w') :
    if Region.wanted o (yielded ops a.tmps) = true then Oper.wp Tryd.prog o a w K Q else E := by
  obtain ⟨F, hown, hF⟩ := h.own
  exact step_append_made w F bs news hgd s x tx ho v hv hown xv hx hs hl w0 hF h.below fun p c w' F' h1 hF' hb' => hK p c w' ⟨⟨F', h1, hF'⟩, hb'⟩

theorem append_since {ops : Array Oper} {rest : List Oper} {o : Oper} {a : Act} {Q : Exit → Act → World → Prop} (w w0 : World) (bs news : List UInt8) (hgd : o.guard = none) (s x : Operand) (tx : TypeId)
    (ho : o.op = .call { callee := .builtin .append, args := #[s, x], argTypes := #[25, tx] }) (v : Value) (hv : a.eval s = v) (h : Since w0 w v bs) (xv : Value) (hx : a.eval x = xv) (hs : SrcB w tx xv news) (hl : bs.length + news.length ≤ 140737488355328)
    (hK : ∀ p c w', Since w0 w' (.slice p (bs.length + news.length) c) (bs ++ news) → wpList Tryd.prog ops Q rest (a.put o.dst (.slice p (bs.length + news.length) c)) w') : wpList Tryd.prog ops Q (o :: rest) a w := by
  obtain ⟨F, hown, hF⟩ := h.own
  exact append_made w F bs news hgd s x tx ho v hv hown xv hx hs hl w0 hF h.below fun p c w' F' h1 hF' hb' => hK p c w' ⟨⟨F', h1, hF'⟩, hb'⟩

theorem bytesWorld_below (w : World) (e : TypeId) (s : ByteArray) : Below w.heap.size w (Lib.bytesWorld w e s) :=
  ⟨rfl, rfl, rfl, by rw [Lib.bytesWorld_size]; omega, fun k hk => Lib.bytesWorld_at_old w e s k hk⟩

theorem bytesWorld_bytes (w : World) (s : ByteArray) : BytesAt (Lib.bytesWorld w 5 s) (.slice (some ⟨w.heap.size, 0, none⟩) s.size (grownCap w s.size 0 5)) s.data.toList := by
  have e : s.size = s.data.toList.length := by rw [Array.length_toList]; rfl
  refine .inr ⟨w.heap.size, 0, grownCap w s.size 0 5, by rw [← e], by rw [← e]; exact grownCap_ge _ _ _ _, fun j hj => ?_⟩
  rw [Nat.zero_add, Lib.bytesWorld_cell w _ s j (by omega)]
  simp [List.getD, List.getElem?_eq_getElem hj]

end Go.Proofs.YtgnkinhjfcbdbaaDoor
