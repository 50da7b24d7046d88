/- Slices of bytes that the call owns; appends to them, and to a Buffer's. -/
import Derived.Test.YtgnkinhjfcbdbaaDoorApp
import Derived.Test.YtgnkinhjfcbdbaaDoorBytes
import Derived.Test.YtgnkinhjfcbdbaaDoorUv
namespace Go.Proofs.YtgnkinhjfcbdbaaDoor
open Go.RowKit

/-- The slice owns a row of the call's own, within F. -/
def OwnB (w : World) (F : Nat → Prop) (v : Value) (bs : List UInt8) : Prop := w.ownsRow 0 5 1 v bs.length (u8s bs) ∧ ∀ g, v.ownBlock = some g → F g

theorem OwnB.nil (w : World) (F : Nat → Prop) : OwnB w F (.slice none 0 0) [] := ⟨World.ownsRow_nil _ _ _ _, by simp [Value.ownBlock]⟩

theorem ownsRow_bytes {w : World} {v : Value} {bs : List UInt8} (h : w.ownsRow 0 5 1 v bs.length (u8s bs)) : BytesAt w v bs := by
  obtain ⟨h1, h2⟩ := h
  rcases h2 with ⟨rfl, h2⟩ | ⟨g, cap, cur, rfl, hg, hh, hl, hm, hs, ht⟩
  · exact .inl ⟨rfl, List.length_eq_zero_iff.1 h2⟩
  · refine .inr ⟨g, 0, cap, rfl, hl, fun j hj => ?_⟩
    have h3 : (u8s bs)[j]? = some (.int .u8 (bs[j]).toNat) := by simp [u8s, List.getElem?_eq_getElem hj]
    rw [← ht, List.getElem?_take] at h3
    simp [hj] at h3
    simp [World.cell?, hh, h3]

theorem OwnB.bytes {w : World} {F : Nat → Prop} {v : Value} {bs : List UInt8} (h : OwnB w F v bs) : BytesAt w v bs := ownsRow_bytes h.1
theorem OwnB.slice {w : World} {F : Nat → Prop} {v : Value} {bs : List UInt8} (h : OwnB w F v bs) : ∃ p c, v = .slice p bs.length c := h.bytes.slice
theorem OwnB.keep {w w' : World} {F : Nat → Prop} {v : Value} {bs : List UInt8} (h : OwnB w F v bs) (hb : Below w.heap.size w w') : OwnB w' F v bs :=
  ⟨ownsRow_block h.1 fun g hg => hb.block g (h.1.lt g hg).2, h.2⟩
theorem OwnB.upd {w w' : World} {F G : Nat → Prop} {v : Value} {bs : List UInt8} (h : OwnB w F v bs) (hc : Chg G w w') (hd : Disj F G) : OwnB w' F v bs :=
  ⟨ownsRow_block h.1 fun g hg => hc.block g (h.1.lt g hg).2 (hd g (h.2 g hg)), h.2⟩

/-- What a slice that is appended yields. -/
def SrcB (w : World) (tx : TypeId) (x : Value) (bs : List UInt8) : Prop := Src Tryd.prog 1 tx x bs.length (u8s bs) w

theorem BytesAt.srcB {w : World} {v : Value} {bs : List UInt8} (h : BytesAt w v bs) : SrcB w 25 v bs := by
  rcases h with ⟨rfl, rfl⟩ | ⟨b, off, cap, rfl, hl, h⟩
  · exact Src.ofNil w Tryd.underlying25 0
  · refine Src.ofSlice w Tryd.underlying25 ⟨b, off, none⟩ bs.length cap (u8s bs) (by simp) ?_ (one_u8s bs)
    intro j v hv
    have hadd : (⟨b, off, none⟩ : Addr).add j = ⟨b, off + j, none⟩ := by unfold Addr.add; split <;> simp_all
    obtain ⟨x, hx, rfl⟩ : ∃ x, bs[j]? = some x ∧ .int .u8 (x.toNat : Int) = v := by
      unfold u8s at hv; rw [List.getElem?_map] at hv; simpa using hv
    obtain ⟨hj, rfl⟩ := List.getElem?_eq_some_iff.1 hx
    rw [hadd, h j hj]

theorem srcB_string (w : World) (s : ByteArray) : SrcB w 9 (.string s) s.data.toList := by
  have h := Src.ofString (P := Tryd.prog) w Tryd.underlying9 s
  have e : s.size = s.data.toList.length := by rw [Array.length_toList]; rfl
  unfold SrcB
  rw [← e]
  exact h

theorem run_append_bytes (w : World) (F : Nat → Prop) (v : Value) (bs : List UInt8) (h : OwnB w F v bs) (tx ty : TypeId) (x : Value) (news : List UInt8) (hs : SrcB w tx x news) (hl : bs.length + news.length ≤ 140737488355328) :
    ∃ v' w', (Builtin.append_ #[25, tx] ty #[v, x]).run Tryd.prog w = .ok v' w' ∧ w'.ownsRow 0 5 1 v' (bs ++ news).length (u8s (bs ++ news)) ∧ w.grownBy w' v.ownBlock ∧ (v'.ownBlock = v.ownBlock ∨ v'.ownBlock = some w.heap.size) := by
  obtain ⟨i0, hi, hz0, hz1, hz2⟩ := info_parts infoU8
  obtain ⟨v', w', hr, hown, hg, hb⟩ := run_append_any (P := Tryd.prog) w 25 tx ty 5 i0 (.int .u8 0) 1 1 Tryd.underlying25 hi hz0 hz1 hz2 rfl (by decide) v bs.length (u8s bs) h.1 x news.length (u8s news) hs (by unfold maxLen; omega) (by omega)
  exact ⟨v', w', hr, by simpa [u8s_append] using hown, hg, hb⟩

theorem ownB_of {w w' : World} {F : Nat → Prop} {v v' : Value} {bs bs' : List UInt8} (h : OwnB w F v bs) (hown : w'.ownsRow 0 5 1 v' bs'.length (u8s bs')) (hg : w.grownBy w' v.ownBlock) (hb : v'.ownBlock = v.ownBlock ∨ v'.ownBlock = some w.heap.size) :
    ∃ F', OwnB w' F' v' bs' ∧ Upd w w' F F' := by
  refine ⟨fun k => F k ∨ (w.heap.size ≤ k ∧ k < w'.heap.size), ⟨hown, fun g hgg => ?_⟩, (Chg.refl F w).grown hg fun k hk => .inl (h.2 k hk), fun k hk => hk⟩
  have hlt := (hown.lt g hgg).2
  rcases hb with hb | hb
  · exact .inl (h.2 g (hb ▸ hgg))
  · rw [hgg] at hb
    simp at hb
    exact .inr ⟨by omega, hlt⟩

theorem wp_append_bytes {o : Oper} {a : Act} {K : Act → World → Prop} {Q : Exit → Act → World → Prop} (w : World) (F : Nat → Prop) (bs news : List UInt8) (s x : Operand) (tx : TypeId)
    (ho : o.op = .call { callee := .builtin .append, args := #[s, x], argTypes := #[25, tx] }) (v : Value) (hv : a.eval s = v) (h : OwnB w F v bs) (xv : Value) (hx : a.eval x = xv) (hs : SrcB w tx xv news) (hl : bs.length + news.length ≤ 140737488355328)
    (hK : ∀ p c w' F', OwnB w' F' (.slice p (bs.length + news.length) c) (bs ++ news) → Upd w w' F F' → K (a.put o.dst (.slice p (bs.length + news.length) c)) w') : o.wp Tryd.prog a w K Q := by
  obtain ⟨v', w', hr, hown, hg, hb⟩ := run_append_bytes w F v bs h tx o.type xv news hs hl
  obtain ⟨F', h', hu⟩ := ownB_of h hown hg hb
  obtain ⟨p, c, rfl⟩ := h'.slice
  rw [List.length_append] at *
  unfold Oper.wp execOp
  simp only [ho, resolve, invoke, builtin, Sem.run_bind, Sem.run_pure, Result.andThen_ok, List.map_toArray, List.map_cons, List.map_nil, hv, hx, hr]
  exact hK p c w' F' h' hu

theorem append_bytes {ops : Array Oper} {rest : List Oper} {o : Oper} {a : Act} {Q : Exit → Act → World → Prop} (w : World) (F : Nat → Prop) (bs news : List UInt8) (hgd : o.guard = none) (s x : Operand) (tx : TypeId)
    (ho : o.op = .call { callee := .builtin .append, args := #[s, x], argTypes := #[25, tx] }) (v : Value) (hv : a.eval s = v) (h : OwnB w F v bs) (xv : Value) (hx : a.eval x = xv) (hs : SrcB w tx xv news) (hl : bs.length + news.length ≤ 140737488355328)
    (hK : ∀ p c w' F', OwnB w' F' (.slice p (bs.length + news.length) c) (bs ++ news) → Upd w w' F F' → wpList Tryd.prog ops Q rest (a.put o.dst (.slice p (bs.length + news.length) c)) w') : wpList Tryd.prog ops Q (o :: rest) a w :=
  wpList_plain hgd fun _ hKK => wp_append_bytes w F bs news s x tx ho v hv h xv hx hs hl fun p c w' F' h1 h2 => hKK _ _ (hK p c w' F' h1 h2)

/-- The append of any bytes to the buffer's slice, which has just been loaded. -/
theorem wp_append_bufs {o : Oper} {a : Act} {K : Act → World → Prop} {Q : Exit → Act → World → Prop} (w : World) (F : Nat → Prop) (T : TypeId) (p : Nat) (bs news : List UInt8) (s x : Operand) (tx : TypeId)
    (ho : o.op = .call { callee := .builtin .append, args := #[s, x], argTypes := #[25, tx] }) (hB : BufAt w F T p bs) (v : Value) (hv : w.cell? ⟨p, 0, none⟩ = some v) (hs : a.eval s = v)
    (xv : Value) (hx : a.eval x = xv) (hsrc : SrcB w tx xv news) (hl : bs.length + news.length ≤ 140737488355328)
    (h : ∀ q c w1, w1.cell? ⟨p, 0, none⟩ = some v → w1.frozen? ⟨p, 0, none⟩ = false → Stored w w1 F T p (.slice q (bs.length + news.length) c) (bs ++ news) → K (a.put o.dst (.slice q (bs.length + news.length) c)) w1) : o.wp Tryd.prog a w K Q := by
  obtain ⟨hF, v0, hp, hown, hv0⟩ := hB
  have hc := cell_of_one hp
  rw [hc] at hv
  obtain rfl : v0 = v := Option.some.inj hv
  have hlt : p < w.heap.size := (Array.getElem?_eq_some_iff.1 hp).1
  obtain ⟨v', w1, hr, hown1, hgrow, hat⟩ := run_append_bytes w F v0 bs ⟨hown, fun g hg => (hv0 g hg).1⟩ tx o.type xv news hsrc hl
  have hb1 : w1.heap[p]? = w.heap[p]? := hgrow.block p hlt (fun e => (hv0 p e.symm).2 rfl)
  have hst := bufAt_store hp hF hv0 rfl hown1 hgrow hat
  obtain ⟨q, c, rfl⟩ := (ownsRow_bytes hown1).slice
  rw [List.length_append] at *
  unfold Oper.wp execOp
  simp only [ho, resolve, invoke, builtin, Sem.run_bind, Sem.run_pure, Result.andThen_ok, List.map_toArray, List.map_cons, List.map_nil, hs, hx, hr]
  exact h q c w1 (by rw [World.cell?_of_block (a := ⟨p, 0, none⟩) hb1]; exact hc) (by rw [World.frozen?_of_block (a := ⟨p, 0, none⟩) hb1]; exact free_of_one hp) hst

theorem append_bufs {ops : Array Oper} {rest : List Oper} {o : Oper} {a : Act} {Q : Exit → Act → World → Prop} (w : World) (F : Nat → Prop) (T : TypeId) (p : Nat) (bs news : List UInt8) (hgd : o.guard = none) (s x : Operand) (tx : TypeId)
    (ho : o.op = .call { callee := .builtin .append, args := #[s, x], argTypes := #[25, tx] }) (hB : BufAt w F T p bs) (v : Value) (hv : w.cell? ⟨p, 0, none⟩ = some v) (hs : a.eval s = v)
    (xv : Value) (hx : a.eval x = xv) (hsrc : SrcB w tx xv news) (hl : bs.length + news.length ≤ 140737488355328)
    (h : ∀ q c w1, w1.cell? ⟨p, 0, none⟩ = some v → w1.frozen? ⟨p, 0, none⟩ = false → Stored w w1 F T p (.slice q (bs.length + news.length) c) (bs ++ news) → wpList Tryd.prog ops Q rest (a.put o.dst (.slice q (bs.length + news.length) c)) w1) : wpList Tryd.prog ops Q (o :: rest) a w :=
  wpList_plain hgd fun _ hK => wp_append_bufs w F T p bs news s x tx ho hB v hv hs xv hx hsrc hl fun q c w1 h1 h2 h3 => hK _ _ (h q c w1 h1 h2 h3)

theorem step_append_bufs {ops : Array Oper} {o : Oper} {a : Act} {K : Act → World → Prop} {Q : Exit → Act → World → Prop} {E : Prop} (w : World) (F : Nat → Prop) (T : TypeId) (p : Nat) (bs news : List UInt8) (hgd : o.guard = none) (s x : Operand) (tx : TypeId)
    (ho : o.op = .call { callee := .builtin .append, args := #[s, x], argTypes := #[25, tx] }) (hB : BufAt w F T p bs) (v : Value) (hv : w.cell? ⟨p, 0, none⟩ = some v) (hs : a.eval s = v)
    (xv : Value) (hx : a.eval x = xv) (hsrc : SrcB w tx xv news) (hl : bs.length + news.length ≤ 140737488355328)
    (h : ∀ q c w1, w1.cell? ⟨p, 0, none⟩ = some v → w1.frozen? ⟨p, 0, none⟩ = false → Stored w w1 F T p (.slice q (bs.length + news.length) c) (bs ++ news) → K (a.put o.dst (.slice q (bs.length + news.length) c)) w1) :
    if Region.wanted o (yielded ops a.tmps) = true then Oper.wp Tryd.prog o a w K Q else E := by
  rw [if_pos (by simp [Region.wanted, hgd])]
  exact wp_append_bufs w F T p bs news s x tx ho hB v hv hs xv hx hsrc hl h

/-! ### The Buffer's methods that put strings and raw bytes -/
theorem Upd.trans_put {w w1 : World} {F F' : Nat → Prop} {T : TypeId} {p : Nat} {bs : List UInt8} {e : Ending} {w' : World} (hu : Upd w w1 F F') (h : Put w1 F' T p bs e w') : Put w F T p bs e w' := by
  obtain ⟨rfl, F2, hb, hu2⟩ := h
  exact ⟨rfl, F2, hb, hu.trans hu2⟩

end Go.Proofs.YtgnkinhjfcbdbaaDoor
