/- Raw bytes read; a column filled from them row by row. -/
import Derived.Test.YtemmhlibbihjmaaGreatNumE
import Derived.Test.YtemmhlibbihjmaaGreatStrE
namespace Go.Proofs.YtemmhlibbihjmaaGreat
open Go.RowKit
set_option linter.unusedVariables false
set_option linter.unusedSimpArgs false

set_option maxRecDepth 100000 in
theorem rdRawN (w : World) (F D : Nat → Prop) (r : Nat) (s tail cur : List UInt8) (n : Nat) (hn : n = s.length) (h : RdAt w F D r (s ++ tail) cur) (hm : (s ++ tail).length ≤ 1000000000) :
    Calls Tryz.prog 51 #[.pointer (some ⟨r, 0, none⟩), .int .i64 n] w (GotRaw w F D r s tail) := by
  subst hn
  go_enter Tryz.func51, Tryz.ntmps51
  go_wp2_with fail
  refine (readFull _ F D r (s ++ tail) cur h s.length (by simp) (by omega)).mono ?_
  rintro e w2 ⟨rfl, F2, h2, hu2⟩
  simp only [List.drop_left, List.take_left] at h2
  obtain ⟨b, v, hbr, h2⟩ := h2
  have HBR := Lib.hid hbr
  clear hbr
  obtain ⟨vd, hc0, hc1, hf, hb, hcb⟩ := h2.cells
  have hbv := h2.bytes
  go_wp2_with fail
  go_ret2
  exact ⟨b, v, F2, HBR.out, rfl, h2, hbv, hu2⟩
set_option maxRecDepth 100000 in
theorem rdRawN_short (w : World) (F D : Nat → Prop) (r : Nat) (rest cur : List UInt8) (h : RdAt w F D r rest cur) (n : Nat) (hn : rest.length < n) :
    Calls Tryz.prog 51 #[.pointer (some ⟨r, 0, none⟩), .int .i64 n] w (Fell w F D r fun e => .tuple #[.slice none 0 0, e]) := by
  go_enter Tryz.func51, Tryz.ntmps51
  go_wp2_with (first | (go_at_call 55; refine (readFull_short _ F D r rest cur h n hn).mono ?_; rintro e w1 ⟨a, F1, cur1, rfl, h1, hu⟩) | (go_at_call 48; refine (wrapErr _ _ _ _).mono ?_; rintro e w2 ⟨⟨a2, rfl⟩, hb2⟩))
  go_ret2
  exact ⟨a2, F1, cur1, rfl, h1.below hb2, hu.below hb2⟩

/-- What DecodeColumn leaves. -/
def DecNum (w : World) (Fr D F : Nat → Prop) (r q : Nat) (T E : TypeId) (size : Nat) (ok : Bool) (n : Nat) (xs : List Value) (tail : List UInt8) (e : Ending) (w' : World) : Prop :=
  (ok = true → e = .returned .nilIface ∧ ∃ Fr' cur F', RdAt w' Fr' D r tail cur ∧ NumCol w' F' T E size q n xs ∧ Upd w w' (fun k => Fr k ∨ F k) (fun k => Fr' k ∨ F' k) ∧ ∀ k, F' k → ¬ Fr' k ∧ ¬ D k) ∧
  (ok = false → (∃ a, e = .returned (.iface 131 (.pointer (some a)))) ∧ Chg (fun k => Fr k ∨ F k) w w')

/-- Behind k rows. -/
def DecK (W1 : World) (E : TypeId) (size : Nat) (v0 : Value) (flat : List UInt8) (k : Nat) (v : Value) (wr : World) : Prop :=
  ∃ Fk, OwnR wr Fk E size v k (u8s (flat.take (k * size))) ∧ Upd W1 wr (fun j => v0.ownBlock = some j) Fk

/-- The row read next. -/
theorem row_range {w : World} {b off c : Nat} {flat : List UInt8} (h : BytesAt w (.slice (some ⟨b, off, none⟩) flat.length c) flat) (i size : Nat) (row : List UInt8) (hr : row = (flat.drop (i * size)).take size) : w.rangeAt b (off + i * size) (u8s row) := fun j x hj => by
  subst hr
  rcases h with ⟨h1, -⟩ | ⟨b', off', c', h1, hc, hx⟩
  · simp at h1
  · obtain ⟨⟨rfl, rfl⟩, -⟩ : (b = b' ∧ off = off') ∧ c = c' := by simpa using h1
    unfold u8s at hj
    rw [List.getElem?_map] at hj
    obtain ⟨y, hy, rfl⟩ := Option.map_eq_some_iff.1 hj
    rw [List.getElem?_take] at hy
    split at hy
    · rw [List.getElem?_drop] at hy
      obtain ⟨hlt, rfl⟩ := List.getElem?_eq_some_iff.1 hy
      rw [Nat.add_assoc]
      exact hx _ hlt
    · simp at hy

theorem decK_zero {W1 : World} {T E : TypeId} {size q : Nat} {v0 : Value} {flat : List UInt8} (h : NumX W1 T E size q v0 0 []) : DecK W1 E size v0 flat 0 v0 W1 :=
  ⟨_, ⟨by simpa [u8s] using h.own, fun g hg => hg⟩, Upd.refl _ _⟩
theorem decK_next {W1 wr w5 : World} {E : TypeId} {size : Nat} {v0 : Value} {flat row : List UInt8} {k : Nat} {Fk F5 : Nat → Prop} {p : Option Addr} {c : Nat} {o : Obj} (hrow : row = (flat.drop (k * size)).take size) (hu : Upd W1 wr (fun j => v0.ownBlock = some j) Fk)
    (hown : OwnR w5 F5 E size (.slice p (k + 1) c) (k + 1) (u8s (flat.take (k * size)) ++ u8s row)) (hu5 : Upd (wr.alloc o) w5 Fk F5) : DecK W1 E size v0 flat (k + 1) (.slice p (k + 1) c) w5 := by
  refine ⟨F5, ?_, (hu.alloc o).trans hu5⟩
  rw [← u8s_append] at hown
  have : flat.take ((k + 1) * size) = flat.take (k * size) ++ row := by rw [Nat.add_mul, Nat.one_mul, List.take_add, hrow]
  rw [this]
  exact hown

theorem decK_done {w W1 wr : World} {Fr D F F2 : Nat → Prop} {r q b n size : Nat} {T E : TypeId} {v0 v vb : Value} {flat tail xs' : List UInt8} (hX : NumX w T E size q v0 0 []) (hF : ∀ k, FpN q v0 k → F k) (hFd : ∀ k, F k → ¬ Fr k ∧ ¬ D k) (hR : In D w) (hbr : b + 1 = r) (hX2 : RdX W1 F2 D r tail b vb (u8s xs')) (hu2 : Upd w W1 Fr F2)
    (hk : DecK W1 E size v0 flat n v wr) (hn : flat.length = n * size) : DecNum w Fr D F r q T E size true n (u8s flat) tail (.returned .nilIface) (wr.setCell ⟨q, 0, none⟩ v) := by
  obtain ⟨Fk, hown, hu⟩ := hk
  have hX1 := hX.chg hu2.chg fun k hk => (hFd k (hF k hk)).1
  rw [← hn, List.take_length] at hown
  obtain ⟨hg, hU⟩ := hX1.grow hown hu
  obtain ⟨F', h1, h2⟩ := hU.widenN (F := F) hF
  have hW := hu2.chg.size
  have hdis : ∀ k, FpN q v k → ¬ F2 k ∧ ¬ D k := fun k hk => by
    rcases hU.new k hk with h | h
    · refine ⟨fun e => ?_, fun e => (hFd k (hF k h)).2 e⟩
      rcases hu2.new k e with h3 | h3
      · exact (hFd k (hF k h)).1 h3
      · have := hX.inn k h; omega
    · exact ⟨fun e => by have := hX2.inF k e; omega, fun e => by have := hX2.inD k e; omega⟩
  have hdis0 : ∀ k, FpN q v0 k → ¬ F2 k ∧ ¬ D k := fun k hk => ⟨fun e => by
      rcases hu2.new k e with h3 | h3
      · exact (hFd k (hF k hk)).1 h3
      · have := hX.inn k hk; omega, (hFd k (hF k hk)).2⟩
  refine ⟨fun _ => ⟨rfl, F2, xs', FpN q v, ?_, ⟨v, hg, fun k hk => hk⟩, ⟨?_, fun k hk => ?_⟩, hdis⟩, fun h => by simp at h⟩
  · exact RdAt.upd ⟨b, vb, hbr, hX2⟩ hU.chg (fun k hk e => (hdis0 k e).1 hk) fun k hk e => (hdis0 k e).2 hk
  · refine (hu2.chg.mono (G := fun k => Fr k ∨ F k) fun _ _ h => .inl h).trans hU.chg fun k hk h => .inr (hF k h)
  · rcases hk with h | h
    · rcases hu2.new k h with h | h
      · exact .inl (.inl h)
      · exact .inr ⟨h.1, by have := hU.chg.size; omega⟩
    · rcases hU.new k h with h | h
      · exact .inl (.inr (hF k h))
      · exact .inr ⟨by omega, h.2⟩
theorem run_arrayAt {T E : TypeId} {k : Nat} (hu : Tryz.prog.underlying T = some (.array k E)) (w : World) (a : Addr) (c : Nat) : (Instr.arrayAt T (.slice (some a) k c)).run Tryz.prog w = .ok (.pointer (some a)) w := by
  simp [Instr.arrayAt, run_underlying hu, Sem.run_bind]
theorem BytesX.range {w : World} {x : Value} {s : List UInt8} (h : BytesX w x s) (hn : 0 < s.length) : ∃ b off c, x = .slice (some ⟨b, off, none⟩) s.length c ∧ s.length ≤ c ∧ w.rangeAt b off (u8s s) := by
  rcases h with (⟨-, rfl⟩ | ⟨b, off, c, rfl, hc, hx⟩) | ⟨rfl, -⟩
  · simp at hn
  · refine ⟨b, off, c, rfl, hc, fun j v hj => ?_⟩
    obtain ⟨hj2, rfl⟩ := List.getElem?_eq_some_iff.1 hj
    have hj3 : j < s.length := by simpa [u8s] using hj2
    rw [hx j hj3]
    simp [u8s]
  · simp at hn
theorem load_one {w : World} {q : Nat} {v : Value} {T E : TypeId} (h : w.heap[q]? = some (.cells #[v] T (0, 0))) (hu : Tryz.prog.underlying T = some (.slice E)) : (loadVar T ⟨q, 0, none⟩).run Tryz.prog w = .ok v w := by
  have hc : w.cell? ⟨q, 0, none⟩ = some v := cell_of_one h
  unfold loadVar
  simp only [Sem.run_bind, isAgg, run_underlying hu, Result.andThen_ok, Sem.run_pure, Bool.false_eq_true, if_false]
  simp [run_load, hc]
theorem bytesAt_row (w : World) (s : List UInt8) (T : TypeId) : BytesAt (w.alloc (.cells (u8s s).toArray T)) (.slice (some ⟨w.heap.size, 0, none⟩) s.length s.length) s :=
  .inr ⟨w.heap.size, 0, s.length, rfl, Nat.le_refl _, fun j hj => by
    rw [Nat.zero_add, cell_of_row _ _ j _ _ _ (heap_alloc_new w _)]
    simp [u8s, hj]⟩
end Go.Proofs.YtemmhlibbihjmaaGreat
