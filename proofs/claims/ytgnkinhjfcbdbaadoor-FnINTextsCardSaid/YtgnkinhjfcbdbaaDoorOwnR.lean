/- Slices that the call owns, of whatever elements; appends to them. -/
import Derived.Test.YtgnkinhjfcbdbaaDoorOwn
namespace Go.Proofs.YtgnkinhjfcbdbaaDoor
open Go.RowKit
set_option linter.unnecessarySimpa false
set_option linter.unusedVariables false

/-- A slice's type with its elements': how many cells and bytes each has. -/
structure Elem (T E : TypeId) (size bytes : Nat) : Prop where
  under : Tryd.prog.underlying T = some (.slice E)
  info : ∃ i z, Tryd.prog.info? E = some i ∧ i.zero = some z ∧ i.size = size ∧ i.bytes = bytes ∧ z.cells.size = size
  pos : 0 < size

theorem elem_of {T E : TypeId} {size bytes : Nat} {z : Value} (hu : Tryd.prog.underlying T = some (.slice E)) (hi : (Tryd.prog.info? E).map (fun i => (i.zero, i.size, i.bytes)) = some (some z, size, bytes)) (hz : z.cells.size = size) (hp : 0 < size) : Elem T E size bytes := by
  obtain ⟨i, h1, h2, h3, h4⟩ := info_parts hi
  exact ⟨hu, ⟨i, z, h1, h2, h3, h4, hz⟩, hp⟩

def OwnR (w : World) (F : Nat → Prop) (E : TypeId) (size : Nat) (v : Value) (n : Nat) (xs : List Value) : Prop := w.ownsRow 0 E size v n xs ∧ ∀ g, v.ownBlock = some g → F g

theorem OwnR.nil (w : World) (F : Nat → Prop) (E : TypeId) (size : Nat) : OwnR w F E size (.slice none 0 0) 0 [] := ⟨World.ownsRow_nil _ _ _ _, by simp [Value.ownBlock]⟩
theorem OwnR.lt {w : World} {F : Nat → Prop} {E : TypeId} {size n : Nat} {v : Value} {xs : List Value} (h : OwnR w F E size v n xs) : ∀ g, v.ownBlock = some g → g < w.heap.size := fun g hg => (h.1.lt g hg).2
theorem OwnR.slice {w : World} {F : Nat → Prop} {E : TypeId} {size n : Nat} {v : Value} {xs : List Value} (h : OwnR w F E size v n xs) : ∃ p c, v = .slice p n c := by
  rcases h.1.2 with ⟨rfl, h2⟩ | ⟨g, cap, cur, rfl, -⟩
  · rw [h2]; exact ⟨_, _, rfl⟩
  · exact ⟨_, _, rfl⟩
theorem OwnR.keep {w w' : World} {F : Nat → Prop} {E : TypeId} {size n : Nat} {v : Value} {xs : List Value} (h : OwnR w F E size v n xs) (hb : Below w.heap.size w w') : OwnR w' F E size v n xs :=
  ⟨ownsRow_block h.1 fun g hg => hb.block g (h.1.lt g hg).2, h.2⟩
theorem OwnR.upd {w w' : World} {F G : Nat → Prop} {E : TypeId} {size n : Nat} {v : Value} {xs : List Value} (h : OwnR w F E size v n xs) (hc : Chg G w w') (hd : Disj F G) : OwnR w' F E size v n xs :=
  ⟨ownsRow_block h.1 fun g hg => hc.block g (h.1.lt g hg).2 (hd g (h.2 g hg)), h.2⟩
/-- Its cells. -/
theorem OwnR.cells {w : World} {F : Nat → Prop} {E : TypeId} {size n : Nat} {v : Value} {xs : List Value} (h : OwnR w F E size v n xs) :
    (v = .slice none 0 0 ∧ xs = []) ∨ ∃ g cap, v = .slice (some ⟨g, 0, none⟩) n cap ∧ n ≤ cap ∧ F g ∧ g < w.heap.size ∧ ∀ (j : Nat) (u : Value), xs[j]? = some u → w.cell? ⟨g, j, none⟩ = some u ∧ w.frozen? ⟨g, j, none⟩ = false := by
  obtain ⟨⟨h1, h2⟩, h3⟩ := h
  rcases h2 with ⟨rfl, h2⟩ | ⟨g, cap, cur, rfl, hg, hh, hl, hm, hs, ht⟩
  · exact .inl ⟨rfl, List.length_eq_zero_iff.1 (by rw [h1, h2]; simp)⟩
  · refine .inr ⟨g, cap, rfl, hl, h3 g rfl, (Array.getElem?_eq_some_iff.1 hh).1, fun j u hj => ?_⟩
    rw [← ht, List.getElem?_take] at hj
    split at hj
    · refine ⟨?_, by simp [World.frozen?, hh]⟩
      simp only [World.cell?, hh]
      simpa using hj
    · simp at hj

theorem run_append_rows {T E : TypeId} {size bytes : Nat} (el : Elem T E size bytes) (w : World) (F : Nat → Prop) (v : Value) (n : Nat) (xs : List Value) (h : OwnR w F E size v n xs) (tx ty : TypeId) (x : Value) (m : Nat) (news : List Value) (hs : Src Tryd.prog size tx x m news w)
    (hl : n + m ≤ 140737488355328) (hlb : (n + m) * bytes ≤ 140737488355328) :
    ∃ p c w' F', (Builtin.append_ #[T, tx] ty #[v, x]).run Tryd.prog w = .ok (.slice p (n + m) c) w' ∧ OwnR w' F' E size (.slice p (n + m) c) (n + m) (xs ++ news) ∧ Upd w w' F F' := by
  obtain ⟨i0, z, hi, hz0, hz1, hz2, hz3⟩ := el.info
  obtain ⟨v', w', hr, hown, hg, hb⟩ := run_append_any (P := Tryd.prog) w T tx ty E i0 z size bytes el.under hi hz0 hz1 hz2 hz3 el.pos v n xs h.1 x m news hs (by unfold maxLen; omega) hlb
  have h' : OwnR w' (fun k => F k ∨ (w.heap.size ≤ k ∧ k < w'.heap.size)) E size v' (n + m) (xs ++ news) := ⟨hown, fun g hgg => by
    have hlt := (hown.lt g hgg).2
    rcases hb with hb | hb
    · exact .inl (h.2 g (hb ▸ hgg))
    · rw [hgg] at hb
      simp at hb
      exact .inr ⟨by omega, hlt⟩⟩
  obtain ⟨p, c, rfl⟩ := h'.slice
  exact ⟨p, c, w', _, hr, h', (Chg.refl F w).grown hg fun k hk => .inl (h.2 k hk), fun k hk => hk⟩

theorem wp_append_rows {o : Oper} {a : Act} {K : Act → World → Prop} {Q : Exit → Act → World → Prop} {T E : TypeId} {size bytes : Nat} (el : Elem T E size bytes) (w : World) (F : Nat → Prop) (n m : Nat) (xs news : List Value) (s x : Operand) (tx : TypeId)
    (ho : o.op = .call { callee := .builtin .append, args := #[s, x], argTypes := #[T, tx] }) (v : Value) (hv : a.eval s = v) (h : OwnR w F E size v n xs) (xv : Value) (hx : a.eval x = xv) (hs : Src Tryd.prog size tx xv m news w) (hl : n + m ≤ 140737488355328) (hlb : (n + m) * bytes ≤ 140737488355328)
    (hK : ∀ p c w' F', OwnR w' F' E size (.slice p (n + m) c) (n + m) (xs ++ news) → Upd w w' F F' → K (a.put o.dst (.slice p (n + m) c)) w') : o.wp Tryd.prog a w K Q := by
  obtain ⟨p, c, w', F', hr, hown, hu⟩ := run_append_rows el w F v n xs h tx o.type xv m news hs hl hlb
  unfold Oper.wp execOp
  simp only [ho, resolve, invoke, builtin, Sem.run_bind, Sem.run_pure, Result.andThen_ok, List.map_toArray, List.map_cons, List.map_nil, hv, hx, hr]
  exact hK p c w' F' hown hu

theorem append_rows {ops : Array Oper} {rest : List Oper} {o : Oper} {a : Act} {Q : Exit → Act → World → Prop} {T E : TypeId} {size bytes : Nat} (el : Elem T E size bytes) (w : World) (F : Nat → Prop) (n m : Nat) (xs news : List Value) (hgd : o.guard = none) (s x : Operand) (tx : TypeId)
    (ho : o.op = .call { callee := .builtin .append, args := #[s, x], argTypes := #[T, tx] }) (v : Value) (hv : a.eval s = v) (h : OwnR w F E size v n xs) (xv : Value) (hx : a.eval x = xv) (hs : Src Tryd.prog size tx xv m news w) (hl : n + m ≤ 140737488355328) (hlb : (n + m) * bytes ≤ 140737488355328)
    (hK : ∀ p c w' F', OwnR w' F' E size (.slice p (n + m) c) (n + m) (xs ++ news) → Upd w w' F F' → wpList Tryd.prog ops Q rest (a.put o.dst (.slice p (n + m) c)) w') : wpList Tryd.prog ops Q (o :: rest) a w :=
  wpList_plain hgd fun _ hKK => wp_append_rows el w F n m xs news s x tx ho v hv h xv hx hs hl hlb fun p c w' F' h1 h2 => hKK _ _ (hK p c w' F' h1 h2)

/-- One element that has just been laid. -/
theorem src_new {T E : TypeId} {size bytes : Nat} (el : Elem T E size bytes) {w : World} (g : Nat) (vs : List Value) (T2 : TypeId) (hg : w.heap[g]? = some (.cells vs.toArray T2 (0, 0))) (hn : vs.length = size) (h1 : ∀ u ∈ vs, u.oneCell' = true) (c : Nat) :
    Src Tryd.prog size T (.slice (some ⟨g, 0, none⟩) 1 c) 1 vs w := by
  refine Src.ofSlice w el.under ⟨g, 0, none⟩ 1 c vs (by omega) ?_ h1
  intro j u hu
  have hadd : (⟨g, 0, none⟩ : Addr).add j = ⟨g, j, none⟩ := by unfold Addr.add; split <;> simp_all
  rw [hadd]
  simp [World.cell?, hg, hu]
end Go.Proofs.YtgnkinhjfcbdbaaDoor
