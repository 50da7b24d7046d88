/- proto.ColStr: its memory, appends of rows, rows read back. -/
import Derived.Test.YtemmhlibbihjmaaGreatAppZ
import Derived.Test.YtemmhlibbihjmaaGreatRs
import Derived.Test.YtemmhlibbihjmaaGreatSJoin
import Derived.Test.YtemmhlibbihjmaaGreatBx
import Derived.Deep.RegionHeld3
import Derived.Deep.QuietTactic
import Derived.BigQuiet
namespace Go.Proofs.YtemmhlibbihjmaaGreat
open Go.RowKit
set_option linter.unusedVariables false
set_option linter.unnecessarySimpa false
set_option linter.unusedSimpArgs false

theorem elemB : Elem 29 5 1 1 := elem_of Tryz.underlying29 infoU8 (by rfl) (by decide)
theorem infoPos : (Tryz.prog.info? 161).map (fun i => (i.zero, i.size, i.bytes)) = some (some (.agg #[.int .i64 0, .int .i64 0]), 2, 16) := by kernel_rfl
theorem elemP : Elem 75 161 2 16 := elem_of Tryz.underlying75 infoPos (by rfl) (by decide)

/-- The positions of strings that lie one behind the other. -/
def posOf : Nat → List (List UInt8) → List Value
  | _, [] => []
  | a, s :: l => .int .i64 (a : Nat) :: .int .i64 ((a + s.length : Nat) : Int) :: posOf (a + s.length) l

theorem posOf_length : ∀ (l : List (List UInt8)) (a : Nat), (posOf a l).length = l.length * 2
  | [], a => rfl
  | s :: l, a => by unfold posOf; simp only [List.length_cons, posOf_length l]; omega
theorem posOf_snoc (s : List UInt8) : ∀ (l : List (List UInt8)) (a : Nat), posOf a (l ++ [s]) = posOf a l ++ [.int .i64 ((a + l.flatten.length : Nat) : Int), .int .i64 ((a + l.flatten.length + s.length : Nat) : Int)]
  | [], a => by simp [posOf]
  | t :: l, a => by
    rw [List.cons_append]
    unfold posOf
    rw [posOf_snoc s l]
    simp only [List.flatten_cons, List.length_append, List.cons_append]
    simp only [Nat.add_assoc]
theorem posOf_get : ∀ (l : List (List UInt8)) (a i : Nat) (s : List UInt8), l[i]? = some s →
    (posOf a l)[i * 2]? = some (.int .i64 ((a + (l.take i).flatten.length : Nat) : Int)) ∧ (posOf a l)[i * 2 + 1]? = some (.int .i64 ((a + (l.take i).flatten.length + s.length : Nat) : Int))
  | [], a, i, s, h => by simp at h
  | t :: l, a, 0, s, h => by
    obtain rfl : t = s := by simpa using h
    unfold posOf
    simp
  | t :: l, a, i + 1, s, h => by
    have h2 := posOf_get l (a + t.length) i s (by simpa using h)
    unfold posOf
    rw [show (i + 1) * 2 = i * 2 + 1 + 1 by omega]
    simp only [List.getElem?_cons_succ, List.take_succ_cons, List.flatten_cons, List.length_append]
    simpa [Nat.add_assoc] using h2
theorem flat_at (l : List (List UInt8)) (i : Nat) (s : List UInt8) (h : l[i]? = some s) : (l.flatten.drop (l.take i).flatten.length).take s.length = s ∧ (l.take i).flatten.length + s.length ≤ l.flatten.length := by
  obtain ⟨hi, rfl⟩ := List.getElem?_eq_some_iff.1 h
  have e : l.flatten = (l.take i).flatten ++ (l[i] ++ (l.drop (i + 1)).flatten) := by
    conv => lhs; rw [← List.take_append_drop i l]
    rw [List.flatten_append, List.drop_eq_getElem_cons hi, List.flatten_cons]
  constructor
  · conv => lhs; rw [e]
    rw [List.drop_left, List.take_left]
  · conv => rhs; rw [e]
    simp only [List.length_append]
    omega

/-- A struct of two slices: bytes, and positions. -/
structure StrX (w : World) (T : TypeId) (q : Nat) (v u : Value) (m : Nat) (xs : List Value) (n : Nat) (ps : List Value) : Prop where
  at_ : w.heap[q]? = some (.cells #[v, u] T (0, 0))
  buf : w.ownsRow 0 5 1 v m xs
  pos : w.ownsRow 0 161 2 u n ps
  ne : T ≠ 5 ∧ T ≠ 161
def FpS (q : Nat) (v u : Value) (k : Nat) : Prop := k = q ∨ v.ownBlock = some k ∨ u.ownBlock = some k

theorem ownsRow_ty {w : World} {b : Nat} {E : TypeId} {s n : Nat} {v : Value} {xs : List Value} (h : w.ownsRow b E s v n xs) {g : Nat} (hg : v.ownBlock = some g) : ∃ cur, w.heap[g]? = some (.cells cur E (0, 0)) := by
  rcases h.2 with ⟨rfl, -⟩ | ⟨g', cap, cur, rfl, -, hh, -⟩
  · simp [Value.ownBlock] at hg
  · obtain rfl : g' = g := by simpa [Value.ownBlock] using hg
    exact ⟨cur, hh⟩

section
variable {w : World} {T : TypeId} {q : Nat} {v u : Value} {m : Nat} {xs : List Value} {n : Nat} {ps : List Value}
theorem StrX.bq (h : StrX w T q v u m xs n ps) {g : Nat} (hg : v.ownBlock = some g) : g ≠ q := by
  rintro rfl
  obtain ⟨cur, hc⟩ := ownsRow_ty h.buf hg
  rw [h.at_] at hc
  simp at hc
  exact h.ne.1 hc.2
theorem StrX.pq (h : StrX w T q v u m xs n ps) {g : Nat} (hg : u.ownBlock = some g) : g ≠ q := by
  rintro rfl
  obtain ⟨cur, hc⟩ := ownsRow_ty h.pos hg
  rw [h.at_] at hc
  simp at hc
  exact h.ne.2 hc.2
theorem StrX.bp (h : StrX w T q v u m xs n ps) {g : Nat} (hg : v.ownBlock = some g) : u.ownBlock ≠ some g := by
  intro hu
  obtain ⟨c1, hc1⟩ := ownsRow_ty h.buf hg
  obtain ⟨c2, hc2⟩ := ownsRow_ty h.pos hu
  rw [hc1] at hc2
  simp at hc2
theorem StrX.lt (h : StrX w T q v u m xs n ps) : q < w.heap.size := (Array.getElem?_eq_some_iff.1 h.at_).1
theorem StrX.inn (h : StrX w T q v u m xs n ps) : In (FpS q v u) w := fun k hk => by
  rcases hk with rfl | hk | hk
  · exact h.lt
  · exact (h.buf.lt k hk).2
  · exact (h.pos.lt k hk).2
theorem StrX.cells (h : StrX w T q v u m xs n ps) : w.cell? ⟨q, 0, none⟩ = some v ∧ w.cell? ⟨q, 1, none⟩ = some u ∧ (∀ j, w.frozen? ⟨q, j, none⟩ = false) ∧ q < w.heap.size := by
  have := h.at_
  exact ⟨by simp [World.cell?, this], by simp [World.cell?, this], fun j => by simp [World.frozen?, this], h.lt⟩
theorem StrX.chg {w' : World} {G : Nat → Prop} (h : StrX w T q v u m xs n ps) (hc : Chg G w w') (hG : ∀ k, FpS q v u k → ¬ G k) : StrX w' T q v u m xs n ps :=
  ⟨by rw [hc.block q h.lt (hG q (.inl rfl))]; exact h.at_, ownsRow_block h.buf fun g hg => hc.block g (h.buf.lt g hg).2 (hG g (.inr (.inl hg))), ownsRow_block h.pos fun g hg => hc.block g (h.pos.lt g hg).2 (hG g (.inr (.inr hg))), h.ne⟩
theorem StrX.keep {w' : World} (h : StrX w T q v u m xs n ps) (hb : Below w.heap.size w w') : StrX w' T q v u m xs n ps :=
  h.chg (G := fun _ => False) (Chg.of_below hb) fun _ _ h => h
theorem StrX.growB {w1 : World} {v' : Value} {m' : Nat} {xs' : List Value} {F' : Nat → Prop} (h : StrX w T q v u m xs n ps) (hown : OwnR w1 F' 5 1 v' m' xs') (hu : Upd w w1 (fun k => v.ownBlock = some k) F') :
    StrX (w1.setCell ⟨q, 0, none⟩ v') T q v' u m' xs' n ps ∧ Upd w (w1.setCell ⟨q, 0, none⟩ v') (FpS q v u) (FpS q v' u) := by
  have hq : w1.heap[q]? = some (.cells #[v, u] T (0, 0)) := by rw [hu.chg.block q h.lt fun e => h.bq e rfl]; exact h.at_
  have hv' : ∀ g, v'.ownBlock = some g → g ≠ q := fun g hg e => by
    obtain ⟨cur, hc⟩ := ownsRow_ty hown.1 hg
    rw [e, hq] at hc
    simp at hc
    exact h.ne.1 hc.2
  refine ⟨⟨by simp [World.setCell, Array.getElem?_modify, hq], ?_, ?_, h.ne⟩, ?_, ?_⟩
  · exact ownsRow_block hown.1 fun g hg => Below.heap_setCell _ _ _ _ (hv' g hg)
  · refine ownsRow_block h.pos fun g hg => ?_
    rw [Below.heap_setCell _ _ _ _ (h.pq hg)]
    exact hu.chg.block g (h.pos.lt g hg).2 fun e => h.bp e hg
  · exact (hu.chg.mono (G := FpS q v u) fun k _ hk => .inr (.inl hk)).setCell (.inl (.inl rfl)) _
  · intro k hk
    have hs : (w1.setCell ⟨q, 0, none⟩ v').heap.size = w1.heap.size := by simp [World.setCell]
    rcases hk with rfl | hk | hk
    · exact .inl (.inl rfl)
    · rcases hu.new k (hown.2 k hk) with h1 | h1
      · exact .inl (.inr (.inl h1))
      · exact .inr (by rw [hs]; exact h1)
    · exact .inl (.inr (.inr hk))
theorem StrX.growP {w1 : World} {u' : Value} {n' : Nat} {ps' : List Value} {F' : Nat → Prop} (h : StrX w T q v u m xs n ps) (hown : OwnR w1 F' 161 2 u' n' ps') (hu : Upd w w1 (fun k => u.ownBlock = some k) F') :
    StrX (w1.setCell ⟨q, 1, none⟩ u') T q v u' m xs n' ps' ∧ Upd w (w1.setCell ⟨q, 1, none⟩ u') (FpS q v u) (FpS q v u') := by
  have hq : w1.heap[q]? = some (.cells #[v, u] T (0, 0)) := by rw [hu.chg.block q h.lt fun e => h.pq e rfl]; exact h.at_
  have hv' : ∀ g, u'.ownBlock = some g → g ≠ q := fun g hg e => by
    obtain ⟨cur, hc⟩ := ownsRow_ty hown.1 hg
    rw [e, hq] at hc
    simp at hc
    exact h.ne.2 hc.2
  refine ⟨⟨by simp [World.setCell, Array.getElem?_modify, hq], ?_, ?_, h.ne⟩, ?_, ?_⟩
  · refine ownsRow_block h.buf fun g hg => ?_
    rw [Below.heap_setCell _ _ _ _ (h.bq hg)]
    exact hu.chg.block g (h.buf.lt g hg).2 fun e => h.bp hg e
  · exact ownsRow_block hown.1 fun g hg => Below.heap_setCell _ _ _ _ (hv' g hg)
  · exact (hu.chg.mono (G := FpS q v u) fun k _ hk => .inr (.inr hk)).setCell (.inl (.inl rfl)) _
  · intro k hk
    have hs : (w1.setCell ⟨q, 1, none⟩ u').heap.size = w1.heap.size := by simp [World.setCell]
    rcases hk with rfl | hk | hk
    · exact .inl (.inl rfl)
    · exact .inl (.inr (.inl hk))
    · rcases hu.new k (hown.2 k hk) with h1 | h1
      · exact .inl (.inr (.inr h1))
      · exact .inr (by rw [hs]; exact h1)

/-- Behind an append to the bytes, ahead of the store. -/
structure GrewB (w : World) (T : TypeId) (q : Nat) (v u v' : Value) (m : Nat) (xs : List Value) (n : Nat) (ps : List Value) (w1 : World) : Prop where
  c0 : w1.cell? ⟨q, 0, none⟩ = some v
  c1 : w1.cell? ⟨q, 1, none⟩ = some u
  cf : ∀ j, w1.frozen? ⟨q, j, none⟩ = false
  ok : StrX (w1.setCell ⟨q, 0, none⟩ v') T q v' u m xs n ps
  upd : Upd w (w1.setCell ⟨q, 0, none⟩ v') (FpS q v u) (FpS q v' u)
structure GrewP (w : World) (T : TypeId) (q : Nat) (v u u' : Value) (m : Nat) (xs : List Value) (n : Nat) (ps : List Value) (w1 : World) : Prop where
  c0 : w1.cell? ⟨q, 0, none⟩ = some v
  c1 : w1.cell? ⟨q, 1, none⟩ = some u
  cf : ∀ j, w1.frozen? ⟨q, j, none⟩ = false
  ok : StrX (w1.setCell ⟨q, 1, none⟩ u') T q v u' m xs n ps
  upd : Upd w (w1.setCell ⟨q, 1, none⟩ u') (FpS q v u) (FpS q v u')
theorem StrX.grewB {w1 : World} {v' : Value} {m' : Nat} {xs' : List Value} {F' : Nat → Prop} (h : StrX w T q v u m xs n ps) (hown : OwnR w1 F' 5 1 v' m' xs') (hu : Upd w w1 (fun k => v.ownBlock = some k) F') : GrewB w T q v u v' m' xs' n ps w1 := by
  have hb := hu.chg.block q h.lt fun e => h.bq e rfl
  obtain ⟨a0, a1, a2, -⟩ := h.cells
  exact ⟨by rw [World.cell?_of_block (a := ⟨q, 0, none⟩) hb]; exact a0, by rw [World.cell?_of_block (a := ⟨q, 1, none⟩) hb]; exact a1, fun j => by rw [World.frozen?_of_block (a := ⟨q, j, none⟩) hb]; exact a2 j, (h.growB hown hu).1, (h.growB hown hu).2⟩
theorem StrX.grewP {w1 : World} {u' : Value} {n' : Nat} {ps' : List Value} {F' : Nat → Prop} (h : StrX w T q v u m xs n ps) (hown : OwnR w1 F' 161 2 u' n' ps') (hu : Upd w w1 (fun k => u.ownBlock = some k) F') : GrewP w T q v u u' m xs n' ps' w1 := by
  have hb := hu.chg.block q h.lt fun e => h.pq e rfl
  obtain ⟨a0, a1, a2, -⟩ := h.cells
  exact ⟨by rw [World.cell?_of_block (a := ⟨q, 0, none⟩) hb]; exact a0, by rw [World.cell?_of_block (a := ⟨q, 1, none⟩) hb]; exact a1, fun j => by rw [World.frozen?_of_block (a := ⟨q, j, none⟩) hb]; exact a2 j, (h.growP hown hu).1, (h.growP hown hu).2⟩
end

theorem wp_strB {o : Oper} {a : Act} {K : Act → World → Prop} {Q : Exit → Act → World → Prop} (w : World) (T : TypeId) (q : Nat) (v u : Value) (m : Nat) (xs : List Value) (n : Nat) (ps : List Value) (hX : StrX w T q v u m xs n ps) (s x : Operand) (tx : TypeId)
    (ho : o.op = .call { callee := .builtin .append, args := #[s, x], argTypes := #[29, tx] }) (hs : a.eval s = v) (xv : Value) (hx : a.eval x = xv) (k : Nat) (news : List Value) (hsrc : Src Tryz.prog 1 tx xv k news w) (hl : m + k ≤ 140737488355328)
    (h : ∀ p c w1, GrewB w T q v u (.slice p (m + k) c) (m + k) (xs ++ news) n ps w1 → K (a.put o.dst (.slice p (m + k) c)) w1) : o.wp Tryz.prog a w K Q := by
  refine wp_append_rows elemB w (fun k => v.ownBlock = some k) m k xs news s x tx ho v hs ⟨hX.buf, fun g hg => hg⟩ xv hx hsrc hl (by omega) ?_
  intro p c w1 F' hown hu
  exact h p c w1 (hX.grewB hown hu)
theorem wp_strP {o : Oper} {a : Act} {K : Act → World → Prop} {Q : Exit → Act → World → Prop} (w : World) (T : TypeId) (q : Nat) (v u : Value) (m : Nat) (xs : List Value) (n : Nat) (ps : List Value) (hX : StrX w T q v u m xs n ps) (s x : Operand) (tx : TypeId)
    (ho : o.op = .call { callee := .builtin .append, args := #[s, x], argTypes := #[75, tx] }) (hs : a.eval s = u) (xv : Value) (hx : a.eval x = xv) (k : Nat) (news : List Value) (hsrc : Src Tryz.prog 2 tx xv k news w) (hl : n + k ≤ 8796093022208)
    (h : ∀ p c w1, GrewP w T q v u (.slice p (n + k) c) m xs (n + k) (ps ++ news) w1 → K (a.put o.dst (.slice p (n + k) c)) w1) : o.wp Tryz.prog a w K Q := by
  refine wp_append_rows elemP w (fun k => u.ownBlock = some k) n k ps news s x tx ho u hs ⟨hX.pos, fun g hg => hg⟩ xv hx hsrc (by omega) (by omega) ?_
  intro p c w1 F' hown hu
  exact h p c w1 (hX.grewP hown hu)
theorem list_strB {ops : Array Oper} {rest : List Oper} {o : Oper} {a : Act} {Q : Exit → Act → World → Prop} (hgd : o.guard = none) (w : World) (T : TypeId) (q : Nat) (v u : Value) (m : Nat) (xs : List Value) (n : Nat) (ps : List Value) (hX : StrX w T q v u m xs n ps) (s x : Operand) (tx : TypeId)
    (ho : o.op = .call { callee := .builtin .append, args := #[s, x], argTypes := #[29, tx] }) (hs : a.eval s = v) (xv : Value) (hx : a.eval x = xv) (k : Nat) (news : List Value) (hsrc : Src Tryz.prog 1 tx xv k news w) (hl : m + k ≤ 140737488355328)
    (h : ∀ p c w1, GrewB w T q v u (.slice p (m + k) c) (m + k) (xs ++ news) n ps w1 → wpList Tryz.prog ops Q rest (a.put o.dst (.slice p (m + k) c)) w1) : wpList Tryz.prog ops Q (o :: rest) a w :=
  wpList_plain hgd fun _ hKK => wp_strB w T q v u m xs n ps hX s x tx ho hs xv hx k news hsrc hl fun p c w1 h1 => hKK _ _ (h p c w1 h1)
theorem list_strP {ops : Array Oper} {rest : List Oper} {o : Oper} {a : Act} {Q : Exit → Act → World → Prop} (hgd : o.guard = none) (w : World) (T : TypeId) (q : Nat) (v u : Value) (m : Nat) (xs : List Value) (n : Nat) (ps : List Value) (hX : StrX w T q v u m xs n ps) (s x : Operand) (tx : TypeId)
    (ho : o.op = .call { callee := .builtin .append, args := #[s, x], argTypes := #[75, tx] }) (hs : a.eval s = u) (xv : Value) (hx : a.eval x = xv) (k : Nat) (news : List Value) (hsrc : Src Tryz.prog 2 tx xv k news w) (hl : n + k ≤ 8796093022208)
    (h : ∀ p c w1, GrewP w T q v u (.slice p (n + k) c) m xs (n + k) (ps ++ news) w1 → wpList Tryz.prog ops Q rest (a.put o.dst (.slice p (n + k) c)) w1) : wpList Tryz.prog ops Q (o :: rest) a w :=
  wpList_plain hgd fun _ hKK => wp_strP w T q v u m xs n ps hX s x tx ho hs xv hx k news hsrc hl fun p c w1 h1 => hKK _ _ (h p c w1 h1)
theorem step_strP {ops : Array Oper} {o : Oper} {a : Act} {K : Act → World → Prop} {Q : Exit → Act → World → Prop} {E : Prop} (hgd : o.guard = none) (w : World) (T : TypeId) (q : Nat) (v u : Value) (m : Nat) (xs : List Value) (n : Nat) (ps : List Value) (hX : StrX w T q v u m xs n ps) (s x : Operand) (tx : TypeId)
    (ho : o.op = .call { callee := .builtin .append, args := #[s, x], argTypes := #[75, tx] }) (hs : a.eval s = u) (xv : Value) (hx : a.eval x = xv) (k : Nat) (news : List Value) (hsrc : Src Tryz.prog 2 tx xv k news w) (hl : n + k ≤ 8796093022208)
    (h : ∀ p c w1, GrewP w T q v u (.slice p (n + k) c) m xs (n + k) (ps ++ news) w1 → K (a.put o.dst (.slice p (n + k) c)) w1) : if Region.wanted o (yielded ops a.tmps) = true then Oper.wp Tryz.prog o a w K Q else E := by
  rw [if_pos (by simp [Region.wanted, hgd])]
  exact wp_strP w T q v u m xs n ps hX s x tx ho hs xv hx k news hsrc hl h

/-- A column of these strings. -/
def StrCol (w : World) (F : Nat → Prop) (T : TypeId) (q : Nat) (l : List (List UInt8)) : Prop :=
  ∃ v u, StrX w T q v u l.flatten.length (u8s l.flatten) l.length (posOf 0 l) ∧ ∀ k, FpS q v u k → F k
def PutS (w : World) (F : Nat → Prop) (T : TypeId) (q : Nat) (l : List (List UInt8)) (e : Ending) (w' : World) : Prop :=
  e = .returned (.tuple #[]) ∧ ∃ F', StrCol w' F' T q l ∧ Upd w w' F F'

theorem StrCol.keep {w w' : World} {F : Nat → Prop} {T : TypeId} {q : Nat} {l : List (List UInt8)} (h : StrCol w F T q l) (hb : Below w.heap.size w w') : StrCol w' F T q l := by
  obtain ⟨v, u, h1, h2⟩ := h
  exact ⟨v, u, h1.keep hb, h2⟩
theorem StrCol.chg {w w' : World} {F G : Nat → Prop} {T : TypeId} {q : Nat} {l : List (List UInt8)} (h : StrCol w F T q l) (hc : Chg G w w') (hG : Disj F G) : StrCol w' F T q l := by
  obtain ⟨v, u, h1, h2⟩ := h
  exact ⟨v, u, h1.chg hc fun k hk => hG k (h2 k hk), h2⟩
theorem StrCol.own {w : World} {F : Nat → Prop} {T : TypeId} {q : Nat} {l : List (List UInt8)} (h : StrCol w F T q l) : F q ∧ q < w.heap.size := by
  obtain ⟨v, u, h1, h2⟩ := h
  exact ⟨h2 q (.inl rfl), h1.lt⟩
theorem strCol_new (w : World) (T : TypeId) (hT : T ≠ 5 ∧ T ≠ 161) : StrCol (w.alloc (.cells #[.slice none 0 0, .slice none 0 0] T)) (· = w.heap.size) T w.heap.size [] :=
  ⟨_, _, ⟨heap_alloc_new _ _, World.ownsRow_nil _ _ _ _, World.ownsRow_nil _ _ _ _, hT⟩, fun k hk => by
    rcases hk with h | h | h
    · exact h
    · simp [Value.ownBlock] at h
    · simp [Value.ownBlock] at h⟩
theorem Upd.widen {w w' : World} {A A' F : Nat → Prop} (h : Upd w w' A A') (hF : ∀ k, A k → F k) : ∃ F', (∀ k, A' k → F' k) ∧ Upd w w' F F' :=
  ⟨fun k => F k ∨ (w.heap.size ≤ k ∧ k < w'.heap.size), fun k hk => (h.new k hk).imp (hF k) id, h.chg.mono fun k _ hk => hF k hk, fun k hk => hk⟩
theorem putS_of {w w' : World} {F : Nat → Prop} {T : TypeId} {q : Nat} {l : List (List UInt8)} {v u v0 u0 : Value} (h0 : ∀ k, FpS q v0 u0 k → F k) (h : StrX w' T q v u l.flatten.length (u8s l.flatten) l.length (posOf 0 l)) (hu : Upd w w' (FpS q v0 u0) (FpS q v u)) : PutS w F T q l (.returned (.tuple #[])) w' := by
  obtain ⟨F', h1, h2⟩ := hu.widen h0
  exact ⟨rfl, F', ⟨v, u, h, h1⟩, h2⟩

theorem src_pos (w : World) (a b : Int) : Src Tryz.prog 2 75 (.slice (some ⟨w.heap.size, 0, none⟩) 1 1) 1 [.int .i64 a, .int .i64 b] (w.alloc (.cells #[.int .i64 a, .int .i64 b] 161)) :=
  src_new elemP w.heap.size [.int .i64 a, .int .i64 b] 161 (heap_alloc_new _ _) rfl (by simp [Value.oneCell']) 1

theorem src_posSet (w : World) (d : Addr) (x : Value) (a b : Int) : Src Tryz.prog 2 75 (.slice (some ⟨w.heap.size, 0, none⟩) 1 1) 1 [.int .i64 a, .int .i64 b] ((w.setCell d x).alloc (.cells #[.int .i64 a, .int .i64 b] 161)) := by
  have h := src_pos (w.setCell d x) a b
  simpa using h

theorem strX_snoc {w : World} {T : TypeId} {q : Nat} {v u : Value} {l : List (List UInt8)} {s : List UInt8} {m k : Nat} {a b : Int} {xs ps : List Value} (h : StrX w T q v u m xs k ps) (hm : m = l.flatten.length + s.length) (hx : xs = u8s l.flatten ++ u8s s) (hk : k = l.length + 1)
    (hp : ps = posOf 0 l ++ [.int .i64 a, .int .i64 b]) (ha : a = (l.flatten.length : Nat)) (hb : b = ((l.flatten.length + s.length : Nat) : Int)) : StrX w T q v u (l ++ [s]).flatten.length (u8s (l ++ [s]).flatten) (l ++ [s]).length (posOf 0 (l ++ [s])) := by
  subst hm hx hk hp ha hb
  simpa [posOf_snoc, u8s_append] using h

end Go.Proofs.YtemmhlibbihjmaaGreat
