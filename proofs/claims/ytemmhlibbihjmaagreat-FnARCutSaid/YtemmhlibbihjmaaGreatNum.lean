/- Columns that are one slice of rows, each of so many cells: their memory, appends. -/
import Derived.Test.YtemmhlibbihjmaaGreatAppZ
import Derived.Test.YtemmhlibbihjmaaGreatRs
import Derived.Test.YtemmhlibbihjmaaGreatBx
import Derived.Deep.MidRow
import Derived.Deep.WholeRow
import Derived.Great.BuildSlice
import Derived.StillTailTactics
namespace Go.Proofs.YtemmhlibbihjmaaGreat
open Go.RowKit
set_option linter.unusedVariables false
set_option linter.unnecessarySimpa false
set_option linter.unusedSimpArgs false

/-- A variable of one slice. -/
structure NumX (w : World) (T E : TypeId) (size q : Nat) (v : Value) (n : Nat) (xs : List Value) : Prop where
  at_ : w.heap[q]? = some (.cells #[v] T (0, 0))
  own : w.ownsRow 0 E size v n xs
  ne : T ≠ E
def FpN (q : Nat) (v : Value) (k : Nat) : Prop := k = q ∨ v.ownBlock = some k

theorem ownsRow_tyN {w : World} {b : Nat} {E : TypeId} {s n : Nat} {v : Value} {xs : List Value} (h : w.ownsRow b E s v n xs) {g : Nat} (hg : v.ownBlock = some g) : ∃ cur, w.heap[g]? = some (.cells cur E (0, 0)) := by
  rcases h.2 with ⟨rfl, -⟩ | ⟨g', cap, cur, rfl, -, hh, -⟩
  · simp [Value.ownBlock] at hg
  · obtain rfl : g' = g := by simpa [Value.ownBlock] using hg
    exact ⟨cur, hh⟩

section
variable {w : World} {T E : TypeId} {size q : Nat} {v : Value} {n : Nat} {xs : List Value}
theorem NumX.bq (h : NumX w T E size q v n xs) {g : Nat} (hg : v.ownBlock = some g) : g ≠ q := by
  rintro rfl
  obtain ⟨cur, hc⟩ := ownsRow_tyN h.own hg
  rw [h.at_] at hc
  simp at hc
  exact h.ne hc.2
theorem NumX.lt (h : NumX w T E size q v n xs) : q < w.heap.size := (Array.getElem?_eq_some_iff.1 h.at_).1
theorem NumX.inn (h : NumX w T E size q v n xs) : In (FpN q v) w := fun k hk => by
  rcases hk with rfl | hk
  · exact h.lt
  · exact (h.own.lt k hk).2
theorem NumX.cell (h : NumX w T E size q v n xs) : w.cell? ⟨q, 0, none⟩ = some v ∧ w.frozen? ⟨q, 0, none⟩ = false ∧ q < w.heap.size := by
  have := h.at_
  exact ⟨by simp [World.cell?, this], by simp [World.frozen?, this], h.lt⟩
theorem NumX.chg {w' : World} {G : Nat → Prop} (h : NumX w T E size q v n xs) (hc : Chg G w w') (hG : ∀ k, FpN q v k → ¬ G k) : NumX w' T E size q v n xs :=
  ⟨by rw [hc.block q h.lt (hG q (.inl rfl))]; exact h.at_, ownsRow_block h.own fun g hg => hc.block g (h.own.lt g hg).2 (hG g (.inr hg)), h.ne⟩
theorem NumX.keep {w' : World} (h : NumX w T E size q v n xs) (hb : Below w.heap.size w w') : NumX w' T E size q v n xs :=
  h.chg (G := fun _ => False) (Chg.of_below hb) fun _ _ h => h
theorem NumX.drew (h : NumX w T E size q v n xs) : NumX w.drew T E size q v n xs := ⟨h.at_, h.own, h.ne⟩
theorem NumX.slice (h : NumX w T E size q v n xs) : ∃ p c, v = .slice p n c := OwnR.slice (F := fun _ => True) ⟨h.own, fun _ _ => trivial⟩
/-- Another slice is stored. -/
theorem NumX.grow {w1 : World} {v' : Value} {n' : Nat} {xs' : List Value} {F' : Nat → Prop} (h : NumX w T E size q v n xs) (hown : OwnR w1 F' E size v' n' xs') (hu : Upd w w1 (fun k => v.ownBlock = some k) F') :
    NumX (w1.setCell ⟨q, 0, none⟩ v') T E size q v' n' xs' ∧ Upd w (w1.setCell ⟨q, 0, none⟩ v') (FpN q v) (FpN q v') := by
  have hq : w1.heap[q]? = some (.cells #[v] T (0, 0)) := by rw [hu.chg.block q h.lt fun e => h.bq e rfl]; exact h.at_
  have hv' : ∀ g, v'.ownBlock = some g → g ≠ q := fun g hg e => by
    obtain ⟨cur, hc⟩ := ownsRow_tyN hown.1 hg
    rw [e, hq] at hc
    simp at hc
    exact h.ne hc.2
  refine ⟨⟨setCell_one hq, ownsRow_block hown.1 fun g hg => Below.heap_setCell _ _ _ _ (hv' g hg), h.ne⟩, (hu.chg.mono (G := FpN q v) fun k _ hk => .inr hk).setCell (.inl (.inl rfl)) _, fun k hk => ?_⟩
  have hs : (w1.setCell ⟨q, 0, none⟩ v').heap.size = w1.heap.size := by simp [World.setCell]
  rcases hk with rfl | hk
  · exact .inl (.inl rfl)
  · rcases hu.new k (hown.2 k hk) with h1 | h1
    · exact .inl (.inr h1)
    · exact .inr (by rw [hs]; exact h1)

/-- Behind an append, ahead of the store. -/
structure GrewN (w : World) (T E : TypeId) (size q : Nat) (v v' : Value) (n : Nat) (xs : List Value) (w1 : World) : Prop where
  c0 : w1.cell? ⟨q, 0, none⟩ = some v
  cf : w1.frozen? ⟨q, 0, none⟩ = false
  ok : NumX (w1.setCell ⟨q, 0, none⟩ v') T E size q v' n xs
  upd : Upd w (w1.setCell ⟨q, 0, none⟩ v') (FpN q v) (FpN q v')
theorem NumX.grew {w1 : World} {v' : Value} {n' : Nat} {xs' : List Value} {F' : Nat → Prop} (h : NumX w T E size q v n xs) (hown : OwnR w1 F' E size v' n' xs') (hu : Upd w w1 (fun k => v.ownBlock = some k) F') : GrewN w T E size q v v' n' xs' w1 := by
  have hb := hu.chg.block q h.lt fun e => h.bq e rfl
  obtain ⟨a0, a1, -⟩ := h.cell
  exact ⟨by rw [World.cell?_of_block (a := ⟨q, 0, none⟩) hb]; exact a0, by rw [World.frozen?_of_block (a := ⟨q, 0, none⟩) hb]; exact a1, (h.grow hown hu).1, (h.grow hown hu).2⟩
end

theorem wp_num {o : Oper} {a : Act} {K : Act → World → Prop} {Q : Exit → Act → World → Prop} {T E : TypeId} {size bytes : Nat} (el : Elem T E size bytes) (w : World) (q : Nat) (v : Value) (n : Nat) (xs : List Value) (hX : NumX w T E size q v n xs) (s x : Operand) (tx : TypeId)
    (ho : o.op = .call { callee := .builtin .append, args := #[s, x], argTypes := #[T, tx] }) (hs : a.eval s = v) (xv : Value) (hx : a.eval x = xv) (k : Nat) (news : List Value) (hsrc : Src Tryz.prog size tx xv k news w) (hl : n + k ≤ 140737488355328) (hlb : (n + k) * bytes ≤ 140737488355328)
    (h : ∀ p c w1, GrewN w T E size q v (.slice p (n + k) c) (n + k) (xs ++ news) w1 → K (a.put o.dst (.slice p (n + k) c)) w1) : o.wp Tryz.prog a w K Q := by
  refine wp_append_rows el w (fun k => v.ownBlock = some k) n k xs news s x tx ho v hs ⟨hX.own, fun g hg => hg⟩ xv hx hsrc hl hlb ?_
  intro p c w1 F' hown hu
  exact h p c w1 (hX.grew hown hu)
theorem list_num {ops : Array Oper} {rest : List Oper} {o : Oper} {a : Act} {Q : Exit → Act → World → Prop} {T E : TypeId} {size bytes : Nat} (el : Elem T E size bytes) (hgd : o.guard = none) (w : World) (q : Nat) (v : Value) (n : Nat) (xs : List Value) (hX : NumX w T E size q v n xs) (s x : Operand) (tx : TypeId)
    (ho : o.op = .call { callee := .builtin .append, args := #[s, x], argTypes := #[T, tx] }) (hs : a.eval s = v) (xv : Value) (hx : a.eval x = xv) (k : Nat) (news : List Value) (hsrc : Src Tryz.prog size tx xv k news w) (hl : n + k ≤ 140737488355328) (hlb : (n + k) * bytes ≤ 140737488355328)
    (h : ∀ p c w1, GrewN w T E size q v (.slice p (n + k) c) (n + k) (xs ++ news) w1 → wpList Tryz.prog ops Q rest (a.put o.dst (.slice p (n + k) c)) w1) : wpList Tryz.prog ops Q (o :: rest) a w :=
  wpList_plain hgd fun _ hKK => wp_num el w q v n xs hX s x tx ho hs xv hx k news hsrc hl hlb fun p c w1 h1 => hKK _ _ (h p c w1 h1)
theorem step_num {ops : Array Oper} {o : Oper} {a : Act} {K : Act → World → Prop} {Q : Exit → Act → World → Prop} {Z : Prop} {T E : TypeId} {size bytes : Nat} (el : Elem T E size bytes) (hgd : o.guard = none) (w : World) (q : Nat) (v : Value) (n : Nat) (xs : List Value) (hX : NumX w T E size q v n xs) (s x : Operand) (tx : TypeId)
    (ho : o.op = .call { callee := .builtin .append, args := #[s, x], argTypes := #[T, tx] }) (hs : a.eval s = v) (xv : Value) (hx : a.eval x = xv) (k : Nat) (news : List Value) (hsrc : Src Tryz.prog size tx xv k news w) (hl : n + k ≤ 140737488355328) (hlb : (n + k) * bytes ≤ 140737488355328)
    (h : ∀ p c w1, GrewN w T E size q v (.slice p (n + k) c) (n + k) (xs ++ news) w1 → K (a.put o.dst (.slice p (n + k) c)) w1) : if Region.wanted o (yielded ops a.tmps) = true then Oper.wp Tryz.prog o a w K Q else Z := by
  rw [if_pos (by simp [Region.wanted, hgd])]
  exact wp_num el w q v n xs hX s x tx ho hs xv hx k news hsrc hl hlb h

/-- A column. -/
def NumCol (w : World) (F : Nat → Prop) (T E : TypeId) (size q n : Nat) (xs : List Value) : Prop := ∃ v, NumX w T E size q v n xs ∧ ∀ k, FpN q v k → F k
def PutN (w : World) (F : Nat → Prop) (T E : TypeId) (size q n : Nat) (xs : List Value) (e : Ending) (w' : World) : Prop :=
  e = .returned (.tuple #[]) ∧ ∃ F', NumCol w' F' T E size q n xs ∧ Upd w w' F F'
theorem NumCol.chg {w w' : World} {F G : Nat → Prop} {T E : TypeId} {size q n : Nat} {xs : List Value} (h : NumCol w F T E size q n xs) (hc : Chg G w w') (hG : Disj F G) : NumCol w' F T E size q n xs := by
  obtain ⟨v, h1, h2⟩ := h
  exact ⟨v, h1.chg hc fun k hk => hG k (h2 k hk), h2⟩
theorem NumCol.keep {w w' : World} {F : Nat → Prop} {T E : TypeId} {size q n : Nat} {xs : List Value} (h : NumCol w F T E size q n xs) (hb : Below w.heap.size w w') : NumCol w' F T E size q n xs := by
  obtain ⟨v, h1, h2⟩ := h
  exact ⟨v, h1.keep hb, h2⟩
theorem numCol_new (w : World) (T E : TypeId) (size : Nat) (hT : T ≠ E) : NumCol (w.alloc (.cells #[.slice none 0 0] T)) (· = w.heap.size) T E size w.heap.size 0 [] :=
  ⟨_, ⟨heap_alloc_new _ _, World.ownsRow_nil _ _ _ _, hT⟩, fun k hk => by
    rcases hk with h | h
    · exact h
    · simp [Value.ownBlock] at h⟩
theorem Upd.widenN {w w' : World} {A A' F : Nat → Prop} (h : Upd w w' A A') (hF : ∀ k, A k → F k) : ∃ F', (∀ k, A' k → F' k) ∧ Upd w w' F F' :=
  ⟨fun k => F k ∨ (w.heap.size ≤ k ∧ k < w'.heap.size), fun k hk => (h.new k hk).imp (hF k) id, h.chg.mono fun k _ hk => hF k hk, fun k hk => hk⟩
theorem putN_of {w w' : World} {F : Nat → Prop} {T E : TypeId} {size q n : Nat} {xs : List Value} {v v0 : Value} (h0 : ∀ k, FpN q v0 k → F k) (h : NumX w' T E size q v n xs) (hu : Upd w w' (FpN q v0) (FpN q v)) : PutN w F T E size q n xs (.returned (.tuple #[])) w' := by
  obtain ⟨F', h1, h2⟩ := hu.widenN h0
  exact ⟨rfl, F', ⟨v, h, h1⟩, h2⟩

/-- A slice of one row is made. -/
theorem run_build1 {T E : TypeId} {size bytes : Nat} (el : Elem T E size bytes) (hs : size ≤ 16777216) (w : World) (cs : List Value) (hc : cs.length = size) :
    (Instr.buildSlice T 1 #[(0, .agg cs.toArray)]).run Tryz.prog w = .ok (.slice (some ⟨w.heap.size, 0, none⟩) 1 1) (w.alloc (.cells cs.toArray E)) := by
  obtain ⟨i0, z, hi, hz0, hz1, hz2, hz3⟩ := el.info
  have hp := el.pos
  refine run_buildSlice w T E 1 _ cs.toArray i0 z el.under hi hz0 (by rw [hz1]; omega) (by rw [hz1]; omega) ?_
  rw [hz1]
  have h := Great.fill_whole hp [.agg cs.toArray] ((Array.range (1 * size)).map (z.cells[· % z.cells.size]!)) (by simp [Value.cells, hc]) (by simp)
  simpa [Value.cells] using h
theorem list_build1 {ops : Array Oper} {rest : List Oper} {o : Oper} {a : Act} {w : World} {Q : Exit → Act → World → Prop} {T E : TypeId} {size bytes : Nat} (el : Elem T E size bytes) (hs : size ≤ 16777216) (hgd : o.guard = none) (x : Operand) (ho : o.op = .buildSlice T 1 #[(0, x)])
    (cs : List Value) (hx : a.eval x = .agg cs.toArray) (hc : cs.length = size)
    (h : wpList Tryz.prog ops Q rest (a.put o.dst (.slice (some ⟨w.heap.size, 0, none⟩) 1 1)) (w.alloc (.cells cs.toArray E))) : wpList Tryz.prog ops Q (o :: rest) a w :=
  wpList_plain hgd fun _ hKK => by
    unfold Oper.wp execOp
    simp only [ho, List.map_toArray, List.map_cons, List.map_nil, hx, Sem.run_bind, run_build1 el hs w cs hc, Result.andThen_ok]
    exact hKK _ _ h
/-- A row of cells is loaded, ahead of a tail. -/
theorem still_row {ops : Array Oper} {rest : List Oper} {o : Oper} {a : Act} {w : World} {Q : Act → Prop} (hgd : o.guard = none) (ty : TypeId) (x : Operand) (ho : o.op = .load ty x) (b off : Nat) (hx : a.eval x = .pointer (some ⟨b, off, none⟩)) (cs : List Value) (d : TypeDesc)
    (hc : w.rangeAt b off cs) (hu : Tryz.prog.underlying ty = some d) (hd : d.isRow = true) (hi : (Tryz.prog.info? ty).map (·.size) = some cs.length)
    (h : wpStill Tryz.prog ops w Q rest (a.put o.dst (.agg cs.toArray))) : wpStill Tryz.prog ops w Q (o :: rest) a := by
  unfold wpStill
  rw [if_pos (by simp [Region.wanted, hgd])]
  unfold Oper.still execOp
  simp only [ho, hx, Sem.run_bind, run_loadAt_mid w b off ty cs d hc hu hd hi, Result.andThen_ok, Sem.run_pure, Oper.stillUpon]
  exact ⟨trivial, h⟩
theorem range_new (w : World) (cs : List Value) (T : TypeId) : (w.alloc (.cells cs.toArray T)).rangeAt w.heap.size 0 cs := fun j v hj => by
  rw [Nat.zero_add, cell_of_row _ _ j _ _ _ (heap_alloc_new w (.cells cs.toArray T))]
  simpa using hj
theorem heap_two (w : World) (o o2 : Obj) : ((w.alloc o).alloc o2).drew.heap[w.heap.size + 1]? = some o2 := by
  have h := heap_alloc_new (w.alloc o) o2
  rw [World.size_alloc] at h
  exact h
theorem src_box {T E : TypeId} {size bytes : Nat} (el : Elem T E size bytes) (w : World) (o : Obj) (cs : List Value) (T2 : TypeId) (hn : cs.length = size) (h1 : ∀ u ∈ cs, u.oneCell' = true) :
    Src Tryz.prog size T (.slice (some ⟨w.heap.size + 1, 0, none⟩) 1 1) 1 cs ((w.alloc o).alloc (.cells cs.toArray T2)).drew :=
  src_new el (w.heap.size + 1) cs T2 (heap_two w o _) hn h1 1
theorem load_new (w : World) (cs : List Value) (T : TypeId) : (loadCells ⟨w.heap.size, 0, none⟩ cs.length).run Tryz.prog (w.alloc (.cells cs.toArray T)).drew = .ok cs.toArray (w.alloc (.cells cs.toArray T)).drew :=
  run_loadCells_list (P := Tryz.prog) (w.alloc (.cells cs.toArray T)).drew ⟨w.heap.size, 0, none⟩ cs (fun j v hv => by rw [Addr.add_mid]; exact (World.rangeAt_drew _ _ _ _ |>.2 (range_new w cs _)) j v hv)
theorem load_mid {w : World} {g off : Nat} {cs : List Value} (h : w.rangeAt g off cs) : (loadCells ⟨g, off, none⟩ cs.length).run Tryz.prog w = .ok cs.toArray w :=
  run_loadCells_list (P := Tryz.prog) w ⟨g, off, none⟩ cs (fun j v hv => by rw [Addr.add_mid]; exact h j v hv)
theorem store_new (w : World) (cs : List Value) (T : TypeId) (h1 : ∀ u ∈ cs, u.oneCell' = true) (zs : Array Value) (hz : zs.size = cs.length) :
    (storeCells ⟨w.heap.size, 0, none⟩ cs 0).run Tryz.prog (w.alloc (.cells zs T)) = .ok () (w.alloc (.cells cs.toArray T)) := by
  have h := run_storeCells_from (P := Tryz.prog) w.heap.size T cs 0 zs (w.alloc (.cells zs T)) (heap_alloc_new _ _) (by omega) h1
  rw [World.setRow_alloc_new] at h
  simpa using h
theorem range_alloc {w : World} {g off : Nat} {cs : List Value} (h : w.rangeAt g off cs) (o : Obj) : (w.alloc o).rangeAt g off cs := World.rangeAt_alloc h o
theorem u8s_one (s : List UInt8) : ∀ u ∈ u8s s, u.oneCell' = true := one_u8s2 s
end Go.Proofs.YtemmhlibbihjmaaGreat
