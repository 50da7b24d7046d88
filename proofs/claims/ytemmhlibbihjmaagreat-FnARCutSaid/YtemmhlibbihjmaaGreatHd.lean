/- Variables whose first cell is a slice of the call's own: columns inside structs. -/
import Derived.Test.YtemmhlibbihjmaaGreatNumD
namespace Go.Proofs.YtemmhlibbihjmaaGreat
open Go.RowKit
set_option linter.unusedVariables false
set_option linter.unusedSimpArgs false

/-- A variable of a slice and other cells behind it. -/
structure HeadX (w : World) (T E : TypeId) (size q : Nat) (v : Value) (ys : List Value) (n : Nat) (xs : List Value) : Prop where
  at_ : w.heap[q]? = some (.cells (v :: ys).toArray T (0, 0))
  own : w.ownsRow 0 E size v n xs
  ne : T ≠ E

section
variable {w : World} {T E : TypeId} {size q : Nat} {v : Value} {ys : List Value} {n : Nat} {xs : List Value}
theorem HeadX.bq (h : HeadX w T E size q v ys n xs) {g : Nat} (hg : v.ownBlock = some g) : g ≠ q := by
  rintro rfl
  obtain ⟨cur, hc⟩ := ownsRow_tyN h.own hg
  rw [h.at_] at hc
  simp at hc
  exact h.ne hc.2
theorem HeadX.lt (h : HeadX w T E size q v ys n xs) : q < w.heap.size := (Array.getElem?_eq_some_iff.1 h.at_).1
theorem HeadX.inn (h : HeadX w T E size q v ys n xs) : In (FpN q v) w := fun k hk => by
  rcases hk with rfl | hk
  · exact h.lt
  · exact (h.own.lt k hk).2
theorem HeadX.cell (h : HeadX w T E size q v ys n xs) : w.cell? ⟨q, 0, none⟩ = some v ∧ (∀ j y, ys[j]? = some y → w.cell? ⟨q, j + 1, none⟩ = some y) ∧ w.frozen? ⟨q, 0, none⟩ = false ∧ q < w.heap.size := by
  have := h.at_
  exact ⟨by simp [World.cell?, this], fun j y hj => by simp [World.cell?, this, hj], by simp [World.frozen?, this], h.lt⟩
theorem HeadX.chg {w' : World} {G : Nat → Prop} (h : HeadX w T E size q v ys n xs) (hc : Chg G w w') (hG : ∀ k, FpN q v k → ¬ G k) : HeadX w' T E size q v ys n xs :=
  ⟨by rw [hc.block q h.lt (hG q (.inl rfl))]; exact h.at_, ownsRow_block h.own fun g hg => hc.block g (h.own.lt g hg).2 (hG g (.inr hg)), h.ne⟩
theorem HeadX.keep {w' : World} (h : HeadX w T E size q v ys n xs) (hb : Below w.heap.size w w') : HeadX w' T E size q v ys n xs :=
  h.chg (G := fun _ => False) (Chg.of_below hb) fun _ _ h => h
theorem HeadX.drew (h : HeadX w T E size q v ys n xs) : HeadX w.drew T E size q v ys n xs := ⟨h.at_, h.own, h.ne⟩
theorem HeadX.slice (h : HeadX w T E size q v ys n xs) : ∃ p c, v = .slice p n c := OwnR.slice (F := fun _ => True) ⟨h.own, fun _ _ => trivial⟩
/-- Another slice is stored. -/
theorem HeadX.grow {w1 : World} {v' : Value} {n' : Nat} {xs' : List Value} {F' : Nat → Prop} (h : HeadX w T E size q v ys n xs) (hown : OwnR w1 F' E size v' n' xs') (hu : Upd w w1 (fun k => v.ownBlock = some k) F') :
    HeadX (w1.setCell ⟨q, 0, none⟩ v') T E size q v' ys n' xs' ∧ Upd w (w1.setCell ⟨q, 0, none⟩ v') (FpN q v) (FpN q v') := by
  have hq : w1.heap[q]? = some (.cells (v :: ys).toArray T (0, 0)) := by rw [hu.chg.block q h.lt fun e => h.bq e rfl]; exact h.at_
  have hv' : ∀ g, v'.ownBlock = some g → g ≠ q := fun g hg e => by
    obtain ⟨cur, hc⟩ := ownsRow_tyN hown.1 hg
    rw [e, hq] at hc
    simp at hc
    exact h.ne hc.2
  refine ⟨⟨by simp [World.setCell, Array.getElem?_modify, hq], ownsRow_block hown.1 fun g hg => Below.heap_setCell _ _ _ _ (hv' g hg), h.ne⟩, (hu.chg.mono (G := FpN q v) fun k _ hk => .inr hk).setCell (.inl (.inl rfl)) _, fun k hk => ?_⟩
  have hs : (w1.setCell ⟨q, 0, none⟩ v').heap.size = w1.heap.size := by simp [World.setCell]
  rcases hk with rfl | hk
  · exact .inl (.inl rfl)
  · rcases hu.new k (hown.2 k hk) with h1 | h1
    · exact .inl (.inr h1)
    · exact .inr (by rw [hs]; exact h1)
structure GrewH (w : World) (T E : TypeId) (size q : Nat) (v v' : Value) (ys : List Value) (n : Nat) (xs : List Value) (w1 : World) : Prop where
  c0 : w1.cell? ⟨q, 0, none⟩ = some v
  cs : ∀ j y, ys[j]? = some y → w1.cell? ⟨q, j + 1, none⟩ = some y
  cf : w1.frozen? ⟨q, 0, none⟩ = false
  ok : HeadX (w1.setCell ⟨q, 0, none⟩ v') T E size q v' ys n xs
  upd : Upd w (w1.setCell ⟨q, 0, none⟩ v') (FpN q v) (FpN q v')
theorem HeadX.grew {w1 : World} {v' : Value} {n' : Nat} {xs' : List Value} {F' : Nat → Prop} (h : HeadX w T E size q v ys n xs) (hown : OwnR w1 F' E size v' n' xs') (hu : Upd w w1 (fun k => v.ownBlock = some k) F') : GrewH w T E size q v v' ys n' xs' w1 := by
  have hb := hu.chg.block q h.lt fun e => h.bq e rfl
  obtain ⟨a0, a2, a1, -⟩ := h.cell
  exact ⟨by rw [World.cell?_of_block (a := ⟨q, 0, none⟩) hb]; exact a0, fun j y hj => by rw [World.cell?_of_block (a := ⟨q, j + 1, none⟩) hb]; exact a2 j y hj, by rw [World.frozen?_of_block (a := ⟨q, 0, none⟩) hb]; exact a1, (h.grow hown hu).1, (h.grow hown hu).2⟩
end

def HeadCol (w : World) (F : Nat → Prop) (T E : TypeId) (size q : Nat) (ys : List Value) (n : Nat) (xs : List Value) : Prop := ∃ v, HeadX w T E size q v ys n xs ∧ ∀ k, FpN q v k → F k
theorem HeadCol.chg {w w' : World} {F G : Nat → Prop} {T E : TypeId} {size q n : Nat} {ys xs : List Value} (h : HeadCol w F T E size q ys n xs) (hc : Chg G w w') (hG : Disj F G) : HeadCol w' F T E size q ys n xs := by
  obtain ⟨v, h1, h2⟩ := h
  exact ⟨v, h1.chg hc fun k hk => hG k (h2 k hk), h2⟩
theorem HeadCol.keep {w w' : World} {F : Nat → Prop} {T E : TypeId} {size q n : Nat} {ys xs : List Value} (h : HeadCol w F T E size q ys n xs) (hb : Below w.heap.size w w') : HeadCol w' F T E size q ys n xs := by
  obtain ⟨v, h1, h2⟩ := h
  exact ⟨v, h1.keep hb, h2⟩
theorem headCol_new (w : World) (T E : TypeId) (size : Nat) (ys : List Value) (hT : T ≠ E) : HeadCol (w.alloc (.cells (.slice none 0 0 :: ys).toArray T)) (· = w.heap.size) T E size w.heap.size ys 0 [] :=
  ⟨_, ⟨heap_alloc_new _ _, World.ownsRow_nil _ _ _ _, hT⟩, fun k hk => by
    rcases hk with h | h
    · exact h
    · simp [Value.ownBlock] at h⟩

/-- What a number column's DecodeColumn leaves. -/
def DecH (w : World) (Fr D F : Nat → Prop) (r q : Nat) (T E : TypeId) (size : Nat) (ys : List Value) (ok : Bool) (n : Nat) (xs : List Value) (tail : List UInt8) (e : Ending) (w' : World) : Prop :=
  (ok = true → e = .returned .nilIface ∧ ∃ Fr' cur F', RdAt w' Fr' D r tail cur ∧ HeadCol w' F' T E size q ys n xs ∧ Upd w w' (fun k => Fr k ∨ F k) (fun k => Fr' k ∨ F' k) ∧ ∀ k, F' k → ¬ Fr' k ∧ ¬ D k) ∧
  (ok = false → (∃ a, e = .returned (.iface 131 (.pointer (some a)))) ∧ Chg (fun k => Fr k ∨ F k) w w')

/-- Behind k rows. -/
def DecV (W1 : World) (E : TypeId) (size : Nat) (v0 : Value) (xs : List Value) (k : Nat) (v : Value) (wr : World) : Prop :=
  ∃ Fk, OwnR wr Fk E size v k (xs.take (k * size)) ∧ Upd W1 wr (fun j => v0.ownBlock = some j) Fk
theorem decV_zero {W1 : World} {T E : TypeId} {size q : Nat} {v0 : Value} {ys xs : List Value} (h : HeadX W1 T E size q v0 ys 0 []) : DecV W1 E size v0 xs 0 v0 W1 :=
  ⟨_, ⟨by simpa using h.own, fun g hg => hg⟩, Upd.refl _ _⟩
theorem decV_next {W1 wr w4 w5 : World} {E : TypeId} {size : Nat} {v0 : Value} {xs row : List Value} {k : Nat} {Fk F5 : Nat → Prop} {p : Option Addr} {c : Nat} (hrow : row = (xs.drop (k * size)).take size) (hu : Upd W1 wr (fun j => v0.ownBlock = some j) Fk) (h4 : Below wr.heap.size wr w4)
    (hown : OwnR w5 F5 E size (.slice p (k + 1) c) (k + 1) (xs.take (k * size) ++ row)) (hu5 : Upd w4 w5 Fk F5) : DecV W1 E size v0 xs (k + 1) (.slice p (k + 1) c) w5 := by
  refine ⟨F5, ?_, (hu.below h4).trans hu5⟩
  have : xs.take ((k + 1) * size) = xs.take (k * size) ++ row := by rw [Nat.add_mul, Nat.one_mul, List.take_add, hrow]
  rw [this]
  exact hown

theorem decH_done {w W1 wr : World} {Fr D F F2 : Nat → Prop} {r q b n size : Nat} {T E : TypeId} {v0 v vb : Value} {ys xs : List Value} {tail xs' : List UInt8} (hX : HeadX w T E size q v0 ys 0 []) (hF : ∀ k, FpN q v0 k → F k) (hFd : ∀ k, F k → ¬ Fr k ∧ ¬ D k) (hR : In D w) (hbr : b + 1 = r) (hX2 : RdX W1 F2 D r tail b vb (u8s xs')) (hu2 : Upd w W1 Fr F2)
    (hk : DecV W1 E size v0 xs n v wr) (hn : xs.length = n * size) : DecH w Fr D F r q T E size ys true n xs tail (.returned .nilIface) (wr.setCell ⟨q, 0, none⟩ v) := by
  obtain ⟨Fk, hown, hu⟩ := hk
  have hX1 := hX.chg hu2.chg fun k hk => (hFd k (hF k hk)).1
  rw [← hn, List.take_length] at hown
  obtain ⟨hg, hU⟩ := hX1.grow hown hu
  have hW := hu2.chg.size
  have hdis : ∀ k, FpN q v k → ¬ F2 k ∧ ¬ D k := fun k hk => by
    rcases hU.new k hk with h | h
    · refine ⟨fun e => ?_, fun e => (hFd k (hF k h)).2 e⟩
      rcases hu2.new k e with h3 | h3
      · exact (hFd k (hF k h)).1 h3
      · have := hX.inn k h; omega
    · exact ⟨fun e => by have := hX2.inF k e; omega, fun e => by have := hX2.inD k e; omega⟩
  have hdis0 : ∀ k, FpN q v0 k → ¬ F2 k ∧ ¬ D k := fun k hk => ⟨fun e => by
      rcases hu2.new k e with h3 | h3
      · exact (hFd k (hF k hk)).1 h3
      · have := hX.inn k hk; omega, (hFd k (hF k hk)).2⟩
  refine ⟨fun _ => ⟨rfl, F2, xs', FpN q v, ?_, ⟨v, hg, fun k hk => hk⟩, ⟨?_, fun k hk => ?_⟩, hdis⟩, fun h => by simp at h⟩
  · exact RdAt.upd ⟨b, vb, hbr, hX2⟩ hU.chg (fun k hk e => (hdis0 k e).1 hk) fun k hk e => (hdis0 k e).2 hk
  · refine (hu2.chg.mono (G := fun k => Fr k ∨ F k) fun _ _ h => .inl h).trans hU.chg fun k hk h => .inr (hF k h)
  · rcases hk with h | h
    · rcases hu2.new k h with h | h
      · exact .inl (.inl h)
      · exact .inr ⟨h.1, by have := hU.chg.size; omega⟩
    · rcases hU.new k h with h | h
      · exact .inl (.inr (hF k h))
      · exact .inr ⟨by omega, h.2⟩

/-- A row of bytes at the front of what was read. -/
theorem bytes_rows {w : World} {b off c : Nat} {flat : List UInt8} (h : BytesAt w (.slice (some ⟨b, off, none⟩) flat.length c) flat) (m : Nat) (j : Nat) (x : UInt8) (hj : (flat.drop m)[j]? = some x) : w.cell? ⟨b, off + m + j, none⟩ = some (.int .u8 x.toNat) := by
  rcases h with ⟨h1, -⟩ | ⟨b', off', c', h1, hc, hx⟩
  · simp at h1
  · obtain ⟨⟨rfl, rfl⟩, -⟩ : (b = b' ∧ off = off') ∧ c = c' := by simpa using h1
    rw [List.getElem?_drop] at hj
    obtain ⟨hlt, rfl⟩ := List.getElem?_eq_some_iff.1 hj
    rw [Nat.add_assoc]
    exact hx _ hlt

theorem step_append_rows {ops : Array Oper} {o : Oper} {a : Act} {K : Act → World → Prop} {Q : Exit → Act → World → Prop} {Z : Prop} {T E : TypeId} {size bytes : Nat} (el : Elem T E size bytes) (w : World) (F : Nat → Prop) (n m : Nat) (xs news : List Value) (hgd : o.guard = none) (s x : Operand) (tx : TypeId)
    (ho : o.op = .call { callee := .builtin .append, args := #[s, x], argTypes := #[T, tx] }) (v : Value) (hv : a.eval s = v) (h : OwnR w F E size v n xs) (xv : Value) (hx : a.eval x = xv) (hs : Src Tryz.prog size tx xv m news w) (hl : n + m ≤ 140737488355328) (hlb : (n + m) * bytes ≤ 140737488355328)
    (hK : ∀ p c w' F', OwnR w' F' E size (.slice p (n + m) c) (n + m) (xs ++ news) → Upd w w' F F' → K (a.put o.dst (.slice p (n + m) c)) w') : if Region.wanted o (yielded ops a.tmps) = true then Oper.wp Tryz.prog o a w K Q else Z := by
  rw [if_pos (by simp [Region.wanted, hgd])]
  exact wp_append_rows el w F n m xs news s x tx ho v hv h xv hx hs hl hlb hK
theorem drewTrans {w w' : World} (h : Below w.drew.heap.size w.drew w') : Below w.heap.size w w' := Below.trans (b := w.drew) ⟨rfl, rfl, rfl, Nat.le_refl _, fun _ _ => rfl⟩ h
theorem below_alloc {B : Nat} {w w' : World} (h : Below B w w') (hB : B ≤ w.heap.size) (o : Obj) : Below B w (w'.alloc o) := h.trans (((Below.refl _ w').alloc (Nat.le_refl _) o).mono (Nat.le_trans hB h.size))
end Go.Proofs.YtemmhlibbihjmaaGreat
