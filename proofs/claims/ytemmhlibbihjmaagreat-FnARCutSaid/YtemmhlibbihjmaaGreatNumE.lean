/- A Buffer whose bytes are laid down as zeros, and then filled row by row. -/
import Derived.Test.YtemmhlibbihjmaaGreatNum
import Derived.Test.YtemmhlibbihjmaaGreatStrB
import Derived.Laws.CopyOwn
namespace Go.Proofs.YtemmhlibbihjmaaGreat
open Go.RowKit
set_option linter.unusedVariables false
set_option linter.unusedSimpArgs false

theorem zeroB2 : ∀ i, Tryz.prog.info? 5 = some i → i.zero = some (.int .u8 0) := by
  intro i hi
  have h := infoU8
  rw [hi] at h
  simp at h
  exact h.1
theorem zeroCells_u8 (k : Nat) : (Builtin.zeroCells (Value.int .u8 0).cells k).toList = u8s (List.replicate k 0) := by
  apply List.ext_getElem?
  intro j
  simp [Builtin.zeroCells, u8s, Value.cells, List.getElem?_replicate, Nat.mod_one]
  by_cases h : j < k
  · simp [h]
  · simp [h]

theorem wp_zeros_bufs {o : Oper} {a : Act} {K : Act → World → Prop} {Q : Exit → Act → World → Prop} (w : World) (F : Nat → Prop) (T : TypeId) (p : Nat) (bs : List UInt8) (k : Nat) (hk : 0 < k) (s x : Operand)
    (ho : o.op = .call { callee := .builtin .append, args := #[s, x], argTypes := #[29, 3] }) (hB : BufAt w F T p bs) (v : Value) (hv : w.cell? ⟨p, 0, none⟩ = some v) (hs : a.eval s = v) (hx : a.eval x = .int .i64 k) (hl : bs.length + k ≤ 140737488355328)
    (h : ∀ g c w1, w1.cell? ⟨p, 0, none⟩ = some v → w1.frozen? ⟨p, 0, none⟩ = false → Stored w w1 F T p (.slice (some ⟨g, 0, none⟩) (bs.length + k) c) (bs ++ List.replicate k 0) → K (a.put o.dst (.slice (some ⟨g, 0, none⟩) (bs.length + k) c)) w1) : o.wp Tryz.prog a w K Q := by
  obtain ⟨hF, v0, hp, hown, hv0⟩ := hB
  have hc := cell_of_one hp
  rw [hc] at hv
  obtain rfl : v0 = v := Option.some.inj hv
  have hlt : p < w.heap.size := (Array.getElem?_eq_some_iff.1 hp).1
  obtain ⟨i0, z, hi, hz0, hz1, hz2, hz3⟩ := elemB.info
  obtain rfl : z = .int .u8 0 := by have := zeroB2 i0 hi; rw [hz0] at this; exact Option.some.inj this
  obtain ⟨v', w1, hr, hown1, hgrow, hat⟩ := run_append_zero_any (P := Tryz.prog) w 29 3 o.type 5 i0 _ 1 1 elemB.under Tryz.underlying3 hi hz0 hz1 hz2 hz3 elemB.pos (by simp [Value.cells, Value.oneCell']) v0 bs.length (u8s bs) hown k (by unfold maxLen; omega) (by omega)
  rw [zeroCells_u8, ← u8s_append] at hown1
  have hlen : (bs ++ List.replicate k (0 : UInt8)).length = bs.length + k := by simp
  rw [← hlen] at hown1
  have hb1 : w1.heap[p]? = w.heap[p]? := hgrow.block p hlt (fun e => (hv0 p e.symm).2 rfl)
  have hst := bufAt_store hp hF hv0 rfl hown1 hgrow hat
  rcases hown1.2 with ⟨rfl, h2⟩ | ⟨g, cap, cur, rfl, -⟩
  · simp at h2; omega
  · rw [hlen] at *
    unfold Oper.wp execOp
    simp only [ho, resolve, invoke, builtin, Sem.run_bind, Sem.run_pure, Result.andThen_ok, List.map_toArray, List.map_cons, List.map_nil, hs, hx, hr]
    exact h g cap w1 (by rw [World.cell?_of_block (a := ⟨p, 0, none⟩) hb1]; exact hc) (by rw [World.frozen?_of_block (a := ⟨p, 0, none⟩) hb1]; exact free_of_one hp) hst
theorem list_zeros_bufs {ops : Array Oper} {rest : List Oper} {o : Oper} {a : Act} {Q : Exit → Act → World → Prop} (hgd : o.guard = none) (w : World) (F : Nat → Prop) (T : TypeId) (p : Nat) (bs : List UInt8) (k : Nat) (hk : 0 < k) (s x : Operand)
    (ho : o.op = .call { callee := .builtin .append, args := #[s, x], argTypes := #[29, 3] }) (hB : BufAt w F T p bs) (v : Value) (hv : w.cell? ⟨p, 0, none⟩ = some v) (hs : a.eval s = v) (hx : a.eval x = .int .i64 k) (hl : bs.length + k ≤ 140737488355328)
    (h : ∀ g c w1, w1.cell? ⟨p, 0, none⟩ = some v → w1.frozen? ⟨p, 0, none⟩ = false → Stored w w1 F T p (.slice (some ⟨g, 0, none⟩) (bs.length + k) c) (bs ++ List.replicate k 0) → wpList Tryz.prog ops Q rest (a.put o.dst (.slice (some ⟨g, 0, none⟩) (bs.length + k) c)) w1) : wpList Tryz.prog ops Q (o :: rest) a w :=
  wpList_plain hgd fun _ hKK => wp_zeros_bufs w F T p bs k hk s x ho hB v hv hs hx hl fun g c w1 h1 h2 h3 => hKK _ _ (h g c w1 h1 h2 h3)

/-- A Buffer at its two blocks. -/
structure BufG (w : World) (T : TypeId) (p g L c : Nat) (bs : List UInt8) : Prop where
  at_ : w.heap[p]? = some (.cells #[.slice (some ⟨g, 0, none⟩) L c] T (0, 0))
  row : ∃ cur : List Value, w.heap[g]? = some (.cells cur.toArray 5 (0, 0)) ∧ cur.length = c ∧ cur.take L = u8s bs
  len : bs.length = L ∧ L ≤ c ∧ c ≤ maxLen
  ne : g ≠ p
theorem BufAt.two {w : World} {F : Nat → Prop} {T : TypeId} {p g L c : Nat} {bs : List UInt8} (h : BufAt w F T p bs) (hc : w.cell? ⟨p, 0, none⟩ = some (.slice (some ⟨g, 0, none⟩) L c)) : BufG w T p g L c bs ∧ F g ∧ F p := by
  obtain ⟨hF, v, hp, hown, hv⟩ := h
  rw [cell_of_one hp] at hc
  obtain rfl : v = _ := Option.some.inj hc
  rcases hown.2 with ⟨h1, -⟩ | ⟨g', cap, cur, h1, -, hh, hl, hm, hs, ht⟩
  · simp at h1
  · obtain ⟨rfl, rfl, rfl⟩ : g = g' ∧ L = bs.length ∧ c = cap := by simpa using h1
    exact ⟨⟨hp, ⟨cur.toList, hh, by simp [hs], by simpa using ht⟩, ⟨rfl, hl, hm⟩, (hv g rfl).2⟩, (hv g rfl).1, hF⟩
theorem BufG.buf {w : World} {F : Nat → Prop} {T : TypeId} {p g L c : Nat} {bs : List UInt8} (h : BufG w T p g L c bs) (hg : F g) (hp : F p) : BufAt w F T p bs := by
  obtain ⟨h1, ⟨cur, h2, h3, h4⟩, ⟨rfl, h6, h7⟩, h8⟩ := h
  refine ⟨hp, _, h1, ⟨by simp, .inr ⟨g, c, cur.toArray, rfl, Nat.zero_le _, h2, h6, h7, by simp [h3], by simpa using h4⟩⟩, fun k hk => ?_⟩
  obtain rfl : g = k := by simpa [Value.ownBlock] using hk
  exact ⟨hg, h8⟩
theorem BufG.cells {w : World} {T : TypeId} {p g L c : Nat} {bs : List UInt8} (h : BufG w T p g L c bs) : w.cell? ⟨p, 0, none⟩ = some (.slice (some ⟨g, 0, none⟩) L c) ∧ w.frozen? ⟨p, 0, none⟩ = false ∧ p < w.heap.size ∧ g < w.heap.size := by
  obtain ⟨cur, h2, -⟩ := h.row
  exact ⟨cell_of_one h.at_, free_of_one h.at_, (Array.getElem?_eq_some_iff.1 h.at_).1, (Array.getElem?_eq_some_iff.1 h2).1⟩
theorem BufG.keep {w w' : World} {T : TypeId} {p g L c : Nat} {bs : List UInt8} (h : BufG w T p g L c bs) (hb : Below w.heap.size w w') : BufG w' T p g L c bs := by
  obtain ⟨h1, ⟨cur, h2, h3⟩, h4, h5⟩ := h
  exact ⟨by rw [hb.block p (Array.getElem?_eq_some_iff.1 h1).1]; exact h1, ⟨cur, by rw [hb.block g (Array.getElem?_eq_some_iff.1 h2).1]; exact h2, h3⟩, h4, h5⟩

/-- Behind i rows of N bytes each: the first bytes, then zeros. -/
def halfway (bs flat : List UInt8) (N n i : Nat) : List UInt8 := bs ++ (flat.take (i * N) ++ List.replicate ((n - i) * N) 0)
theorem halfway_zero (bs flat : List UInt8) (N n : Nat) : halfway bs flat N n 0 = bs ++ List.replicate (n * N) 0 := by simp [halfway]
theorem halfway_all (bs flat : List UInt8) (N n : Nat) (h : flat.length = n * N) : halfway bs flat N n n = bs ++ flat := by
  unfold halfway
  rw [← h, List.take_length]; simp
theorem halfway_length (bs flat : List UInt8) (N n i : Nat) (h : flat.length = n * N) (hi : i ≤ n) : (halfway bs flat N n i).length = bs.length + n * N := by
  have h1 : i * N ≤ n * N := Nat.mul_le_mul_right _ hi
  unfold halfway
  rw [List.length_append, List.length_append, List.length_take, List.length_replicate, h, Nat.min_eq_left h1, Nat.sub_mul]
  omega
theorem splice_next (cur X R0 R Z : List Value) (x : Nat) (hx : X.length = x) (hr : R.length = R0.length) (h : cur.take (x + R0.length + Z.length) = X ++ (R0 ++ Z)) (hl : x + R0.length + Z.length ≤ cur.length) :
    (splice cur x R).take (x + R0.length + Z.length) = X ++ (R ++ Z) ∧ (splice cur x R).length = cur.length := by
  have e : cur = X ++ (R0 ++ (Z ++ cur.drop (x + R0.length + Z.length))) := by
    conv => lhs; rw [← List.take_append_drop (x + R0.length + Z.length) cur, h]
    simp
  refine ⟨?_, length_splice _ _ _ (by omega)⟩
  have e1 : cur.take x = X := by rw [e, List.take_append_of_le_length (by omega), List.take_of_length_le (by omega)]
  have e2 : cur.drop (x + R.length) = Z ++ cur.drop (x + R0.length + Z.length) := by
    conv => lhs; rw [e, ← List.append_assoc]
    rw [List.drop_append_of_le_length (by simp; omega), List.drop_of_length_le (by simp; omega), List.nil_append]
  unfold splice
  rw [e1, e2, ← List.append_assoc, ← List.append_assoc, ← List.append_assoc, List.take_append_of_le_length (by simp; omega), List.take_of_length_le (by simp; omega)]
/-- The next row is laid down. -/
theorem halfway_next (bs flat : List UInt8) (N n i : Nat) (h : flat.length = n * N) (hi : i < n) (cur : List Value) (c L : Nat) (hc : cur.length = c) (hL : L = bs.length + n * N) (hLc : L ≤ c) (ht : cur.take L = u8s (halfway bs flat N n i)) (row : List UInt8) (hrow : row = (flat.drop (i * N)).take N) (off : Nat) (hoff : off = bs.length + i * N) :
    (splice cur off (u8s row)).take L = u8s (halfway bs flat N n (i + 1)) ∧ (splice cur off (u8s row)).length = c := by
  have h1 : (i + 1) * N ≤ n * N := Nat.mul_le_mul_right _ hi
  rw [Nat.add_mul, Nat.one_mul] at h1
  have hr : row.length = N := by rw [hrow, List.length_take, List.length_drop, h]; omega
  have hX : (u8s (bs ++ flat.take (i * N))).length = off := by rw [u8s_length, List.length_append, List.length_take, h, hoff, Nat.min_eq_left (by omega)]
  have hZ : (u8s (List.replicate ((n - (i + 1)) * N) 0)).length = n * N - (i * N + N) := by rw [u8s_length, List.length_replicate, Nat.sub_mul, Nat.add_mul, Nat.one_mul]
  have hR0 : (u8s (List.replicate N 0)).length = N := by rw [u8s_length, List.length_replicate]
  have e0 : halfway bs flat N n i = (bs ++ flat.take (i * N)) ++ (List.replicate N 0 ++ List.replicate ((n - (i + 1)) * N) 0) := by
    have : (n - i) * N = N + (n - (i + 1)) * N := by
      rw [show n - i = 1 + (n - (i + 1)) by omega, Nat.add_mul, Nat.one_mul]
    unfold halfway
    rw [this, ← List.replicate_append_replicate]
    simp
  have e1 : halfway bs flat N n (i + 1) = (bs ++ flat.take (i * N)) ++ (row ++ List.replicate ((n - (i + 1)) * N) 0) := by
    unfold halfway
    rw [hrow, Nat.add_mul, Nat.one_mul, List.take_add]
    simp
  have hLs : off + (u8s (List.replicate N 0)).length + (u8s (List.replicate ((n - (i + 1)) * N) 0)).length = L := by rw [hZ, hR0, hL, hoff]; omega
  have h9 := splice_next cur (u8s (bs ++ flat.take (i * N))) (u8s (List.replicate N 0)) (u8s row) (u8s (List.replicate ((n - (i + 1)) * N) 0)) off hX (by rw [u8s_length, hr, hR0])
    (by rw [hLs, ht, e0, u8s_append, u8s_append (List.replicate N 0)]) (by rw [hLs, hc]; exact hLc)
  rw [hLs, hc] at h9
  rw [e1, u8s_append, u8s_append row]
  exact h9
/-- copy, into a block of the call's own. -/
theorem list_copy_chg {w : World} {ops : Array Oper} {rest : List Oper} {o : Oper} {a : Act} {Q : Exit → Act → World → Prop} (hgd : o.guard = none) (d s : Operand) (dT sT : TypeId)
    (ho : o.op = .call { callee := .builtin .copy, args := #[d, s], argTypes := #[dT, sT] }) (elem : TypeId) (hu : Tryz.prog.underlying dT = some (.slice elem)) (hsz : (Tryz.prog.info? elem).map (·.size) = some 1)
    (g off dLen dCap : Nat) (ad : Addr) (sLen sCap : Nat) (hd : a.eval d = .slice (some ⟨g, off, none⟩) dLen dCap) (hs : a.eval s = .slice (some ad) sLen sCap)
    (cur : List Value) (t : TypeId) (hg : w.heap[g]? = some (.cells cur.toArray t (0, 0))) (cs : List Value) (hn : cs.length = Nat.min sLen dLen)
    (hsrc : ∀ j v, cs[j]? = some v → w.cell? (ad.add j) = some v) (hfit : off + cs.length ≤ cur.length) (h1 : ∀ v ∈ cs, v.oneCell' = true)
    (h : ∀ w', w'.heap[g]? = some (.cells (splice cur off cs).toArray t (0, 0)) → Chg (· = g) w w' → wpList Tryz.prog ops Q rest (a.put o.dst (goInt cs.length)) w') : wpList Tryz.prog ops Q (o :: rest) a w :=
  wpList_copy_own hgd d s dT sT ho elem hu hsz g off dLen dCap ad sLen sCap hd hs cur.toArray t hg cs hn hsrc (by simpa using hfit) h1
    (h _ (show _ = _ by simpa [splice] using setRow_heap w g _ _ t _ hg) ⟨rfl, rfl, rfl, by simp [World.setRow], fun k _ hk => setRow_other w g k _ hk⟩)

/-- The rows of a column, seen through its slice. -/
def NumV (w : World) (v : Value) (n : Nat) (size : Nat) (xs : List Value) : Prop :=
  xs.length = n * size ∧ ((v = .slice none 0 0 ∧ n = 0) ∨ ∃ g c : Nat, v = .slice (some ⟨g, 0, none⟩) n c ∧ n ≤ c ∧ g < w.heap.size ∧ w.rangeAt g 0 xs)
theorem NumX.view {w : World} {T E : TypeId} {size q : Nat} {v : Value} {n : Nat} {xs : List Value} (h : NumX w T E size q v n xs) : NumV w v n size xs := by
  refine ⟨h.own.1, ?_⟩
  rcases h.own.2 with ⟨h1, h2⟩ | ⟨g, cap, cur, h1, hg, hh, hl, hm, hs, ht⟩
  · exact .inl ⟨h1, h2⟩
  · refine .inr ⟨g, cap, h1, hl, (Array.getElem?_eq_some_iff.1 hh).1, fun j x hj => ?_⟩
    rw [← ht, List.getElem?_take] at hj
    split at hj
    · rw [Nat.zero_add]
      simp only [World.cell?, hh]
      simpa using hj
    · simp at hj
theorem NumV.below {w w' : World} {v : Value} {n size : Nat} {xs : List Value} (h : NumV w v n size xs) (hb : Below w.heap.size w w') : NumV w' v n size xs := by
  refine ⟨h.1, h.2.imp id ?_⟩
  rintro ⟨g, c, rfl, hc, hg, hx⟩
  exact ⟨g, c, rfl, hc, Nat.lt_of_lt_of_le hg hb.size, fun j x hj => by rw [hb.cell (p := ⟨g, 0 + j, none⟩) hg]; exact hx j x hj⟩
theorem NumV.chg {w w' : World} {G : Nat → Prop} {v : Value} {n size : Nat} {xs : List Value} (h : NumV w v n size xs) (hc : Chg G w w') (hv : ∀ g, v.ownBlock = some g → ¬ G g) : NumV w' v n size xs := by
  refine ⟨h.1, h.2.imp id ?_⟩
  rintro ⟨g, c, rfl, hcc, hg, hx⟩
  exact ⟨g, c, rfl, hcc, Nat.lt_of_lt_of_le hg hc.size, fun j x hj => by rw [hc.cell (p := ⟨g, 0 + j, none⟩) hg (hv g rfl)]; exact hx j x hj⟩
theorem NumV.slice {w : World} {v : Value} {n size : Nat} {xs : List Value} (h : NumV w v n size xs) : ∃ p c, v = .slice p n c := by
  rcases h.2 with ⟨rfl, rfl⟩ | ⟨g, c, rfl, -⟩
  · exact ⟨_, _, rfl⟩
  · exact ⟨_, _, rfl⟩
/-- Row i. -/
theorem range_row {w : World} {g size : Nat} {xs : List Value} (h : w.rangeAt g 0 xs) (i : Nat) : w.rangeAt g (i * size) ((xs.drop (i * size)).take size) := fun j x hj => by
  rw [List.getElem?_take] at hj
  split at hj
  · rw [List.getElem?_drop] at hj
    have := h _ _ hj
    rw [Nat.zero_add] at this
    exact this
  · simp at hj
end Go.Proofs.YtemmhlibbihjmaaGreat
