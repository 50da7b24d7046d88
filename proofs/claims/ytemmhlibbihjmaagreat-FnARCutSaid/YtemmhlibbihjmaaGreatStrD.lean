/- proto.ColStr.DecodeColumn: strings read, or refused. -/
import Derived.Test.YtemmhlibbihjmaaGreatStrB
import Derived.Test.YtemmhlibbihjmaaGreatWrapf
import Derived.Test.YtemmhlibbihjmaaGreatInto
namespace Go.Proofs.YtemmhlibbihjmaaGreat
open Go.RowKit
set_option linter.unusedVariables false
set_option linter.unnecessarySimpa false
set_option linter.unusedSimpArgs false

theorem zeroPos : ∀ i, Tryz.prog.info? 161 = some i → i.zero = some (.agg #[.int .i64 0, .int .i64 0]) := by
  intro i hi
  have h := infoPos
  rw [hi] at h
  simp at h
  exact h.1
theorem zeroB : ∀ i, Tryz.prog.info? 5 = some i → i.zero = some (.int .u8 0) := by
  intro i hi
  have h := infoU8
  rw [hi] at h
  simp at h
  exact h.1

section
variable {w : World} {T : TypeId} {q : Nat} {v u : Value} {m : Nat} {xs : List Value} {n : Nat} {ps : List Value}

theorem setCell_other {w : World} {p : Addr} {x : Value} {g : Nat} (h : g ≠ p.block) : (w.setCell p x).heap[g]? = w.heap[g]? := Below.heap_setCell _ _ _ _ h

/-- The positions cut to none. -/
theorem StrX.cutP {p : Option Addr} {c : Nat} (h : StrX w T q v (.slice p n c) m xs n ps) :
    StrX (w.setCell ⟨q, 1, none⟩ (.slice p 0 c)) T q v (.slice p 0 c) m xs 0 [] ∧ Chg (· = q) w (w.setCell ⟨q, 1, none⟩ (.slice p 0 c)) ∧ (Value.slice p 0 c).ownBlock = (Value.slice p n c).ownBlock := by
  refine ⟨⟨by simp [World.setCell, Array.getElem?_modify, h.at_], ?_, ?_, h.ne⟩, (Chg.refl (· = q) w).setCell (p := ⟨q, 1, none⟩) (.inl rfl) _, ?_⟩
  · exact ownsRow_block h.buf fun g hg => setCell_other (h.bq hg)
  · refine ownsRow_block (w := w) ?_ fun g hg => setCell_other (h.pq (g := g) ?_)
    · rcases h.pos.2 with ⟨h1, h2⟩ | ⟨g, cap, cur, h1, hg, hh, hl, hm, hs, ht⟩
      · obtain ⟨rfl, -, rfl⟩ : p = none ∧ n = 0 ∧ c = 0 := by simpa using h1
        exact World.ownsRow_nil _ _ _ _
      · obtain ⟨rfl, -, rfl⟩ : p = some ⟨g, 0, none⟩ ∧ n = n ∧ c = cap := by simpa using h1
        exact ⟨rfl, .inr ⟨g, c, cur, rfl, hg, hh, Nat.zero_le _, hm, hs, by simp⟩⟩
    · cases p <;> exact hg
  · cases p <;> rfl
/-- The bytes as far as there is room. -/
theorem StrX.capB {p : Option Addr} {c : Nat} (h : StrX w T q (.slice p m c) u m xs n ps) :
    ∃ ys, StrX (w.setCell ⟨q, 0, none⟩ (.slice p c c)) T q (.slice p c c) u c ys n ps ∧ Chg (· = q) w (w.setCell ⟨q, 0, none⟩ (.slice p c c)) ∧ (Value.slice p c c).ownBlock = (Value.slice p m c).ownBlock := by
  have hob : (Value.slice p c c).ownBlock = (Value.slice p m c).ownBlock := by cases p <;> rfl
  obtain ⟨ys, hys⟩ : ∃ ys, w.ownsRow 0 5 1 (.slice p c c) c ys := by
    rcases h.buf.2 with ⟨h1, h2⟩ | ⟨g, cap, cur, h1, hg, hh, hl, hm, hs, ht⟩
    · obtain ⟨rfl, -, rfl⟩ : p = none ∧ m = 0 ∧ c = 0 := by simpa using h1
      exact ⟨[], World.ownsRow_nil _ _ _ _⟩
    · obtain ⟨rfl, -, rfl⟩ : p = some ⟨g, 0, none⟩ ∧ m = m ∧ c = cap := by simpa using h1
      exact ⟨cur.toList, by simp [hs], .inr ⟨g, c, cur, rfl, hg, hh, Nat.le_refl _, hm, hs, by rw [← hs, ← Array.length_toList]; exact List.take_length⟩⟩
  refine ⟨ys, ⟨by simp [World.setCell, Array.getElem?_modify, h.at_], ?_, ?_, h.ne⟩, (Chg.refl (· = q) w).setCell (p := ⟨q, 0, none⟩) (.inl rfl) _, hob⟩
  · exact ownsRow_block hys fun g hg => setCell_other (h.bq (by rw [← hob]; exact hg))
  · exact ownsRow_block h.pos fun g hg => setCell_other (h.pq hg)
/-- The bytes cut. -/
theorem StrX.cutB {p : Option Addr} {c e : Nat} (h : StrX w T q (.slice p m c) u m xs n ps) (he : e ≤ m) :
    StrX (w.setCell ⟨q, 0, none⟩ (.slice p e c)) T q (.slice p e c) u e (xs.take e) n ps ∧ Chg (· = q) w (w.setCell ⟨q, 0, none⟩ (.slice p e c)) ∧ (Value.slice p e c).ownBlock = (Value.slice p m c).ownBlock := by
  have hob : (Value.slice p e c).ownBlock = (Value.slice p m c).ownBlock := by cases p <;> rfl
  have hys : w.ownsRow 0 5 1 (.slice p e c) e (xs.take e) := by
    rcases h.buf.2 with ⟨h1, h2⟩ | ⟨g, cap, cur, h1, hg, hh, hl, hm, hs, ht⟩
    · obtain ⟨rfl, -, rfl⟩ : p = none ∧ m = 0 ∧ c = 0 := by simpa using h1
      obtain rfl : e = 0 := by omega
      simpa using World.ownsRow_nil w 0 5 1
    · obtain ⟨rfl, -, rfl⟩ : p = some ⟨g, 0, none⟩ ∧ m = m ∧ c = cap := by simpa using h1
      have hx := h.buf.1
      refine ⟨by simp; omega, .inr ⟨g, c, cur, rfl, hg, hh, by omega, hm, hs, ?_⟩⟩
      rw [← ht, List.take_take]
      congr 1
      omega
  refine ⟨⟨by simp [World.setCell, Array.getElem?_modify, h.at_], ?_, ?_, h.ne⟩, (Chg.refl (· = q) w).setCell (p := ⟨q, 0, none⟩) (.inl rfl) _, hob⟩
  · exact ownsRow_block hys fun g hg => setCell_other (h.bq (by rw [← hob]; exact hg))
  · exact ownsRow_block h.pos fun g hg => setCell_other (h.pq hg)
theorem StrX.zerosB (h : StrX w T q v u m xs n ps) (k : Nat) (hl : m + k ≤ 140737488355328) (ty : TypeId) :
    ∃ p c w1 ys, (Builtin.append_ #[29, 3] ty #[v, .int .i64 k]).run Tryz.prog w = .ok (.slice p (m + k) c) w1 ∧ GrewB w T q v u (.slice p (m + k) c) (m + k) (xs ++ ys) n ps w1 := by
  obtain ⟨p, c, w', F', hr, hown, hu⟩ := run_append_zeros elemB w (fun k => v.ownBlock = some k) v m xs ⟨h.buf, fun g hg => hg⟩ 3 ty Tryz.underlying3 (.int .u8 0) zeroB (by simp [Value.cells, Value.oneCell']) k hl (by omega)
  exact ⟨p, c, w', _, hr, h.grewB hown hu⟩
theorem StrX.zerosP (h : StrX w T q v u m xs n ps) (k : Nat) (hl : n + k ≤ 8796093022208) (ty : TypeId) :
    ∃ p c w1 ys, (Builtin.append_ #[75, 3] ty #[u, .int .i64 k]).run Tryz.prog w = .ok (.slice p (n + k) c) w1 ∧ GrewP w T q v u (.slice p (n + k) c) m xs (n + k) (ps ++ ys) w1 := by
  obtain ⟨p, c, w', F', hr, hown, hu⟩ := run_append_zeros elemP w (fun k => u.ownBlock = some k) u n ps ⟨h.pos, fun g hg => hg⟩ 3 ty Tryz.underlying3 (.agg #[.int .i64 0, .int .i64 0]) zeroPos (by simp [Value.cells, Value.oneCell']) k (by omega) (by omega)
  exact ⟨p, c, w', _, hr, h.grewP hown hu⟩
end

theorem list_zerosB {ops : Array Oper} {rest : List Oper} {o : Oper} {a : Act} {Q : Exit → Act → World → Prop} (hgd : o.guard = none) (w : World) (T : TypeId) (q : Nat) (v u : Value) (m : Nat) (xs : List Value) (n : Nat) (ps : List Value) (hX : StrX w T q v u m xs n ps) (s x : Operand)
    (ho : o.op = .call { callee := .builtin .append, args := #[s, x], argTypes := #[29, 3] }) (hs : a.eval s = v) (k : Nat) (hx : a.eval x = .int .i64 k) (hl : m + k ≤ 140737488355328)
    (h : ∀ p c w1 ys, GrewB w T q v u (.slice p (m + k) c) (m + k) (xs ++ ys) n ps w1 → wpList Tryz.prog ops Q rest (a.put o.dst (.slice p (m + k) c)) w1) : wpList Tryz.prog ops Q (o :: rest) a w := by
  refine wpList_plain hgd fun _ hKK => ?_
  obtain ⟨p, c, w1, ys, hr, hg⟩ := hX.zerosB k hl o.type
  unfold Oper.wp execOp
  simp only [ho, resolve, invoke, builtin, Sem.run_bind, Sem.run_pure, Result.andThen_ok, List.map_toArray, List.map_cons, List.map_nil, hs, hx, hr]
  exact hKK _ _ (h p c w1 ys hg)
theorem step_zerosP {ops : Array Oper} {o : Oper} {a : Act} {K : Act → World → Prop} {Q : Exit → Act → World → Prop} {E : Prop} (hgd : o.guard = none) (w : World) (T : TypeId) (q : Nat) (v u : Value) (m : Nat) (xs : List Value) (n : Nat) (ps : List Value) (hX : StrX w T q v u m xs n ps) (s x : Operand)
    (ho : o.op = .call { callee := .builtin .append, args := #[s, x], argTypes := #[75, 3] }) (hs : a.eval s = u) (k : Nat) (hx : a.eval x = .int .i64 k) (hl : n + k ≤ 8796093022208)
    (h : ∀ p c w1 ys, GrewP w T q v u (.slice p (n + k) c) m xs (n + k) (ps ++ ys) w1 → K (a.put o.dst (.slice p (n + k) c)) w1) : if Region.wanted o (yielded ops a.tmps) = true then Oper.wp Tryz.prog o a w K Q else E := by
  rw [if_pos (by simp [Region.wanted, hgd])]
  obtain ⟨p, c, w1, ys, hr, hg⟩ := hX.zerosP k hl o.type
  unfold Oper.wp execOp
  simp only [ho, resolve, invoke, builtin, Sem.run_bind, Sem.run_pure, Result.andThen_ok, List.map_toArray, List.map_cons, List.map_nil, hs, hx, hr]
  exact h p c w1 ys hg

/-- What is left ahead of row i: the rows from i on and a tail; or too little of them. -/
def RestI (ok : Bool) (l : List (List UInt8)) (tail : List UInt8) (i : Nat) (rest : List UInt8) : Prop :=
  (ok = true ∧ rest = encS (l.drop i) ++ tail) ∨ (ok = false ∧ Short rest (encS (l.drop i)))

theorem encS_drop {l : List (List UInt8)} {i : Nat} {s : List UInt8} (h : l[i]? = some s) : encS (l.drop i) = uv s.length ++ (s ++ encS (l.drop (i + 1))) := by
  obtain ⟨hi, rfl⟩ := List.getElem?_eq_some_iff.1 h
  unfold encS
  rw [List.drop_eq_getElem_cons hi, List.flatMap_cons]
  simp [strBytes]

theorem RestI.next {ok : Bool} {l : List (List UInt8)} {tail rest s : List UInt8} {i : Nat} (h : RestI ok l tail i rest) (hs : l[i]? = some s) :
    (ok = false ∧ Short rest (uv s.length)) ∨ ∃ r', rest = uv s.length ++ r' ∧ ((ok = false ∧ r'.length < s.length) ∨ ∃ r'', r' = s ++ r'' ∧ RestI ok l tail (i + 1) r'') := by
  have he := encS_drop hs
  rcases h with ⟨h1, h2⟩ | ⟨h1, h2⟩
  · exact .inr ⟨s ++ (encS (l.drop (i + 1)) ++ tail), by rw [h2, he]; simp, .inr ⟨_, rfl, .inl ⟨h1, rfl⟩⟩⟩
  · rw [he] at h2
    rcases h2.split with h3 | ⟨r', h3, h4⟩
    · exact .inl ⟨h1, h3⟩
    · rcases h4.split with h5 | ⟨r'', h5, h6⟩
      · exact .inr ⟨r', h3, .inl ⟨h1, h5.lt⟩⟩
      · exact .inr ⟨r', h3, .inr ⟨r'', h5, .inr ⟨h1, h6⟩⟩⟩
theorem RestI.done {ok : Bool} {l : List (List UInt8)} {tail rest : List UInt8} (h : RestI ok l tail l.length rest) : ok = true ∧ rest = tail := by
  rcases h with ⟨h1, h2⟩ | ⟨h1, t, h3, h4⟩
  · rw [List.drop_length] at h2
    exact ⟨h1, by simpa [encS] using h2⟩
  · rw [List.drop_length] at h4
    simp [encS] at h4
    exact absurd h4.2 h3

/-- ReadFull of no bytes, into whatever slice. -/
def ReadZ (w : World) (F D : Nat → Prop) (r : Nat) (rest cur : List UInt8) (e : Ending) (w' : World) : Prop := e = .returned .nilIface ∧ RdAt w' F D r rest cur ∧ Chg (· = r) w w'
set_option maxRecDepth 100000 in
theorem readZero (w : World) (F D : Nat → Prop) (r cap : Nat) (po : Option Addr) (rest cur : List UInt8) (h : RdAt w F D r rest cur) (hm : rest.length ≤ 140737488355328) :
    Calls Tryz.prog 58 #[.pointer (some ⟨r, 0, none⟩), .slice po 0 cap] w (ReadZ w F D r rest cur) := by
  obtain ⟨b, v, hbr, h⟩ := h
  have HBR := Lib.hid hbr
  clear hbr
  obtain ⟨vd, hr, hb, hvd⟩ := h.data
  obtain ⟨hc0, hf⟩ : w.cell? ⟨r, 0, none⟩ = some vd ∧ w.frozen? ⟨r, 0, none⟩ = false := ⟨by simp [World.cell?, hr], by simp [World.frozen?, hr]⟩
  clear hr
  have hsz : (Tryz.prog.info? 5).map (·.size) = some 1 := by kernel_rfl
  have HS := Lib.hid hsz
  have HD := Lib.hid hvd
  clear hsz hvd
  have fin : ∀ vd', BytesAt w vd' (rest.drop 0) → (∀ g, vd'.ownBlock = some g → D g) → ReadZ w F D r rest cur (.returned .nilIface) (w.setCell ⟨r, 0, none⟩ vd') := fun vd' h1 h2 => by
    obtain ⟨h3, h4⟩ := h.set vd' _ h1 h2
    exact ⟨rfl, ⟨b, v, HBR.out, by simpa using h3⟩, (Chg.refl (· = r) w).setCell (p := ⟨r, 0, none⟩) (.inl rfl) _⟩
  rcases hb with ⟨rfl, rfl⟩ | ⟨b2, off2, c2, rfl, hbl, hbc⟩
  · cases po
    all_goals
      go_enter Tryz.func58, Tryz.ntmps58
      go_wp2_with (with_reducible refine wpList_copy_nothing rfl (.tmp 16) (.tmp 20) 29 29 rfl 5 Tryz.underlying29 HS.out _ _ _ _ _ _ rfl rfl rfl ?_)
      go_ret
      exact fin _ (.inl ⟨rfl, rfl⟩) (by simp [Value.ownBlock])
  · by_cases h2 : c2 = 0
    all_goals
      first | (subst h2; obtain rfl : rest = [] := List.length_eq_zero_iff.1 (by omega)) | (have h2' : 0 < c2 := by omega)
      cases po
      all_goals
        go_enter Tryz.func58, Tryz.ntmps58
        go_wp2_with (with_reducible refine wpList_copy_nothing rfl (.tmp 16) (.tmp 20) 29 29 rfl 5 Tryz.underlying29 HS.out _ _ _ _ _ _ rfl rfl (by simp) ?_)
        go_ret
        refine fin _ (by first | exact BytesAt.cut hbl hbc (Nat.zero_le _) | exact BytesAt.nothing _ _ _ _) ?_
        exact HD.out
end Go.Proofs.YtemmhlibbihjmaaGreat
