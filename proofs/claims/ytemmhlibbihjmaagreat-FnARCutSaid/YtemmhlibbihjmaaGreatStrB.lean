/- proto.ColStr: rows read back, and the column written. -/
import Derived.Test.YtemmhlibbihjmaaGreatStrA
import Derived.StillTailTactics
namespace Go.Proofs.YtemmhlibbihjmaaGreat
open Go.RowKit
set_option linter.unusedVariables false
set_option linter.unnecessarySimpa false
set_option linter.unusedSimpArgs false

/-- The two slices read as these strings. -/
def StrV (w : World) (v u : Value) (l : List (List UInt8)) : Prop :=
  BytesAt w v l.flatten ∧ (∀ g, v.ownBlock = some g → g < w.heap.size) ∧ ((u = .slice none 0 0 ∧ l = []) ∨ ∃ g c : Nat, u = .slice (some ⟨g, 0, none⟩) l.length c ∧ l.length ≤ c ∧ g < w.heap.size ∧ ∀ (j : Nat) (x : Value), (posOf 0 l)[j]? = some x → w.cell? ⟨g, j, none⟩ = some x)

theorem StrV.below {w w' : World} {v u : Value} {l : List (List UInt8)} (h : StrV w v u l) (hb : Below w.heap.size w w') : StrV w' v u l := by
  obtain ⟨h1, h0, h2⟩ := h
  refine ⟨h1.below hb, fun g hg => Nat.lt_of_lt_of_le (h0 g hg) hb.size, ?_⟩
  rcases h2 with h2 | ⟨g, c, rfl, hc, hg, hx⟩
  · exact .inl h2
  · exact .inr ⟨g, c, rfl, hc, Nat.lt_of_lt_of_le hg hb.size, fun j x hj => by rw [hb.cell (p := ⟨g, j, none⟩) hg]; exact hx j x hj⟩
theorem StrV.chg {w w' : World} {G : Nat → Prop} {v u : Value} {l : List (List UInt8)} (h : StrV w v u l) (hc : Chg G w w') (hv : ∀ g, v.ownBlock = some g → ¬ G g) (hu : ∀ g, u.ownBlock = some g → ¬ G g) : StrV w' v u l := by
  obtain ⟨h1, h0, h2⟩ := h
  refine ⟨h1.keep fun g hg => hc.block g (h0 g hg) (hv g hg), fun g hg => Nat.lt_of_lt_of_le (h0 g hg) hc.size, ?_⟩
  rcases h2 with h2 | ⟨g, c, rfl, hcc, hg, hx⟩
  · exact .inl h2
  · exact .inr ⟨g, c, rfl, hcc, Nat.lt_of_lt_of_le hg hc.size, fun j x hj => by rw [hc.cell (p := ⟨g, j, none⟩) hg (hu g rfl)]; exact hx j x hj⟩

theorem StrCol.view {w : World} {F : Nat → Prop} {T : TypeId} {q : Nat} {l : List (List UInt8)} (h : StrCol w F T q l) :
    ∃ v u, w.heap[q]? = some (.cells #[v, u] T (0, 0)) ∧ w.cell? ⟨q, 0, none⟩ = some v ∧ w.cell? ⟨q, 1, none⟩ = some u ∧ q < w.heap.size ∧ StrV w v u l ∧ (∀ k, FpS q v u k → F k) := by
  obtain ⟨v, u, hX, hF⟩ := h
  obtain ⟨c0, c1, -, hlt⟩ := hX.cells
  refine ⟨v, u, hX.at_, c0, c1, hlt, ⟨ownsRow_bytes hX.buf, fun g hg => (hX.buf.lt g hg).2, ?_⟩, hF⟩
  rcases hX.pos.2 with ⟨h1, h2⟩ | ⟨g, cap, cur, h1, hg, hh, hl, hm, hs, ht⟩
  · exact .inl ⟨h1, List.length_eq_zero_iff.1 h2⟩
  · refine .inr ⟨g, cap, h1, hl, (Array.getElem?_eq_some_iff.1 hh).1, fun j x hj => ?_⟩
    rw [← ht, List.getElem?_take] at hj
    split at hj
    · simp only [World.cell?, hh]
      simpa using hj
    · simp at hj

/-- A row: where it lies. -/
theorem StrV.row {w : World} {v u : Value} {l : List (List UInt8)} (h : StrV w v u l) (i : Nat) (s : List UInt8) (hi : l[i]? = some s) :
    ∃ (g c a : Nat), u = .slice (some ⟨g, 0, none⟩) l.length c ∧ i < l.length ∧ l.length ≤ c ∧ w.cell? ⟨g, i * 2, none⟩ = some (.int .i64 (a : Nat)) ∧ w.cell? ⟨g, i * 2 + 1, none⟩ = some (.int .i64 ((a + s.length : Nat) : Int)) ∧ g < w.heap.size ∧
      ((v = .slice none 0 0 ∧ a = 0 ∧ s = []) ∨ ∃ b off n k : Nat, v = .slice (some ⟨b, off, none⟩) n k ∧ a + s.length ≤ n ∧ n ≤ k ∧ BytesAt w (.slice (some ⟨b, off + a, none⟩) s.length (k - a)) s) := by
  obtain ⟨hb, h0, h2⟩ := h
  obtain ⟨hil, -⟩ := List.getElem?_eq_some_iff.1 hi
  rcases h2 with ⟨-, rfl⟩ | ⟨g, c, rfl, hc, hg, hx⟩
  · simp at hi
  · obtain ⟨p1, p2⟩ := posOf_get l 0 i s hi
    obtain ⟨f1, f2⟩ := flat_at l i s hi
    rw [Nat.zero_add] at p1 p2
    rcases hb with ⟨rfl, he⟩ | ⟨b, off, cap, rfl, hl, hbx⟩
    · rw [he] at f2
      simp at f2
      exact ⟨g, c, (l.take i).flatten.length, rfl, hil, hc, hx _ _ p1, hx _ _ p2, hg, .inl ⟨rfl, by simp [f2.1], f2.2⟩⟩
    · refine ⟨g, c, (l.take i).flatten.length, rfl, hil, hc, hx _ _ p1, hx _ _ p2, hg, .inr ⟨b, off, l.flatten.length, cap, rfl, f2, hl, .inr ⟨b, off + (l.take i).flatten.length, cap - (l.take i).flatten.length, rfl, by omega, fun j hj => ?_⟩⟩⟩
      have h1 := hbx ((l.take i).flatten.length + j) (by omega)
      rw [← Nat.add_assoc] at h1
      rw [h1]
      have e : s[j] = l.flatten[(l.take i).flatten.length + j] := by
        have h3 : s[j]? = l.flatten[(l.take i).flatten.length + j]? := by
          conv => lhs; rw [← f1]
          rw [List.getElem?_take_of_lt hj, List.getElem?_drop]
        rw [List.getElem?_eq_getElem hj, List.getElem?_eq_getElem (by omega)] at h3
        exact Option.some.inj h3
      rw [e]

set_option maxRecDepth 100000 in
theorem strRows (w : World) (v u : Value) (l : List (List UInt8)) (h : StrV w v u l) :
    Calls Tryz.prog 91 #[.agg #[v, u]] w fun e w' => e = .returned (.int .i64 l.length) ∧ Below w.heap.size w w' := by
  obtain ⟨p, c, rfl⟩ : ∃ p c, u = .slice p l.length c := by
    rcases h.2.2 with ⟨rfl, rfl⟩ | ⟨g, c, rfl, -⟩
    · exact ⟨_, _, rfl⟩
    · exact ⟨_, _, rfl⟩
  obtain ⟨p1, c1, rfl⟩ := h.1.slice
  clear h
  go_enter Tryz.func91, Tryz.ntmps91
  go_wp2_with fail
  go_ret
  exact ⟨rfl, (Below.refl _ w).alloc (Nat.le_refl _) _⟩

def posW (w : World) (v u : Value) (a b : Int) : World := (w.alloc (.cells #[v, u] 77)).alloc (.cells #[.int .i64 a, .int .i64 b] 161)
theorem posW_below (w : World) (v u : Value) (a b : Int) : Below w.heap.size w (posW w v u a b) := ((Below.refl _ w).alloc (Nat.le_refl _) _).alloc (by simp) _

set_option maxRecDepth 100000 in
theorem strRow (w : World) (v u : Value) (l : List (List UInt8)) (h : StrV w v u l) (i : Nat) (s : List UInt8) (hi : l[i]? = some s) (hm : l.length ≤ 8796093022208) :
    Calls Tryz.prog 90 #[.agg #[v, u], .int .i64 i] w fun e w' => e = .returned (.string ⟨s.toArray⟩) ∧ Below w.heap.size w w' := by
  obtain ⟨g, c, a, rfl, hil, hlc, h1, h2, hg, hv⟩ := StrV.row h i s hi
  have hp := posW_below w v (.slice (some ⟨g, 0, none⟩) l.length c) a ((a : Int) + (s.length : Int))
  have HP := Lib.hid hp
  have b3 : (a : Int) ≤ ((a + s.length : Nat) : Int) := by omega
  rcases hv with ⟨rfl, rfl, rfl⟩ | ⟨b, off, n, k, rfl, ha, hn, hb⟩
  · have hcv := run_convert_at (BytesAt.below (.inl ⟨rfl, rfl⟩) hp : BytesAt _ (.slice none 0 0) [])
    unfold posW at hcv HP
    clear h hi hp
    simp at hcv
    go_enter Tryz.func90, Tryz.ntmps90
    go_wp2_with fail
    go_ret
    exact ⟨rfl, by simpa using HP.out⟩
  · have b1 : (a : Int) ≤ (k : Int) := by omega
    have b2 : ((a + s.length : Nat) : Int) ≤ (k : Int) := by omega
    by_cases hk : k = a
    · obtain rfl : s = [] := List.length_eq_zero_iff.1 (by omega)
      have hcv := run_convert_at (BytesAt.nothing _ b off (k - a) : BytesAt (posW w (.slice (some ⟨b, off, none⟩) n k) (.slice (some ⟨g, 0, none⟩) l.length c) a ((a : Int) + (([] : List UInt8).length : Int))) _ _)
      unfold posW at hcv HP
      clear hb h hi hp
      subst hk
      simp at hcv
      go_enter Tryz.func90, Tryz.ntmps90
      go_wp2_with fail
      go_ret
      exact ⟨rfl, by simpa using HP.out⟩
    · have hcv := run_convert_at (hb.below hp)
      unfold posW at hcv HP
      clear hb h hi hp
      go_enter Tryz.func90, Tryz.ntmps90
      go_wp2_with fail
      go_ret
      exact ⟨rfl, HP.out⟩

def RowB (w : World) (v : Value) (s : List UInt8) (e : Ending) (w' : World) : Prop :=
  Below w.heap.size w w' ∧ ∃ x, e = .returned x ∧ BytesAt w' x s ∧ ∀ g, x.ownBlock = some g → v.ownBlock = some g

/-- The bytes of a column of strings. -/
def encS (l : List (List UInt8)) : List UInt8 := l.flatMap strBytes
theorem encS_take_succ {l : List (List UInt8)} {k : Nat} {s : List UInt8} (h : l[k]? = some s) : encS (l.take (k + 1)) = encS (l.take k) ++ (uv s.length ++ s) := by
  obtain ⟨hk, rfl⟩ := List.getElem?_eq_some_iff.1 h
  unfold encS
  rw [List.take_succ_eq_append_getElem hk, List.flatMap_append]
  simp [strBytes]
theorem encS_take_le (l : List (List UInt8)) (k : Nat) : (encS (l.take k)).length ≤ (encS l).length := by
  conv => rhs; rw [← List.take_append_drop k l]
  unfold encS
  rw [List.flatMap_append, List.length_append]
  omega

end Go.Proofs.YtemmhlibbihjmaaGreat
