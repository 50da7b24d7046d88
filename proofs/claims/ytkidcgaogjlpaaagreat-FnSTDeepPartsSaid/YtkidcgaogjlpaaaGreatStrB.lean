/- proto.ColStr: rows read back, and the column written. -/
import Derived.Test.YtkidcgaogjlpaaaGreatStrA
import Derived.StillTailTactics
namespace Go.Proofs.YtkidcgaogjlpaaaGreat
open Go.RowKit
set_option linter.unusedVariables false
set_option linter.unnecessarySimpa false
set_option linter.unusedSimpArgs false

/-- The two slices read as these strings. -/
def StrV (w : World) (v u : Value) (l : List (List UInt8)) : Prop :=
  BytesAt w v l.flatten ∧ (∀ g, v.ownBlock = some g → g < w.heap.size) ∧ ((u = .slice none 0 0 ∧ l = []) ∨ ∃ g c : Nat, u = .slice (some ⟨g, 0, none⟩) l.length c ∧ l.length ≤ c ∧ g < w.heap.size ∧ ∀ (j : Nat) (x : Value), (posOf 0 l)[j]? = some x → w.cell? ⟨g, j, none⟩ = some x)

theorem StrV.below {w w' : World} {v u : Value} {l : List (List UInt8)} (h : StrV w v u l) (hb : Below w.heap.size w w') : StrV w' v u l := by
  obtain ⟨h1, h0, h2⟩ := h
  refine ⟨h1.below hb, fun g hg => Nat.lt_of_lt_of_le (h0 g hg) hb.size, ?_⟩
  rcases h2 with h2 | ⟨g, c, rfl, hc, hg, hx⟩
  · exact .inl h2
  · exact .inr ⟨g, c, rfl, hc, Nat.lt_of_lt_of_le hg hb.size, fun j x hj => by rw [hb.cell (p := ⟨g, j, none⟩) hg]; exact hx j x hj⟩
theorem StrV.chg {w w' : World} {G : Nat → Prop} {v u : Value} {l : List (List UInt8)} (h : StrV w v u l) (hc : Chg G w w') (hv : ∀ g, v.ownBlock = some g → ¬ G g) (hu : ∀ g, u.ownBlock = some g → ¬ G g) : StrV w' v u l := by
  obtain ⟨h1, h0, h2⟩ := h
  refine ⟨h1.keep fun g hg => hc.block g (h0 g hg) (hv g hg), fun g hg => Nat.lt_of_lt_of_le (h0 g hg) hc.size, ?_⟩
  rcases h2 with h2 | ⟨g, c, rfl, hcc, hg, hx⟩
  · exact .inl h2
  · exact .inr ⟨g, c, rfl, hcc, Nat.lt_of_lt_of_le hg hc.size, fun j x hj => by rw [hc.cell (p := ⟨g, j, none⟩) hg (hu g rfl)]; exact hx j x hj⟩

theorem StrCol.view {w : World} {F : Nat → Prop} {T : TypeId} {q : Nat} {l : List (List UInt8)} (h : StrCol w F T q l) :
    ∃ v u, w.heap[q]? = some (.cells #[v, u] T (0, 0)) ∧ w.cell? ⟨q, 0, none⟩ = some v ∧ w.cell? ⟨q, 1, none⟩ = some u ∧ q < w.heap.size ∧ StrV w v u l ∧ (∀ k, FpS q v u k → F k) := by
  obtain ⟨v, u, hX, hF⟩ := h
  obtain ⟨c0, c1, -, hlt⟩ := hX.cells
  refine ⟨v, u, hX.at_, c0, c1, hlt, ⟨ownsRow_bytes hX.buf, fun g hg => (hX.buf.lt g hg).2, ?_⟩, hF⟩
  rcases hX.pos.2 with ⟨h1, h2⟩ | ⟨g, cap, cur, h1, hg, hh, hl, hm, hs, ht⟩
  · exact .inl ⟨h1, List.length_eq_zero_iff.1 h2⟩
  · refine .inr ⟨g, cap, h1, hl, (Array.getElem?_eq_some_iff.1 hh).1, fun j x hj => ?_⟩
    rw [← ht, List.getElem?_take] at hj
    split at hj
    · simp only [World.cell?, hh]
      simpa using hj
    · simp at hj

/-- A row: where it lies. -/
theorem StrV.row {w : World} {v u : Value} {l : List (List UInt8)} (h : StrV w v u l) (i : Nat) (s : List UInt8) (hi : l[i]? = some s) :
    ∃ (g c a : Nat), u = .slice (some ⟨g, 0, none⟩) l.length c ∧ i < l.length ∧ l.length ≤ c ∧ w.cell? ⟨g, i * 2, none⟩ = some (.int .i64 (a : Nat)) ∧ w.cell? ⟨g, i * 2 + 1, none⟩ = some (.int .i64 ((a + s.length : Nat) : Int)) ∧ g < w.heap.size ∧
      ((v = .slice none 0 0 ∧ a = 0 ∧ s = []) ∨ ∃ b off n k : Nat, v = .slice (some ⟨b, off, none⟩) n k ∧ a + s.length ≤ n ∧ n ≤ k ∧ BytesAt w (.slice (some ⟨b, off + a, none⟩) s.length (k - a)) s) := by
  obtain ⟨hb, h0, h2⟩ := h
  obtain ⟨hil, -⟩ := List.getElem?_eq_some_iff.1 hi
  rcases h2 with ⟨-, rfl⟩ | ⟨g, c, rfl, hc, hg, hx⟩
  · simp at hi
  · obtain ⟨p1, p2⟩ := posOf_get l 0 i s hi
    obtain ⟨f1, f2⟩ := flat_at l i s hi
    rw [Nat.zero_add] at p1 p2
    rcases hb with ⟨rfl, he⟩ | ⟨b, off, cap, rfl, hl, hbx⟩
    · rw [he] at f2
      simp at f2
      exact ⟨g, c, (l.take i).flatten.length, rfl, hil, hc, hx _ _ p1, hx _ _ p2, hg, .inl ⟨rfl, by simp [f2.1], f2.2⟩⟩
    · refine ⟨g, c, (l.take i).flatten.length, rfl, hil, hc, hx _ _ p1, hx _ _ p2, hg, .inr ⟨b, off, l.flatten.length, cap, rfl, f2, hl, .inr ⟨b, off + (l.take i).flatten.length, cap - (l.take i).flatten.length, rfl, by omega, fun j hj => ?_⟩⟩⟩
      have h1 := hbx ((l.take i).flatten.length + j) (by omega)
      rw [← Nat.add_assoc] at h1
      rw [h1]
      have e : s[j] = l.flatten[(l.take i).flatten.length + j] := by
        have h3 : s[j]? = l.flatten[(l.take i).flatten.length + j]? := by
          conv => lhs; rw [← f1]
          rw [List.getElem?_take_of_lt hj, List.getElem?_drop]
        rw [List.getElem?_eq_getElem hj, List.getElem?_eq_getElem (by omega)] at h3
        exact Option.some.inj h3
      rw [e]

set_option maxRecDepth 100000 in
theorem strRows (w : World) (v u : Value) (l : List (List UInt8)) (h : StrV w v u l) :
    Calls Tryz.prog 86 #[.agg #[v, u]] w fun e w' => e = .returned (.int .i64 l.length) ∧ Below w.heap.size w w' := by
  obtain ⟨p, c, rfl⟩ : ∃ p c, u = .slice p l.length c := by
    rcases h.2.2 with ⟨rfl, rfl⟩ | ⟨g, c, rfl, -⟩
    · exact ⟨_, _, rfl⟩
    · exact ⟨_, _, rfl⟩
  obtain ⟨p1, c1, rfl⟩ := h.1.slice
  clear h
  go_enter Tryz.func86, Tryz.ntmps86
  go_wp2_with fail
  go_ret
  exact ⟨rfl, (Below.refl _ w).alloc (Nat.le_refl _) _⟩

def posW (w : World) (v u : Value) (a b : Int) : World := (w.alloc (.cells #[v, u] 84)).alloc (.cells #[.int .i64 a, .int .i64 b] 188)
theorem posW_below (w : World) (v u : Value) (a b : Int) : Below w.heap.size w (posW w v u a b) := ((Below.refl _ w).alloc (Nat.le_refl _) _).alloc (by simp) _

set_option maxRecDepth 100000 in
theorem strRow (w : World) (v u : Value) (l : List (List UInt8)) (h : StrV w v u l) (i : Nat) (s : List UInt8) (hi : l[i]? = some s) (hm : l.length ≤ 8796093022208) :
    Calls Tryz.prog 111 #[.agg #[v, u], .int .i64 i] w fun e w' => e = .returned (.string ⟨s.toArray⟩) ∧ Below w.heap.size w w' := by
  obtain ⟨g, c, a, rfl, hil, hlc, h1, h2, hg, hv⟩ := StrV.row h i s hi
  have hp := posW_below w v (.slice (some ⟨g, 0, none⟩) l.length c) a ((a : Int) + (s.length : Int))
  have HP := Lib.hid hp
  have b3 : (a : Int) ≤ ((a + s.length : Nat) : Int) := by omega
  rcases hv with ⟨rfl, rfl, rfl⟩ | ⟨b, off, n, k, rfl, ha, hn, hb⟩
  · have hcv := run_convert_at (BytesAt.below (.inl ⟨rfl, rfl⟩) hp : BytesAt _ (.slice none 0 0) [])
    unfold posW at hcv HP
    clear h hi hp
    simp at hcv
    go_enter Tryz.func111, Tryz.ntmps111
    go_wp2_with fail
    go_ret
    exact ⟨rfl, by simpa using HP.out⟩
  · have b1 : (a : Int) ≤ (k : Int) := by omega
    have b2 : ((a + s.length : Nat) : Int) ≤ (k : Int) := by omega
    by_cases hk : k = a
    · obtain rfl : s = [] := List.length_eq_zero_iff.1 (by omega)
      have hcv := run_convert_at (BytesAt.nothing _ b off (k - a) : BytesAt (posW w (.slice (some ⟨b, off, none⟩) n k) (.slice (some ⟨g, 0, none⟩) l.length c) a ((a : Int) + (([] : List UInt8).length : Int))) _ _)
      unfold posW at hcv HP
      clear hb h hi hp
      subst hk
      simp at hcv
      go_enter Tryz.func111, Tryz.ntmps111
      go_wp2_with fail
      go_ret
      exact ⟨rfl, by simpa using HP.out⟩
    · have hcv := run_convert_at (hb.below hp)
      unfold posW at hcv HP
      clear hb h hi hp
      go_enter Tryz.func111, Tryz.ntmps111
      go_wp2_with fail
      go_ret
      exact ⟨rfl, HP.out⟩

def RowB (w : World) (v : Value) (s : List UInt8) (e : Ending) (w' : World) : Prop :=
  Below w.heap.size w w' ∧ ∃ x, e = .returned x ∧ BytesAt w' x s ∧ ∀ g, x.ownBlock = some g → v.ownBlock = some g

set_option maxRecDepth 100000 in
theorem strRowBytes (w : World) (v u : Value) (l : List (List UInt8)) (h : StrV w v u l) (i : Nat) (s : List UInt8) (hi : l[i]? = some s) (hm : l.length ≤ 8796093022208) :
    Calls Tryz.prog 110 #[.agg #[v, u], .int .i64 i] w (RowB w v s) := by
  obtain ⟨g, c, a, rfl, hil, hlc, h1, h2, hg, hv⟩ := StrV.row h i s hi
  have hp := posW_below w v (.slice (some ⟨g, 0, none⟩) l.length c) a ((a : Int) + (s.length : Int))
  have HP := Lib.hid hp
  have b3 : (a : Int) ≤ ((a + s.length : Nat) : Int) := by omega
  rcases hv with ⟨rfl, rfl, rfl⟩ | ⟨b, off, n, k, rfl, ha, hn, hb⟩
  · unfold posW at HP
    clear h hi hp
    go_enter Tryz.func110, Tryz.ntmps110
    go_wp2_with fail
    go_ret
    exact ⟨by simpa using HP.out, _, rfl, .inl ⟨rfl, rfl⟩, fun _ h => h⟩
  · have b1 : (a : Int) ≤ (k : Int) := by omega
    have b2 : ((a + s.length : Nat) : Int) ≤ (k : Int) := by omega
    by_cases hk : k = a
    · obtain rfl : s = [] := List.length_eq_zero_iff.1 (by omega)
      unfold posW at HP
      clear hb h hi hp
      subst hk
      go_enter Tryz.func110, Tryz.ntmps110
      go_wp2_with fail
      go_ret
      exact ⟨by simpa using HP.out, _, rfl, BytesAt.nothing _ _ _ _, fun _ h => h⟩
    · have HB := Lib.hid (hb.below hp)
      unfold posW at HP HB
      clear hb h hi hp
      go_enter Tryz.func110, Tryz.ntmps110
      go_wp2_with fail
      go_ret
      refine ⟨HP.out, _, rfl, ?_, fun _ h => h⟩
      have h := HB.out
      simpa using h

/-- The bytes of a column of strings. -/
def encS (l : List (List UInt8)) : List UInt8 := l.flatMap strBytes
theorem encS_take_succ {l : List (List UInt8)} {k : Nat} {s : List UInt8} (h : l[k]? = some s) : encS (l.take (k + 1)) = encS (l.take k) ++ (uv s.length ++ s) := by
  obtain ⟨hk, rfl⟩ := List.getElem?_eq_some_iff.1 h
  unfold encS
  rw [List.take_succ_eq_append_getElem hk, List.flatMap_append]
  simp [strBytes]
theorem encS_take_le (l : List (List UInt8)) (k : Nat) : (encS (l.take k)).length ≤ (encS l).length := by
  conv => rhs; rw [← List.take_append_drop k l]
  unfold encS
  rw [List.flatMap_append, List.length_append]
  omega

/-- Behind k rounds of the encoding. -/
structure EncI (w2 : World) (F : Nat → Prop) (p : Nat) (bs : List UInt8) (q2 : Nat) (l : List (List UInt8)) (k : Nat) (wr : World) : Prop where
  buf : ∃ F', BufAt wr F' 179 p (bs ++ encS (l.take k)) ∧ In F' wr ∧ ∀ j, F' j → F j ∨ w2.heap.size ≤ j
  arr : ∃ C, wr.heap[q2]? = some (.cells C 219 (0, 0)) ∧ C.size = 10
  chg : Chg (fun j => F j ∨ j = q2) w2 wr

theorem EncI.next {w2 wr w4 w6 w7 W3 : World} {F F1 F2 F3 : Nat → Prop} {p q2 n k m0 : Nat} {bs pre s : List UInt8} {l : List (List UInt8)}
    (hn : n = s.length) (hen : encS (l.take (k + 1)) = encS (l.take k) ++ (uv s.length ++ s)) (hpre : pre = bs ++ encS (l.take k)) (hnew : ∀ j, F1 j → F j ∨ w2.heap.size ≤ j) (hin : In F1 wr)
    (hu6 : Upd w4.drew w6 F1 F2) (hu7 : Upd w6.drew w7 F2 F3) (hB : BufAt w7 F3 179 p (pre ++ uv n ++ s)) (hd : UvDone n q2 219 W3 w4) (hc : Chg (fun j => F j ∨ j = q2) w2 wr) (hc6 : Chg (fun j => F1 j ∨ j = q2) wr w6) (hq : ¬ F1 q2) (hs2 : w2.heap.size = m0 + 2) (hq2 : q2 = m0 + 1 := by rfl) (hs4 : wr.heap.size ≤ w4.heap.size := by assumption) :
    EncI w2 F p bs q2 l (k + 1) w7 := by
  subst hn
  have z1 := hc.size
  have z2 := hu6.chg.size
  have z3 := hu7.chg.size
  have z4 : w4.drew.heap.size = w4.heap.size := rfl
  have z5 : w6.drew.heap.size = w6.heap.size := rfl
  have nF2 : ¬ F2 q2 := fun h => by
    rcases hu6.new _ h with h | h
    · exact hq h
    · have := h.1; omega
  refine ⟨⟨F3, by rw [hen]; rw [hpre] at hB; simpa using hB, hu7.inn (hu6.inn (hin.mono (by simpa using hs4))), fun j hj => ?_⟩, ?_, ?_⟩
  · rcases hu7.new _ hj with h | h
    · rcases hu6.new _ h with h | h
      · exact hnew j h
      · have := h.1; exact .inr (by omega)
    · have := h.1; exact .inr (by omega)
  · obtain ⟨C, h1, h2, -⟩ := hd
    have hlt : q2 < w4.heap.size := (Array.getElem?_eq_some_iff.1 h1).1
    refine ⟨C, ?_, h2⟩
    rw [hu7.chg.block q2 (by simp; omega) nF2]
    show w6.heap[q2]? = _
    rw [hu6.chg.block q2 (by simpa using hlt) hq]
    exact h1
  · refine (hc.trans hc6 fun j hj h => ?_).drew.trans hu7.chg fun j hj h => ?_
    · rcases h with h | h
      · rcases hnew j h with h | h
        · exact .inl h
        · omega
      · exact .inr h
    · rcases hu6.new _ h with h | h
      · rcases hnew j h with h | h
        · exact .inl h
        · omega
      · have := h.1; omega

set_option maxRecDepth 100000 in
set_option maxHeartbeats 4000000 in
theorem strEncode (w : World) (F : Nat → Prop) (p : Nat) (bs : List UInt8) (v u : Value) (l : List (List UInt8)) (hB : BufAt w F 179 p bs) (hF : In F w) (h : StrV w v u l) (hv : ∀ g, v.ownBlock = some g → ¬ F g) (hu : ∀ g, u.ownBlock = some g → ¬ F g)
    (hl : bs.length + (encS l).length ≤ 140737488355328) (hm : l.length ≤ 8796093022208) :
    Calls Tryz.prog 84 #[.agg #[v, u], .pointer (some ⟨p, 0, none⟩)] w (Put w F 179 p (bs ++ encS l)) := by
  obtain ⟨pu, cu, rfl⟩ : ∃ p c, u = .slice p l.length c := by
    rcases h.2.2 with ⟨rfl, rfl⟩ | ⟨g, c, rfl, -⟩
    · exact ⟨_, _, rfl⟩
    · exact ⟨_, _, rfl⟩
  obtain ⟨pv, cv, rfl⟩ := h.1.slice
  obtain ⟨nl, hnl⟩ : ∃ nl, nl = l.flatten.length := ⟨_, rfl⟩
  rw [← hnl] at h hv ⊢
  obtain ⟨W2, hW2⟩ : ∃ W2, W2 = (w.alloc (.cells #[.slice pv nl cv, .slice pu l.length cu] 84)).alloc (.cells #[.int .u8 0, .int .u8 0, .int .u8 0, .int .u8 0, .int .u8 0, .int .u8 0, .int .u8 0, .int .u8 0, .int .u8 0, .int .u8 0] 219) := ⟨_, rfl⟩
  have hb2 : Below w.heap.size w W2 := by rw [hW2]; exact ((Below.refl _ w).alloc (Nat.le_refl _) _).alloc (by simp) _
  have hs2 : W2.heap.size = w.heap.size + 2 := by rw [hW2]; simp
  have hI : EncI W2 F p bs (w.heap.size + 1) l 0 W2 := by
    refine ⟨⟨F, by simpa [encS] using hB.upd (G := fun _ => False) (Chg.of_below hb2) (fun _ _ h => h), hF.mono hb2.size, fun j hj => .inl hj⟩, ⟨_, by rw [hW2]; have := heap_alloc_new (w.alloc (.cells #[.slice pv nl cv, .slice pu l.length cu] 84)) (.cells #[.int .u8 0, .int .u8 0, .int .u8 0, .int .u8 0, .int .u8 0, .int .u8 0, .int .u8 0, .int .u8 0, .int .u8 0, .int .u8 0] 219); simpa using this, rfl⟩, Chg.refl _ _⟩
  have hbox : W2.heap[w.heap.size]? = some (.cells #[.slice pv nl cv, .slice pu l.length cu] 84 (0, 0)) := by
    rw [hW2, Below.heap_alloc _ _ _ (by simp)]
    exact heap_alloc_new _ _
  have HW := Lib.hid hW2
  have HB2 := Lib.hid hb2
  have HS2 := Lib.hid hs2
  have HI := Lib.hid hI
  have HBOX := Lib.hid hbox
  have HH := Lib.hid (h.below hb2)
  have HV := Lib.hid hv
  have HU := Lib.hid hu
  have HLV := Lib.hid h.2.1
  have HLU : Hid (∀ g, (Value.slice pu l.length cu).ownBlock = some g → g < w.heap.size) := Lib.hid fun g hg => by
    rcases h.2.2 with ⟨h1, -⟩ | ⟨g', c, h1, -, h2, -⟩
    · rw [h1] at hg; simp [Value.ownBlock] at hg
    · rw [h1] at hg
      obtain rfl : g' = g := by simpa [Value.ownBlock] using hg
      exact h2
  have HF := Lib.hid hF
  have HNL := Lib.hid hnl
  clear hB h hv hu hI hbox hb2 hs2 hF hnl
  go_enter Tryz.func84, Tryz.ntmps84
  go_wp2_with fail
  rw [← HW.out]
  clear hW2
  go_loopw [12] (fun vi wr => ∃ k : Nat, k ≤ l.length ∧ vi = .int .i64 k ∧ EncI W2 F p bs (w.heap.size + 1) l k wr) (fun vi _ => l.length - (intOf vi).toNat)
  case atStart => exact ⟨0, Nat.zero_le _, rfl, HI.out⟩
  case round =>
    obtain ⟨k, hk, rfl, hE⟩ := hrel
    by_cases hlt : k < l.length
    · obtain ⟨s, hs⟩ : ∃ s, l[k]? = some s := ⟨_, List.getElem?_eq_getElem hlt⟩
      obtain ⟨⟨F1, hb1, hin1, hnew1⟩, ⟨C, hC, hC10⟩, hchg⟩ := hE
      have hs2 := HS2.out
      have nF : ∀ j, w.heap.size ≤ j → ¬ F j := fun j hj h => by have := HF.out j h; omega
      have nG : ∀ j, j < w.heap.size → ¬ F j → ¬ (F j ∨ j = w.heap.size + 1) := fun j hj hn h => by
        rcases h with h | h
        · exact hn h
        · omega
      have hVr : StrV wr (.slice pv nl cv) (.slice pu l.length cu) l := HH.out.chg hchg (fun g hg => nG g (HLV.out g hg) (HV.out g hg)) (fun g hg => nG g (HLU.out g hg) (HU.out g hg))
      have hbx : wr.heap[w.heap.size]? = some (.cells #[.slice pv nl cv, .slice pu l.length cu] 84 (0, 0)) := by
        rw [hchg.block _ (by omega) (by
          rintro (h | h)
          · exact nF _ (Nat.le_refl _) h
          · omega)]
        exact HBOX.out
      have bx0 : wr.cell? ⟨w.heap.size, 0, none⟩ = some (.slice pv nl cv) := by simp [World.cell?, hbx]
      have bx1 : wr.cell? ⟨w.heap.size, 1, none⟩ = some (.slice pu l.length cu) := by simp [World.cell?, hbx]
      have hszr := hchg.size
      have q2F1 : ¬ F1 (w.heap.size + 1) := fun h => by
        rcases hnew1 _ h with h | h
        · exact nF _ (by omega) h
        · omega
      have hb2x : ¬ F1 w.heap.size := fun h => by
        rcases hnew1 _ h with h | h
        · exact nF _ (by omega) h
        · omega
      obtain ⟨g, c, a, hgc, -, hlc, h1, h2, hg, hv⟩ := StrV.row hVr k s hs
      obtain ⟨rfl, rfl⟩ : pu = some ⟨g, 0, none⟩ ∧ cu = c := by simpa using hgc
      have hF1v : ∀ b, (Value.slice pv nl cv).ownBlock = some b → ¬ F1 b ∧ b ≠ w.heap.size + 1 ∧ b < w.heap.size := fun b hb => ⟨fun h => by
        have := HLV.out b hb
        rcases hnew1 _ h with h | h
        · exact HV.out b hb h
        · omega, by have := HLV.out b hb; omega, HLV.out b hb⟩
      have hen := encS_take_succ hs
      have hle := encS_take_le l (k + 1)
      rw [hen, List.length_append, List.length_append] at hle
      obtain ⟨pre, hpre⟩ : ∃ pre, pre = bs ++ encS (l.take k) := ⟨_, rfl⟩
      have hpl : pre.length = bs.length + (encS (l.take k)).length := by rw [hpre, List.length_append]
      rw [← hpre] at hb1
      have HEN := Lib.hid hen
      have HPRE := Lib.hid hpre
      obtain ⟨e, he⟩ : ∃ e, e = a + s.length := ⟨_, rfl⟩
      obtain ⟨n, hn⟩ : ∃ n, n = s.length := ⟨_, rfl⟩
      obtain ⟨m, hmu⟩ : ∃ m, m = (uv n).length := ⟨_, rfl⟩
      have hm1 : 1 ≤ m ∧ m ≤ 10 := by
        have h1 := uv_length_pos n
        have h2 := uv_length_le 10 n (by have := hl; omega) (by omega)
        omega
      have hm3 : (m : Int) ≤ 10 := by omega
      rw [← he] at h2 hv
      rw [← hn] at he hle
      rw [← hmu] at hle
      have hsub : (e : Int) - (a : Int) = (n : Int) := by omega
      have hsubN : e - a = n := by omega
      have HSUB := Lib.hid hsubN
      have hlp : pre.length + m + n ≤ 140737488355328 := by omega
      have HC := Lib.hid hC
      have HC10 := Lib.hid hC10
      have HB1 := Lib.hid hb1
      have HCHG := Lib.hid hchg
      have HNEW := Lib.hid hnew1
      have HIN := Lib.hid hin1
      have HV1 := Lib.hid hF1v
      have HN := Lib.hid hn
      have HM := Lib.hid hmu
      have HNF := Lib.hid nF
      clear hC hC10 hb1 hchg hnew1 hin1 hVr hF1v hen hpre hle hpl hbx hgc nF nG hs he
      rcases hv with ⟨hv1, ha0, hs0⟩ | ⟨b, off, n', k', hv1, hae, hnk, hb⟩
      · obtain ⟨rfl, rfl, rfl⟩ : pv = none ∧ nl = 0 ∧ cv = 0 := by simpa using hv1
        subst ha0 hs0
        obtain rfl : n = 0 := by simpa using hn
        obtain rfl : e = 0 := by omega
        clear hv1 hmu hn 
        go_wp2_with ((go_at_call 94; go_loud (refine (putUvarint _ (w.heap.size + 1) _ C 0 (by omega) (by rw [Below.heap_alloc _ _ _ (by omega)]; exact HC.out) HC10.out).mono ?_; rintro e' w4 ⟨rfl, hdone⟩)))
        rw [← HM.out]
        have hB4 : BufAt w4 F1 179 p pre := (HB1.out.alloc _).upd hdone.chg fun j hj e => q2F1 (e ▸ hj)
        have hB4' := hB4
        obtain ⟨vb, hcb, hby, -⟩ := hB4'.bytes
        obtain ⟨-, -, hfb, -⟩ := hB4.cell
        obtain ⟨pb, kb, rfl⟩ := hby.slice
        have HB4 := Lib.hid hB4
        have HNS := Lib.hid hdone.news
        have HD := Lib.hid hdone
        clear hB4 hB4' hby hdone
        go_region_law ((refine step_append_buf _ F1 _ p pre (by rfl) _ _ (by rfl) HB4.out.drew _ hcb (by rfl) ⟨w.heap.size + 1, 0, none⟩ 10 (uv 0) m HM.out (by rfl) (fun j u h => HNS.out j u h) (uv_length_pos _) (by rw [← HM.out]; omega) ?_; intro g5 k5 w5 hc5 hf5 hst5))
        all_goals
          obtain ⟨F2, hB6, hu6⟩ := hst5
          obtain ⟨w6, hw6⟩ : ∃ w6, w6 = w5.setCell ⟨p, 0, none⟩ (.slice (some ⟨g5, 0, none⟩) (pre.length + (uv 0).length) k5) := ⟨_, rfl⟩
          have hcb6 : w6.cell? ⟨p, 0, none⟩ = some (.slice (some ⟨g5, 0, none⟩) (pre.length + (uv 0).length) k5) := by rw [hw6]; go_simp
          rw [← hw6] at hB6 hu6 ⊢
          clear hw6 hc5 hf5
          have hi1 : ¬ F1 wr.heap.size := fun h => by have := HIN.out _ h; omega
          have hch6 : Chg (fun j => F1 j ∨ j = w.heap.size + 1) wr w6 := (((Chg.refl _ wr).alloc (.cells #[.int .i64 0, .int .i64 0] 188)).trans (HD.out.chg.mono (G := fun j => F1 j ∨ j = w.heap.size + 1) fun _ _ h => .inr h) fun _ _ h => h).drew.trans hu6.chg fun _ _ h => .inl h
          have hpc : w6.heap[wr.heap.size]? = some (.cells #[.int .i64 0, .int .i64 0] 188 (0, 0)) := by
            have h4 := HD.out.chg
            rw [hu6.chg.block _ (by have := h4.size; simp at this ⊢; omega) hi1]
            show w4.heap[wr.heap.size]? = _
            rw [h4.block _ (by simp) (by omega)]
            exact heap_alloc_new _ _
          have pc0 : w6.cell? ⟨wr.heap.size, 0, none⟩ = some (.int .i64 0) := by simp [World.cell?, hpc]
          have pc1 : w6.cell? ⟨wr.heap.size, 1, none⟩ = some (.int .i64 0) := by simp [World.cell?, hpc]
          have bx60 : w6.cell? ⟨w.heap.size, 0, none⟩ = some (.slice none 0 0) := by
            rw [hch6.cell (by simp; omega) (by
              rintro (h | h)
              · exact hb2x h
              · simp at h)]
            exact bx0
          have hby6 : BytesAt w6 (.slice none 0 0) [] := .inl ⟨rfl, rfl⟩
          have hsr := (show SrcB w6.drew 34 (.slice none 0 0) [] from hby6.drew.srcB)
          obtain ⟨-, -, hfb6, -⟩ := hB6.cell
          have HB6 := Lib.hid hB6
          have HSR := Lib.hid hsr
          have HU6 := Lib.hid hu6
          have HCH6 := Lib.hid hch6
          clear hB6 hsr hu6 hch6 hpc hby6
          go_wp2_with fail
          go_region_law ((refine step_append_bufs _ F2 _ p (pre ++ uv 0) [] (by rfl) _ _ _ (by rfl) HB6.out.drew _ hcb6 (by rfl) _ (by rfl) HSR.out (by rw [List.length_append, ← HM.out, ← HN.out]; omega) ?_; intro g7 k7 w7 hc7 hf7 hst7))
          all_goals
            obtain ⟨F3, hB7, hu7⟩ := hst7
            rw [show (pre ++ uv 0).length = pre.length + (uv 0).length from List.length_append] at hB7 hu7
            have hs4 : wr.heap.size ≤ w4.heap.size := by have := HD.out.chg.size; simp at this; omega
            have HB7 := Lib.hid hB7
            have HU7 := Lib.hid hu7
            clear hB7 hu7 hc7 hf7
            go_wp2_with fail
            go_roundw
            case rel => exact ⟨k + 1, by omega, by go_num, EncI.next HN.out HEN.out HPRE.out HNEW.out HIN.out HU6.out HU7.out HB7.out HD.out HCHG.out HCH6.out q2F1 hs2⟩
            case measure => simp [intOf]; omega
      · obtain ⟨rfl, rfl, rfl⟩ : pv = some ⟨b, off, none⟩ ∧ nl = n' ∧ cv = k' := by simpa using hv1
        have b1 : (a : Int) ≤ (cv : Int) := by omega
        have b2 : (e : Int) ≤ (cv : Int) := by omega
        have b3 : (a : Int) ≤ (e : Int) := by omega
        by_cases hk : cv = a
        · obtain rfl : n = 0 := by omega
          obtain rfl : s = [] := List.length_eq_zero_iff.1 hn.symm
          obtain rfl : e = a := by omega
          subst hk
          clear hv1 hmu hn hb
          go_wp2_with ((go_at_call 94; go_loud (refine (putUvarint _ (w.heap.size + 1) _ C 0 (by omega) (by rw [Below.heap_alloc _ _ _ (by omega)]; exact HC.out) HC10.out).mono ?_; rintro e' w4 ⟨rfl, hdone⟩)))
          rw [← HM.out]
          have hB4 : BufAt w4 F1 179 p pre := (HB1.out.alloc _).upd hdone.chg fun j hj e => q2F1 (e ▸ hj)
          have hB4' := hB4
          obtain ⟨vb, hcb, hby, -⟩ := hB4'.bytes
          obtain ⟨-, -, hfb, -⟩ := hB4.cell
          obtain ⟨pb, kb, rfl⟩ := hby.slice
          have HB4 := Lib.hid hB4
          have HNS := Lib.hid hdone.news
          have HD := Lib.hid hdone
          clear hB4 hB4' hby hdone
          go_region_law ((refine step_append_buf _ F1 _ p pre (by rfl) _ _ (by rfl) HB4.out.drew _ hcb (by rfl) ⟨w.heap.size + 1, 0, none⟩ 10 (uv 0) m HM.out (by rfl) (fun j u h => HNS.out j u h) (uv_length_pos _) (by rw [← HM.out]; omega) ?_; intro g5 k5 w5 hc5 hf5 hst5))
          all_goals
            obtain ⟨F2, hB6, hu6⟩ := hst5
            obtain ⟨w6, hw6⟩ : ∃ w6, w6 = w5.setCell ⟨p, 0, none⟩ (.slice (some ⟨g5, 0, none⟩) (pre.length + (uv 0).length) k5) := ⟨_, rfl⟩
            have hcb6 : w6.cell? ⟨p, 0, none⟩ = some (.slice (some ⟨g5, 0, none⟩) (pre.length + (uv 0).length) k5) := by rw [hw6]; go_simp
            rw [← hw6] at hB6 hu6 ⊢
            clear hw6 hc5 hf5
            have hi1 : ¬ F1 wr.heap.size := fun h => by have := HIN.out _ h; omega
            have hch6 : Chg (fun j => F1 j ∨ j = w.heap.size + 1) wr w6 := (((Chg.refl _ wr).alloc (.cells #[.int .i64 cv, .int .i64 cv] 188)).trans (HD.out.chg.mono (G := fun j => F1 j ∨ j = w.heap.size + 1) fun _ _ h => .inr h) fun _ _ h => h).drew.trans hu6.chg fun _ _ h => .inl h
            have hpc : w6.heap[wr.heap.size]? = some (.cells #[.int .i64 cv, .int .i64 cv] 188 (0, 0)) := by
              have h4 := HD.out.chg
              rw [hu6.chg.block _ (by have := h4.size; simp at this ⊢; omega) hi1]
              show w4.heap[wr.heap.size]? = _
              rw [h4.block _ (by simp) (by omega)]
              exact heap_alloc_new _ _
            have pc0 : w6.cell? ⟨wr.heap.size, 0, none⟩ = some (.int .i64 cv) := by simp [World.cell?, hpc]
            have pc1 : w6.cell? ⟨wr.heap.size, 1, none⟩ = some (.int .i64 cv) := by simp [World.cell?, hpc]
            have bx60 : w6.cell? ⟨w.heap.size, 0, none⟩ = some (.slice (some ⟨b, off, none⟩) nl cv) := by
              rw [hch6.cell (by simp; omega) (by
                rintro (h | h)
                · exact hb2x h
                · simp at h)]
              exact bx0
            have hby6 : BytesAt w6 (.slice (some ⟨b, off, none⟩) 0 0) [] := BytesAt.nothing _ _ _ _
            have hsr := (show SrcB w6.drew 34 (.slice (some ⟨b, off, none⟩) 0 0) [] from hby6.drew.srcB)
            obtain ⟨-, -, hfb6, -⟩ := hB6.cell
            have HB6 := Lib.hid hB6
            have HSR := Lib.hid hsr
            have HU6 := Lib.hid hu6
            have HCH6 := Lib.hid hch6
            clear hB6 hsr hu6 hch6 hpc hby6
            go_wp2_with fail
            go_region_law ((refine step_append_bufs _ F2 _ p (pre ++ uv 0) [] (by rfl) _ _ _ (by rfl) HB6.out.drew _ hcb6 (by rfl) _ (by rfl) HSR.out (by rw [List.length_append, ← HM.out, ← HN.out]; omega) ?_; intro g7 k7 w7 hc7 hf7 hst7))
            all_goals
              obtain ⟨F3, hB7, hu7⟩ := hst7
              rw [show (pre ++ uv 0).length = pre.length + (uv 0).length from List.length_append] at hB7 hu7
              have hs4 : wr.heap.size ≤ w4.heap.size := by have := HD.out.chg.size; simp at this; omega
              have HB7 := Lib.hid hB7
              have HU7 := Lib.hid hu7
              clear hB7 hu7 hc7 hf7
              go_wp2_with fail
              go_roundw
              case rel => exact ⟨k + 1, by omega, by go_num, EncI.next HN.out HEN.out HPRE.out HNEW.out HIN.out HU6.out HU7.out HB7.out HD.out HCHG.out HCH6.out q2F1 hs2⟩
              case measure => simp [intOf]; omega
        · skip
          rw [← hn] at hb
          clear hv1 hmu hn
          have HBB := Lib.hid hb
          clear hb
          go_wp2_with ((go_at_call 94; go_loud (refine (putUvarint _ (w.heap.size + 1) _ C n (by omega) (by rw [Below.heap_alloc _ _ _ (by omega)]; exact HC.out) HC10.out).mono ?_; rintro e' w4 ⟨rfl, hdone⟩)))
          rw [← HM.out]
          have hB4 : BufAt w4 F1 179 p pre := (HB1.out.alloc _).upd hdone.chg fun j hj e => q2F1 (e ▸ hj)
          have hB4' := hB4
          obtain ⟨vb, hcb, hby, -⟩ := hB4'.bytes
          obtain ⟨-, -, hfb, -⟩ := hB4.cell
          obtain ⟨pb, kb, rfl⟩ := hby.slice
          have HB4 := Lib.hid hB4
          have HNS := Lib.hid hdone.news
          have HD := Lib.hid hdone
          clear hB4 hB4' hby hdone
          go_region_law ((refine step_append_buf _ F1 _ p pre (by rfl) _ _ (by rfl) HB4.out.drew _ hcb (by rfl) ⟨w.heap.size + 1, 0, none⟩ 10 (uv n) m HM.out (by rfl) (fun j u h => HNS.out j u h) (uv_length_pos _) (by rw [← HM.out]; omega) ?_; intro g5 k5 w5 hc5 hf5 hst5))
          all_goals
            obtain ⟨F2, hB6, hu6⟩ := hst5
            obtain ⟨w6, hw6⟩ : ∃ w6, w6 = w5.setCell ⟨p, 0, none⟩ (.slice (some ⟨g5, 0, none⟩) (pre.length + (uv n).length) k5) := ⟨_, rfl⟩
            have hcb6 : w6.cell? ⟨p, 0, none⟩ = some (.slice (some ⟨g5, 0, none⟩) (pre.length + (uv n).length) k5) := by rw [hw6]; go_simp
            rw [← hw6] at hB6 hu6 ⊢
            clear hw6 hc5 hf5
            have hi1 : ¬ F1 wr.heap.size := fun h => by have := HIN.out _ h; omega
            have hch6 : Chg (fun j => F1 j ∨ j = w.heap.size + 1) wr w6 := (((Chg.refl _ wr).alloc (.cells #[.int .i64 a, .int .i64 e] 188)).trans (HD.out.chg.mono (G := fun j => F1 j ∨ j = w.heap.size + 1) fun _ _ h => .inr h) fun _ _ h => h).drew.trans hu6.chg fun _ _ h => .inl h
            have hpc : w6.heap[wr.heap.size]? = some (.cells #[.int .i64 a, .int .i64 e] 188 (0, 0)) := by
              have h4 := HD.out.chg
              rw [hu6.chg.block _ (by have := h4.size; simp at this ⊢; omega) hi1]
              show w4.heap[wr.heap.size]? = _
              rw [h4.block _ (by simp) (by omega)]
              exact heap_alloc_new _ _
            have pc0 : w6.cell? ⟨wr.heap.size, 0, none⟩ = some (.int .i64 a) := by simp [World.cell?, hpc]
            have pc1 : w6.cell? ⟨wr.heap.size, 1, none⟩ = some (.int .i64 e) := by simp [World.cell?, hpc]
            have bx60 : w6.cell? ⟨w.heap.size, 0, none⟩ = some (.slice (some ⟨b, off, none⟩) nl cv) := by
              rw [hch6.cell (by simp; omega) (by
                rintro (h | h)
                · exact hb2x h
                · simp at h)]
              exact bx0
            have hby6 : BytesAt w6 (.slice (some ⟨b, off + a, none⟩) n (cv - a)) s := HBB.out.keep fun j hj => by
                obtain rfl : b = j := by simpa [Value.ownBlock] using hj
                obtain ⟨v1, v2, v3⟩ := HV1.out b rfl
                exact hch6.block b (by omega) (by
                  rintro (h | h)
                  · exact v1 h
                  · exact v2 h)
            have hsr := (show SrcB w6.drew 34 (.slice (some ⟨b, off + a, none⟩) n (cv - a)) s from hby6.drew.srcB)
            obtain ⟨-, -, hfb6, -⟩ := hB6.cell
            have HB6 := Lib.hid hB6
            have HSR := Lib.hid hsr
            have HU6 := Lib.hid hu6
            have HCH6 := Lib.hid hch6
            clear hB6 hsr hu6 hch6 hpc hby6
            go_wp2_with fail
            go_region_law ((refine step_append_bufs _ F2 _ p (pre ++ uv n) s (by rfl) _ _ _ (by rfl) HB6.out.drew _ hcb6 (by rfl) _ (by rfl) HSR.out (by rw [List.length_append, ← HM.out, ← HN.out]; omega) ?_; intro g7 k7 w7 hc7 hf7 hst7))
            all_goals
              obtain ⟨F3, hB7, hu7⟩ := hst7
              rw [show (pre ++ uv n).length = pre.length + (uv n).length from List.length_append] at hB7 hu7
              have hs4 : wr.heap.size ≤ w4.heap.size := by have := HD.out.chg.size; simp at this; omega
              have HB7 := Lib.hid hB7
              have HU7 := Lib.hid hu7
              clear hB7 hu7 hc7 hf7
              go_wp2_with fail
              go_roundw
              case rel => exact ⟨k + 1, by omega, by go_num, EncI.next HN.out HEN.out HPRE.out HNEW.out HIN.out HU6.out HU7.out HB7.out HD.out HCHG.out HCH6.out q2F1 hs2⟩
              case measure => simp [intOf]; omega
    · obtain rfl : k = l.length := by omega
      have HE := Lib.hid hE
      clear hE
      go_wp2_with fail
      go_returns
      obtain ⟨⟨F1, hb1, hin1, hnew1⟩, -, hchg⟩ := HE.out
      rw [List.take_length] at hb1
      refine ⟨rfl, F1, hb1, ⟨?_, fun j hj => ?_⟩⟩
      · refine (Chg.of_below (F := F) HB2.out).trans hchg fun j hj h => ?_
        rcases h with h | h
        · exact h
        · omega
      · have := hin1 j hj
        rcases hnew1 j hj with h | h
        · exact .inl h
        · exact .inr ⟨by have := HS2.out; omega, this⟩
end Go.Proofs.YtkidcgaogjlpaaaGreat
