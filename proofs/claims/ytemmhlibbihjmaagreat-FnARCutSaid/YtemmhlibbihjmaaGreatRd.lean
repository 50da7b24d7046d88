/- proto.Reader: its memory; Ensure, ReadFull, readFull. -/
import Derived.Test.YtemmhlibbihjmaaGreatBytes
import Derived.Laws.CopyOwn
import Derived.Deep.RegionLaw
namespace Go.Proofs.YtemmhlibbihjmaaGreat
open Go.RowKit

/-- A buffer's variable whose slice owns a row of cells. -/
def RowAt (w : World) (F : Nat → Prop) (T : TypeId) (p : Nat) (v : Value) (xs : List Value) : Prop :=
  F p ∧ w.heap[p]? = some (.cells #[v] T (0, 0)) ∧ w.ownsRow 0 5 1 v xs.length xs ∧ ∀ g, v.ownBlock = some g → F g ∧ g ≠ p

theorem BufAt.row {w : World} {F : Nat → Prop} {T : TypeId} {p : Nat} {bs : List UInt8} (h : BufAt w F T p bs) : ∃ v, RowAt w F T p v (u8s bs) := by
  obtain ⟨hF, v, hp, hown, hv⟩ := h
  exact ⟨v, hF, hp, by simpa using hown, hv⟩

theorem RowAt.cell {w : World} {F : Nat → Prop} {T : TypeId} {p : Nat} {v : Value} {xs : List Value} (h : RowAt w F T p v xs) : w.cell? ⟨p, 0, none⟩ = some v ∧ w.frozen? ⟨p, 0, none⟩ = false ∧ p < w.heap.size :=
  ⟨cell_of_one h.2.1, free_of_one h.2.1, (Array.getElem?_eq_some_iff.1 h.2.1).1⟩

/-- The slice of a row is cut to another length within its capacity. -/
theorem RowAt.cut {w : World} {F : Nat → Prop} {T : TypeId} {p g n cap : Nat} {xs : List Value} (h : RowAt w F T p (.slice (some ⟨g, 0, none⟩) n cap) xs) (m : Nat) (hm : m ≤ cap) :
    ∃ ys, ys.length = m ∧ RowAt (w.setCell ⟨p, 0, none⟩ (.slice (some ⟨g, 0, none⟩) m cap)) F T p (.slice (some ⟨g, 0, none⟩) m cap) ys := by
  obtain ⟨hF, hp, ⟨h1, h2⟩, hv⟩ := h
  have hg := (hv g rfl).2
  rcases h2 with ⟨h2, _⟩ | ⟨g', cap', cur, h2, h3, h4, h5, h6, h7, h8⟩
  · exact absurd h2 (by simp)
  · obtain ⟨rfl, -, rfl⟩ : g = g' ∧ n = xs.length ∧ cap = cap' := by simpa using h2
    have hl : (cur.toList.take m).length = m := by simp; omega
    refine ⟨cur.toList.take m, hl, hF, setCell_one hp, ⟨by simp, .inr ⟨g, cap, cur, by rw [hl], h3, ?_, by omega, h6, h7, by rw [hl]; simp⟩⟩, fun k hk => ⟨(hv k hk).1, (hv k hk).2⟩⟩
    rw [Below.heap_setCell _ _ _ _ hg]; exact h4

theorem RowAt.cap {w : World} {F : Nat → Prop} {T : TypeId} {p : Nat} {v : Value} {xs : List Value} (h : RowAt w F T p v xs) :
    (v = .slice none 0 0 ∧ xs = []) ∨ ∃ g cap, v = .slice (some ⟨g, 0, none⟩) xs.length cap ∧ xs.length ≤ cap ∧ cap ≤ maxLen := by
  obtain ⟨hF, hp, ⟨h1, h2⟩, hv⟩ := h
  rcases h2 with ⟨h2, h3⟩ | ⟨g', cap', cur, h2, h3, h4, h5, h6, h7, h8⟩
  · exact .inl ⟨h2, List.length_eq_zero_iff.1 h3⟩
  · exact .inr ⟨g', cap', h2, h5, h6⟩

/-- What Ensure leaves. -/
def Ensured (w : World) (F : Nat → Prop) (T : TypeId) (p n : Nat) (e : Ending) (w' : World) : Prop :=
  e = .returned (.tuple #[]) ∧ ∃ F' v xs, xs.length = n ∧ RowAt w' F' T p v xs ∧ Upd w w' F F'

theorem ensured_make {w w1 : World} {F : Nat → Prop} {T : TypeId} {p n : Nat} {v : Value} {xs ys : List Value} (h : RowAt w F T p v xs) (hown : w1.ownsRow 0 5 1 (.slice (some ⟨w.heap.size, 0, none⟩) n n) n ys) (hg : w.grownBy w1 none) :
    Ensured w F T p n (.returned (.tuple #[])) (w1.setCell ⟨p, 0, none⟩ (.slice (some ⟨w.heap.size, 0, none⟩) n n)) := by
  obtain ⟨hF, hp, -, hv⟩ := h
  have hlt : p < w.heap.size := (Array.getElem?_eq_some_iff.1 hp).1
  have hp1 : w1.heap[p]? = some (.cells #[v] T (0, 0)) := by rw [hg.block p hlt (by simp)]; exact hp
  have hl : ys.length = n := by have := hown.1; simpa using this
  have hlt1 := hown.lt _ rfl
  refine ⟨rfl, fun k => F k ∨ k = w.heap.size, _, ys, hl, ⟨.inl hF, setCell_one hp1, ?_, ?_⟩, ?_, ?_⟩
  · rw [hl]
    exact ownsRow_block hown fun g hgg => Below.heap_setCell _ _ _ _ (by simp [Value.ownBlock] at hgg; simp; omega)
  · intro g hgg
    simp [Value.ownBlock] at hgg
    exact ⟨.inr hgg.symm, by omega⟩
  · exact ((Chg.refl F w).grown hg (by simp)).setCell (.inl hF) _
  · intro k hk
    rcases hk with hk | rfl
    · exact .inl hk
    · exact .inr ⟨Nat.le_refl _, by simpa [World.setCell] using hlt1.2⟩

theorem ensured_cut {w : World} {F : Nat → Prop} {T : TypeId} {p g n cap : Nat} {xs : List Value} (h : RowAt w F T p (.slice (some ⟨g, 0, none⟩) xs.length cap) xs) (hm : n ≤ cap) :
    Ensured w F T p n (.returned (.tuple #[])) (w.setCell ⟨p, 0, none⟩ (.slice (some ⟨g, 0, none⟩) n cap)) := by
  obtain ⟨ys, hl, hr⟩ := h.cut n hm
  exact ⟨rfl, F, _, ys, hl, hr, (Chg.refl F w).setCell (.inl h.1) _, fun k hk => .inl hk⟩

set_option maxRecDepth 100000 in
theorem ensure (w : World) (F : Nat → Prop) (T : TypeId) (p n : Nat) (v : Value) (xs : List Value) (h : RowAt w F T p v xs) (hn : n ≤ 140737488355328) :
    Calls Tryz.prog 57 #[.pointer (some ⟨p, 0, none⟩), .int .i64 n] w (Ensured w F T p n) := by
  obtain ⟨hc, hf, hlt⟩ := h.cell
  obtain ⟨i0, hi, hz0, hz1, hz2⟩ := info_parts infoU8
  rcases h.cap with ⟨rfl, rfl⟩ | ⟨g, cap, rfl, hl, hm⟩
  · by_cases h0 : n = 0
    · subst h0
      go_enter Tryz.func57, Tryz.ntmps57
      go_wp2
      go_returns
      exact ⟨rfl, F, _, [], rfl, ⟨h.1, setCell_one h.2.1, World.ownsRow_nil _ _ _ _, h.2.2.2⟩, (Chg.refl F w).setCell (.inl h.1) _, fun k hk => .inl hk⟩
    · go_enter Tryz.func57, Tryz.ntmps57
      go_wp2_with (at_make; refine wpList_make_full _ rfl _ _ _ rfl 0 5 i0 (.int .u8 0) 1 Tryz.underlying29 hi hz0 hz1 .i64 .i64 n n n rfl rfl rfl rfl (by rw [hz2]; omega) (by unfold maxLen; omega) (Nat.zero_le _) ?_; intro w1 hown hg; have hc1 := (hg.cell hc (by simp)); have hf1 : w1.frozen? ⟨p, 0, none⟩ = false := (by rw [World.frozen?_of_block (w := w) (a := ⟨p, 0, none⟩) (hg.block p hlt (by simp))]; exact hf))
      go_returns
      exact ensured_make h hown hg
  · by_cases h0 : cap < n
    · go_enter Tryz.func57, Tryz.ntmps57
      go_wp2_with (at_make; refine wpList_make_full _ rfl _ _ _ rfl 0 5 i0 (.int .u8 0) 1 Tryz.underlying29 hi hz0 hz1 .i64 .i64 n n n rfl rfl rfl rfl (by rw [hz2]; omega) (by unfold maxLen; omega) (Nat.zero_le _) ?_; intro w1 hown hg; have hc1 := (hg.cell hc (by simp)); have hf1 : w1.frozen? ⟨p, 0, none⟩ = false := (by rw [World.frozen?_of_block (w := w) (a := ⟨p, 0, none⟩) (hg.block p hlt (by simp))]; exact hf))
      go_returns
      exact ensured_make h hown hg
    · go_enter Tryz.func57, Tryz.ntmps57
      go_wp2
      go_returns
      exact ensured_cut h (by omega)

/-! ### The Reader -/
/-- A Reader at block r with its Buffer at block b: what is not read yet; the Buffer's slice and its cells. F: the blocks of its own; D: where the data lies. -/
structure RdX (w : World) (F D : Nat → Prop) (r : Nat) (rest : List UInt8) (b : Nat) (v : Value) (xs : List Value) : Prop where
  own : F r
  ne : b ≠ r
  row : ∃ FB : Nat → Prop, RowAt w FB 113 b v xs ∧ ¬ FB r ∧ ∀ k, FB k → F k
  data : ∃ vd, w.heap[r]? = some (.cells #[vd, .pointer (some ⟨b, 0, none⟩)] 115 (0, 0)) ∧ BytesAt w vd rest ∧ ∀ g, vd.ownBlock = some g → D g
  disj : Disj D F
  inD : In D w
  inF : In F w

theorem RdX.cells {w : World} {F D : Nat → Prop} {r : Nat} {rest : List UInt8} {b : Nat} {v : Value} {xs : List Value} (h : RdX w F D r rest b v xs) :
    ∃ vd, w.cell? ⟨r, 0, none⟩ = some vd ∧ w.cell? ⟨r, 1, none⟩ = some (.pointer (some ⟨b, 0, none⟩)) ∧ w.frozen? ⟨r, 0, none⟩ = false ∧ BytesAt w vd rest ∧ w.cell? ⟨b, 0, none⟩ = some v := by
  obtain ⟨vd, hr, hb, -⟩ := h.data
  obtain ⟨FB, hrow, -⟩ := h.row
  exact ⟨vd, by simp [World.cell?, hr], by simp [World.cell?, hr], by simp [World.frozen?, hr], hb, hrow.cell.1⟩

/-- An error of the package errors. -/
def IsErr (v : Value) : Prop := ∃ a, v = .iface 131 (.pointer (some a))

theorem newErr (w : World) (s : ByteArray) : Calls Tryz.prog 53 #[.string s] w fun e w' => (∃ a, e = .returned (.iface 131 (.pointer (some a)))) ∧ Below w.heap.size w w' := by
  go_enter Tryz.func53, Tryz.ntmps53
  go_wp2
  go_ret
  exact ⟨⟨_, rfl⟩, (Below.refl _ _).alloc (Nat.le_refl _) _⟩

theorem wrapErr (w : World) (T : TypeId) (x : Value) (s : ByteArray) : Calls Tryz.prog 48 #[.iface T x, .string s] w fun e w' => (∃ a, e = .returned (.iface 131 (.pointer (some a)))) ∧ Below w.heap.size w w' := by
  go_enter Tryz.func48, Tryz.ntmps48
  go_wp2
  go_ret
  exact ⟨⟨_, rfl⟩, (Below.refl _ _).alloc (Nat.le_refl _) _⟩

theorem RdX.moved {w w1 : World} {F D : Nat → Prop} {r : Nat} {rest : List UInt8} {b : Nat} {v vd : Value} {xs : List Value} (h : RdX w F D r rest b v xs) (n : Nat) (hl : n ≤ rest.length)
    (hchg : Chg (fun k => v.ownBlock = some k) w w1) (hown : w1.ownsRow 0 5 1 v n (u8s (rest.take n))) (hb : BytesAt w vd (rest.drop n)) (hD : ∀ g, vd.ownBlock = some g → D g) :
    RdX (w1.setCell ⟨r, 0, none⟩ vd) F D r (rest.drop n) b v (u8s (rest.take n)) ∧ Upd w (w1.setCell ⟨r, 0, none⟩ vd) F F := by
  obtain ⟨FB, ⟨hFb, hpb, hownb, hvb⟩, hnr, hsub⟩ := h.row
  obtain ⟨vd0, hr, -, -⟩ := h.data
  have hlr : r < w.heap.size := h.inF r h.own
  have hlb : b < w.heap.size := h.inF b (hsub b hFb)
  have hrv : ¬ v.ownBlock = some r := fun e => hnr (hvb r e).1
  have hbv : ¬ v.ownBlock = some b := fun e => (hvb b e).2 rfl
  have hr1 : w1.heap[r]? = some (.cells #[vd0, .pointer (some ⟨b, 0, none⟩)] 115 (0, 0)) := by rw [hchg.block r hlr hrv]; exact hr
  have hb1 : w1.heap[b]? = some (.cells #[v] 113 (0, 0)) := by rw [hchg.block b hlb hbv]; exact hpb
  have hU : Upd w (w1.setCell ⟨r, 0, none⟩ vd) F F := ⟨(hchg.mono fun k _ hk => hsub k (hvb k hk).1).setCell (.inl h.own) _, fun k hk => .inl hk⟩
  refine ⟨⟨h.own, h.ne, ⟨FB, ⟨hFb, ?_, ?_, hvb⟩, hnr, hsub⟩, ⟨vd, ?_, ?_, hD⟩, h.disj, h.inD.mono hU.chg.size, h.inF.mono hU.chg.size⟩, hU⟩
  · rw [Below.heap_setCell _ _ _ _ h.ne]; exact hb1
  · have : (u8s (rest.take n)).length = n := by simp; omega
    rw [this]
    exact ownsRow_block hown fun g hg => Below.heap_setCell _ _ _ _ (by rintro rfl; exact hrv hg)
  · simp [World.setCell, Array.getElem?_modify, hr1]
  · exact hb.keep fun g hg => hU.chg.block g (h.inD g (hD g hg)) (h.disj g (hD g hg))

theorem BytesAt.cut {w : World} {b off n c : Nat} {bs : List UInt8} (hl : bs.length ≤ c) (h : ∀ (j : Nat) (h : j < bs.length), w.cell? ⟨b, off + j, none⟩ = some (.int .u8 (bs[j]).toNat)) (hn : n ≤ bs.length) :
    BytesAt w (.slice (some ⟨b, off + n, none⟩) (bs.length - n) (c - n)) (bs.drop n) :=
  .inr ⟨b, off + n, c - n, by simp, by simp; omega, fun j hj => by
    have hj' : n + j < bs.length := by simp at hj; omega
    rw [Nat.add_assoc, h (n + j) hj']
    simp⟩

theorem BytesAt.nothing (w : World) (b off c : Nat) : BytesAt w (.slice (some ⟨b, off, none⟩) 0 c) [] := .inr ⟨b, off, c, rfl, Nat.zero_le _, fun j hj => by simp at hj⟩

theorem BytesAt.src {w : World} {b off : Nat} {bs : List UInt8} (h : ∀ (j : Nat) (h : j < bs.length), w.cell? ⟨b, off + j, none⟩ = some (.int .u8 (bs[j]).toNat)) (n : Nat) :
    ∀ j v, (u8s (bs.take n))[j]? = some v → w.cell? ((⟨b, off, none⟩ : Addr).add j) = some v := by
  intro j v hv
  have hadd : (⟨b, off, none⟩ : Addr).add j = ⟨b, off + j, none⟩ := by unfold Addr.add; split <;> simp_all
  obtain ⟨x, hx, rfl⟩ : ∃ x, (bs.take n)[j]? = some x ∧ .int .u8 (x.toNat : Int) = v := by
    unfold u8s at hv; rw [List.getElem?_map] at hv; simpa using hv
  rw [List.getElem?_take] at hx
  split at hx
  · obtain ⟨hj, rfl⟩ := List.getElem?_eq_some_iff.1 hx
    rw [hadd, h j hj]
  · simp at hx

theorem one_u8s2 (l : List UInt8) : ∀ v ∈ u8s l, v.oneCell' = true := one_u8s l

theorem setRow_owns {w : World} {g n cap : Nat} {ys : List Value} {cur : Array Value} (hg : w.heap[g]? = some (.cells cur 5 (0, 0))) (hn : n ≤ cap) (hm : cap ≤ maxLen) (hs : cur.size = cap) (hy : ys.length = n) :
    (w.setRow g (ys ++ cur.toList.drop n).toArray).ownsRow 0 5 1 (.slice (some ⟨g, 0, none⟩) n cap) n ys := by
  refine ⟨by omega, .inr ⟨g, cap, _, rfl, Nat.zero_le _, setRow_heap w g _ _ 5 _ hg, hn, hm, ?_, ?_⟩⟩
  · simp; omega
  · simp [← hy]

set_option maxRecDepth 100000 in
theorem readFullBuf (w : World) (F D : Nat → Prop) (r : Nat) (rest : List UInt8) (b : Nat) (v : Value) (xs : List Value) (h : RdX w F D r rest b v xs) (n : Nat) (hn : xs.length = n) (hl : n ≤ rest.length) (hm : rest.length ≤ 140737488355328) :
    Calls Tryz.prog 58 #[.pointer (some ⟨r, 0, none⟩), v] w fun e w' => e = .returned .nilIface ∧ RdX w' F D r (rest.drop n) b v (u8s (rest.take n)) ∧ Upd w w' F F := by
  obtain ⟨vd, hr, hb, hD⟩ := h.data
  obtain ⟨hc0, hf⟩ : w.cell? ⟨r, 0, none⟩ = some vd ∧ w.frozen? ⟨r, 0, none⟩ = false := ⟨by simp [World.cell?, hr], by simp [World.frozen?, hr]⟩
  clear hr
  obtain ⟨FB, ⟨hFb, hpb, hown, hvb⟩, hrow⟩ := h.row
  have hlr : r < w.heap.size := h.inF r h.own
  have hcap := RowAt.cap ⟨hFb, hpb, hown, hvb⟩
  have hsz : (Tryz.prog.info? 5).map (·.size) = some 1 := by kernel_rfl
  have HS := Lib.hid hsz
  have HV := Lib.hid hvb
  have HD := Lib.hid hD
  clear hsz hvb hD
  subst hn
  rcases hb with ⟨rfl, rfl⟩ | ⟨b2, off, c2, rfl, hbl, hbc⟩
  · obtain rfl : xs = [] := List.length_eq_zero_iff.1 (by simpa using hl)
    have hk : ∀ p l c, v = .slice p l c → l = 0 := by
      rcases hcap with ⟨rfl, -⟩ | ⟨g, cap, rfl, -⟩ <;> rintro p l c ⟨⟩ <;> rfl
    rcases hcap with ⟨rfl, -⟩ | ⟨g, cap, rfl, hcl, hcm⟩
    all_goals
      clear hk
      go_enter Tryz.func58, Tryz.ntmps58
      go_wp2_with (with_reducible refine wpList_copy_nothing rfl (.tmp 16) (.tmp 20) 29 29 rfl 5 Tryz.underlying29 HS.out _ _ _ _ _ _ rfl rfl rfl ?_)
      go_ret
      exact ⟨rfl, h.moved 0 hl (Chg.refl _ _) (by simpa [u8s] using hown) (.inl ⟨rfl, rfl⟩) (by simp [Value.ownBlock])⟩
  · rcases hcap with ⟨rfl, rfl⟩ | ⟨g, cap, rfl, hcl, hcm⟩
    · by_cases h2 : c2 = 0
      all_goals
        first | (subst h2; obtain rfl : rest = [] := List.length_eq_zero_iff.1 (by omega)) | (have h2' : 0 < c2 := by omega)
        go_enter Tryz.func58, Tryz.ntmps58
        go_wp2_with (with_reducible refine wpList_copy_nothing rfl (.tmp 16) (.tmp 20) 29 29 rfl 5 Tryz.underlying29 HS.out _ _ _ _ _ _ rfl rfl (by simp) ?_)
        go_ret
        exact ⟨rfl, h.moved 0 hl (Chg.refl _ _) (by simpa [u8s] using hown) (by first | exact BytesAt.cut hbl hbc (Nat.zero_le _) | exact BytesAt.nothing _ _ _ _) HD.out⟩
    · by_cases h0 : xs = []
      · subst h0
        by_cases h2 : c2 = 0
        all_goals
          first | (subst h2; obtain rfl : rest = [] := List.length_eq_zero_iff.1 (by omega)) | (have h2' : 0 < c2 := by omega)
          go_enter Tryz.func58, Tryz.ntmps58
          go_wp2_with (with_reducible refine wpList_copy_nothing rfl (.tmp 16) (.tmp 20) 29 29 rfl 5 Tryz.underlying29 HS.out _ _ _ _ _ _ rfl rfl (by simp) ?_)
          go_ret
          exact ⟨rfl, h.moved 0 hl (Chg.refl _ _) (by simpa [u8s] using hown) (by first | exact BytesAt.cut hbl hbc (Nat.zero_le _) | exact BytesAt.nothing _ _ _ _) HD.out⟩
      · obtain ⟨-, ⟨h1, -⟩ | ⟨g', cap', cur, h1, -, hg, -, -, hcs, -⟩⟩ := hown
        · exact absurd h1 (by simp)
        · obtain ⟨rfl, -, rfl⟩ : g = g' ∧ xs.length = xs.length ∧ cap = cap' := by simpa using h1
          clear h1
          have hgr : g ≠ r := fun e => hrow.1 (e ▸ (HV.out g rfl).1)
          have hgl : g < w.heap.size := (Array.getElem?_eq_some_iff.1 hg).1
          have hl1 : (u8s (rest.take xs.length)).length = xs.length := by simp; omega
          have hW := setRow_owns (ys := u8s (rest.take xs.length)) hg hcl hcm (by simpa using hcs) hl1
          have hWc : ∀ cs, Chg (fun k => (Value.slice (some ⟨g, 0, none⟩) xs.length cap).ownBlock = some k) w (w.setRow g cs) := fun cs => ⟨rfl, rfl, rfl, by simp [World.setRow], fun k hk hn => setRow_other w g k _ (fun e => hn (by simp [Value.ownBlock, e]))⟩
          have HSRC := Lib.hid (BytesAt.src hbc xs.length)
          have HL1 := Lib.hid hl1
          have HBC := Lib.hid hbc
          clear hl1 hbc
          have hc0' : ∀ cs, (w.setRow g cs).cell? ⟨r, 0, none⟩ = some (.slice (some ⟨b2, off, none⟩) rest.length c2) := fun cs => by rw [World.cell?_of_block (a := ⟨r, 0, none⟩) (setRow_other w g r cs hgr.symm)]; exact hc0
          have hf' : ∀ cs, (w.setRow g cs).frozen? ⟨r, 0, none⟩ = false := fun cs => by rw [World.frozen?_of_block (a := ⟨r, 0, none⟩) (setRow_other w g r cs hgr.symm)]; exact hf
          by_cases h2 : c2 = xs.length
          all_goals
            first | subst h2 | (have h2' : xs.length < c2 := by omega)
            go_enter Tryz.func58, Tryz.ntmps58
            go_wp2_with (with_reducible refine wpList_copy_own rfl (.tmp 16) (.tmp 20) 29 29 rfl 5 Tryz.underlying29 HS.out g 0 _ _ ⟨b2, off, none⟩ _ _ rfl rfl cur 5 hg (u8s (rest.take xs.length)) (by rw [HL1.out]; exact (Nat.min_eq_right hl).symm) HSRC.out (by rw [HL1.out]; simp at hcs; omega) (one_u8s2 _) ?_)
            go_ret
            refine ⟨rfl, h.moved xs.length hl (hWc _) hW ?_ HD.out⟩
            first | exact BytesAt.cut hbl HBC.out hl | (rw [List.drop_of_length_le (by omega)]; exact BytesAt.nothing _ _ _ _)
theorem RdX.keep {w w' : World} {F D : Nat → Prop} {r : Nat} {rest : List UInt8} {b : Nat} {v : Value} {xs : List Value} (h : RdX w F D r rest b v xs) (hb : Below w.heap.size w w') : RdX w' F D r rest b v xs := by
  obtain ⟨FB, ⟨hFb, hpb, hownb, hvb⟩, hnr, hsub⟩ := h.row
  obtain ⟨vd, hr, hbd, hD⟩ := h.data
  have hs := hb.size
  exact ⟨h.own, h.ne, ⟨FB, ⟨hFb, by rw [hb.block b (h.inF b (hsub b hFb))]; exact hpb, ownsRow_block hownb fun g hg => hb.block g (h.inF g (hsub g (hvb g hg).1)), hvb⟩, hnr, hsub⟩,
    ⟨vd, by rw [hb.block r (h.inF r h.own)]; exact hr, hbd.below hb, hD⟩, h.disj, h.inD.mono hs, h.inF.mono hs⟩

theorem rdEnd (w : World) (F D : Nat → Prop) (r : Nat) (rest : List UInt8) (b : Nat) (v : Value) (xs : List Value) (h : RdX w F D r rest b v xs) :
    Calls Tryz.prog 56 #[.pointer (some ⟨r, 0, none⟩)] w fun e w' => (∃ a, e = .returned (.iface 131 (.pointer (some a)))) ∧ RdX w' F D r [] b v xs ∧ Upd w w' F F := by
  obtain ⟨vd, hc0, hc1, hf, hb, hcb⟩ := h.cells
  have hN : RdX (w.setCell ⟨r, 0, none⟩ (.slice none 0 0)) F D r [] b v xs ∧ Upd w (w.setCell ⟨r, 0, none⟩ (.slice none 0 0)) F F := by
    obtain ⟨FB, ⟨hFb, hpb, hownb, hvb⟩, hnr, hsub⟩ := h.row
    obtain ⟨vd, hr, hbd, hD⟩ := h.data
    have hU : Upd w (w.setCell ⟨r, 0, none⟩ (.slice none 0 0)) F F := ⟨(Chg.refl F w).setCell (.inl h.own) _, fun k hk => .inl hk⟩
    refine ⟨⟨h.own, h.ne, ⟨FB, ⟨hFb, ?_, ?_, hvb⟩, hnr, hsub⟩, ⟨.slice none 0 0, ?_, .inl ⟨rfl, rfl⟩, by simp [Value.ownBlock]⟩, h.disj, h.inD.mono hU.chg.size, h.inF.mono hU.chg.size⟩, hU⟩
    · rw [Below.heap_setCell _ _ _ _ h.ne]; exact hpb
    · exact ownsRow_block hownb fun g hg => Below.heap_setCell _ _ _ _ (by rintro rfl; exact hnr (hvb _ hg).1)
    · simp [World.setCell, Array.getElem?_modify, hr]
  have HN := Lib.hid hN
  clear hN
  go_enter Tryz.func56, Tryz.ntmps56
  go_wp2_with (go_at_call 53; refine (newErr _ _).mono ?_; rintro e w' ⟨⟨a, rfl⟩, hb⟩)
  go_ret
  exact ⟨⟨_, rfl⟩, HN.out.1.keep hb, HN.out.2.below hb⟩

/-- A Reader whose Buffer holds bytes; its Buffer was made right ahead of it. -/
def RdAt (w : World) (F D : Nat → Prop) (r : Nat) (rest cur : List UInt8) : Prop := ∃ b v, b + 1 = r ∧ RdX w F D r rest b v (u8s cur)

theorem RdAt.below {w w' : World} {F D : Nat → Prop} {r : Nat} {rest cur : List UInt8} (h : RdAt w F D r rest cur) (hb : Below w.heap.size w w') : RdAt w' F D r rest cur := by
  obtain ⟨b, v, hbr, h⟩ := h
  exact ⟨b, v, hbr, h.keep hb⟩

/-- What a Reader's method leaves that fails: nothing is left to be read. -/
def Fell (w : World) (F D : Nat → Prop) (r : Nat) (res : Value → Value) (e : Ending) (w' : World) : Prop :=
  ∃ a F' cur, e = .returned (res (.iface 131 (.pointer (some a)))) ∧ RdAt w' F' D r [] cur ∧ Upd w w' F F'

/-- What a Reader's method leaves: the results, and the Reader further on. -/
def Got (w : World) (F D : Nat → Prop) (r : Nat) (res : Value) (rest cur : List UInt8) (e : Ending) (w' : World) : Prop :=
  e = .returned res ∧ ∃ F', RdAt w' F' D r rest cur ∧ Upd w w' F F'

theorem RdX.ensured {w w1 : World} {F D FB FB' : Nat → Prop} {r : Nat} {rest : List UInt8} {b : Nat} {v v' : Value} {xs xs' : List Value} (h : RdX w F D r rest b v xs)
    (hnr : ¬ FB r) (hsub : ∀ k, FB k → F k) (hrow : RowAt w1 FB' 113 b v' xs') (hu : Upd w w1 FB FB') :
    ∃ F', RdX w1 F' D r rest b v' xs' ∧ Upd w w1 F F' := by
  obtain ⟨vd, hr, hb, hD⟩ := h.data
  have hlr : r < w.heap.size := h.inF r h.own
  have hs := hu.chg.size
  have hU : Upd w w1 F (fun k => F k ∨ (w.heap.size ≤ k ∧ k < w1.heap.size)) := ⟨hu.chg.mono fun k _ hk => hsub k hk, fun k hk => hk⟩
  refine ⟨_, ⟨.inl h.own, h.ne, ⟨FB', hrow, ?_, ?_⟩, ⟨vd, ?_, ?_, hD⟩, hU.disj h.disj h.inD, h.inD.mono hs, hU.inn h.inF⟩, hU⟩
  · intro hk
    rcases hu.new r hk with hk | hk
    · exact hnr hk
    · omega
  · intro k hk
    exact (hu.new k hk).imp (hsub k) id
  · rw [hu.chg.block r hlr hnr]; exact hr
  · exact hb.keep fun g hg => hu.chg.block g (h.inD g (hD g hg)) fun x => h.disj g (hD g hg) (hsub g x)

set_option maxRecDepth 100000 in
theorem readFull (w : World) (F D : Nat → Prop) (r : Nat) (rest cur : List UInt8) (h : RdAt w F D r rest cur) (n : Nat) (hn : n ≤ rest.length) (hm : rest.length ≤ 140737488355328) :
    Calls Tryz.prog 55 #[.pointer (some ⟨r, 0, none⟩), .int .i64 n] w (Got w F D r .nilIface (rest.drop n) (rest.take n)) := by
  obtain ⟨b, v, hbr, h⟩ := h
  have HBR := Lib.hid hbr
  clear hbr
  obtain ⟨vd, hc0, hc1, hf, hb, hcb⟩ := h.cells
  obtain ⟨p, c, rfl⟩ := hb.slice
  obtain ⟨FB, hrow, hnr, hsub⟩ := h.row
  have HSUB := Lib.hid hsub
  clear hsub
  go_enter Tryz.func55, Tryz.ntmps55
  go_wp2_with fail
  refine (ensure _ FB _ b n v (u8s cur) hrow (by omega)).mono ?_
  rintro e w1 ⟨rfl, FB', v', xs', hl', hrow', hu⟩
  obtain ⟨F1, h1, hU1⟩ := h.ensured hnr HSUB.out hrow' hu
  obtain ⟨vd1, hd0, hd1, hdf, -, hdb⟩ := h1.cells
  go_wp2_with fail
  refine (readFullBuf _ F1 D r rest b v' xs' h1 n hl' hn hm).mono ?_
  rintro e w2 ⟨rfl, h2, hU2⟩
  go_wp2_with fail
  go_ret
  exact ⟨rfl, F1, ⟨b, v', HBR.out, h2⟩, hU1.trans hU2⟩

/-- Too few bytes: an error. -/
theorem readFull_short (w : World) (F D : Nat → Prop) (r : Nat) (rest cur : List UInt8) (h : RdAt w F D r rest cur) (n : Nat) (hn : rest.length < n) :
    Calls Tryz.prog 55 #[.pointer (some ⟨r, 0, none⟩), .int .i64 n] w (Fell w F D r id) := by
  obtain ⟨b, v, hbr, h⟩ := h
  have HBR := Lib.hid hbr
  clear hbr
  obtain ⟨vd, hc0, hc1, hf, hb, hcb⟩ := h.cells
  obtain ⟨p, c, rfl⟩ := hb.slice
  go_enter Tryz.func55, Tryz.ntmps55
  go_wp2_with (first | (go_at_call 56; refine (rdEnd _ F D r rest b v (u8s cur) h).mono ?_; rintro e w1 ⟨⟨a, rfl⟩, h1, hu⟩) | (go_at_call 48; refine (wrapErr _ _ _ _).mono ?_; rintro e w2 ⟨⟨a2, rfl⟩, hb2⟩))
  go_ret
  exact ⟨_, F, cur, rfl, ⟨b, v, HBR.out, h1.keep hb2⟩, hu.below hb2⟩
end Go.Proofs.YtemmhlibbihjmaaGreat
