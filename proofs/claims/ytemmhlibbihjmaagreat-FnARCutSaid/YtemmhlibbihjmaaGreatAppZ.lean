/- append(x, make(..)...): so many zero elements. -/
import Derived.Test.YtemmhlibbihjmaaGreatOwnR
namespace Go.Proofs.YtemmhlibbihjmaaGreat
open Go.RowKit
set_option linter.unnecessarySimpa false
set_option linter.unusedVariables false
set_option linter.unusedSimpArgs false

section
variable {P : Program} (w : World)

theorem run_append_room_zero (t tx ty e : TypeId) (i : TypeInfo) (z : Value) (ht : P.underlying t = some (.slice e)) (hk : P.underlying tx = some (.int .i64)) (hi : P.info? e = some i) (hz : i.zero = some z) (b off sLen sCap n : Nat)
    (hb : (n : Int) * i.bytes ≤ 281474976710656) (hn : n ≤ 9223372036854775807) (h1 : ∀ u ∈ (Builtin.zeroCells z.cells n).toList, u.oneCell' = true)
    (hroom : sLen + n ≤ sCap) (hc : ∀ j, j < (Builtin.zeroCells z.cells n).toList.length → (w.cell? ⟨b, off + sLen * i.size + j, none⟩).isSome = true) (hf : ∀ j, j < (Builtin.zeroCells z.cells n).toList.length → w.frozen? ⟨b, off + sLen * i.size + j, none⟩ = false) (h0 : n * i.size ≠ 0) :
    (Builtin.append_ #[t, tx] ty #[.slice (some ⟨b, off, none⟩) sLen sCap, .int .i64 n]).run P w = .ok (.slice (some ⟨b, off, none⟩) (sLen + n) sCap) (w.setCells b (off + sLen * i.size) (Builtin.zeroCells z.cells n).toList) := by
  have hst := run_storeCells_cells (P := P) b (off + sLen * i.size) (Builtin.zeroCells z.cells n).toList 0 w (by simpa using hc) (by simpa using hf) h1
  simp only [Nat.add_zero] at hst
  have hw : IntKind.i64.wrap (n : Int) = n := by rw [IntKind.wrap_i64]; omega
  have hng : ¬ ((n : Int) < 0) := by omega
  have hb' : ¬ (281474976710656 < (n : Int) * i.bytes) := by omega
  simp [Builtin.append_, run_underlying ht, run_underlying hk, sizeOf, typeInfo, zeroValue, hi, hz, asInt, asIntOf, hw, hb', hng, hroom, h0, Addr.add_lit, hst]

theorem run_append_grow_zero (t tx ty e : TypeId) (i : TypeInfo) (z : Value) (ht : P.underlying t = some (.slice e)) (hk : P.underlying tx = some (.int .i64)) (hi : P.info? e = some i) (hz : i.zero = some z) (base : Option Addr) (sLen sCap n : Nat) (olds : List Value)
    (hold : (Builtin.firstCells i.size sLen (.slice base sLen sCap)).run P w.drew = .ok olds.toArray w.drew) (hb : (n : Int) * i.bytes ≤ 281474976710656) (hn : n ≤ 9223372036854775807) (h0 : n * i.size ≠ 0)
    (hg : sCap < sLen + n) (h63 : ((sLen + n : Nat) : Int) ≤ 9223372036854775807) (hfit : Builtin.nextslicecap (sLen + n) sCap * i.bytes ≤ 281474976710656) :
    (Builtin.append_ #[t, tx] ty #[.slice base sLen sCap, .int .i64 n]).run P w =
      .ok (.slice (some ⟨w.heap.size, 0, none⟩) (sLen + n) (grownCap w (sLen + n) sCap e))
        (w.drew.alloc (.cells ((olds ++ (Builtin.zeroCells z.cells n).toList).toArray ++ Builtin.zeroCells z.cells (grownCap w (sLen + n) sCap e - (sLen + n))) e)) := by
  have hn1 : ¬ (sLen + n ≤ sCap) := by omega
  have h63' : ¬ (9223372036854775807 < ((sLen : Int) + (n : Int))) := by omega
  have h48' : ¬ (281474976710656 < Builtin.nextslicecap (sLen + n) sCap * i.bytes) := by omega
  have hw : IntKind.i64.wrap (n : Int) = n := by rw [IntKind.wrap_i64]; omega
  have hng : ¬ ((n : Int) < 0) := by omega
  have hb' : ¬ (281474976710656 < (n : Int) * i.bytes) := by omega
  simp [Builtin.append_, run_underlying ht, run_underlying hk, sizeOf, typeInfo, zeroValue, hi, hz, asInt, asIntOf, hw, hb', hng, h0, hn1, h63', h48', Question.forced, hold, newRow, grownCap]
  have hap : ∀ (A x : Array Value), olds.toArray ++ (A ++ x) = (olds ++ A.toList).toArray ++ x := fun A x => by apply Array.ext'; simp
  rw [hap]
theorem run_append_zero_any (w : World) (t tx ty e : TypeId) (i : TypeInfo) (z : Value) (size bytes : Nat) (ht : P.underlying t = some (.slice e)) (hk : P.underlying tx = some (.int .i64)) (hi : P.info? e = some i) (hz : i.zero = some z)
    (hsize : i.size = size) (hby : i.bytes = bytes) (hzs : z.cells.size = size) (hsz : 0 < size) (hone : ∀ u ∈ z.cells.toList, u.oneCell' = true)
    (v : Value) (n : Nat) (xs : List Value) (hown : w.ownsRow 0 e size v n xs) (m : Nat)
    (h63 : n + m ≤ maxLen) (hbytes : (n + m) * bytes ≤ 140737488355328) :
    ∃ v' w', (Builtin.append_ #[t, tx] ty #[v, .int .i64 m]).run P w = .ok v' w' ∧ w'.ownsRow 0 e size v' (n + m) (xs ++ (Builtin.zeroCells z.cells m).toList) ∧ w.grownBy w' v.ownBlock ∧ (v'.ownBlock = v.ownBlock ∨ v'.ownBlock = some w.heap.size) := by
  subst hsize
  subst hby
  generalize hnews : (Builtin.zeroCells z.cells m).toList = news
  have hl : news.length = m * i.size := by rw [← hnews, Array.length_toList, size_zeroCells, hzs]
  have h1 : ∀ u ∈ news, u.oneCell' = true := by
    rw [← hnews]
    intro u hu
    rw [Builtin.zeroCells] at hu
    simp at hu
    obtain ⟨j, hj, hu⟩ := hu
    have hlt := Nat.mod_lt j (by omega : 0 < z.cells.size)
    rw [getElem!_pos z.cells _ hlt] at hu
    rw [← hu]
    exact hone _ (by simp)
  have hm9 : m ≤ 9223372036854775807 := by simp only [maxLen] at h63; omega
  have hmb : (m : Int) * i.bytes ≤ 281474976710656 := by
    have : m * i.bytes ≤ (n + m) * i.bytes := Nat.mul_le_mul_right _ (by omega)
    rw [← Int.natCast_mul]
    omega
  have hlen : (xs ++ news).length = (n + m) * i.size := by rw [List.length_append, hown.1, hl, Nat.add_mul]
  have grown : ∀ (old : Nat), old < n + m → ∀ (row : Option Nat),
      (w.drew.alloc (.cells ((xs ++ news).toArray ++ Builtin.zeroCells z.cells (grownCap w (n + m) old e - (n + m))) e)).ownsRow 0 e i.size
        (.slice (some ⟨w.heap.size, 0, none⟩) (n + m) (grownCap w (n + m) old e)) (n + m) (xs ++ news) ∧
      w.grownBy (w.drew.alloc (.cells ((xs ++ news).toArray ++ Builtin.zeroCells z.cells (grownCap w (n + m) old e - (n + m))) e)) row := by
    intro old ho row
    have hge := grownCap_ge w (n + m) old e
    have hcm : grownCap w (n + m) old e ≤ maxLen := grownCap_le_maxLen w (n + m) old e h63
    refine ⟨⟨hlen, .inr ⟨w.heap.size, _, _, rfl, Nat.zero_le _, heap_alloc_new w.drew _, hge, hcm, ?_, ?_⟩⟩, ⟨rfl, rfl, rfl, by simp, fun k hk _ => Below.heap_alloc w.drew _ k hk⟩⟩
    · simp only [Array.size_append, List.size_toArray, size_zeroCells, hzs, hlen, ← Nat.add_mul]
      congr 1
      omega
    · simp only [Array.toList_append]
      rw [← hlen]
      exact List.take_left
  by_cases hm : m = 0
  · subst hm
    have hn : news = [] := List.eq_nil_of_length_eq_zero (by simpa using hl)
    subst hn
    simp only [Nat.add_zero, List.append_nil] at *
    have hw0 : IntKind.i64.wrap ((0 : Nat) : Int) = (0 : Nat) := by decide
    obtain ⟨p, c, rfl, hnc⟩ : ∃ p c, v = .slice p n c ∧ n ≤ c := by
      rcases hown.2 with ⟨rfl, h2⟩ | ⟨g, cap, cur, rfl, -, -, hnc, -⟩
      · rw [h2]; exact ⟨_, _, rfl, Nat.le_refl _⟩
      · exact ⟨_, _, rfl, hnc⟩
    refine ⟨.slice p n c, w, ?_, hown, ⟨rfl, rfl, rfl, Nat.le_refl _, fun _ _ _ => rfl⟩, Or.inl rfl⟩
    have hw2 : IntKind.i64.wrap 0 = 0 := by decide
    have hb2 : ¬ ((281474976710656 : Int) < 0) := by decide
    simp [Builtin.append_, run_underlying ht, run_underlying hk, sizeOf, typeInfo, zeroValue, hi, hz, asInt, asIntOf, hw2, hnc]
    cases p <;> simp [storeCells]
  have h0 : m * i.size ≠ 0 := by
    intro h
    rcases Nat.mul_eq_zero.1 h with h | h <;> omega
  rcases hown.2 with ⟨rfl, rfl⟩ | ⟨g, cap, cur, rfl, hbg, hg, hnc, hcm, hcs, htake⟩
  · have hx : xs = [] := List.eq_nil_of_length_eq_zero (by simpa using hown.1)
    subst hx
    have hr := run_append_grow_zero (P := P) w t tx ty e i z ht hk hi hz none 0 0 m [] (run_firstCells_none w.drew i.size 0 0 0) hmb hm9 h0 (by omega) (by simp only [maxLen] at h63; omega) (growslice_fits (by omega) hbytes)
    have hgr := grown 0 (by omega) (Value.ownBlock (.slice none 0 0))
    simp only [Nat.zero_add, List.nil_append, hnews] at hgr hr ⊢
    exact ⟨_, _, hr, hgr.1, hgr.2, Or.inr rfl⟩
  · by_cases hroom : n + m ≤ cap
    · have hfit : n * i.size + news.length ≤ cur.size := by rw [hl, hcs, ← Nat.add_mul]; exact Nat.mul_le_mul_right _ hroom
      have hr := run_append_room_zero (P := P) w t tx ty e i z ht hk hi hz g 0 n cap m hmb hm9 (by rw [hnews]; exact h1) hroom
        (fun j hj => by rw [hnews] at hj; rw [Nat.zero_add]; simp [World.cell?, hg]; omega) (fun j hj => by simp [World.frozen?, hg]) h0
      simp only [Nat.zero_add, hnews] at hr
      obtain ⟨cur', h1, h2, h3, h4⟩ := setCells_block g e news (n * i.size) w cur hg hfit
      refine ⟨_, _, hr, ⟨hlen, .inr ⟨g, cap, cur', rfl, hbg, h1, hroom, hcm, by rw [h2, hcs], ?_⟩⟩, ⟨h4.os, h4.tape, h4.output, h4.size, fun k hk hne => h4.block k hk (fun e => hne (by simp [Value.ownBlock, e]))⟩, Or.inl rfl⟩
      rw [Nat.add_mul, ← hl, h3, htake]
    · have holds : ∀ j u, xs[j]? = some u → w.cell? ((⟨g, 0, none⟩ : Addr).add j) = some u := hown.cells (g := g) rfl
      have hr := run_append_grow_zero (P := P) w t tx ty e i z ht hk hi hz (some ⟨g, 0, none⟩) n cap m xs (run_firstCells_some w.drew i.size n ⟨g, 0, none⟩ n cap xs hown.1 (by simpa using holds)) hmb hm9 h0 (by omega) (by simp only [maxLen] at h63; omega) (growslice_fits (by omega) hbytes)
      have hgr := grown cap (by omega) (Value.ownBlock (.slice (some ⟨g, 0, none⟩) n cap))
      rw [hnews] at hr
      exact ⟨_, _, hr, hgr.1, hgr.2, Or.inr rfl⟩
end

theorem run_append_zeros {T E : TypeId} {size bytes : Nat} (el : Elem T E size bytes) (w : World) (F : Nat → Prop) (v : Value) (n : Nat) (xs : List Value) (h : OwnR w F E size v n xs) (tx ty : TypeId) (hk : Tryz.prog.underlying tx = some (.int .i64)) (z : Value) (hz : ∀ i, Tryz.prog.info? E = some i → i.zero = some z) (hone : ∀ u ∈ z.cells.toList, u.oneCell' = true) (m : Nat)
    (hl : n + m ≤ 140737488355328) (hlb : (n + m) * bytes ≤ 140737488355328) :
    ∃ p c w' F', (Builtin.append_ #[T, tx] ty #[v, .int .i64 m]).run Tryz.prog w = .ok (.slice p (n + m) c) w' ∧ OwnR w' F' E size (.slice p (n + m) c) (n + m) (xs ++ (Builtin.zeroCells z.cells m).toList) ∧ Upd w w' F F' := by
  obtain ⟨i0, z0, hi, hz0, hz1, hz2, hz3⟩ := el.info
  obtain rfl : z = z0 := by have := hz i0 hi; rw [hz0] at this; exact (Option.some.inj this).symm
  obtain ⟨v', w', hr, hown, hg, hb⟩ := run_append_zero_any (P := Tryz.prog) w T tx ty E i0 z size bytes el.under hk hi hz0 hz1 hz2 hz3 el.pos hone v n xs h.1 m (by unfold maxLen; omega) hlb
  have h' : OwnR w' (fun k => F k ∨ (w.heap.size ≤ k ∧ k < w'.heap.size)) E size v' (n + m) (xs ++ (Builtin.zeroCells z.cells m).toList) := ⟨hown, fun g hgg => by
    have hlt := (hown.lt g hgg).2
    rcases hb with hb | hb
    · exact .inl (h.2 g (hb ▸ hgg))
    · rw [hgg] at hb
      simp at hb
      exact .inr ⟨by omega, hlt⟩⟩
  obtain ⟨p, c, rfl⟩ := h'.slice
  exact ⟨p, c, w', _, hr, h', (Chg.refl F w).grown hg fun k hk => .inl (h.2 k hk), fun k hk => hk⟩
end Go.Proofs.YtemmhlibbihjmaaGreat
