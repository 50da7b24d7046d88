/- Pairs of strings: lists of them, and lists of these; impl.turned, spec.ARLens, ARFlat, ARSame over them. -/
import Derived.Test.YtemmhlibbihjmaaGreatNulT
namespace Go.Proofs.YtemmhlibbihjmaaGreat
open Go.RowKit
set_option linter.unusedVariables false
set_option linter.unusedSimpArgs false

abbrev Pr := ByteArray × ByteArray
def prC (m : Pr) : List Value := [.string m.1, .string m.2]
def pcells (ms : List Pr) : List Value := ms.flatMap prC
theorem pcells_length (ms : List Pr) : (pcells ms).length = ms.length * 2 := by
  induction ms with
  | nil => rfl
  | cons m ms ih => simp only [pcells, List.flatMap_cons, List.length_append, List.length_cons] at ih ⊢; simp [prC, ih]; omega
theorem pcells_get : ∀ (ms : List Pr) (i : Nat) (m : Pr), ms[i]? = some m → (pcells ms)[i * 2]? = some (.string m.1) ∧ (pcells ms)[i * 2 + 1]? = some (.string m.2)
  | [], i, m, h => by simp at h
  | a :: ms, 0, m, h => by
    obtain rfl : a = m := by simpa using h
    exact ⟨rfl, rfl⟩
  | a :: ms, i + 1, m, h => by
    have ih := pcells_get ms i m (by simpa using h)
    have e : pcells (a :: ms) = prC a ++ pcells ms := rfl
    rw [e, List.getElem?_append_right (by simp [prC]; omega), List.getElem?_append_right (by simp [prC]; omega)]
    have h1 : (i + 1) * 2 - (prC a).length = i * 2 := by simp [prC]; omega
    have h2 : (i + 1) * 2 + 1 - (prC a).length = i * 2 + 1 := by simp [prC]; omega
    rw [h1, h2]
    exact ih
theorem pcells_append (a b : List Pr) : pcells (a ++ b) = pcells a ++ pcells b := by simp [pcells]
theorem pcells_snoc (ms : List Pr) (m : Pr) : pcells (ms ++ [m]) = pcells ms ++ prC m := by simp [pcells]
theorem one_pcells (ms : List Pr) : ∀ u ∈ pcells ms, u.oneCell' = true := by
  intro u hu
  obtain ⟨m, -, h⟩ := List.mem_flatMap.1 hu
  simp [prC] at h
  rcases h with rfl | rfl <;> rfl
theorem elemKV : Elem 93 92 2 32 := elem_of (z := .agg #[.string ⟨#[]⟩, .string ⟨#[]⟩]) Tryz.underlying93 (by kernel_rfl) (by rfl) (by decide)
theorem elemPair : Elem 40 39 2 32 := elem_of (z := .agg #[.string ⟨#[]⟩, .string ⟨#[]⟩]) Tryz.underlying40 (by kernel_rfl) (by rfl) (by decide)
theorem elemPairs : Elem 41 40 1 24 := elem_of (z := .slice none 0 0) Tryz.underlying41 (by kernel_rfl) rfl (by decide)
def PairL (w : World) (v : Value) (ms : List Pr) : Prop := FlatAt w v ms.length (pcells ms)
theorem PairL.below {w w' : World} {v : Value} {ms : List Pr} (h : PairL w v ms) (hb : Below w.heap.size w w') : PairL w' v ms := FlatAt.below h hb
theorem PairL.slice {w : World} {v : Value} {ms : List Pr} (h : PairL w v ms) : ∃ p c, v = .slice p ms.length c ∧ ms.length ≤ c := FlatAt.slice h
theorem pairL_stable : Stable PairL := fun w w' G x a h hc hG => FlatAt.chg h hc hG
theorem PairL.src {w : World} {v : Value} {ms : List Pr} (h : PairL w v ms) : Src Tryz.prog 2 40 v ms.length (pcells ms) w := FlatAt.src elemPair h (pcells_length ms) (one_pcells ms)
theorem PairL.row {w : World} {p : Option Addr} {n c : Nat} {ms : List Pr} (h : PairL w (.slice p n c) ms) {i : Nat} {m : Pr} (hi : ms[i]? = some m) :
    ∃ g o : Nat, p = some ⟨g, o, none⟩ ∧ n = ms.length ∧ i < n ∧ n ≤ c ∧ w.cell? ⟨g, o + i * 2, none⟩ = some (.string m.1) ∧ w.cell? ⟨g, o + i * 2 + 1, none⟩ = some (.string m.2) := by
  obtain ⟨p', c', he, hn, hx⟩ := id h
  obtain ⟨rfl, rfl, rfl⟩ : p = p' ∧ n = ms.length ∧ c = c' := by simpa using he
  obtain ⟨hil, -⟩ := List.getElem?_eq_some_iff.1 hi
  obtain ⟨h1, h2⟩ := pcells_get ms i m hi
  obtain ⟨g, o, rfl, hx2⟩ := hx (by intro e; rw [e] at h1; simp at h1)
  exact ⟨g, o, rfl, rfl, hil, hn, hx2 _ _ h1, by rw [Nat.add_assoc]; exact hx2 _ _ h2⟩
abbrev LstP : World → Value → List (List Pr) → Prop := EachAt PairL

set_option maxRecDepth 100000 in
theorem pairV (w : World) (b s : ByteArray) : Calls Tryz.prog 41 #[.agg #[.string b, .string s]] w fun e w' => e = .returned (.agg #[.string b, .string s]) ∧ Below w.heap.size w w' := by
  go_enter Tryz.func41, Tryz.ntmps41
  go_wp2_with fail
  refine bodyPost_ret (v := .agg #[.string b, .string s]) (by simp [results, Tryz.results41, go_sem]) rfl ⟨rfl, ?_⟩
  exact two_new _ _ _

set_option maxRecDepth 100000 in
theorem turnedP (w : World) (v : Value) (ms : List Pr) (h : PairL w v ms) (hn : ms.length ≤ 1000000) :
    Calls Tryz.prog 39 #[v, .func (.func 41) #[] #[]] w (MadeF w ms.length (pcells ms)) := by
  obtain ⟨p, c, rfl, hc⟩ := h.slice
  have HL := Lib.hid h
  clear h
  go_enter Tryz.func39, Tryz.ntmps39
  go_wp2_with fail
  go_loopw [5, 10] (fun vo vi wr => ∃ (i : Nat) (F : Nat → Prop), i ≤ ms.length ∧ vi = .int .i64 i ∧ Acc w F 39 2 vo i (pcells (ms.take i)) wr) (fun _ vi _ => ms.length - (intOf vi).toNat)
  case atStart => exact ⟨0, _, Nat.zero_le _, rfl, Acc.start _ _ _⟩
  case round =>
    obtain ⟨i, F, hi, rfl, hA⟩ := hrel
    obtain ⟨po, co, rfl⟩ := hA.slice
    by_cases hlt : i < ms.length
    · obtain ⟨m, hsi⟩ : ∃ m, ms[i]? = some m := ⟨_, List.getElem?_eq_getElem hlt⟩
      obtain ⟨g, o, rfl, -, -, -, hcx, hcy⟩ := (HL.out.below hA.below).row hsi
      have HS : Hid (pcells (ms.take (i + 1)) = pcells (ms.take i) ++ [.string m.1, .string m.2]) := Lib.hid (by rw [takeSnoc hsi, pcells_snoc]; rfl)
      obtain ⟨bm, sm⟩ := m
      simp only at hcx hcy HS
      have HA := Lib.hid hA
      have HM := Lib.hid (fun W => pairV W bm sm)
      have HOWN : Hid (∀ W2, Below wr.heap.size wr W2 → OwnR (W2.alloc (.cells #[.string bm, .string sm] 39)) F 39 2 (.slice po i co) i (pcells (ms.take i))) := Lib.hid fun W2 hb => (hA.own.keep hb).keep ((Below.refl _ _).alloc (Nat.le_refl _) _)
      have HSR : Hid (∀ W2 : World, Src Tryz.prog 2 40 (.slice (some ⟨W2.heap.size, 0, none⟩) 1 1) 1 [.string bm, .string sm] (W2.alloc (.cells #[.string bm, .string sm] 39))) := Lib.hid fun W2 => src_new elemPair W2.heap.size [.string bm, .string sm] _ (heap_alloc_new W2 _) rfl (by simp [Value.oneCell']) 1
      clear hA hsi
      go_wp2_with (first | (go_at_call 41; refine (HM.out _).mono ?_; rintro e w2 ⟨rfl, hb2⟩; have hbr2 : Below wr.heap.size wr w2 := Below.trans ((Below.refl _ wr).alloc (Nat.le_refl _) _) (hb2.mono (by simp))) | (at_builtin; refine append_rows elemPair _ F i 1 _ _ rfl _ _ _ rfl _ rfl (HOWN.out w2 hbr2) _ rfl (HSR.out w2) (by omega) (by omega) ?_; intro p5 c5 w5 F5 hown5 hu5))
      go_roundw
      case rel => exact ⟨i + 1, F5, hlt, by go_num, by rw [HS.out]; exact (HA.out.keep (below_alloc hbr2 (Nat.le_refl _) _)).next hown5 hu5⟩
      case measure => simp [intOf]; omega
    · obtain rfl : i = ms.length := by omega
      have HA := Lib.hid hA
      clear hA
      go_wp2_with fail
      go_ret
      have h := HA.out
      rw [List.take_length] at h
      exact h.made

set_option maxRecDepth 100000 in
theorem arLensP (w : World) (v : Value) (ll : List (List Pr)) (h : LstP w v ll) (hl : ll.length ≤ 100000) :
    Calls Tryz.prog 25 #[v] w (MadeF w ll.length (intsN (ll.map (·.length)))) := by
  obtain ⟨p, c, rfl, hc⟩ := h.slice
  have HL := Lib.hid h
  clear h
  go_enter Tryz.func25, Tryz.ntmps25
  go_wp2_with fail
  go_loopw [3, 4] (fun vo vi wr => ∃ (i : Nat) (F : Nat → Prop), i ≤ ll.length ∧ vi = .int .i64 i ∧ Acc w F 3 1 vo i (intsN ((ll.take i).map (·.length))) wr) (fun _ vi _ => ll.length - (intOf vi).toNat)
  case atStart => exact ⟨0, _, Nat.zero_le _, rfl, Acc.start _ _ _⟩
  case round =>
    obtain ⟨i, F, hi, rfl, hA⟩ := hrel
    obtain ⟨po, co, rfl⟩ := hA.slice
    by_cases hlt : i < ll.length
    · obtain ⟨ss, hsi⟩ : ∃ ss, ll[i]? = some ss := ⟨_, List.getElem?_eq_getElem hlt⟩
      obtain ⟨g, o, x, rfl, -, -, -, hcx, hx⟩ := (HL.out.below pairL_stable hA.below).row hsi
      obtain ⟨px, cx, rfl, -⟩ := PairL.slice hx
      have HS : Hid (intsN ((ll.take (i + 1)).map (·.length)) = intsN ((ll.take i).map (·.length)) ++ [.int .i64 ss.length]) := Lib.hid (by rw [takeSnoc hsi]; simp [intsN])
      have HA := Lib.hid hA
      clear hA hsi hx
      have HOWN := Lib.hid (HA.out.own.keep ((Below.refl _ wr).alloc (Nat.le_refl _) (.cells #[.int .i64 ss.length] 3)))
      have HSR := Lib.hid (src_new elemInt wr.heap.size [.int .i64 ss.length] _ (heap_alloc_new wr (.cells #[.int .i64 ss.length] 3)) rfl (by simp [Value.oneCell']) 1)
      go_wp2_with (at_builtin; refine append_rows elemInt _ F i 1 _ _ rfl _ _ _ rfl _ rfl HOWN.out _ rfl HSR.out (by omega) (by omega) ?_; intro p5 c5 w5 F5 hown5 hu5)
      go_roundw
      case rel => exact ⟨i + 1, F5, hlt, by go_num, by rw [HS.out]; exact (HA.out.keep ((Below.refl _ wr).alloc (Nat.le_refl _) _)).next hown5 hu5⟩
      case measure => simp [intOf]; omega
    · obtain rfl : i = ll.length := by omega
      have HA := Lib.hid hA
      clear hA
      go_wp2_with fail
      go_ret
      have h := HA.out
      rw [List.take_length] at h
      exact h.made

set_option maxRecDepth 100000 in
theorem arFlatP (w : World) (v : Value) (ll : List (List Pr)) (h : LstP w v ll) (hl : ll.length ≤ 100000) (hf : ll.flatten.length ≤ 100000000) :
    Calls Tryz.prog 24 #[v] w (MadeF w ll.flatten.length (pcells ll.flatten)) := by
  obtain ⟨p, c, rfl, hc⟩ := h.slice
  have HL := Lib.hid h
  have HF : Hid (∀ i, (ll.take i).flatten.length ≤ 100000000) := Lib.hid fun i => by
    rw [← List.take_append_drop i ll, List.flatten_append, List.length_append] at hf
    omega
  clear h hf
  go_enter Tryz.func24, Tryz.ntmps24
  go_wp2_with fail
  go_loopw [3, 4] (fun vo vi wr => ∃ (i : Nat) (F : Nat → Prop), i ≤ ll.length ∧ vi = .int .i64 i ∧ Acc w F 39 2 vo (ll.take i).flatten.length (pcells (ll.take i).flatten) wr) (fun _ vi _ => ll.length - (intOf vi).toNat)
  case atStart => exact ⟨0, _, Nat.zero_le _, rfl, Acc.start _ _ _⟩
  case round =>
    obtain ⟨i, F, hi, rfl, hA⟩ := hrel
    obtain ⟨po, co, rfl⟩ := hA.slice
    by_cases hlt : i < ll.length
    · obtain ⟨ss, hsi⟩ : ∃ ss, ll[i]? = some ss := ⟨_, List.getElem?_eq_getElem hlt⟩
      obtain ⟨g, o, x, rfl, -, -, -, hcx, hx⟩ := (HL.out.below pairL_stable hA.below).row hsi
      obtain ⟨px, cx, rfl, -⟩ := PairL.slice hx
      have hS : (ll.take (i + 1)).flatten = (ll.take i).flatten ++ ss := by rw [takeSnoc hsi]; simp
      have hb := HF.out (i + 1)
      rw [hS, List.length_append] at hb
      have HS := Lib.hid hS
      have HA := Lib.hid hA
      have HSR := Lib.hid (PairL.src hx)
      obtain ⟨pre, hpre⟩ : ∃ pre, pre = (ll.take i).flatten := ⟨_, rfl⟩
      rw [← hpre] at HS HA hb
      rw [← hpre]
      clear hA hsi hx hS hpre
      go_wp2_with (at_builtin; refine append_rows elemPair _ F pre.length ss.length _ _ rfl _ _ _ rfl _ rfl HA.out.own _ rfl HSR.out (by omega) (by omega) ?_; intro p5 c5 w5 F5 hown5 hu5)
      go_roundw
      case rel => exact ⟨i + 1, F5, hlt, by go_num, by rw [HS.out, List.length_append, pcells_append]; exact HA.out.next hown5 hu5⟩
      case measure => simp [intOf]; omega
    · obtain rfl : i = ll.length := by omega
      have HA := Lib.hid hA
      clear hA
      go_wp2_with fail
      go_ret
      have h := HA.out
      rw [List.take_length] at h
      simp only [List.take_length]
      exact h.made

end Go.Proofs.YtemmhlibbihjmaaGreat
