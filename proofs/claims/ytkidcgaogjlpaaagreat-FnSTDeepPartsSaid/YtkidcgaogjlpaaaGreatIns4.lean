/- ColFixedStr behind the interface impl.texts. Written by gen_ins.py. -/
import Derived.Test.YtkidcgaogjlpaaaGreatInsS
import Derived.Test.YtkidcgaogjlpaaaGreatFix4
namespace Go.Proofs.YtkidcgaogjlpaaaGreat
open Go.RowKit
set_option linter.unusedVariables false
set_option linter.unusedSimpArgs false

theorem flat_len {N : Nat} : ∀ {l : List (List UInt8)}, (∀ s ∈ l, s.length = N) → l.flatten.length = l.length * N
  | [], _ => by simp
  | s :: l, h => by
    rw [List.flatten_cons, List.length_append, flat_len fun t ht => h t (List.mem_cons_of_mem _ ht), h s List.mem_cons_self, List.length_cons, Nat.add_mul, Nat.one_mul]
    omega
theorem flat_row {N : Nat} {l : List (List UInt8)} {i : Nat} {s : List UInt8} (h : ∀ s ∈ l, s.length = N) (hi : l[i]? = some s) : s = (l.flatten.drop (i * N)).take N := by
  have h1 := (flat_at l i s hi).1
  have hil := (List.getElem?_eq_some_iff.1 hi).1
  have h2 : (l.take i).flatten.length = i * N := by
    rw [flat_len (N := N) fun t ht => h t (List.mem_of_mem_take ht), List.length_take]
    congr 1
    omega
  rw [h2, h s (List.mem_of_getElem? hi)] at h1
  exact h1.symm
theorem good_take {N : Nat} {l : List (List UInt8)} {s : List UInt8} (h : ∀ s ∈ l, s.length = N) (hs : s.length = N) : ∀ t ∈ l ++ [s], t.length = N := fun t ht => by
  rcases List.mem_append.1 ht with ht | ht
  · exact h t ht
  · rw [List.mem_singleton.1 ht]; exact hs
theorem restE_len {l : List (List UInt8)} {tail rest : List UInt8} {ok : Bool} (h : RestE List.flatten ok l tail rest) : (ok = true ∧ rest = l.flatten ++ tail) ∨ (ok = false ∧ rest.length < l.flatten.length) := by
  rcases h with h | ⟨h1, h2⟩
  · exact .inl h
  · exact .inr ⟨h1, h2.lt⟩
theorem one_below (w : World) (o : Obj) : Below w.heap.size w (w.alloc o) := (Below.refl _ w).alloc (Nat.le_refl _) o
theorem in_dec {w w' : World} {Fr F Fr' F' : Nat → Prop} (hI : In F w) (hR : In Fr w) (h : Upd w w' (fun k => Fr k ∨ F k) (fun k => Fr' k ∨ F' k)) : In F' w' := fun k hk => by
  have := h.chg.size
  rcases h.new k (.inr hk) with (h | h) | h
  · have := hR k h; omega
  · have := hI k h; omega
  · exact h.2

/-- It holds strings of N bytes. -/
def Rep4 (N q : Nat) : Rep := fun w F l => FixCol w F q N l.flatten ∧ In F w ∧ ∀ s ∈ l, s.length = N
theorem rep4_new (w : World) (o : Obj) (N : Nat) : ∃ F, Rep4 N (w.heap.size + 1) ((w.alloc o).alloc (.cells #[.slice none 0 0, .int .i64 N] 106)) F [] ∧ ∀ k, F k → w.heap.size ≤ k := by
  have h := fixCol_new (w.alloc o) N
  rw [World.size_alloc] at h
  exact ⟨_, ⟨h, fun k hk => by subst hk; simp, by simp⟩, fun k hk => by omega⟩

theorem insAdd4 : MRow 97 "given.example/pub-clapboard/impl.add" [] (some (112, false)) := mRow_of (by kernel_rfl)
theorem insAt4 : MRow 97 "given.example/pub-clapboard/impl.at" [] (some (115, false)) := mRow_of (by kernel_rfl)
theorem insE4 : MRow 97 "Rows" [⟨97, 0, false⟩] none ∧ MRow 97 "EncodeColumn" [⟨97, 0, false⟩] none ∧ MRow 97 "DecodeColumn" [⟨97, 0, false⟩] none := ⟨mRow_of (by kernel_rfl), mRow_of (by kernel_rfl), mRow_of (by kernel_rfl)⟩
theorem insI4 : MRow 104 "Rows" [] (some (138, false)) ∧ MRow 104 "EncodeColumn" [] (some (135, false)) ∧ MRow 104 "DecodeColumn" [] (some (134, true)) := ⟨mRow_of (by kernel_rfl), mRow_of (by kernel_rfl), mRow_of (by kernel_rfl)⟩
theorem insO4 : Own 112 ∧ Own 115 ∧ Own 138 ∧ Own 135 ∧ Own 134 := ⟨fun _ _ => by kernel_rfl, fun _ _ => by kernel_rfl, fun _ _ => by kernel_rfl, fun _ _ => by kernel_rfl, fun _ _ => by kernel_rfl⟩
theorem insM4 (name : String) (hE : MRow 97 name [⟨97, 0, false⟩] none) (w : World) (q : Nat) (a b c : Value) : (method 383 97 (.agg #[.iface 104 (.pointer (some ⟨q, 0, none⟩)), a, b, c]) name).run Tryz.prog w = (method 382 104 (.pointer (some ⟨q, 0, none⟩)) name).run Tryz.prog w :=
  meth_emb 382 hE Tryz.underlying97 rfl rfl (fun _ => by kernel_rfl) _ _ _ rfl w
theorem insV4 (name : String) (f : FuncId) (hI : MRow 104 name [] (some (f, false))) (w : World) (q : Nat) (v : Value) (hv : (loadVar 106 ⟨q, 0, none⟩).run Tryz.prog w = .ok v w) : (method 382 104 (.pointer (some ⟨q, 0, none⟩)) name).run Tryz.prog w = .ok (f, v) w :=
  meth_val 381 hI Tryz.underlying104 _ w _ hv
theorem insP4 (name : String) (f : FuncId) (hI : MRow 104 name [] (some (f, true))) (w : World) (q : Nat) : (method 382 104 (.pointer (some ⟨q, 0, none⟩)) name).run Tryz.prog w = .ok (f, .pointer (some ⟨q, 0, none⟩)) w :=
  meth_ptr 381 hI Tryz.underlying104 _ w

theorem makes4 (N : Nat) : Makes (.agg #[.int .i64 4, .int .i64 N]) 97 colV4 (fun w => Rep4 N (w.heap.size + 1)) := fun w => (column4 w N).mono fun e w' ⟨he, hw⟩ => by
  subst hw
  exact ⟨he, two_below _ _ _, rep4_new _ _ _⟩
theorem texts4 (N : Nat) (hN : 0 < N) (W : World) : Texts 97 (colV4 W) List.flatten (fun s => s.length = N) (Rep4 N (W.heap.size + 1)) := by
  unfold colV4
  obtain ⟨oA, oT, oR, oE, oD⟩ := insO4
  obtain ⟨eR, eE, eD⟩ := insE4
  obtain ⟨iR, iE, iD⟩ := insI4
  refine ⟨fun h => h.2.1, fun h hc hd => ⟨h.1.chg hc hd, h.2.1.mono hc.size, h.2.2⟩, ⟨_, fun w => ⟨oA, meth_own 382 insAdd4 Tryz.underlying97 (by intro e h; cases h) _ w⟩, fun w F l x s hC hx hg hs => ?_⟩, ⟨_, fun w => ⟨oT, meth_own 382 insAt4 Tryz.underlying97 (by intro e h; cases h) _ w⟩, fun w F l i s hC hi hs => ?_⟩, fun w F l hC hs => ?_, fun w F l Fb p bs hC hs hB hI hd hl => ?_, fun w Fr D F r l tail rest cur ok hR hC hF hrest hg hs hbig => ?_⟩
  · obtain ⟨h1, h2⟩ := hs
    simp only [List.flatten_append, List.length_append, List.flatten_cons, List.flatten_nil, List.length_nil, List.length_cons, Nat.add_zero, Nat.zero_add] at h1 h2
    refine (add4 w F _ N l.flatten x s _ _ hx hg hN hC.1 hC.2.1 (by omega)).mono fun e w' h => ?_
    obtain ⟨he, F', h1, h2⟩ := h
    exact ⟨he, F', ⟨by simpa using h1, h2.inn hC.2.1, good_take hC.2.2 hg⟩, h2⟩
  · obtain ⟨h1, h2⟩ := hs
    have hil := (List.getElem?_eq_some_iff.1 hi).1
    exact at4 w F _ N l.length i l.flatten s _ _ hC.1 hN (flat_len hC.2.2) (by omega) hil (flat_row hC.2.2 hi)
  · obtain ⟨v, hat, hlt, hV, hw, hF⟩ := hC.1.view
    exact ⟨_, _, ⟨oR, by rw [insM4 "Rows" eR]; exact insV4 "Rows" _ iR w _ _ (load_twoT hat Tryz.underlying106 (by kernel_rfl))⟩, fixRowsS w v N l.length l.flatten hV hN (flat_len hC.2.2) (by have := hs.1; omega)⟩
  · obtain ⟨v, hat, hlt, hV, hw, hF⟩ := hC.1.view
    exact ⟨_, _, ⟨oE, by rw [insM4 "EncodeColumn" eE]; exact insV4 "EncodeColumn" _ iE w _ _ (load_twoT hat Tryz.underlying106 (by kernel_rfl))⟩, fixEncodeS w Fb p N bs l.flatten v hB hI hV (by have := hs.1; omega)⟩
  · refine ⟨_, _, ⟨oD, by rw [insM4 "DecodeColumn" eD]; exact insP4 "DecodeColumn" _ iD w _⟩, (fixDecodeS w Fr D F r _ N l.length l.flatten tail rest cur ok hR hC.1 hF (restE_len hrest) hN (flat_len hg) hbig (by have := hs.1; omega)).mono fun e w' h => ⟨fun ho => ?_, fun ho => h.2 ho⟩⟩
    obtain ⟨he, Fr', cur', F', h1, h2, h3, h4⟩ := h.1 ho
    exact ⟨he, Fr', cur', F', h1, ⟨h2, in_dec hC.2.1 (by obtain ⟨_, _, _, hx⟩ := hR; exact hx.inF) h3, hg⟩, h3, h4⟩
end Go.Proofs.YtkidcgaogjlpaaaGreat
