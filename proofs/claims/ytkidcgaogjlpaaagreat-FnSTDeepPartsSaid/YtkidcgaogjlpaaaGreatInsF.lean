/- ColFixedStr8 behind the interface impl.texts. Written by gen_ins.py. -/
import Derived.Test.YtkidcgaogjlpaaaGreatIns4
import Derived.Test.YtkidcgaogjlpaaaGreatFxS
import Derived.Test.YtkidcgaogjlpaaaGreatFxL
namespace Go.Proofs.YtkidcgaogjlpaaaGreat
open Go.RowKit
set_option linter.unusedVariables false
set_option linter.unusedSimpArgs false

/-- It holds strings of so many bytes. -/
def Rep5 (q : Nat) : Rep := fun w F l => NumCol w F 109 110 8 q l.length (u8s l.flatten) ∧ In F w ∧ ∀ s ∈ l, s.length = 8
theorem rep5_new (w : World) (o : Obj) : ∃ F, Rep5 (w.heap.size + 1) ((w.alloc o).alloc (.cells #[.slice none 0 0] 109)) F [] ∧ ∀ k, F k → w.heap.size ≤ k := by
  have h := numCol_new (w.alloc o) 109 110 8 (by decide)
  rw [World.size_alloc] at h
  exact ⟨_, ⟨by simpa [u8s] using h, fun k hk => by subst hk; simp, by simp⟩, fun k hk => by omega⟩

theorem insAdd5 : MRow 116 "given.example/pub-clapboard/impl.add" [] (some (165, false)) := mRow_of (by kernel_rfl)
theorem insAt5 : MRow 116 "given.example/pub-clapboard/impl.at" [] (some (168, false)) := mRow_of (by kernel_rfl)
theorem insE5 : MRow 116 "Rows" [⟨116, 0, false⟩] none ∧ MRow 116 "EncodeColumn" [⟨116, 0, false⟩] none ∧ MRow 116 "DecodeColumn" [⟨116, 0, false⟩] none := ⟨mRow_of (by kernel_rfl), mRow_of (by kernel_rfl), mRow_of (by kernel_rfl)⟩
theorem insI5 : MRow 107 "Rows" [] (some (161, false)) ∧ MRow 107 "EncodeColumn" [] (some (158, false)) ∧ MRow 107 "DecodeColumn" [] (some (157, true)) := ⟨mRow_of (by kernel_rfl), mRow_of (by kernel_rfl), mRow_of (by kernel_rfl)⟩
theorem insO5 : Own 165 ∧ Own 168 ∧ Own 161 ∧ Own 158 ∧ Own 157 := ⟨fun _ _ => by kernel_rfl, fun _ _ => by kernel_rfl, fun _ _ => by kernel_rfl, fun _ _ => by kernel_rfl, fun _ _ => by kernel_rfl⟩
theorem insM5 (name : String) (hE : MRow 116 name [⟨116, 0, false⟩] none) (w : World) (q : Nat) (a b c : Value) : (method 383 116 (.agg #[.iface 107 (.pointer (some ⟨q, 0, none⟩)), a, b, c]) name).run Tryz.prog w = (method 382 107 (.pointer (some ⟨q, 0, none⟩)) name).run Tryz.prog w :=
  meth_emb 382 hE Tryz.underlying116 rfl rfl (fun _ => by kernel_rfl) _ _ _ rfl w
theorem insV5 (name : String) (f : FuncId) (hI : MRow 107 name [] (some (f, false))) (w : World) (q : Nat) (v : Value) (hv : (loadVar 109 ⟨q, 0, none⟩).run Tryz.prog w = .ok v w) : (method 382 107 (.pointer (some ⟨q, 0, none⟩)) name).run Tryz.prog w = .ok (f, v) w :=
  meth_val 381 hI Tryz.underlying107 _ w _ hv
theorem insP5 (name : String) (f : FuncId) (hI : MRow 107 name [] (some (f, true))) (w : World) (q : Nat) : (method 382 107 (.pointer (some ⟨q, 0, none⟩)) name).run Tryz.prog w = .ok (f, .pointer (some ⟨q, 0, none⟩)) w :=
  meth_ptr 381 hI Tryz.underlying107 _ w

theorem makes5 (s : Int) : Makes (.agg #[.int .i64 5, .int .i64 s]) 116 colV5 (fun w => Rep5 (w.heap.size + 1)) := fun w => (column5 w s).mono fun e w' ⟨he, hw⟩ => by
  subst hw
  exact ⟨he, two_below _ _ _, rep5_new _ _⟩
theorem texts5 (W : World) : Texts 116 (colV5 W) List.flatten (fun s => s.length = 8) (Rep5 (W.heap.size + 1)) := by
  unfold colV5
  obtain ⟨oA, oT, oR, oE, oD⟩ := insO5
  obtain ⟨eR, eE, eD⟩ := insE5
  obtain ⟨iR, iE, iD⟩ := insI5
  refine ⟨fun h => h.2.1, fun h hc hd => ⟨h.1.chg hc hd, h.2.1.mono hc.size, h.2.2⟩, ⟨_, fun w => ⟨oA, meth_own 382 insAdd5 Tryz.underlying116 (by intro e h; cases h) _ w⟩, fun w F l x s hC hx hg hs => ?_⟩, ⟨_, fun w => ⟨oT, meth_own 382 insAt5 Tryz.underlying116 (by intro e h; cases h) _ w⟩, fun w F l i s hC hi hs => ?_⟩, fun w F l hC hs => ?_, fun w F l Fb p bs hC hs hB hI hd hl => ?_, fun w Fr D F r l tail rest cur ok hR hC hF hrest hg hs hbig => ?_⟩
  · obtain ⟨h1, h2⟩ := hs
    simp only [List.flatten_append, List.length_append, List.flatten_cons, List.flatten_nil, List.length_nil, List.length_cons, Nat.add_zero, Nat.zero_add] at h1 h2
    refine (addF8 w F _ l.length (u8s l.flatten) x s _ _ hx hg hC.1 hC.2.1 (by omega)).mono fun e w' h => ?_
    obtain ⟨he, F', h1, h2⟩ := h
    refine ⟨he, F', ⟨?_, h2.inn hC.2.1, good_take hC.2.2 hg⟩, h2⟩
    rw [← u8s_append] at h1
    simpa using h1
  · obtain ⟨h1, h2⟩ := hs
    have hil := (List.getElem?_eq_some_iff.1 hi).1
    exact atF8 w F _ l.length i (u8s l.flatten) s _ _ hC.1 hil (by omega) (hC.2.2 s (List.mem_of_getElem? hi)) (by
      have h := flat_row hC.2.2 hi
      conv => rhs; rw [h]
      simp [u8s, List.map_take, List.map_drop])
  · obtain ⟨v, hX, hF⟩ := hC.1
    obtain ⟨p, c, rfl⟩ := hX.slice
    exact ⟨_, _, ⟨oR, by rw [insM5 "Rows" eR]; exact insV5 "Rows" _ iR w _ _ (load_one hX.at_ Tryz.underlying109)⟩, (fixRows8 w p l.length c).mono fun e w' ⟨he, hw⟩ => ⟨he, by subst hw; exact Below.refl _ _⟩⟩
  · obtain ⟨v, hX, hF⟩ := hC.1
    exact ⟨_, _, ⟨oE, by rw [insM5 "EncodeColumn" eE]; exact insV5 "EncodeColumn" _ iE w _ _ (load_one hX.at_ Tryz.underlying109)⟩, fixEncode8 w Fb p bs v l.length l.flatten hB hI hX.view (fun g hg => hd g (hF g (.inr hg))) (by have := hs.1; have := flat_len hC.2.2; omega)⟩
  · refine ⟨_, _, ⟨oD, by rw [insM5 "DecodeColumn" eD]; exact insP5 "DecodeColumn" _ iD w _⟩, (fixDecode8 w Fr D F r _ l.length l.flatten tail rest cur ok hR (by simpa [u8s] using hC.1) hF (restE_len hrest) (flat_len hg) hbig (by have := hs.1; omega)).mono fun e w' h => ⟨fun ho => ?_, fun ho => h.2 ho⟩⟩
    obtain ⟨he, Fr', cur', F', h1, h2, h3, h4⟩ := h.1 ho
    exact ⟨he, Fr', cur', F', h1, ⟨h2, in_dec hC.2.1 (by obtain ⟨_, _, _, hx⟩ := hR; exact hx.inF) h3, hg⟩, h3, h4⟩

/-- It holds strings of so many bytes. -/
def Rep6 (q : Nat) : Rep := fun w F l => NumCol w F 119 120 16 q l.length (u8s l.flatten) ∧ In F w ∧ ∀ s ∈ l, s.length = 16
theorem rep6_new (w : World) (o : Obj) : ∃ F, Rep6 (w.heap.size + 1) ((w.alloc o).alloc (.cells #[.slice none 0 0] 119)) F [] ∧ ∀ k, F k → w.heap.size ≤ k := by
  have h := numCol_new (w.alloc o) 119 120 16 (by decide)
  rw [World.size_alloc] at h
  exact ⟨_, ⟨by simpa [u8s] using h, fun k hk => by subst hk; simp, by simp⟩, fun k hk => by omega⟩

theorem insAdd6 : MRow 126 "given.example/pub-clapboard/impl.add" [] (some (178, false)) := mRow_of (by kernel_rfl)
theorem insAt6 : MRow 126 "given.example/pub-clapboard/impl.at" [] (some (181, false)) := mRow_of (by kernel_rfl)
theorem insE6 : MRow 126 "Rows" [⟨126, 0, false⟩] none ∧ MRow 126 "EncodeColumn" [⟨126, 0, false⟩] none ∧ MRow 126 "DecodeColumn" [⟨126, 0, false⟩] none := ⟨mRow_of (by kernel_rfl), mRow_of (by kernel_rfl), mRow_of (by kernel_rfl)⟩
theorem insI6 : MRow 117 "Rows" [] (some (175, false)) ∧ MRow 117 "EncodeColumn" [] (some (172, false)) ∧ MRow 117 "DecodeColumn" [] (some (171, true)) := ⟨mRow_of (by kernel_rfl), mRow_of (by kernel_rfl), mRow_of (by kernel_rfl)⟩
theorem insO6 : Own 178 ∧ Own 181 ∧ Own 175 ∧ Own 172 ∧ Own 171 := ⟨fun _ _ => by kernel_rfl, fun _ _ => by kernel_rfl, fun _ _ => by kernel_rfl, fun _ _ => by kernel_rfl, fun _ _ => by kernel_rfl⟩
theorem insM6 (name : String) (hE : MRow 126 name [⟨126, 0, false⟩] none) (w : World) (q : Nat) (a b c : Value) : (method 383 126 (.agg #[.iface 117 (.pointer (some ⟨q, 0, none⟩)), a, b, c]) name).run Tryz.prog w = (method 382 117 (.pointer (some ⟨q, 0, none⟩)) name).run Tryz.prog w :=
  meth_emb 382 hE Tryz.underlying126 rfl rfl (fun _ => by kernel_rfl) _ _ _ rfl w
theorem insV6 (name : String) (f : FuncId) (hI : MRow 117 name [] (some (f, false))) (w : World) (q : Nat) (v : Value) (hv : (loadVar 119 ⟨q, 0, none⟩).run Tryz.prog w = .ok v w) : (method 382 117 (.pointer (some ⟨q, 0, none⟩)) name).run Tryz.prog w = .ok (f, v) w :=
  meth_val 381 hI Tryz.underlying117 _ w _ hv
theorem insP6 (name : String) (f : FuncId) (hI : MRow 117 name [] (some (f, true))) (w : World) (q : Nat) : (method 382 117 (.pointer (some ⟨q, 0, none⟩)) name).run Tryz.prog w = .ok (f, .pointer (some ⟨q, 0, none⟩)) w :=
  meth_ptr 381 hI Tryz.underlying117 _ w

theorem makes6 (s : Int) : Makes (.agg #[.int .i64 6, .int .i64 s]) 126 colV6 (fun w => Rep6 (w.heap.size + 1)) := fun w => (column6 w s).mono fun e w' ⟨he, hw⟩ => by
  subst hw
  exact ⟨he, two_below _ _ _, rep6_new _ _⟩
theorem texts6 (W : World) : Texts 126 (colV6 W) List.flatten (fun s => s.length = 16) (Rep6 (W.heap.size + 1)) := by
  unfold colV6
  obtain ⟨oA, oT, oR, oE, oD⟩ := insO6
  obtain ⟨eR, eE, eD⟩ := insE6
  obtain ⟨iR, iE, iD⟩ := insI6
  refine ⟨fun h => h.2.1, fun h hc hd => ⟨h.1.chg hc hd, h.2.1.mono hc.size, h.2.2⟩, ⟨_, fun w => ⟨oA, meth_own 382 insAdd6 Tryz.underlying126 (by intro e h; cases h) _ w⟩, fun w F l x s hC hx hg hs => ?_⟩, ⟨_, fun w => ⟨oT, meth_own 382 insAt6 Tryz.underlying126 (by intro e h; cases h) _ w⟩, fun w F l i s hC hi hs => ?_⟩, fun w F l hC hs => ?_, fun w F l Fb p bs hC hs hB hI hd hl => ?_, fun w Fr D F r l tail rest cur ok hR hC hF hrest hg hs hbig => ?_⟩
  · obtain ⟨h1, h2⟩ := hs
    simp only [List.flatten_append, List.length_append, List.flatten_cons, List.flatten_nil, List.length_nil, List.length_cons, Nat.add_zero, Nat.zero_add] at h1 h2
    refine (addF16 w F _ l.length (u8s l.flatten) x s _ _ hx hg hC.1 hC.2.1 (by omega)).mono fun e w' h => ?_
    obtain ⟨he, F', h1, h2⟩ := h
    refine ⟨he, F', ⟨?_, h2.inn hC.2.1, good_take hC.2.2 hg⟩, h2⟩
    rw [← u8s_append] at h1
    simpa using h1
  · obtain ⟨h1, h2⟩ := hs
    have hil := (List.getElem?_eq_some_iff.1 hi).1
    exact atF16 w F _ l.length i (u8s l.flatten) s _ _ hC.1 hil (by omega) (hC.2.2 s (List.mem_of_getElem? hi)) (by
      have h := flat_row hC.2.2 hi
      conv => rhs; rw [h]
      simp [u8s, List.map_take, List.map_drop])
  · obtain ⟨v, hX, hF⟩ := hC.1
    obtain ⟨p, c, rfl⟩ := hX.slice
    exact ⟨_, _, ⟨oR, by rw [insM6 "Rows" eR]; exact insV6 "Rows" _ iR w _ _ (load_one hX.at_ Tryz.underlying119)⟩, (fixRows16 w p l.length c).mono fun e w' ⟨he, hw⟩ => ⟨he, by subst hw; exact Below.refl _ _⟩⟩
  · obtain ⟨v, hX, hF⟩ := hC.1
    exact ⟨_, _, ⟨oE, by rw [insM6 "EncodeColumn" eE]; exact insV6 "EncodeColumn" _ iE w _ _ (load_one hX.at_ Tryz.underlying119)⟩, fixEncode16 w Fb p bs v l.length l.flatten hB hI hX.view (fun g hg => hd g (hF g (.inr hg))) (by have := hs.1; have := flat_len hC.2.2; omega)⟩
  · refine ⟨_, _, ⟨oD, by rw [insM6 "DecodeColumn" eD]; exact insP6 "DecodeColumn" _ iD w _⟩, (fixDecode16 w Fr D F r _ l.length l.flatten tail rest cur ok hR (by simpa [u8s] using hC.1) hF (restE_len hrest) (flat_len hg) hbig (by have := hs.1; omega)).mono fun e w' h => ⟨fun ho => ?_, fun ho => h.2 ho⟩⟩
    obtain ⟨he, Fr', cur', F', h1, h2, h3, h4⟩ := h.1 ho
    exact ⟨he, Fr', cur', F', h1, ⟨h2, in_dec hC.2.1 (by obtain ⟨_, _, _, hx⟩ := hR; exact hx.inF) h3, hg⟩, h3, h4⟩

/-- It holds strings of so many bytes. -/
def Rep7 (q : Nat) : Rep := fun w F l => NumCol w F 129 130 32 q l.length (u8s l.flatten) ∧ In F w ∧ ∀ s ∈ l, s.length = 32
theorem rep7_new (w : World) (o : Obj) : ∃ F, Rep7 (w.heap.size + 1) ((w.alloc o).alloc (.cells #[.slice none 0 0] 129)) F [] ∧ ∀ k, F k → w.heap.size ≤ k := by
  have h := numCol_new (w.alloc o) 129 130 32 (by decide)
  rw [World.size_alloc] at h
  exact ⟨_, ⟨by simpa [u8s] using h, fun k hk => by subst hk; simp, by simp⟩, fun k hk => by omega⟩

theorem insAdd7 : MRow 136 "given.example/pub-clapboard/impl.add" [] (some (191, false)) := mRow_of (by kernel_rfl)
theorem insAt7 : MRow 136 "given.example/pub-clapboard/impl.at" [] (some (194, false)) := mRow_of (by kernel_rfl)
theorem insE7 : MRow 136 "Rows" [⟨136, 0, false⟩] none ∧ MRow 136 "EncodeColumn" [⟨136, 0, false⟩] none ∧ MRow 136 "DecodeColumn" [⟨136, 0, false⟩] none := ⟨mRow_of (by kernel_rfl), mRow_of (by kernel_rfl), mRow_of (by kernel_rfl)⟩
theorem insI7 : MRow 127 "Rows" [] (some (188, false)) ∧ MRow 127 "EncodeColumn" [] (some (185, false)) ∧ MRow 127 "DecodeColumn" [] (some (184, true)) := ⟨mRow_of (by kernel_rfl), mRow_of (by kernel_rfl), mRow_of (by kernel_rfl)⟩
theorem insO7 : Own 191 ∧ Own 194 ∧ Own 188 ∧ Own 185 ∧ Own 184 := ⟨fun _ _ => by kernel_rfl, fun _ _ => by kernel_rfl, fun _ _ => by kernel_rfl, fun _ _ => by kernel_rfl, fun _ _ => by kernel_rfl⟩
theorem insM7 (name : String) (hE : MRow 136 name [⟨136, 0, false⟩] none) (w : World) (q : Nat) (a b c : Value) : (method 383 136 (.agg #[.iface 127 (.pointer (some ⟨q, 0, none⟩)), a, b, c]) name).run Tryz.prog w = (method 382 127 (.pointer (some ⟨q, 0, none⟩)) name).run Tryz.prog w :=
  meth_emb 382 hE Tryz.underlying136 rfl rfl (fun _ => by kernel_rfl) _ _ _ rfl w
theorem insV7 (name : String) (f : FuncId) (hI : MRow 127 name [] (some (f, false))) (w : World) (q : Nat) (v : Value) (hv : (loadVar 129 ⟨q, 0, none⟩).run Tryz.prog w = .ok v w) : (method 382 127 (.pointer (some ⟨q, 0, none⟩)) name).run Tryz.prog w = .ok (f, v) w :=
  meth_val 381 hI Tryz.underlying127 _ w _ hv
theorem insP7 (name : String) (f : FuncId) (hI : MRow 127 name [] (some (f, true))) (w : World) (q : Nat) : (method 382 127 (.pointer (some ⟨q, 0, none⟩)) name).run Tryz.prog w = .ok (f, .pointer (some ⟨q, 0, none⟩)) w :=
  meth_ptr 381 hI Tryz.underlying127 _ w

theorem makes7 (s : Int) : Makes (.agg #[.int .i64 7, .int .i64 s]) 136 colV7 (fun w => Rep7 (w.heap.size + 1)) := fun w => (column7 w s).mono fun e w' ⟨he, hw⟩ => by
  subst hw
  exact ⟨he, two_below _ _ _, rep7_new _ _⟩
theorem texts7 (W : World) : Texts 136 (colV7 W) List.flatten (fun s => s.length = 32) (Rep7 (W.heap.size + 1)) := by
  unfold colV7
  obtain ⟨oA, oT, oR, oE, oD⟩ := insO7
  obtain ⟨eR, eE, eD⟩ := insE7
  obtain ⟨iR, iE, iD⟩ := insI7
  refine ⟨fun h => h.2.1, fun h hc hd => ⟨h.1.chg hc hd, h.2.1.mono hc.size, h.2.2⟩, ⟨_, fun w => ⟨oA, meth_own 382 insAdd7 Tryz.underlying136 (by intro e h; cases h) _ w⟩, fun w F l x s hC hx hg hs => ?_⟩, ⟨_, fun w => ⟨oT, meth_own 382 insAt7 Tryz.underlying136 (by intro e h; cases h) _ w⟩, fun w F l i s hC hi hs => ?_⟩, fun w F l hC hs => ?_, fun w F l Fb p bs hC hs hB hI hd hl => ?_, fun w Fr D F r l tail rest cur ok hR hC hF hrest hg hs hbig => ?_⟩
  · obtain ⟨h1, h2⟩ := hs
    simp only [List.flatten_append, List.length_append, List.flatten_cons, List.flatten_nil, List.length_nil, List.length_cons, Nat.add_zero, Nat.zero_add] at h1 h2
    refine (addF32 w F _ l.length (u8s l.flatten) x s _ _ hx hg hC.1 hC.2.1 (by omega)).mono fun e w' h => ?_
    obtain ⟨he, F', h1, h2⟩ := h
    refine ⟨he, F', ⟨?_, h2.inn hC.2.1, good_take hC.2.2 hg⟩, h2⟩
    rw [← u8s_append] at h1
    simpa using h1
  · obtain ⟨h1, h2⟩ := hs
    have hil := (List.getElem?_eq_some_iff.1 hi).1
    exact atF32 w F _ l.length i (u8s l.flatten) s _ _ hC.1 hil (by omega) (hC.2.2 s (List.mem_of_getElem? hi)) (by
      have h := flat_row hC.2.2 hi
      conv => rhs; rw [h]
      simp [u8s, List.map_take, List.map_drop])
  · obtain ⟨v, hX, hF⟩ := hC.1
    obtain ⟨p, c, rfl⟩ := hX.slice
    exact ⟨_, _, ⟨oR, by rw [insM7 "Rows" eR]; exact insV7 "Rows" _ iR w _ _ (load_one hX.at_ Tryz.underlying129)⟩, (fixRows32 w p l.length c).mono fun e w' ⟨he, hw⟩ => ⟨he, by subst hw; exact Below.refl _ _⟩⟩
  · obtain ⟨v, hX, hF⟩ := hC.1
    exact ⟨_, _, ⟨oE, by rw [insM7 "EncodeColumn" eE]; exact insV7 "EncodeColumn" _ iE w _ _ (load_one hX.at_ Tryz.underlying129)⟩, fixEncode32 w Fb p bs v l.length l.flatten hB hI hX.view (fun g hg => hd g (hF g (.inr hg))) (by have := hs.1; have := flat_len hC.2.2; omega)⟩
  · refine ⟨_, _, ⟨oD, by rw [insM7 "DecodeColumn" eD]; exact insP7 "DecodeColumn" _ iD w _⟩, (fixDecode32 w Fr D F r _ l.length l.flatten tail rest cur ok hR (by simpa [u8s] using hC.1) hF (restE_len hrest) (flat_len hg) hbig (by have := hs.1; omega)).mono fun e w' h => ⟨fun ho => ?_, fun ho => h.2 ho⟩⟩
    obtain ⟨he, Fr', cur', F', h1, h2, h3, h4⟩ := h.1 ho
    exact ⟨he, Fr', cur', F', h1, ⟨h2, in_dec hC.2.1 (by obtain ⟨_, _, _, hx⟩ := hR; exact hx.inF) h3, hg⟩, h3, h4⟩

/-- It holds strings of so many bytes. -/
def Rep8 (q : Nat) : Rep := fun w F l => NumCol w F 139 140 64 q l.length (u8s l.flatten) ∧ In F w ∧ ∀ s ∈ l, s.length = 64
theorem rep8_new (w : World) (o : Obj) : ∃ F, Rep8 (w.heap.size + 1) ((w.alloc o).alloc (.cells #[.slice none 0 0] 139)) F [] ∧ ∀ k, F k → w.heap.size ≤ k := by
  have h := numCol_new (w.alloc o) 139 140 64 (by decide)
  rw [World.size_alloc] at h
  exact ⟨_, ⟨by simpa [u8s] using h, fun k hk => by subst hk; simp, by simp⟩, fun k hk => by omega⟩

theorem insAdd8 : MRow 146 "given.example/pub-clapboard/impl.add" [] (some (204, false)) := mRow_of (by kernel_rfl)
theorem insAt8 : MRow 146 "given.example/pub-clapboard/impl.at" [] (some (207, false)) := mRow_of (by kernel_rfl)
theorem insE8 : MRow 146 "Rows" [⟨146, 0, false⟩] none ∧ MRow 146 "EncodeColumn" [⟨146, 0, false⟩] none ∧ MRow 146 "DecodeColumn" [⟨146, 0, false⟩] none := ⟨mRow_of (by kernel_rfl), mRow_of (by kernel_rfl), mRow_of (by kernel_rfl)⟩
theorem insI8 : MRow 137 "Rows" [] (some (201, false)) ∧ MRow 137 "EncodeColumn" [] (some (198, false)) ∧ MRow 137 "DecodeColumn" [] (some (197, true)) := ⟨mRow_of (by kernel_rfl), mRow_of (by kernel_rfl), mRow_of (by kernel_rfl)⟩
theorem insO8 : Own 204 ∧ Own 207 ∧ Own 201 ∧ Own 198 ∧ Own 197 := ⟨fun _ _ => by kernel_rfl, fun _ _ => by kernel_rfl, fun _ _ => by kernel_rfl, fun _ _ => by kernel_rfl, fun _ _ => by kernel_rfl⟩
theorem insM8 (name : String) (hE : MRow 146 name [⟨146, 0, false⟩] none) (w : World) (q : Nat) (a b c : Value) : (method 383 146 (.agg #[.iface 137 (.pointer (some ⟨q, 0, none⟩)), a, b, c]) name).run Tryz.prog w = (method 382 137 (.pointer (some ⟨q, 0, none⟩)) name).run Tryz.prog w :=
  meth_emb 382 hE Tryz.underlying146 rfl rfl (fun _ => by kernel_rfl) _ _ _ rfl w
theorem insV8 (name : String) (f : FuncId) (hI : MRow 137 name [] (some (f, false))) (w : World) (q : Nat) (v : Value) (hv : (loadVar 139 ⟨q, 0, none⟩).run Tryz.prog w = .ok v w) : (method 382 137 (.pointer (some ⟨q, 0, none⟩)) name).run Tryz.prog w = .ok (f, v) w :=
  meth_val 381 hI Tryz.underlying137 _ w _ hv
theorem insP8 (name : String) (f : FuncId) (hI : MRow 137 name [] (some (f, true))) (w : World) (q : Nat) : (method 382 137 (.pointer (some ⟨q, 0, none⟩)) name).run Tryz.prog w = .ok (f, .pointer (some ⟨q, 0, none⟩)) w :=
  meth_ptr 381 hI Tryz.underlying137 _ w

theorem makes8 (s : Int) : Makes (.agg #[.int .i64 8, .int .i64 s]) 146 colV8 (fun w => Rep8 (w.heap.size + 1)) := fun w => (column8 w s).mono fun e w' ⟨he, hw⟩ => by
  subst hw
  exact ⟨he, two_below _ _ _, rep8_new _ _⟩
theorem texts8 (W : World) : Texts 146 (colV8 W) List.flatten (fun s => s.length = 64) (Rep8 (W.heap.size + 1)) := by
  unfold colV8
  obtain ⟨oA, oT, oR, oE, oD⟩ := insO8
  obtain ⟨eR, eE, eD⟩ := insE8
  obtain ⟨iR, iE, iD⟩ := insI8
  refine ⟨fun h => h.2.1, fun h hc hd => ⟨h.1.chg hc hd, h.2.1.mono hc.size, h.2.2⟩, ⟨_, fun w => ⟨oA, meth_own 382 insAdd8 Tryz.underlying146 (by intro e h; cases h) _ w⟩, fun w F l x s hC hx hg hs => ?_⟩, ⟨_, fun w => ⟨oT, meth_own 382 insAt8 Tryz.underlying146 (by intro e h; cases h) _ w⟩, fun w F l i s hC hi hs => ?_⟩, fun w F l hC hs => ?_, fun w F l Fb p bs hC hs hB hI hd hl => ?_, fun w Fr D F r l tail rest cur ok hR hC hF hrest hg hs hbig => ?_⟩
  · obtain ⟨h1, h2⟩ := hs
    simp only [List.flatten_append, List.length_append, List.flatten_cons, List.flatten_nil, List.length_nil, List.length_cons, Nat.add_zero, Nat.zero_add] at h1 h2
    refine (addF64 w F _ l.length (u8s l.flatten) x s _ _ hx hg hC.1 hC.2.1 (by omega)).mono fun e w' h => ?_
    obtain ⟨he, F', h1, h2⟩ := h
    refine ⟨he, F', ⟨?_, h2.inn hC.2.1, good_take hC.2.2 hg⟩, h2⟩
    rw [← u8s_append] at h1
    simpa using h1
  · obtain ⟨h1, h2⟩ := hs
    have hil := (List.getElem?_eq_some_iff.1 hi).1
    exact atF64 w F _ l.length i (u8s l.flatten) s _ _ hC.1 hil (by omega) (hC.2.2 s (List.mem_of_getElem? hi)) (by
      have h := flat_row hC.2.2 hi
      conv => rhs; rw [h]
      simp [u8s, List.map_take, List.map_drop])
  · obtain ⟨v, hX, hF⟩ := hC.1
    obtain ⟨p, c, rfl⟩ := hX.slice
    exact ⟨_, _, ⟨oR, by rw [insM8 "Rows" eR]; exact insV8 "Rows" _ iR w _ _ (load_one hX.at_ Tryz.underlying139)⟩, (fixRows64 w p l.length c).mono fun e w' ⟨he, hw⟩ => ⟨he, by subst hw; exact Below.refl _ _⟩⟩
  · obtain ⟨v, hX, hF⟩ := hC.1
    exact ⟨_, _, ⟨oE, by rw [insM8 "EncodeColumn" eE]; exact insV8 "EncodeColumn" _ iE w _ _ (load_one hX.at_ Tryz.underlying139)⟩, fixEncode64 w Fb p bs v l.length l.flatten hB hI hX.view (fun g hg => hd g (hF g (.inr hg))) (by have := hs.1; have := flat_len hC.2.2; omega)⟩
  · refine ⟨_, _, ⟨oD, by rw [insM8 "DecodeColumn" eD]; exact insP8 "DecodeColumn" _ iD w _⟩, (fixDecode64 w Fr D F r _ l.length l.flatten tail rest cur ok hR (by simpa [u8s] using hC.1) hF (restE_len hrest) (flat_len hg) hbig (by have := hs.1; omega)).mono fun e w' h => ⟨fun ho => ?_, fun ho => h.2 ho⟩⟩
    obtain ⟨he, Fr', cur', F', h1, h2, h3, h4⟩ := h.1 ho
    exact ⟨he, Fr', cur', F', h1, ⟨h2, in_dec hC.2.1 (by obtain ⟨_, _, _, hx⟩ := hR; exact hx.inF) h3, hg⟩, h3, h4⟩

/-- It holds strings of so many bytes. -/
def Rep9 (q : Nat) : Rep := fun w F l => NumCol w F 149 150 128 q l.length (u8s l.flatten) ∧ In F w ∧ ∀ s ∈ l, s.length = 128
theorem rep9_new (w : World) (o : Obj) : ∃ F, Rep9 (w.heap.size + 1) ((w.alloc o).alloc (.cells #[.slice none 0 0] 149)) F [] ∧ ∀ k, F k → w.heap.size ≤ k := by
  have h := numCol_new (w.alloc o) 149 150 128 (by decide)
  rw [World.size_alloc] at h
  exact ⟨_, ⟨by simpa [u8s] using h, fun k hk => by subst hk; simp, by simp⟩, fun k hk => by omega⟩

theorem insAdd9 : MRow 156 "given.example/pub-clapboard/impl.add" [] (some (217, false)) := mRow_of (by kernel_rfl)
theorem insAt9 : MRow 156 "given.example/pub-clapboard/impl.at" [] (some (220, false)) := mRow_of (by kernel_rfl)
theorem insE9 : MRow 156 "Rows" [⟨156, 0, false⟩] none ∧ MRow 156 "EncodeColumn" [⟨156, 0, false⟩] none ∧ MRow 156 "DecodeColumn" [⟨156, 0, false⟩] none := ⟨mRow_of (by kernel_rfl), mRow_of (by kernel_rfl), mRow_of (by kernel_rfl)⟩
theorem insI9 : MRow 147 "Rows" [] (some (214, false)) ∧ MRow 147 "EncodeColumn" [] (some (211, false)) ∧ MRow 147 "DecodeColumn" [] (some (210, true)) := ⟨mRow_of (by kernel_rfl), mRow_of (by kernel_rfl), mRow_of (by kernel_rfl)⟩
theorem insO9 : Own 217 ∧ Own 220 ∧ Own 214 ∧ Own 211 ∧ Own 210 := ⟨fun _ _ => by kernel_rfl, fun _ _ => by kernel_rfl, fun _ _ => by kernel_rfl, fun _ _ => by kernel_rfl, fun _ _ => by kernel_rfl⟩
theorem insM9 (name : String) (hE : MRow 156 name [⟨156, 0, false⟩] none) (w : World) (q : Nat) (a b c : Value) : (method 383 156 (.agg #[.iface 147 (.pointer (some ⟨q, 0, none⟩)), a, b, c]) name).run Tryz.prog w = (method 382 147 (.pointer (some ⟨q, 0, none⟩)) name).run Tryz.prog w :=
  meth_emb 382 hE Tryz.underlying156 rfl rfl (fun _ => by kernel_rfl) _ _ _ rfl w
theorem insV9 (name : String) (f : FuncId) (hI : MRow 147 name [] (some (f, false))) (w : World) (q : Nat) (v : Value) (hv : (loadVar 149 ⟨q, 0, none⟩).run Tryz.prog w = .ok v w) : (method 382 147 (.pointer (some ⟨q, 0, none⟩)) name).run Tryz.prog w = .ok (f, v) w :=
  meth_val 381 hI Tryz.underlying147 _ w _ hv
theorem insP9 (name : String) (f : FuncId) (hI : MRow 147 name [] (some (f, true))) (w : World) (q : Nat) : (method 382 147 (.pointer (some ⟨q, 0, none⟩)) name).run Tryz.prog w = .ok (f, .pointer (some ⟨q, 0, none⟩)) w :=
  meth_ptr 381 hI Tryz.underlying147 _ w

theorem makes9 (s : Int) : Makes (.agg #[.int .i64 9, .int .i64 s]) 156 colV9 (fun w => Rep9 (w.heap.size + 1)) := fun w => (column9 w s).mono fun e w' ⟨he, hw⟩ => by
  subst hw
  exact ⟨he, two_below _ _ _, rep9_new _ _⟩
theorem texts9 (W : World) : Texts 156 (colV9 W) List.flatten (fun s => s.length = 128) (Rep9 (W.heap.size + 1)) := by
  unfold colV9
  obtain ⟨oA, oT, oR, oE, oD⟩ := insO9
  obtain ⟨eR, eE, eD⟩ := insE9
  obtain ⟨iR, iE, iD⟩ := insI9
  refine ⟨fun h => h.2.1, fun h hc hd => ⟨h.1.chg hc hd, h.2.1.mono hc.size, h.2.2⟩, ⟨_, fun w => ⟨oA, meth_own 382 insAdd9 Tryz.underlying156 (by intro e h; cases h) _ w⟩, fun w F l x s hC hx hg hs => ?_⟩, ⟨_, fun w => ⟨oT, meth_own 382 insAt9 Tryz.underlying156 (by intro e h; cases h) _ w⟩, fun w F l i s hC hi hs => ?_⟩, fun w F l hC hs => ?_, fun w F l Fb p bs hC hs hB hI hd hl => ?_, fun w Fr D F r l tail rest cur ok hR hC hF hrest hg hs hbig => ?_⟩
  · obtain ⟨h1, h2⟩ := hs
    simp only [List.flatten_append, List.length_append, List.flatten_cons, List.flatten_nil, List.length_nil, List.length_cons, Nat.add_zero, Nat.zero_add] at h1 h2
    refine (addF128 w F _ l.length (u8s l.flatten) x s _ _ hx hg hC.1 hC.2.1 (by omega)).mono fun e w' h => ?_
    obtain ⟨he, F', h1, h2⟩ := h
    refine ⟨he, F', ⟨?_, h2.inn hC.2.1, good_take hC.2.2 hg⟩, h2⟩
    rw [← u8s_append] at h1
    simpa using h1
  · obtain ⟨h1, h2⟩ := hs
    have hil := (List.getElem?_eq_some_iff.1 hi).1
    exact atF128 w F _ l.length i (u8s l.flatten) s _ _ hC.1 hil (by omega) (hC.2.2 s (List.mem_of_getElem? hi)) (by
      have h := flat_row hC.2.2 hi
      conv => rhs; rw [h]
      simp [u8s, List.map_take, List.map_drop])
  · obtain ⟨v, hX, hF⟩ := hC.1
    obtain ⟨p, c, rfl⟩ := hX.slice
    exact ⟨_, _, ⟨oR, by rw [insM9 "Rows" eR]; exact insV9 "Rows" _ iR w _ _ (load_one hX.at_ Tryz.underlying149)⟩, (fixRows128 w p l.length c).mono fun e w' ⟨he, hw⟩ => ⟨he, by subst hw; exact Below.refl _ _⟩⟩
  · obtain ⟨v, hX, hF⟩ := hC.1
    exact ⟨_, _, ⟨oE, by rw [insM9 "EncodeColumn" eE]; exact insV9 "EncodeColumn" _ iE w _ _ (load_one hX.at_ Tryz.underlying149)⟩, fixEncode128 w Fb p bs v l.length l.flatten hB hI hX.view (fun g hg => hd g (hF g (.inr hg))) (by have := hs.1; have := flat_len hC.2.2; omega)⟩
  · refine ⟨_, _, ⟨oD, by rw [insM9 "DecodeColumn" eD]; exact insP9 "DecodeColumn" _ iD w _⟩, (fixDecode128 w Fr D F r _ l.length l.flatten tail rest cur ok hR (by simpa [u8s] using hC.1) hF (restE_len hrest) (flat_len hg) hbig (by have := hs.1; omega)).mono fun e w' h => ⟨fun ho => ?_, fun ho => h.2 ho⟩⟩
    obtain ⟨he, Fr', cur', F', h1, h2, h3, h4⟩ := h.1 ho
    exact ⟨he, Fr', cur', F', h1, ⟨h2, in_dec hC.2.1 (by obtain ⟨_, _, _, hx⟩ := hR; exact hx.inF) h3, hg⟩, h3, h4⟩

/-- It holds strings of so many bytes. -/
def Rep10 (q : Nat) : Rep := fun w F l => NumCol w F 159 160 256 q l.length (u8s l.flatten) ∧ In F w ∧ ∀ s ∈ l, s.length = 256
theorem rep10_new (w : World) (o : Obj) : ∃ F, Rep10 (w.heap.size + 1) ((w.alloc o).alloc (.cells #[.slice none 0 0] 159)) F [] ∧ ∀ k, F k → w.heap.size ≤ k := by
  have h := numCol_new (w.alloc o) 159 160 256 (by decide)
  rw [World.size_alloc] at h
  exact ⟨_, ⟨by simpa [u8s] using h, fun k hk => by subst hk; simp, by simp⟩, fun k hk => by omega⟩

theorem insAdd10 : MRow 166 "given.example/pub-clapboard/impl.add" [] (some (230, false)) := mRow_of (by kernel_rfl)
theorem insAt10 : MRow 166 "given.example/pub-clapboard/impl.at" [] (some (233, false)) := mRow_of (by kernel_rfl)
theorem insE10 : MRow 166 "Rows" [⟨166, 0, false⟩] none ∧ MRow 166 "EncodeColumn" [⟨166, 0, false⟩] none ∧ MRow 166 "DecodeColumn" [⟨166, 0, false⟩] none := ⟨mRow_of (by kernel_rfl), mRow_of (by kernel_rfl), mRow_of (by kernel_rfl)⟩
theorem insI10 : MRow 157 "Rows" [] (some (227, false)) ∧ MRow 157 "EncodeColumn" [] (some (224, false)) ∧ MRow 157 "DecodeColumn" [] (some (223, true)) := ⟨mRow_of (by kernel_rfl), mRow_of (by kernel_rfl), mRow_of (by kernel_rfl)⟩
theorem insO10 : Own 230 ∧ Own 233 ∧ Own 227 ∧ Own 224 ∧ Own 223 := ⟨fun _ _ => by kernel_rfl, fun _ _ => by kernel_rfl, fun _ _ => by kernel_rfl, fun _ _ => by kernel_rfl, fun _ _ => by kernel_rfl⟩
theorem insM10 (name : String) (hE : MRow 166 name [⟨166, 0, false⟩] none) (w : World) (q : Nat) (a b c : Value) : (method 383 166 (.agg #[.iface 157 (.pointer (some ⟨q, 0, none⟩)), a, b, c]) name).run Tryz.prog w = (method 382 157 (.pointer (some ⟨q, 0, none⟩)) name).run Tryz.prog w :=
  meth_emb 382 hE Tryz.underlying166 rfl rfl (fun _ => by kernel_rfl) _ _ _ rfl w
theorem insV10 (name : String) (f : FuncId) (hI : MRow 157 name [] (some (f, false))) (w : World) (q : Nat) (v : Value) (hv : (loadVar 159 ⟨q, 0, none⟩).run Tryz.prog w = .ok v w) : (method 382 157 (.pointer (some ⟨q, 0, none⟩)) name).run Tryz.prog w = .ok (f, v) w :=
  meth_val 381 hI Tryz.underlying157 _ w _ hv
theorem insP10 (name : String) (f : FuncId) (hI : MRow 157 name [] (some (f, true))) (w : World) (q : Nat) : (method 382 157 (.pointer (some ⟨q, 0, none⟩)) name).run Tryz.prog w = .ok (f, .pointer (some ⟨q, 0, none⟩)) w :=
  meth_ptr 381 hI Tryz.underlying157 _ w

theorem makes10 (s : Int) : Makes (.agg #[.int .i64 10, .int .i64 s]) 166 colV10 (fun w => Rep10 (w.heap.size + 1)) := fun w => (column10 w s).mono fun e w' ⟨he, hw⟩ => by
  subst hw
  exact ⟨he, two_below _ _ _, rep10_new _ _⟩
theorem texts10 (W : World) : Texts 166 (colV10 W) List.flatten (fun s => s.length = 256) (Rep10 (W.heap.size + 1)) := by
  unfold colV10
  obtain ⟨oA, oT, oR, oE, oD⟩ := insO10
  obtain ⟨eR, eE, eD⟩ := insE10
  obtain ⟨iR, iE, iD⟩ := insI10
  refine ⟨fun h => h.2.1, fun h hc hd => ⟨h.1.chg hc hd, h.2.1.mono hc.size, h.2.2⟩, ⟨_, fun w => ⟨oA, meth_own 382 insAdd10 Tryz.underlying166 (by intro e h; cases h) _ w⟩, fun w F l x s hC hx hg hs => ?_⟩, ⟨_, fun w => ⟨oT, meth_own 382 insAt10 Tryz.underlying166 (by intro e h; cases h) _ w⟩, fun w F l i s hC hi hs => ?_⟩, fun w F l hC hs => ?_, fun w F l Fb p bs hC hs hB hI hd hl => ?_, fun w Fr D F r l tail rest cur ok hR hC hF hrest hg hs hbig => ?_⟩
  · obtain ⟨h1, h2⟩ := hs
    simp only [List.flatten_append, List.length_append, List.flatten_cons, List.flatten_nil, List.length_nil, List.length_cons, Nat.add_zero, Nat.zero_add] at h1 h2
    refine (addF256 w F _ l.length (u8s l.flatten) x s _ _ hx hg hC.1 hC.2.1 (by omega)).mono fun e w' h => ?_
    obtain ⟨he, F', h1, h2⟩ := h
    refine ⟨he, F', ⟨?_, h2.inn hC.2.1, good_take hC.2.2 hg⟩, h2⟩
    rw [← u8s_append] at h1
    simpa using h1
  · obtain ⟨h1, h2⟩ := hs
    have hil := (List.getElem?_eq_some_iff.1 hi).1
    exact atF256 w F _ l.length i (u8s l.flatten) s _ _ hC.1 hil (by omega) (hC.2.2 s (List.mem_of_getElem? hi)) (by
      have h := flat_row hC.2.2 hi
      conv => rhs; rw [h]
      simp [u8s, List.map_take, List.map_drop])
  · obtain ⟨v, hX, hF⟩ := hC.1
    obtain ⟨p, c, rfl⟩ := hX.slice
    exact ⟨_, _, ⟨oR, by rw [insM10 "Rows" eR]; exact insV10 "Rows" _ iR w _ _ (load_one hX.at_ Tryz.underlying159)⟩, (fixRows256 w p l.length c).mono fun e w' ⟨he, hw⟩ => ⟨he, by subst hw; exact Below.refl _ _⟩⟩
  · obtain ⟨v, hX, hF⟩ := hC.1
    exact ⟨_, _, ⟨oE, by rw [insM10 "EncodeColumn" eE]; exact insV10 "EncodeColumn" _ iE w _ _ (load_one hX.at_ Tryz.underlying159)⟩, fixEncode256 w Fb p bs v l.length l.flatten hB hI hX.view (fun g hg => hd g (hF g (.inr hg))) (by have := hs.1; have := flat_len hC.2.2; omega)⟩
  · refine ⟨_, _, ⟨oD, by rw [insM10 "DecodeColumn" eD]; exact insP10 "DecodeColumn" _ iD w _⟩, (fixDecode256 w Fr D F r _ l.length l.flatten tail rest cur ok hR (by simpa [u8s] using hC.1) hF (restE_len hrest) (flat_len hg) hbig (by have := hs.1; omega)).mono fun e w' h => ⟨fun ho => ?_, fun ho => h.2 ho⟩⟩
    obtain ⟨he, Fr', cur', F', h1, h2, h3, h4⟩ := h.1 ho
    exact ⟨he, Fr', cur', F', h1, ⟨h2, in_dec hC.2.1 (by obtain ⟨_, _, _, hx⟩ := hR; exact hx.inF) h3, hg⟩, h3, h4⟩

/-- It holds strings of so many bytes. -/
def Rep11 (q : Nat) : Rep := fun w F l => NumCol w F 169 170 512 q l.length (u8s l.flatten) ∧ In F w ∧ ∀ s ∈ l, s.length = 512
theorem rep11_new (w : World) (o : Obj) : ∃ F, Rep11 (w.heap.size + 1) ((w.alloc o).alloc (.cells #[.slice none 0 0] 169)) F [] ∧ ∀ k, F k → w.heap.size ≤ k := by
  have h := numCol_new (w.alloc o) 169 170 512 (by decide)
  rw [World.size_alloc] at h
  exact ⟨_, ⟨by simpa [u8s] using h, fun k hk => by subst hk; simp, by simp⟩, fun k hk => by omega⟩

theorem insAdd11 : MRow 176 "given.example/pub-clapboard/impl.add" [] (some (243, false)) := mRow_of (by kernel_rfl)
theorem insAt11 : MRow 176 "given.example/pub-clapboard/impl.at" [] (some (246, false)) := mRow_of (by kernel_rfl)
theorem insE11 : MRow 176 "Rows" [⟨176, 0, false⟩] none ∧ MRow 176 "EncodeColumn" [⟨176, 0, false⟩] none ∧ MRow 176 "DecodeColumn" [⟨176, 0, false⟩] none := ⟨mRow_of (by kernel_rfl), mRow_of (by kernel_rfl), mRow_of (by kernel_rfl)⟩
theorem insI11 : MRow 167 "Rows" [] (some (240, false)) ∧ MRow 167 "EncodeColumn" [] (some (237, false)) ∧ MRow 167 "DecodeColumn" [] (some (236, true)) := ⟨mRow_of (by kernel_rfl), mRow_of (by kernel_rfl), mRow_of (by kernel_rfl)⟩
theorem insO11 : Own 243 ∧ Own 246 ∧ Own 240 ∧ Own 237 ∧ Own 236 := ⟨fun _ _ => by kernel_rfl, fun _ _ => by kernel_rfl, fun _ _ => by kernel_rfl, fun _ _ => by kernel_rfl, fun _ _ => by kernel_rfl⟩
theorem insM11 (name : String) (hE : MRow 176 name [⟨176, 0, false⟩] none) (w : World) (q : Nat) (a b c : Value) : (method 383 176 (.agg #[.iface 167 (.pointer (some ⟨q, 0, none⟩)), a, b, c]) name).run Tryz.prog w = (method 382 167 (.pointer (some ⟨q, 0, none⟩)) name).run Tryz.prog w :=
  meth_emb 382 hE Tryz.underlying176 rfl rfl (fun _ => by kernel_rfl) _ _ _ rfl w
theorem insV11 (name : String) (f : FuncId) (hI : MRow 167 name [] (some (f, false))) (w : World) (q : Nat) (v : Value) (hv : (loadVar 169 ⟨q, 0, none⟩).run Tryz.prog w = .ok v w) : (method 382 167 (.pointer (some ⟨q, 0, none⟩)) name).run Tryz.prog w = .ok (f, v) w :=
  meth_val 381 hI Tryz.underlying167 _ w _ hv
theorem insP11 (name : String) (f : FuncId) (hI : MRow 167 name [] (some (f, true))) (w : World) (q : Nat) : (method 382 167 (.pointer (some ⟨q, 0, none⟩)) name).run Tryz.prog w = .ok (f, .pointer (some ⟨q, 0, none⟩)) w :=
  meth_ptr 381 hI Tryz.underlying167 _ w

theorem makes11 (s : Int) : Makes (.agg #[.int .i64 11, .int .i64 s]) 176 colV11 (fun w => Rep11 (w.heap.size + 1)) := fun w => (column11 w s).mono fun e w' ⟨he, hw⟩ => by
  subst hw
  exact ⟨he, two_below _ _ _, rep11_new _ _⟩
theorem texts11 (W : World) : Texts 176 (colV11 W) List.flatten (fun s => s.length = 512) (Rep11 (W.heap.size + 1)) := by
  unfold colV11
  obtain ⟨oA, oT, oR, oE, oD⟩ := insO11
  obtain ⟨eR, eE, eD⟩ := insE11
  obtain ⟨iR, iE, iD⟩ := insI11
  refine ⟨fun h => h.2.1, fun h hc hd => ⟨h.1.chg hc hd, h.2.1.mono hc.size, h.2.2⟩, ⟨_, fun w => ⟨oA, meth_own 382 insAdd11 Tryz.underlying176 (by intro e h; cases h) _ w⟩, fun w F l x s hC hx hg hs => ?_⟩, ⟨_, fun w => ⟨oT, meth_own 382 insAt11 Tryz.underlying176 (by intro e h; cases h) _ w⟩, fun w F l i s hC hi hs => ?_⟩, fun w F l hC hs => ?_, fun w F l Fb p bs hC hs hB hI hd hl => ?_, fun w Fr D F r l tail rest cur ok hR hC hF hrest hg hs hbig => ?_⟩
  · obtain ⟨h1, h2⟩ := hs
    simp only [List.flatten_append, List.length_append, List.flatten_cons, List.flatten_nil, List.length_nil, List.length_cons, Nat.add_zero, Nat.zero_add] at h1 h2
    refine (addF512 w F _ l.length (u8s l.flatten) x s _ _ hx hg hC.1 hC.2.1 (by omega)).mono fun e w' h => ?_
    obtain ⟨he, F', h1, h2⟩ := h
    refine ⟨he, F', ⟨?_, h2.inn hC.2.1, good_take hC.2.2 hg⟩, h2⟩
    rw [← u8s_append] at h1
    simpa using h1
  · obtain ⟨h1, h2⟩ := hs
    have hil := (List.getElem?_eq_some_iff.1 hi).1
    exact atF512 w F _ l.length i (u8s l.flatten) s _ _ hC.1 hil (by omega) (hC.2.2 s (List.mem_of_getElem? hi)) (by
      have h := flat_row hC.2.2 hi
      conv => rhs; rw [h]
      simp [u8s, List.map_take, List.map_drop])
  · obtain ⟨v, hX, hF⟩ := hC.1
    obtain ⟨p, c, rfl⟩ := hX.slice
    exact ⟨_, _, ⟨oR, by rw [insM11 "Rows" eR]; exact insV11 "Rows" _ iR w _ _ (load_one hX.at_ Tryz.underlying169)⟩, (fixRows512 w p l.length c).mono fun e w' ⟨he, hw⟩ => ⟨he, by subst hw; exact Below.refl _ _⟩⟩
  · obtain ⟨v, hX, hF⟩ := hC.1
    exact ⟨_, _, ⟨oE, by rw [insM11 "EncodeColumn" eE]; exact insV11 "EncodeColumn" _ iE w _ _ (load_one hX.at_ Tryz.underlying169)⟩, fixEncode512 w Fb p bs v l.length l.flatten hB hI hX.view (fun g hg => hd g (hF g (.inr hg))) (by have := hs.1; have := flat_len hC.2.2; omega)⟩
  · refine ⟨_, _, ⟨oD, by rw [insM11 "DecodeColumn" eD]; exact insP11 "DecodeColumn" _ iD w _⟩, (fixDecode512 w Fr D F r _ l.length l.flatten tail rest cur ok hR (by simpa [u8s] using hC.1) hF (restE_len hrest) (flat_len hg) hbig (by have := hs.1; omega)).mono fun e w' h => ⟨fun ho => ?_, fun ho => h.2 ho⟩⟩
    obtain ⟨he, Fr', cur', F', h1, h2, h3, h4⟩ := h.1 ho
    exact ⟨he, Fr', cur', F', h1, ⟨h2, in_dec hC.2.1 (by obtain ⟨_, _, _, hx⟩ := hR; exact hx.inF) h3, hg⟩, h3, h4⟩
end Go.Proofs.YtkidcgaogjlpaaaGreat
