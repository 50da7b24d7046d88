/- The columns of strings behind the interface impl.texts. Written by gen_ins.py. -/
import Derived.Test.YtkidcgaogjlpaaaGreatTxD
import Derived.Test.YtkidcgaogjlpaaaGreatAt
import Derived.Test.YtkidcgaogjlpaaaGreatTxt
import Derived.Test.YtkidcgaogjlpaaaGreatTyA
namespace Go.Proofs.YtkidcgaogjlpaaaGreat
open Go.RowKit
set_option linter.unusedVariables false
set_option linter.unusedSimpArgs false

theorem load_twoT {w : World} {q : Nat} {v u : Value} {T ty : TypeId} {fs : Array Field} (h : w.heap[q]? = some (.cells #[v, u] T (0, 0))) (hu : Tryz.prog.underlying ty = some (.struct fs)) (hi : (Tryz.prog.info? ty).map (·.size) = some 2) : (loadVar ty ⟨q, 0, none⟩).run Tryz.prog w = .ok (.agg #[v, u]) w :=
  run_loadVar_row w q T ty #[v, u] (0, 0) _ h hu rfl hi
theorem uv_len_le (n : Nat) : (uv n).length ≤ n + 1 := by
  induction n using Nat.strongRecOn with
  | ind n ih =>
    unfold uv
    split
    · simp
    · simp only [List.length_cons]
      have := ih (n / 128) (by omega)
      omega
theorem encS_len (l : List (List UInt8)) : (encS l).length ≤ 2 * l.flatten.length + l.length := by
  induction l with
  | nil => simp [encS]
  | cons s l ih =>
    have h := uv_len_le s.length
    have e : encS (s :: l) = (uv s.length ++ s) ++ encS l := rfl
    rw [e, List.length_append, List.length_append, List.flatten_cons, List.length_append, List.length_cons]
    omega
theorem row_small {l : List (List UInt8)} {i : Nat} {s : List UInt8} (h : l[i]? = some s) : s.length ≤ l.flatten.length := by
  have h2 := (flat_at l i s h).2
  omega
/-- It holds strings. -/
def RepS (T : TypeId) (q : Nat) : Rep := fun w F l => StrCol w F T q l ∧ In F w
theorem repS_put {T : TypeId} {q : Nat} {w : World} {F : Nat → Prop} {l : List (List UInt8)} {e : Ending} {w' : World} (hI : In F w) (h : PutS w F T q l e w') : PutC (RepS T q) w F l e w' := by
  obtain ⟨he, F', h1, h2⟩ := h
  exact ⟨he, F', ⟨h1, h2.inn hI⟩, h2⟩
theorem repS_dec {T : TypeId} {q : Nat} {w : World} {Fr D F : Nat → Prop} {r : Nat} {ok : Bool} {l : List (List UInt8)} {tail : List UInt8} {e : Ending} {w' : World} (hI : In F w) (hR : In Fr w) (h : DecS w Fr D F r q T ok l tail e w') : DecC (RepS T q) w Fr D F r ok l tail e w' := by
  refine ⟨fun ho => ?_, fun ho => h.2 ho⟩
  obtain ⟨he, Fr', cur, F', h1, h2, h3, h4⟩ := h.1 ho
  refine ⟨he, Fr', cur, F', h1, ⟨h2, fun k hk => ?_⟩, h3, h4⟩
  have := h3.chg.size
  rcases h3.new k (.inr hk) with (h | h) | h
  · have := hR k h; omega
  · have := hI k h; omega
  · exact h.2
theorem repS_chg {T : TypeId} {q : Nat} {w w' : World} {F G : Nat → Prop} {l : List (List UInt8)} (h : RepS T q w F l) (hc : Chg G w w') (hd : Disj F G) : RepS T q w' F l := ⟨h.1.chg hc hd, h.2.mono hc.size⟩
theorem repS_new (w : World) (o : Obj) (T : TypeId) (hT : T ≠ 5 ∧ T ≠ 188) : ∃ F, RepS T (w.heap.size + 1) ((w.alloc o).alloc (.cells #[.slice none 0 0, .slice none 0 0] T)) F [] ∧ ∀ k, F k → w.heap.size ≤ k := by
  have h := strCol_new (w.alloc o) T hT
  rw [World.size_alloc] at h
  exact ⟨_, ⟨h, fun k hk => by subst hk; simp⟩, fun k hk => by omega⟩
theorem two_below (w : World) (o o2 : Obj) : Below w.heap.size w ((w.alloc o).alloc o2) := ((Below.refl _ w).alloc (Nat.le_refl _) o).alloc (by simp) o2

/-! Kind 0 -/
theorem insAdd0 : MRow 90 "given.example/pub-clapboard/impl.add" [] (some (103, false)) := mRow_of (by kernel_rfl)
theorem insAt0 : MRow 90 "given.example/pub-clapboard/impl.at" [] (some (106, false)) := mRow_of (by kernel_rfl)
theorem insE0 : MRow 90 "Rows" [⟨90, 0, false⟩] none ∧ MRow 90 "EncodeColumn" [⟨90, 0, false⟩] none ∧ MRow 90 "DecodeColumn" [⟨90, 0, false⟩] none := ⟨mRow_of (by kernel_rfl), mRow_of (by kernel_rfl), mRow_of (by kernel_rfl)⟩
theorem insI0 : MRow 81 "Rows" [] (some (86, false)) ∧ MRow 81 "EncodeColumn" [] (some (84, false)) ∧ MRow 81 "DecodeColumn" [] (some (83, true)) := ⟨mRow_of (by kernel_rfl), mRow_of (by kernel_rfl), mRow_of (by kernel_rfl)⟩
theorem insO0 : Own 103 ∧ Own 106 ∧ Own 86 ∧ Own 84 ∧ Own 83 := ⟨fun _ _ => by kernel_rfl, fun _ _ => by kernel_rfl, fun _ _ => by kernel_rfl, fun _ _ => by kernel_rfl, fun _ _ => by kernel_rfl⟩
theorem insM0 (name : String) (hE : MRow 90 name [⟨90, 0, false⟩] none) (w : World) (q : Nat) (a b c : Value) : (method 383 90 (.agg #[.iface 81 (.pointer (some ⟨q, 0, none⟩)), a, b, c]) name).run Tryz.prog w = (method 382 81 (.pointer (some ⟨q, 0, none⟩)) name).run Tryz.prog w :=
  meth_emb 382 hE Tryz.underlying90 rfl rfl (fun _ => by kernel_rfl) _ _ _ rfl w
theorem insV0 (name : String) (f : FuncId) (hI : MRow 81 name [] (some (f, false))) (w : World) (q : Nat) (v u : Value) (h : w.heap[q]? = some (.cells #[v, u] 84 (0, 0))) : (method 382 81 (.pointer (some ⟨q, 0, none⟩)) name).run Tryz.prog w = .ok (f, .agg #[v, u]) w :=
  meth_val 381 hI Tryz.underlying81 _ w _ (load_twoT h Tryz.underlying84 (by kernel_rfl))
theorem insP0 (name : String) (f : FuncId) (hI : MRow 81 name [] (some (f, true))) (w : World) (q : Nat) : (method 382 81 (.pointer (some ⟨q, 0, none⟩)) name).run Tryz.prog w = .ok (f, .pointer (some ⟨q, 0, none⟩)) w :=
  meth_ptr 381 hI Tryz.underlying81 _ w
theorem makes0 (s : Int) : Makes (.agg #[.int .i64 0, .int .i64 s]) 90 colV0 (fun w => RepS 84 (w.heap.size + 1)) := fun w => (column0 w s).mono fun e w' ⟨he, hw⟩ => by
  subst hw
  exact ⟨he, two_below _ _ _, repS_new _ _ _ (by decide)⟩
theorem texts0 (W : World) : Texts 90 (colV0 W) encS (fun _ => True) (RepS 84 (W.heap.size + 1)) := by
  unfold colV0
  obtain ⟨oA, oT, oR, oE, oD⟩ := insO0
  obtain ⟨eR, eE, eD⟩ := insE0
  obtain ⟨iR, iE, iD⟩ := insI0
  refine ⟨fun h => h.2, repS_chg, ⟨_, fun w => ⟨oA, meth_own 382 insAdd0 Tryz.underlying90 (by intro e h; cases h) _ w⟩, fun w F l x s hC hx _ hs => ?_⟩, ⟨_, fun w => ⟨oT, meth_own 382 insAt0 Tryz.underlying90 (by intro e h; cases h) _ w⟩, fun w F l i s hC hi hs => ?_⟩, fun w F l hC hs => ?_, fun w F l Fb p bs hC hs hB hI hd hl => ?_, fun w Fr D F r l tail rest cur ok hR hC hF hrest hg hs hbig => ?_⟩
  · obtain ⟨h1, h2⟩ := hs
    simp only [List.flatten_append, List.length_append, List.flatten_cons, List.flatten_nil, List.length_nil, List.length_cons, Nat.add_zero, Nat.zero_add] at h1 h2
    exact (add0 w F _ l x s _ _ hx hC.1 hC.2 (by omega) (by omega)).mono fun e w' h => repS_put hC.2 h
  · have := row_small hi
    have := hs.1
    have := hs.2
    exact at0 w F _ l i s _ _ hC.1 hi (by omega) (by omega)
  · obtain ⟨v, u, hat, c0, c1, hlt, hV, hF⟩ := hC.1.view
    exact ⟨_, _, ⟨oR, by rw [insM0 "Rows" eR]; exact insV0 "Rows" _ iR w _ v u hat⟩, strRows w v u l hV⟩
  · obtain ⟨v, u, hat, c0, c1, hlt, hV, hF⟩ := hC.1.view
    have := encS_len l
    obtain ⟨h1, h2⟩ := hs
    exact ⟨_, _, ⟨oE, by rw [insM0 "EncodeColumn" eE]; exact insV0 "EncodeColumn" _ iE w _ v u hat⟩, strEncode w Fb p bs v u l hB hI hV (fun g hg => hd g (hF g (.inr (.inl hg)))) (fun g hg => hd g (hF g (.inr (.inr hg)))) (by omega) (by omega)⟩
  · have := encS_len l
    obtain ⟨h1, h2⟩ := hs
    exact ⟨_, _, ⟨oD, by rw [insM0 "DecodeColumn" eD]; exact insP0 "DecodeColumn" _ iD w _⟩, (strDecode w Fr D F r _ _ l tail rest cur ok hR (by unfold RestI; rw [List.drop_zero]; exact hrest) hC.1 hF hbig (by omega)).mono fun e w' h => repS_dec hC.2 (by obtain ⟨_, _, _, hx⟩ := hR; exact hx.inF) h⟩

/-! Kind 1 -/
theorem insAdd1 : MRow 97 "given.example/pub-clapboard/impl.add" [] (some (112, false)) := mRow_of (by kernel_rfl)
theorem insAt1 : MRow 97 "given.example/pub-clapboard/impl.at" [] (some (115, false)) := mRow_of (by kernel_rfl)
theorem insE1 : MRow 97 "Rows" [⟨97, 0, false⟩] none ∧ MRow 97 "EncodeColumn" [⟨97, 0, false⟩] none ∧ MRow 97 "DecodeColumn" [⟨97, 0, false⟩] none := ⟨mRow_of (by kernel_rfl), mRow_of (by kernel_rfl), mRow_of (by kernel_rfl)⟩
theorem insI1 : MRow 91 "Rows" [⟨93, 0, true⟩] (some (86, false)) ∧ MRow 91 "EncodeColumn" [⟨93, 0, true⟩] (some (84, false)) ∧ MRow 91 "DecodeColumn" [⟨93, 0, true⟩] (some (83, true)) := ⟨mRow_of (by kernel_rfl), mRow_of (by kernel_rfl), mRow_of (by kernel_rfl)⟩
theorem insO1 : Own 112 ∧ Own 115 ∧ Own 86 ∧ Own 84 ∧ Own 83 := ⟨fun _ _ => by kernel_rfl, fun _ _ => by kernel_rfl, fun _ _ => by kernel_rfl, fun _ _ => by kernel_rfl, fun _ _ => by kernel_rfl⟩
theorem insM1 (name : String) (hE : MRow 97 name [⟨97, 0, false⟩] none) (w : World) (q : Nat) (a b c : Value) : (method 383 97 (.agg #[.iface 91 (.pointer (some ⟨q, 0, none⟩)), a, b, c]) name).run Tryz.prog w = (method 382 91 (.pointer (some ⟨q, 0, none⟩)) name).run Tryz.prog w :=
  meth_emb 382 hE Tryz.underlying97 rfl rfl (fun _ => by kernel_rfl) _ _ _ rfl w
theorem insV1 (name : String) (f : FuncId) (hI : MRow 91 name [⟨93, 0, true⟩] (some (f, false))) (w : World) (q : Nat) (v u : Value) (h : w.heap[q]? = some (.cells #[v, u] 93 (0, 0))) : (method 382 91 (.pointer (some ⟨q, 0, none⟩)) name).run Tryz.prog w = .ok (f, .agg #[v, u]) w :=
  meth_in_val 381 hI Tryz.underlying93 rfl Tryz.underlying84 (by intro e h; cases h) _ (fun _ => by kernel_rfl) _ _ (load_twoT h Tryz.underlying84 (by kernel_rfl))
theorem insP1 (name : String) (f : FuncId) (hI : MRow 91 name [⟨93, 0, true⟩] (some (f, true))) (w : World) (q : Nat) : (method 382 91 (.pointer (some ⟨q, 0, none⟩)) name).run Tryz.prog w = .ok (f, .pointer (some ⟨q, 0, none⟩)) w :=
  meth_in_ptr 381 hI Tryz.underlying93 rfl Tryz.underlying84 (by intro e h; cases h) _ (fun _ => by kernel_rfl) _
theorem makes1 (s : Int) : Makes (.agg #[.int .i64 1, .int .i64 s]) 97 colV1 (fun w => RepS 93 (w.heap.size + 1)) := fun w => (column1 w s).mono fun e w' ⟨he, hw⟩ => by
  subst hw
  exact ⟨he, two_below _ _ _, repS_new _ _ _ (by decide)⟩
theorem texts1 (W : World) : Texts 97 (colV1 W) encS (fun _ => True) (RepS 93 (W.heap.size + 1)) := by
  unfold colV1
  obtain ⟨oA, oT, oR, oE, oD⟩ := insO1
  obtain ⟨eR, eE, eD⟩ := insE1
  obtain ⟨iR, iE, iD⟩ := insI1
  refine ⟨fun h => h.2, repS_chg, ⟨_, fun w => ⟨oA, meth_own 382 insAdd1 Tryz.underlying97 (by intro e h; cases h) _ w⟩, fun w F l x s hC hx _ hs => ?_⟩, ⟨_, fun w => ⟨oT, meth_own 382 insAt1 Tryz.underlying97 (by intro e h; cases h) _ w⟩, fun w F l i s hC hi hs => ?_⟩, fun w F l hC hs => ?_, fun w F l Fb p bs hC hs hB hI hd hl => ?_, fun w Fr D F r l tail rest cur ok hR hC hF hrest hg hs hbig => ?_⟩
  · obtain ⟨h1, h2⟩ := hs
    simp only [List.flatten_append, List.length_append, List.flatten_cons, List.flatten_nil, List.length_nil, List.length_cons, Nat.add_zero, Nat.zero_add] at h1 h2
    exact (add1 w F _ l x s _ _ hx hC.1 hC.2 (by omega) (by omega)).mono fun e w' h => repS_put hC.2 h
  · have := row_small hi
    have := hs.1
    have := hs.2
    exact at1 w F _ l i s _ _ hC.1 hi (by omega) (by omega)
  · obtain ⟨v, u, hat, c0, c1, hlt, hV, hF⟩ := hC.1.view
    exact ⟨_, _, ⟨oR, by rw [insM1 "Rows" eR]; exact insV1 "Rows" _ iR w _ v u hat⟩, strRows w v u l hV⟩
  · obtain ⟨v, u, hat, c0, c1, hlt, hV, hF⟩ := hC.1.view
    have := encS_len l
    obtain ⟨h1, h2⟩ := hs
    exact ⟨_, _, ⟨oE, by rw [insM1 "EncodeColumn" eE]; exact insV1 "EncodeColumn" _ iE w _ v u hat⟩, strEncode w Fb p bs v u l hB hI hV (fun g hg => hd g (hF g (.inr (.inl hg)))) (fun g hg => hd g (hF g (.inr (.inr hg)))) (by omega) (by omega)⟩
  · have := encS_len l
    obtain ⟨h1, h2⟩ := hs
    exact ⟨_, _, ⟨oD, by rw [insM1 "DecodeColumn" eD]; exact insP1 "DecodeColumn" _ iD w _⟩, (strDecode w Fr D F r _ _ l tail rest cur ok hR (by unfold RestI; rw [List.drop_zero]; exact hrest) hC.1 hF hbig (by omega)).mono fun e w' h => repS_dec hC.2 (by obtain ⟨_, _, _, hx⟩ := hR; exact hx.inF) h⟩

/-! Kind 2 -/
theorem insAdd2 : MRow 90 "given.example/pub-clapboard/impl.add" [] (some (103, false)) := mRow_of (by kernel_rfl)
theorem insAt2 : MRow 90 "given.example/pub-clapboard/impl.at" [] (some (106, false)) := mRow_of (by kernel_rfl)
theorem insE2 : MRow 90 "Rows" [⟨90, 0, false⟩] none ∧ MRow 90 "EncodeColumn" [⟨90, 0, false⟩] none ∧ MRow 90 "DecodeColumn" [⟨90, 0, false⟩] none := ⟨mRow_of (by kernel_rfl), mRow_of (by kernel_rfl), mRow_of (by kernel_rfl)⟩
theorem insI2 : MRow 98 "Rows" [] (some (122, false)) ∧ MRow 98 "EncodeColumn" [] (some (119, false)) ∧ MRow 98 "DecodeColumn" [] (some (118, true)) := ⟨mRow_of (by kernel_rfl), mRow_of (by kernel_rfl), mRow_of (by kernel_rfl)⟩
theorem insO2 : Own 103 ∧ Own 106 ∧ Own 122 ∧ Own 119 ∧ Own 118 := ⟨fun _ _ => by kernel_rfl, fun _ _ => by kernel_rfl, fun _ _ => by kernel_rfl, fun _ _ => by kernel_rfl, fun _ _ => by kernel_rfl⟩
theorem insM2 (name : String) (hE : MRow 90 name [⟨90, 0, false⟩] none) (w : World) (q : Nat) (a b c : Value) : (method 383 90 (.agg #[.iface 98 (.pointer (some ⟨q, 0, none⟩)), a, b, c]) name).run Tryz.prog w = (method 382 98 (.pointer (some ⟨q, 0, none⟩)) name).run Tryz.prog w :=
  meth_emb 382 hE Tryz.underlying90 rfl rfl (fun _ => by kernel_rfl) _ _ _ rfl w
theorem insV2 (name : String) (f : FuncId) (hI : MRow 98 name [] (some (f, false))) (w : World) (q : Nat) (v u : Value) (h : w.heap[q]? = some (.cells #[v, u] 100 (0, 0))) : (method 382 98 (.pointer (some ⟨q, 0, none⟩)) name).run Tryz.prog w = .ok (f, .agg #[v, u]) w :=
  meth_val 381 hI Tryz.underlying98 _ w _ (load_twoT h Tryz.underlying100 (by kernel_rfl))
theorem insP2 (name : String) (f : FuncId) (hI : MRow 98 name [] (some (f, true))) (w : World) (q : Nat) : (method 382 98 (.pointer (some ⟨q, 0, none⟩)) name).run Tryz.prog w = .ok (f, .pointer (some ⟨q, 0, none⟩)) w :=
  meth_ptr 381 hI Tryz.underlying98 _ w
theorem makes2 (s : Int) : Makes (.agg #[.int .i64 2, .int .i64 s]) 90 colV2 (fun w => RepS 100 (w.heap.size + 1)) := fun w => (column2 w s).mono fun e w' ⟨he, hw⟩ => by
  subst hw
  exact ⟨he, two_below _ _ _, repS_new _ _ _ (by decide)⟩
theorem texts2 (W : World) : Texts 90 (colV2 W) encS (fun _ => True) (RepS 100 (W.heap.size + 1)) := by
  unfold colV2
  obtain ⟨oA, oT, oR, oE, oD⟩ := insO2
  obtain ⟨eR, eE, eD⟩ := insE2
  obtain ⟨iR, iE, iD⟩ := insI2
  refine ⟨fun h => h.2, repS_chg, ⟨_, fun w => ⟨oA, meth_own 382 insAdd2 Tryz.underlying90 (by intro e h; cases h) _ w⟩, fun w F l x s hC hx _ hs => ?_⟩, ⟨_, fun w => ⟨oT, meth_own 382 insAt2 Tryz.underlying90 (by intro e h; cases h) _ w⟩, fun w F l i s hC hi hs => ?_⟩, fun w F l hC hs => ?_, fun w F l Fb p bs hC hs hB hI hd hl => ?_, fun w Fr D F r l tail rest cur ok hR hC hF hrest hg hs hbig => ?_⟩
  · obtain ⟨h1, h2⟩ := hs
    simp only [List.flatten_append, List.length_append, List.flatten_cons, List.flatten_nil, List.length_nil, List.length_cons, Nat.add_zero, Nat.zero_add] at h1 h2
    exact (add2 w F _ l x s _ _ hx hC.1 hC.2 (by omega) (by omega)).mono fun e w' h => repS_put hC.2 h
  · have := row_small hi
    have := hs.1
    have := hs.2
    exact at2 w F _ l i s _ _ hC.1 hi (by omega) (by omega)
  · obtain ⟨v, u, hat, c0, c1, hlt, hV, hF⟩ := hC.1.view
    exact ⟨_, _, ⟨oR, by rw [insM2 "Rows" eR]; exact insV2 "Rows" _ iR w _ v u hat⟩, jsonRows w v u l hV⟩
  · obtain ⟨v, u, hat, c0, c1, hlt, hV, hF⟩ := hC.1.view
    have := encS_len l
    obtain ⟨h1, h2⟩ := hs
    exact ⟨_, _, ⟨oE, by rw [insM2 "EncodeColumn" eE]; exact insV2 "EncodeColumn" _ iE w _ v u hat⟩, jsonEncode w Fb p bs v u l hB hI hV (fun g hg => hd g (hF g (.inr (.inl hg)))) (fun g hg => hd g (hF g (.inr (.inr hg)))) (by omega) (by omega)⟩
  · have := encS_len l
    obtain ⟨h1, h2⟩ := hs
    exact ⟨_, _, ⟨oD, by rw [insM2 "DecodeColumn" eD]; exact insP2 "DecodeColumn" _ iD w _⟩, (jsonDecode w Fr D F r _ _ l tail rest cur ok hR (by unfold RestI; rw [List.drop_zero]; exact hrest) hC.1 hF hbig (by omega)).mono fun e w' h => repS_dec hC.2 (by obtain ⟨_, _, _, hx⟩ := hR; exact hx.inF) h⟩

/-! Kind 3 -/
theorem insAdd3 : MRow 97 "given.example/pub-clapboard/impl.add" [] (some (112, false)) := mRow_of (by kernel_rfl)
theorem insAt3 : MRow 97 "given.example/pub-clapboard/impl.at" [] (some (115, false)) := mRow_of (by kernel_rfl)
theorem insE3 : MRow 97 "Rows" [⟨97, 0, false⟩] none ∧ MRow 97 "EncodeColumn" [⟨97, 0, false⟩] none ∧ MRow 97 "DecodeColumn" [⟨97, 0, false⟩] none := ⟨mRow_of (by kernel_rfl), mRow_of (by kernel_rfl), mRow_of (by kernel_rfl)⟩
theorem insI3 : MRow 101 "Rows" [⟨103, 0, true⟩] (some (122, false)) ∧ MRow 101 "EncodeColumn" [⟨103, 0, true⟩] (some (119, false)) ∧ MRow 101 "DecodeColumn" [⟨103, 0, true⟩] (some (118, true)) := ⟨mRow_of (by kernel_rfl), mRow_of (by kernel_rfl), mRow_of (by kernel_rfl)⟩
theorem insO3 : Own 112 ∧ Own 115 ∧ Own 122 ∧ Own 119 ∧ Own 118 := ⟨fun _ _ => by kernel_rfl, fun _ _ => by kernel_rfl, fun _ _ => by kernel_rfl, fun _ _ => by kernel_rfl, fun _ _ => by kernel_rfl⟩
theorem insM3 (name : String) (hE : MRow 97 name [⟨97, 0, false⟩] none) (w : World) (q : Nat) (a b c : Value) : (method 383 97 (.agg #[.iface 101 (.pointer (some ⟨q, 0, none⟩)), a, b, c]) name).run Tryz.prog w = (method 382 101 (.pointer (some ⟨q, 0, none⟩)) name).run Tryz.prog w :=
  meth_emb 382 hE Tryz.underlying97 rfl rfl (fun _ => by kernel_rfl) _ _ _ rfl w
theorem insV3 (name : String) (f : FuncId) (hI : MRow 101 name [⟨103, 0, true⟩] (some (f, false))) (w : World) (q : Nat) (v u : Value) (h : w.heap[q]? = some (.cells #[v, u] 103 (0, 0))) : (method 382 101 (.pointer (some ⟨q, 0, none⟩)) name).run Tryz.prog w = .ok (f, .agg #[v, u]) w :=
  meth_in_val 381 hI Tryz.underlying103 rfl Tryz.underlying100 (by intro e h; cases h) _ (fun _ => by kernel_rfl) _ _ (load_twoT h Tryz.underlying100 (by kernel_rfl))
theorem insP3 (name : String) (f : FuncId) (hI : MRow 101 name [⟨103, 0, true⟩] (some (f, true))) (w : World) (q : Nat) : (method 382 101 (.pointer (some ⟨q, 0, none⟩)) name).run Tryz.prog w = .ok (f, .pointer (some ⟨q, 0, none⟩)) w :=
  meth_in_ptr 381 hI Tryz.underlying103 rfl Tryz.underlying100 (by intro e h; cases h) _ (fun _ => by kernel_rfl) _
theorem makes3 (s : Int) : Makes (.agg #[.int .i64 3, .int .i64 s]) 97 colV3 (fun w => RepS 103 (w.heap.size + 1)) := fun w => (column3 w s).mono fun e w' ⟨he, hw⟩ => by
  subst hw
  exact ⟨he, two_below _ _ _, repS_new _ _ _ (by decide)⟩
theorem texts3 (W : World) : Texts 97 (colV3 W) encS (fun _ => True) (RepS 103 (W.heap.size + 1)) := by
  unfold colV3
  obtain ⟨oA, oT, oR, oE, oD⟩ := insO3
  obtain ⟨eR, eE, eD⟩ := insE3
  obtain ⟨iR, iE, iD⟩ := insI3
  refine ⟨fun h => h.2, repS_chg, ⟨_, fun w => ⟨oA, meth_own 382 insAdd3 Tryz.underlying97 (by intro e h; cases h) _ w⟩, fun w F l x s hC hx _ hs => ?_⟩, ⟨_, fun w => ⟨oT, meth_own 382 insAt3 Tryz.underlying97 (by intro e h; cases h) _ w⟩, fun w F l i s hC hi hs => ?_⟩, fun w F l hC hs => ?_, fun w F l Fb p bs hC hs hB hI hd hl => ?_, fun w Fr D F r l tail rest cur ok hR hC hF hrest hg hs hbig => ?_⟩
  · obtain ⟨h1, h2⟩ := hs
    simp only [List.flatten_append, List.length_append, List.flatten_cons, List.flatten_nil, List.length_nil, List.length_cons, Nat.add_zero, Nat.zero_add] at h1 h2
    exact (add3 w F _ l x s _ _ hx hC.1 hC.2 (by omega) (by omega)).mono fun e w' h => repS_put hC.2 h
  · have := row_small hi
    have := hs.1
    have := hs.2
    exact at3 w F _ l i s _ _ hC.1 hi (by omega) (by omega)
  · obtain ⟨v, u, hat, c0, c1, hlt, hV, hF⟩ := hC.1.view
    exact ⟨_, _, ⟨oR, by rw [insM3 "Rows" eR]; exact insV3 "Rows" _ iR w _ v u hat⟩, jsonRows w v u l hV⟩
  · obtain ⟨v, u, hat, c0, c1, hlt, hV, hF⟩ := hC.1.view
    have := encS_len l
    obtain ⟨h1, h2⟩ := hs
    exact ⟨_, _, ⟨oE, by rw [insM3 "EncodeColumn" eE]; exact insV3 "EncodeColumn" _ iE w _ v u hat⟩, jsonEncode w Fb p bs v u l hB hI hV (fun g hg => hd g (hF g (.inr (.inl hg)))) (fun g hg => hd g (hF g (.inr (.inr hg)))) (by omega) (by omega)⟩
  · have := encS_len l
    obtain ⟨h1, h2⟩ := hs
    exact ⟨_, _, ⟨oD, by rw [insM3 "DecodeColumn" eD]; exact insP3 "DecodeColumn" _ iD w _⟩, (jsonDecode w Fr D F r _ _ l tail rest cur ok hR (by unfold RestI; rw [List.drop_zero]; exact hrest) hC.1 hF hbig (by omega)).mono fun e w' h => repS_dec hC.2 (by obtain ⟨_, _, _, hx⟩ := hR; exact hx.inF) h⟩
end Go.Proofs.YtkidcgaogjlpaaaGreat
