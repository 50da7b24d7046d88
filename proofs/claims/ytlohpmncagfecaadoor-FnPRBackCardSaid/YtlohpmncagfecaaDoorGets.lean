/- impl.Prim.get of the other kinds; impl.PRGet: a Reader is asked for values, one after the other. -/
import Derived.Test.YtlohpmncagfecaaDoorGet
import Derived.Test.YtlohpmncagfecaaDoorOwnR
namespace Go.Proofs.YtlohpmncagfecaaDoor
open Go.RowKit
set_option linter.unnecessarySimpa false
set_option linter.unusedVariables false
set_option linter.unusedSimpArgs false

theorem res4 {w : World} {b : Nat} {T : TypeId} (h : w.heap[b]? = some (.cells #[.int .u64 0, .int .u64 0, .slice none 0 0, .bool false] T (0, 0))) (a0 a1 a2 a3 : Value) (w5 : World)
    (he : w5 = ((((w.setCell ⟨b, 0, none⟩ a0).setCell ⟨b, 1, none⟩ a1).setCell ⟨b, 2, none⟩ a2).setCell ⟨b, 3, none⟩ a3)) :
    w5.cell? ⟨b, 0, none⟩ = some a0 ∧ w5.cell? ⟨b, 1, none⟩ = some a1 ∧ w5.cell? ⟨b, 2, none⟩ = some a2 ∧ w5.cell? ⟨b, 3, none⟩ = some a3 := by
  subst he
  have h4 : w.heap[b]? = some (.cells ([.int .u64 0, .int .u64 0, .slice none 0 0, .bool false] : List Value).toArray T (0, 0)) := h
  exact (row4 (row_set (row_set (row_set (row_set h4 0 a0) 1 a1) 2 a2) 3 a3)).1

theorem W3.copy {w w1 : World} {F : Nat → Prop} (x : Pr) (q : Option Addr) (cq : Nat) : RowIs (W3 w x q cq) w.heap.size [.int .i64 x.op, .int .u64 (x.u : Nat), .int .u64 (x.v : Nat), .slice q x.s.length cq] := by
  have h := rowIs_new w [.int .i64 x.op, .int .u64 (x.u : Nat), .int .u64 (x.v : Nat), .slice q x.s.length cq] 28
  exact (h.below ((Below.refl _ _).alloc (Nat.le_refl _) _)).below ((Below.refl _ _).alloc (Nat.le_refl _) _)

set_option maxRecDepth 100000 in
theorem getMore (x : Pr) (bs rest : List UInt8) (g : Gt) (h11 : 11 ≤ x.op) (h22 : x.op ≤ 22) (h : AskOk 60 x bs g rest) : AskOk 28 x bs g rest := by
  intro w F D r cur sv hr hs hsv hl
  obtain ⟨q, cq, rfl⟩ := hs.slice
  have hb3 := (W3.below w x q cq).1
  have hsz := (W3.below w x q cq).2
  obtain ⟨b0, v0, hbr, hx0⟩ := id hr
  have HM := Lib.hid (h (W3 w x q cq) F D r cur _ (hr.below hb3) (hs.below hb3) (fun hn k hk => ⟨by have := (hsv hn k hk).1; omega, (hsv hn k hk).2⟩) hl)
  have hF : ∀ k, w.heap.size ≤ k → ¬ F k := fun k hk e => by have := hx0.inF k e; omega
  have hres0 := (W3.res hr (W3.rs hr x q cq)).1
  have hU3 : Upd w (W3 w x q cq) F F := (Upd.refl F w).below hb3
  have hresD : ¬ D (w.heap.size + 1) := fun e => by have := hx0.inD _ e; omega
  have HA := Lib.hid (And.intro hb3 (And.intro hsz (And.intro hF (And.intro hres0 (And.intro hU3 hresD)))))
  unfold askV at HM ⊢
  clear hr hs hsv hb3 hsz hbr hx0 hF hres0 hU3 hresD h
  go_enter Tryd.func28, Tryd.ntmps28
  go_wp2_with fail
  refine HM.out.mono ?_
  rintro e w1 ⟨sv1, F1, cur1, rfl, hs1, hsv1, hr1, hu1⟩
  obtain ⟨hb3, hsz, hF, hres0, hU3, hresD⟩ := HA.out
  have hnr : ¬ F1 (w.heap.size + 1) := fun e => by
    rcases hu1.new _ e with h1 | h1
    · exact hF _ (by omega) h1
    · omega
  have hres1 : w1.heap[w.heap.size + 1]? = some (.cells #[.int .u64 0, .int .u64 0, .slice none 0 0, .bool false] 40 (0, 0)) := by
    rw [hu1.chg.block _ (by omega) (hF _ (by omega))]; exact hres0
  obtain ⟨⟨e0, e1, e2, e3⟩, f0, f1, f2, f3⟩ := row4 hres1
  have HE := Lib.hid (And.intro hs1 (And.intro hsv1 (And.intro hr1 (And.intro hu1 (And.intro hnr hres1)))))
  obtain ⟨p1, c1, rfl⟩ := hs1.slice
  clear hs1 hsv1 hr1 hu1 hnr hres1 hb3 hsz hF hres0 hU3 hresD
  go_wp2_with fail
  refine bodyPost_ret (v := .agg #[.int .u64 (g.u : Nat), .int .u64 (g.v : Nat), .slice p1 g.s.length c1, .bool g.err]) (by obtain ⟨g0, g1, g2, g3⟩ := res4 HE.out.2.2.2.2.2 (.int .u64 (g.u : Nat)) (.int .u64 (g.v : Nat)) (.slice p1 g.s.length c1) (.bool g.err) _ rfl; simp [results, Tryd.results28, go_sem, g0, g1, g2, g3]) rfl ?_
  obtain ⟨hs1, hsv1, hr1, hu1, hnr, hres1⟩ := HE.out
  obtain ⟨hb3, hsz, hF, hres0, hU3, hresD⟩ := HA.out
  obtain ⟨W5, hW5⟩ : ∃ W5 : World, W5 = ((((w1.setCell ⟨w.heap.size + 1, 0, none⟩ (.int .u64 (g.u : Nat))).setCell ⟨w.heap.size + 1, 1, none⟩ (.int .u64 (g.v : Nat))).setCell ⟨w.heap.size + 1, 2, none⟩ (.slice p1 g.s.length c1)).setCell ⟨w.heap.size + 1, 3, none⟩ (.bool g.err)) := ⟨_, rfl⟩
  have hC : Chg (· = w.heap.size + 1) w1 W5 := by rw [hW5]; exact (((((Chg.refl (· = w.heap.size + 1) w1).setCell (.inl rfl) _).setCell (.inl rfl) _).setCell (.inl rfl) _).setCell (.inl rfl) _)
  rw [← hW5]
  have hsz5 := hC.size
  have hsz1 := hu1.chg.size
  have hne : ∀ k, (Value.slice p1 g.s.length c1).ownBlock = some k → w.heap.size + 3 ≤ k ∧ k < w1.heap.size ∧ ¬ F1 k := fun k hk => by have := hsv1 k hk; exact ⟨by omega, this.2.1, this.2.2⟩
  refine ⟨_, F1, cur1, rfl, hs1.keep fun k hk => hC.block k (hne k hk).2.1 (by have := hne k hk; omega), fun k hk => ⟨by have := hne k hk; omega, by have := hne k hk; omega, (hne k hk).2.2⟩, hr1.upd hC (fun k hk e => hnr (e ▸ hk)) (fun k hk e => hresD (e ▸ hk)), ?_⟩
  have hU1 : Upd w w1 F F1 := hU3.trans hu1
  exact ⟨hU1.chg.trans hC fun i hi e => by omega, hU1.new_grow hsz5⟩

def errG : Gt := ⟨0, 0, [], true⟩

/-- What asking for values gives, of bytes. -/
inductive Run : List Pr → List UInt8 → List Gt → Prop
  | nil (bs : List UInt8) : Run [] bs []
  | ok (x : Pr) (xs : List Pr) (bs rest : List UInt8) (g : Gt) (gs : List Gt) : g.err = false → AskOk 28 x bs g rest → rest.length ≤ bs.length → Run xs rest gs → Run (x :: xs) bs (g :: gs)
  | bad (x : Pr) (xs : List Pr) (bs : List UInt8) : AskBad 28 x bs → Run (x :: xs) bs (errG :: xs.map fun _ => errG)

def gtCells (g : Gt) (sv : Value) : List Value := [.int .u64 (g.u : Nat), .int .u64 (g.v : Nat), sv, .bool g.err]

/-- A list of what was read: the slice owns it; the strings lie beside. -/
def Outs (B : Nat) (w : World) (Fo F : Nat → Prop) (v : Value) (gs : List Gt) : Prop :=
  ∃ svs : List Value, svs.length = gs.length ∧ OwnR w Fo 40 4 v gs.length (List.zipWith gtCells gs svs).flatten ∧
    (∀ (i : Nat) (g : Gt) (sv : Value), gs[i]? = some g → svs[i]? = some sv → BytesAt w sv g.s ∧ ∀ k, sv.ownBlock = some k → B ≤ k ∧ k < w.heap.size ∧ ¬ F k ∧ ¬ Fo k) ∧ (∀ k, Fo k → B ≤ k ∧ k < w.heap.size ∧ ¬ F k)

theorem Outs.start (B : Nat) (w : World) (F : Nat → Prop) : Outs B w (fun _ => False) F (.slice none 0 0) [] :=
  ⟨[], rfl, OwnR.nil _ _ _ _, fun i g sv h => by simp at h, fun k h => h.elim⟩

theorem Outs.upd {B : Nat} {w w' : World} {Fo F F' : Nat → Prop} {v : Value} {gs : List Gt} (h : Outs B w Fo F v gs) (hu : Upd w w' F F') : Outs B w' Fo F' v gs := by
  obtain ⟨svs, h1, h2, h3, h4⟩ := h
  have hsz := hu.chg.size
  have hnew : ∀ k, k < w.heap.size → ¬ F k → ¬ F' k := fun k hk hn e => by
    rcases hu.new k e with h | h
    · exact hn h
    · omega
  refine ⟨svs, h1, h2.upd hu.chg fun k hk e => (h4 k hk).2.2 e, fun i g sv hg hs => ?_, fun k hk => ⟨(h4 k hk).1, by have := (h4 k hk).2.1; omega, hnew k (h4 k hk).2.1 (h4 k hk).2.2⟩⟩
  obtain ⟨hb, hk⟩ := h3 i g sv hg hs
  exact ⟨hb.keep fun k hkk => hu.chg.block k (hk k hkk).2.1 (hk k hkk).2.2.1, fun k hkk => ⟨(hk k hkk).1, by have := (hk k hkk).2.1; omega, hnew k (hk k hkk).2.1 (hk k hkk).2.2.1, (hk k hkk).2.2.2⟩⟩

theorem Outs.slice {B : Nat} {w : World} {Fo F : Nat → Prop} {v : Value} {gs : List Gt} (h : Outs B w Fo F v gs) : ∃ p c, v = .slice p gs.length c := by
  obtain ⟨svs, h1, h2, h3, h4⟩ := h
  exact h2.slice

/-- Behind an append. -/
theorem Outs.push {B : Nat} {w w' : World} {Fo Fo' F : Nat → Prop} {v v' sv : Value} {gs : List Gt} {g : Gt} (h : Outs B w Fo F v gs) (hs : BytesAt w sv g.s) (hsv : ∀ k, sv.ownBlock = some k → B ≤ k ∧ k < w.heap.size ∧ ¬ F k ∧ ¬ Fo k) (hB : B ≤ w.heap.size) (hF : ∀ k, F k → k < w.heap.size)
    (svs : List Value) (hl : svs.length = gs.length) (hold : ∀ (i : Nat) (g : Gt) (sv : Value), gs[i]? = some g → svs[i]? = some sv → BytesAt w sv g.s ∧ ∀ k, sv.ownBlock = some k → B ≤ k ∧ k < w.heap.size ∧ ¬ F k ∧ ¬ Fo k)
    (hown : OwnR w' Fo' 40 4 v' (gs.length + 1) ((List.zipWith gtCells gs svs).flatten ++ gtCells g sv)) (hu : Upd w w' Fo Fo') : Outs B w' Fo' F v' (gs ++ [g]) := by
  obtain ⟨-, -, -, -, h4⟩ := h
  have hsz := hu.chg.size
  have hnew : ∀ k, k < w.heap.size → ¬ Fo k → ¬ Fo' k := fun k hk hn e => by
    rcases hu.new k e with h | h
    · exact hn h
    · omega
  have hkeep : ∀ (u : Value) (bs : List UInt8), BytesAt w u bs → (∀ k, u.ownBlock = some k → B ≤ k ∧ k < w.heap.size ∧ ¬ F k ∧ ¬ Fo k) → BytesAt w' u bs ∧ ∀ k, u.ownBlock = some k → B ≤ k ∧ k < w'.heap.size ∧ ¬ F k ∧ ¬ Fo' k := fun u bs hb hk =>
    ⟨hb.keep fun k hkk => hu.chg.block k (hk k hkk).2.1 (hk k hkk).2.2.2, fun k hkk => ⟨(hk k hkk).1, by have := (hk k hkk).2.1; omega, (hk k hkk).2.2.1, hnew k (hk k hkk).2.1 (hk k hkk).2.2.2⟩⟩
  refine ⟨svs ++ [sv], by simp [hl], ?_, fun i g' sv' hg hs' => ?_, fun k hk => ?_⟩
  · rw [List.zipWith_append hl.symm]
    simpa using hown
  · by_cases hi : i < gs.length
    · rw [List.getElem?_append_left hi] at hg
      rw [List.getElem?_append_left (by omega)] at hs'
      obtain ⟨hb, hk⟩ := hold i g' sv' hg hs'
      exact hkeep sv' g'.s hb hk
    · have hi' : i = gs.length := by
        have := (List.getElem?_eq_some_iff.1 hg).1
        simp at this; omega
      subst hi'
      simp at hg
      rw [← hl] at hs'
      simp at hs'
      subst hg hs'
      exact hkeep sv g.s hs hsv
  · rcases hu.new k hk with h1 | h1
    · exact ⟨(h4 k h1).1, by have := (h4 k h1).2.1; omega, (h4 k h1).2.2⟩
    · exact ⟨by omega, h1.2, fun e => by have := hF k e; omega⟩

theorem elemGot : Elem 35 40 4 48 := elem_of (z := .agg #[.int .u64 0, .int .u64 0, .slice none 0 0, .bool false]) Tryd.underlying35 (by kernel_rfl) rfl (by decide)
end Go.Proofs.YtlohpmncagfecaaDoor
