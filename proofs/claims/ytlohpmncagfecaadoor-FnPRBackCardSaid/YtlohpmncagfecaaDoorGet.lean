/- impl.Prim.get: asking a Reader for a value. -/
import Derived.Test.YtlohpmncagfecaaDoorPrims
namespace Go.Proofs.YtlohpmncagfecaaDoor
open Go.RowKit
set_option linter.unnecessarySimpa false
set_option linter.unusedVariables false
set_option linter.unusedSimpArgs false

/-- What was read. -/
structure Gt where
  u : Nat
  v : Nat
  s : List UInt8
  err : Bool

/-- What get leaves that reads a value. -/
def GetOk (w : World) (F D : Nat → Prop) (r : Nat) (g : Gt) (rest : List UInt8) (e : Ending) (w' : World) : Prop :=
  ∃ sv F' cur, e = .returned (.agg #[.int .u64 (g.u : Nat), .int .u64 (g.v : Nat), sv, .bool g.err]) ∧ BytesAt w' sv g.s ∧ (∀ k, sv.ownBlock = some k → w.heap.size ≤ k ∧ k < w'.heap.size ∧ ¬ F' k) ∧ RdAt w' F' D r rest cur ∧ Upd w w' F F'

/-- What get leaves that reads none. -/
def GetBad (w : World) (F : Nat → Prop) (e : Ending) (w' : World) : Prop :=
  e = .returned (.agg #[.int .u64 0, .int .u64 0, .slice none 0 0, .bool true]) ∧ ∃ F', Upd w w' F F'

def askV (x : Pr) (sv : Value) : Value := .agg #[.int .i64 x.op, .int .u64 (x.u : Nat), .int .u64 (x.v : Nat), sv]

/-- Asked for x the Reader that has bs ahead gives g, and has rest ahead then. -/
def AskOk (f : FuncId) (x : Pr) (bs : List UInt8) (g : Gt) (rest : List UInt8) : Prop :=
  ∀ w F D r cur sv, RdAt w F D r bs cur → BytesX w sv x.s → (x.s ≠ [] → ∀ k, sv.ownBlock = some k → k < w.heap.size ∧ ¬ F k) → bs.length ≤ 100000 → Calls Tryd.prog f #[askV x sv, .pointer (some ⟨r, 0, none⟩)] w (GetOk w F D r g rest)
def AskBad (f : FuncId) (x : Pr) (bs : List UInt8) : Prop :=
  ∀ w F D r cur sv, RdAt w F D r bs cur → BytesX w sv x.s → (x.s ≠ [] → ∀ k, sv.ownBlock = some k → k < w.heap.size ∧ ¬ F k) → bs.length ≤ 100000 → Calls Tryd.prog f #[askV x sv, .pointer (some ⟨r, 0, none⟩)] w (GetBad w F)

theorem RS.below {w0 w w' : World} {F0 F D : Nat → Prop} {r q : Nat} {T : TypeId} {row : List Value} {rest : List UInt8} (h : RS w0 F0 w F D r q T row rest) (hb : Below w.heap.size w w') : RS w0 F0 w' F D r q T row rest := by
  obtain ⟨cur, hr⟩ := h.rd
  have hql : q < w.heap.size := (Array.getElem?_eq_some_iff.1 h.row).1
  exact ⟨⟨cur, hr.below hb⟩, by rw [hb.block q hql]; exact h.row, h.notF, h.notD, h.chg.trans (Chg.of_below (F := fun k => F0 k ∨ k = q) hb) fun _ _ h => h, h.new⟩

/-- The world of more, and of get: a copy of the value, the result's cells, out's cells. -/
def W3 (w : World) (x : Pr) (q : Option Addr) (cq : Nat) : World :=
  ((w.alloc (.cells #[.int .i64 x.op, .int .u64 (x.u : Nat), .int .u64 (x.v : Nat), .slice q x.s.length cq] 28)).alloc (.cells #[.int .u64 0, .int .u64 0, .slice none 0 0, .bool false] 40)).alloc (.cells #[.int .u64 0, .int .u64 0, .slice none 0 0, .bool false] 40)

theorem W3.below (w : World) (x : Pr) (q : Option Addr) (cq : Nat) : Below w.heap.size w (W3 w x q cq) ∧ (W3 w x q cq).heap.size = w.heap.size + 3 :=
  ⟨(((Below.refl _ w).alloc (Nat.le_refl _) _).alloc (by simp) _).alloc (by simp; omega) _, by simp [W3]⟩

theorem W3.rs {w : World} {F D : Nat → Prop} {r : Nat} {bs cur : List UInt8} (h : RdAt w F D r bs cur) (x : Pr) (q : Option Addr) (cq : Nat) :
    RS (W3 w x q cq) F (W3 w x q cq) F D r (w.heap.size + 1 + 1) 40 [.int .u64 0, .int .u64 0, .slice none 0 0, .bool false] bs := by
  obtain ⟨b, v, hbr, hx⟩ := id h
  refine ⟨⟨cur, h.below (W3.below w x q cq).1⟩, ?_, fun hk => by have := hx.inF _ hk; omega, fun hk => by have := hx.inD _ hk; omega, Chg.refl _ _, fun _ h => .inl h⟩
  have := heap_alloc_new ((w.alloc (.cells #[.int .i64 x.op, .int .u64 (x.u : Nat), .int .u64 (x.v : Nat), .slice q x.s.length cq] 28)).alloc (.cells #[.int .u64 0, .int .u64 0, .slice none 0 0, .bool false] 40)) (.cells #[.int .u64 0, .int .u64 0, .slice none 0 0, .bool false] 40)
  simpa [W3] using this

/-- The result's cells are as they were made. -/
theorem W3.res {w w1 : World} {F F1 D : Nat → Prop} {r : Nat} {row : List Value} {bs rest cur : List UInt8} (h : RdAt w F D r bs cur) {x : Pr} {q : Option Addr} {cq : Nat} (h1 : RS (W3 w x q cq) F w1 F1 D r (w.heap.size + 1 + 1) 40 row rest) :
    w1.heap[w.heap.size + 1]? = some (.cells #[.int .u64 0, .int .u64 0, .slice none 0 0, .bool false] 40 (0, 0)) ∧ ¬ F1 (w.heap.size + 1) := by
  obtain ⟨b, v, hbr, hx⟩ := id h
  have hF : ∀ k, w.heap.size ≤ k → ¬ F k := fun k hk e => by have := hx.inF k e; omega
  constructor
  · rw [h1.chg.block _ (by rw [(W3.below w x q cq).2]; omega) (fun e => by rcases e with e | e; exact hF _ (by omega) e; omega)]
    unfold W3
    rw [Below.heap_alloc _ _ _ (by simp)]
    have := heap_alloc_new (w.alloc (.cells #[.int .i64 x.op, .int .u64 (x.u : Nat), .int .u64 (x.v : Nat), .slice q x.s.length cq] 28)) (.cells #[.int .u64 0, .int .u64 0, .slice none 0 0, .bool false] 40)
    simpa using this
  · intro e
    rcases h1.new _ e with h2 | h2
    · exact hF _ (by omega) h2
    · rw [(W3.below w x q cq).2] at h2; omega

theorem row4 {w : World} {b : Nat} {a0 a1 a2 a3 : Value} {T : TypeId} (h : w.heap[b]? = some (.cells #[a0, a1, a2, a3] T (0, 0))) :
    (w.cell? ⟨b, 0, none⟩ = some a0 ∧ w.cell? ⟨b, 1, none⟩ = some a1 ∧ w.cell? ⟨b, 2, none⟩ = some a2 ∧ w.cell? ⟨b, 3, none⟩ = some a3) ∧ w.frozen? ⟨b, 0, none⟩ = false ∧ w.frozen? ⟨b, 1, none⟩ = false ∧ w.frozen? ⟨b, 2, none⟩ = false ∧ w.frozen? ⟨b, 3, none⟩ = false := by
  simp [World.cell?, World.frozen?, h]

theorem get_fin {w w4 w5 : World} {F F1 D : Nat → Prop} {r : Nat} {row : List Value} {bs rest cur S : List UInt8} {x : Pr} {q : Option Addr} {cq U V : Nat} {sv : Value} (h : RdAt w F D r bs cur)
    (rs : RS (W3 w x q cq) F w4 F1 D r (w.heap.size + 1 + 1) 40 row rest) (hs : BytesAt w4 sv S) (hsv : ∀ k, sv.ownBlock = some k → w.heap.size ≤ k ∧ k < w4.heap.size ∧ ¬ F1 k ∧ k ≠ w.heap.size + 1) (hc : Chg (· = w.heap.size + 1) w4 w5) :
    GetOk w F D r ⟨U, V, S, false⟩ rest (.returned (.agg #[.int .u64 (U : Nat), .int .u64 (V : Nat), sv, .bool false])) w5 := by
  obtain ⟨hres, hnr⟩ := W3.res h rs
  obtain ⟨b0, v0, hbr, hx⟩ := id h
  have hnD : ¬ D (w.heap.size + 1) := fun e => by have := hx.inD _ e; omega
  obtain ⟨cur1, hrd⟩ := rs.rd
  have hrd5 := hrd.upd hc (fun k hk e => hnr (e ▸ hk)) (fun k hk e => hnD (e ▸ hk))
  have hsz := hc.size
  have hsz4 := rs.chg.size
  have hsz3 := (W3.below w x q cq).2
  have hC : Chg F w w5 := by
    have h1 : Chg F w w4 := (Chg.of_below (F := F) (W3.below w x q cq).1).trans rs.chg fun i hi e => by rcases e with e | e; exact e; omega
    exact h1.trans hc fun i hi e => by omega
  refine ⟨sv, F1, cur1, rfl, hs.keep fun g hg => hc.block g (hsv g hg).2.1 (hsv g hg).2.2.2, fun k hk => ⟨(hsv k hk).1, by have := (hsv k hk).2.1; omega, (hsv k hk).2.2.1⟩, hrd5, hC, fun k hk => ?_⟩
  obtain ⟨b1, v1, -, hx1⟩ := hrd5
  rcases rs.new k hk with h1 | h1
  · exact .inl h1
  · exact .inr ⟨by omega, hx1.inF k hk⟩

theorem more_fin {w W w3 : World} {F F1 F3 D : Nat → Prop} {r : Nat} {row : List Value} {bs rest cur S : List UInt8} {x : Pr} {q : Option Addr} {cq U V n c : Nat} {p : Option Addr} (h : RdAt w F D r bs cur)
    (rs : RS (W3 w x q cq) F W F1 D r (w.heap.size + 1 + 1) 40 row rest) (hown : OwnB w3 F3 (.slice p n c) S) (hu : Upd W w3 (fun _ => False) F3) (hn : n = S.length) (a0 a1 a3 : Value) :
    GetOk w F D r ⟨U, V, S, false⟩ rest (.returned (.agg #[.int .u64 (U : Nat), .int .u64 (V : Nat), .slice p n c, .bool false]))
      (((((w3.setCell ⟨w.heap.size + 1 + 1, 2, none⟩ (.slice p n c)).setCell ⟨w.heap.size + 1, 0, none⟩ a0).setCell ⟨w.heap.size + 1, 1, none⟩ a1).setCell ⟨w.heap.size + 1, 2, none⟩ (.slice p n c)).setCell ⟨w.heap.size + 1, 3, none⟩ a3) := by
  have hb3 := hu.chg.below (Nat.le_refl _) (fun k h => h.elim)
  have rs3 := RS.below rs hb3
  have rs4 := rs3.store 2 (.slice p n c)
  obtain ⟨hres, hnr⟩ := W3.res h rs3
  have hsz3 := (W3.below w x q cq).2
  have hszW := rs.chg.size
  have hsz := hb3.size
  have hg : ∀ k, (Value.slice p n c).ownBlock = some k → W.heap.size ≤ k ∧ k < w3.heap.size := fun k hk => by
    rcases hu.new k (hown.2 k hk) with h1 | h1
    · exact h1.elim
    · exact h1
  obtain ⟨curW, hrdW⟩ := rs.rd
  obtain ⟨bW, vW, -, hxW⟩ := hrdW
  refine get_fin h rs4 (hown.bytes.keep fun k hk => Below.heap_setCell _ _ _ _ (by have := hg k hk; simp; omega)) (fun k hk => ?_) (((((Chg.refl (· = w.heap.size + 1) _).setCell (.inl rfl) _).setCell (.inl rfl) _).setCell (.inl rfl) _).setCell (.inl rfl) _)
  have h1 := hg k hk
  exact ⟨by omega, by simpa [World.setCell] using h1.2, fun e => by have := hxW.inF k e; omega, by omega⟩

theorem more_res {w W w3 : World} {F F1 F3 D : Nat → Prop} {r : Nat} {row : List Value} {bs rest cur : List UInt8} {x : Pr} {q : Option Addr} {cq n c : Nat} {p : Option Addr} (h : RdAt w F D r bs cur)
    (rs : RS (W3 w x q cq) F W F1 D r (w.heap.size + 1 + 1) 40 row rest) (hu : Upd W w3 (fun _ => False) F3) (a0 a1 a3 : Value) (w5 : World)
    (he : w5 = (((((w3.setCell ⟨w.heap.size + 1 + 1, 2, none⟩ (.slice p n c)).setCell ⟨w.heap.size + 1, 0, none⟩ a0).setCell ⟨w.heap.size + 1, 1, none⟩ a1).setCell ⟨w.heap.size + 1, 2, none⟩ (.slice p n c)).setCell ⟨w.heap.size + 1, 3, none⟩ a3)) :
    w5.cell? ⟨w.heap.size + 1, 0, none⟩ = some a0 ∧ w5.cell? ⟨w.heap.size + 1, 1, none⟩ = some a1 ∧ w5.cell? ⟨w.heap.size + 1, 2, none⟩ = some (.slice p n c) ∧ w5.cell? ⟨w.heap.size + 1, 3, none⟩ = some a3 := by
  subst he
  have rs3 := RS.below rs (hu.chg.below (Nat.le_refl _) (fun k h => h.elim))
  obtain ⟨hres, hnr⟩ := W3.res h rs3
  have h4 : (w3.setCell ⟨w.heap.size + 1 + 1, 2, none⟩ (.slice p n c)).heap[w.heap.size + 1]? = some (.cells ([.int .u64 0, .int .u64 0, .slice none 0 0, .bool false] : List Value).toArray 40 (0, 0)) := by
    rw [Below.heap_setCell _ _ _ _ (by simp)]; exact hres
  exact (row4 (row_set (row_set (row_set (row_set h4 0 a0) 1 a1) 2 (.slice p n c)) 3 a3)).1

theorem nil_src (w : World) : SrcB w 25 (.slice none 0 0) [] := BytesAt.srcB (.inl ⟨rfl, rfl⟩)

set_option maxRecDepth 100000 in
theorem more15 (u v x : Nat) (s tail : List UInt8) (hx : x < 18446744073709551616) : AskOk 60 ⟨15, u, v, s⟩ (uv x ++ tail) ⟨x, 0, [], false⟩ tail := by
  intro w F D r cur sv hr hs hsv hl
  obtain ⟨q, cq, rfl⟩ := hs.slice
  unfold askV
  have rs0 := W3.rs hr ⟨15, u, v, s⟩ q cq
  have HR := Lib.hid hr
  have hr3 : RdAt (W3 w ⟨15, u, v, s⟩ q cq) F D r (uv x ++ tail) cur := hr.below (W3.below w _ q cq).1
  have HX := Lib.hid hx
  have HRS := Lib.hid rs0
  have HR3 := Lib.hid hr3
  clear hs hsv hr hx rs0 hr3
  go_enter Tryd.func60, Tryd.ntmps60
  go_wp2_with fail
  refine (uvarint _ F D r x tail cur HX.out HR3.out (by omega)).mono ?_
  rintro e w1 ⟨rfl, F1, cur1, h1, hu1⟩
  have rs1 := HRS.out.read h1 hu1
  obtain ⟨⟨c0, -, -, -⟩, z0, -, -, -⟩ := row4 rs1.row
  have rs2 := rs1.store 0 (.int .u64 (x : Nat))
  have HRS2 := Lib.hid rs2
  obtain ⟨⟨-, -, c2, -⟩, -, -, z2, -⟩ := row4 rs2.row
  clear HRS HR3 rs1 rs2 h1 hu1
  go_wp2_with (at_builtin; refine append_bytes _ (fun _ => False) [] [] rfl _ _ _ rfl _ rfl (OwnB.nil _ _) _ rfl (nil_src _) (by simp) ?_; intro q1 c1 w3 F3 hown hu3; have hb3 := hu3.chg.below (Nat.le_refl _) (fun k h => h.elim); have rs3 := RS.below HRS2.out hb3; obtain ⟨⟨d0, d1, d2, d3⟩, y0, y1, y2, y3⟩ := row4 rs3.row; obtain ⟨⟨e0, e1, e2, e3⟩, f0, f1, f2, f3⟩ := row4 (W3.res HR.out rs3).1)
  refine bodyPost_ret (v := .agg #[.int .u64 (x : Nat), .int .u64 0, .slice q1 0 c1, .bool false]) (by obtain ⟨g0, g1, g2, g3⟩ := more_res (p := q1) (n := 0) (c := c1) HR.out HRS2.out hu3 (.int .u64 (x : Nat)) (.int .u64 0) (.bool false) _ rfl; simp [results, Tryd.results60, go_sem, g0, g1, g2, g3]) rfl ?_
  exact more_fin HR.out HRS2.out hown hu3 rfl _ _ _
end Go.Proofs.YtlohpmncagfecaaDoor
