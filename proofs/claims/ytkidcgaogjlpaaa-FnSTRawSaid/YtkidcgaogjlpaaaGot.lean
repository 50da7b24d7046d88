/- NewReader, Left; slices.Clone; impl.caught, impl.got. -/
import Derived.Test.YtkidcgaogjlpaaaSq
import Derived.Recover
import Derived.WalkSpells
namespace Go.Proofs.Ytkidcgaogjlpaaa
open Go.RowKit

theorem newReader (w : World) (v : Value) (bs : List UInt8) (h : BytesAt w v bs) (hD : ∀ g, v.ownBlock = some g → g < w.heap.size) :
    Calls Try.prog 12 #[v] w fun e w' => e = .returned (.pointer (some ⟨w.heap.size + 1, 0, none⟩)) ∧ Below w.heap.size w w' ∧ w'.heap.size = w.heap.size + 2 ∧
      RdAt w' (fun k => k = w.heap.size ∨ k = w.heap.size + 1) (fun k => v.ownBlock = some k) (w.heap.size + 1) bs [] := by
  have HD := Lib.hid hD
  clear hD
  obtain ⟨p, c, rfl⟩ := h.slice
  go_enter Try.func12, Try.ntmps12
  go_wp2
  go_ret
  have hb : Below w.heap.size w ((w.alloc (.cells #[.slice none 0 0] 51)).alloc (.cells #[.slice p bs.length c, .pointer (some ⟨w.heap.size, 0, none⟩)] 54)) := ((Below.refl _ w).alloc (Nat.le_refl _) _).alloc (by simp) _
  refine ⟨rfl, hb, by simp, w.heap.size, .slice none 0 0, rfl, .inr rfl, by omega, ⟨(· = w.heap.size), ⟨rfl, ?_, World.ownsRow_nil _ _ _ _, by simp [Value.ownBlock]⟩, by omega, fun k hk => .inl hk⟩, ⟨_, ?_, h.below hb, fun g hg => hg⟩, ?_, ?_, ?_⟩
  · rw [Below.heap_alloc _ _ _ (by simp)]; exact heap_alloc_new _ _
  · have := heap_alloc_new (w.alloc (.cells #[.slice none 0 0] 51)) (.cells #[.slice p bs.length c, .pointer (some ⟨w.heap.size, 0, none⟩)] 54)
    simpa using this
  · intro k hk h2
    have := HD.out k hk
    omega
  · intro k hk
    have := HD.out k hk
    simp
    omega
  · intro k hk
    simp
    omega

theorem rdLeft (w : World) (F D : Nat → Prop) (r : Nat) (rest cur : List UInt8) (h : RdAt w F D r rest cur) :
    Calls Try.prog 14 #[.pointer (some ⟨r, 0, none⟩)] w fun e w' => e = .returned (.int .i64 rest.length) ∧ w = w' := by
  obtain ⟨b, v, -, h⟩ := h
  obtain ⟨vd, hc0, hc1, hf, hb, hcb⟩ := h.cells
  obtain ⟨p, c, rfl⟩ := hb.slice
  go_enter Try.func14, Try.ntmps14
  go_wp2
  go_ret
  exact ⟨rfl, rfl⟩

theorem RdAt.upd {w w' : World} {F D G : Nat → Prop} {r : Nat} {rest cur : List UInt8} (h : RdAt w F D r rest cur) (hc : Chg G w w') (hF : ∀ k, F k → ¬ G k) (hD : ∀ k, D k → ¬ G k) : RdAt w' F D r rest cur := by
  obtain ⟨b, v, hbr, h⟩ := h
  obtain ⟨FB, ⟨hFb, hpb, hownb, hvb⟩, hnr, hsub⟩ := h.row
  obtain ⟨vd, hr, hbd, hvd⟩ := h.data
  have hs := hc.size
  exact ⟨b, v, hbr, h.own, h.ne, ⟨FB, ⟨hFb, by rw [hc.block b (h.inF b (hsub b hFb)) (hF b (hsub b hFb))]; exact hpb, ownsRow_block hownb fun g hg => hc.block g (h.inF g (hsub g (hvb g hg).1)) (hF g (hsub g (hvb g hg).1)), hvb⟩, hnr, hsub⟩,
    ⟨vd, by rw [hc.block r (h.inF r h.own) (hF r h.own)]; exact hr, hbd.keep fun g hg => hc.block g (h.inD g (hvd g hg)) (hD g (hvd g hg)), hvd⟩, h.disj, h.inD.mono hs, h.inF.mono hs⟩

theorem caught_idle (p : Addr) (w : World) :
    CallsD Try.prog 11 #[.pointer (some p)] .returning w fun e u' w' => u' = .returning ∧ e = .returned (.tuple #[]) ∧ w = w' := by
  refine callsD_of_wpS Try.func11 rfl fun c₀ cs hu => ?_
  apply wpS_seq
  apply wpS_region
  simp [wpOpsS, go_sem, recoverD, hu, Try.ntmps11, Exit.thenS]
  refine wpS_cond (t := false) (by simp [Act.eval, Array.replicate]) ?_
  simp only [Bool.false_eq_true, if_false]
  refine wpS_of_wp (wp_skip ?_)
  cases c₀
  simp_all [bodyPostS, results, Try.results11]

/-- What a decoding method leaves: the Reader further on, and the fields of the struct at block q. -/
def DecOk (w1 : World) (F D : Nat → Prop) (r q : Nat) (T : TypeId) (rest : List UInt8) (fields : List Value) (e : Ending) (w2 : World) : Prop :=
  e = .returned .nilIface ∧ ∃ F' cur, RdAt w2 F' D r rest cur ∧ w2.heap[q]? = some (.cells fields.toArray T (0, 0)) ∧ Chg (fun k => F k ∨ k = q) w1 w2

/-- What a decoding method leaves that fails. -/
def DecBad (w1 : World) (F : Nat → Prop) (q : Nat) (e : Ending) (w2 : World) : Prop :=
  ∃ a, e = .returned (.iface 56 (.pointer (some a))) ∧ Chg (fun k => F k ∨ k = q) w1 w2

/-- A Reader is ready, and so is the struct at block q. -/
structure Ready (w : World) (F D : Nat → Prop) (r q : Nat) (T : TypeId) (n : Nat) (bs : List UInt8) : Prop where
  rd : ∃ cur, RdAt w F D r bs cur
  row : ∃ olds : List Value, olds.length = n ∧ w.heap[q]? = some (.cells olds.toArray T (0, 0))
  notF : ¬ F q
  notD : ¬ D q

/-- What got leaves. -/
def GotOk (w : World) (q : Nat) (T : TypeId) (rest : List UInt8) (fields : List Value) (e : Ending) (w' : World) : Prop :=
  e = .returned (.tuple #[.int .i64 rest.length, .bool true]) ∧ Chg (· = q) w w' ∧ w'.heap[q]? = some (.cells fields.toArray T (0, 0))
def GotBad (w : World) (q : Nat) (e : Ending) (w' : World) : Prop := e = .returned (.tuple #[.int .i64 0, .bool false]) ∧ Chg (· = q) w w'

set_option maxRecDepth 100000 in
theorem got_ok (w : World) (v x : Value) (bs rest : List UInt8) (q n : Nat) (T : TypeId) (fields : List Value) (g : FuncId) (hv : BytesAt w v bs) (hD : ∀ g, v.ownBlock = some g → g < w.heap.size ∧ g ≠ q)
    (hq : ∃ olds : List Value, olds.length = n ∧ w.heap[q]? = some (.cells olds.toArray T (0, 0))) (hg : Own g)
    (H : ∀ w1 F D r, Ready w1 F D r q T n bs → Calls Try.prog g #[x, .pointer (some ⟨r, 0, none⟩)] w1 (DecOk w1 F D r q T rest fields)) :
    Calls Try.prog 6 #[v, .int .i64 (-1), .func (.func g) #[x] #[]] w (GotOk w q T rest fields) := by
  have HH := Lib.hid H
  have HD := Lib.hid hD
  have HQ := Lib.hid hq
  have HQL := Lib.hid (show q < w.heap.size by obtain ⟨_, _, h⟩ := hq; exact (Array.getElem?_eq_some_iff.1 h).1)
  have hcf := fun W => hg #[x, .pointer (some ⟨w.heap.size + 1 + 1, 0, none⟩)] W
  clear H hD hq hg
  go_enter_defers Try.func6, Try.ntmps6
  go_wp2_with fail
  refine (newReader _ v bs (hv.alloc _) (fun g h => by have := (HD.out g h).1; simp; omega)).mono ?_
  rintro e w1 ⟨rfl, hb1, hs1, hr1⟩
  simp only [World.size_alloc] at hb1 hs1 hr1 ⊢
  have hok1 : w1.cell? ⟨w.heap.size, 0, none⟩ = some (.bool false) := by rw [hb1.cell (by simp)]; go_simp
  have hof1 : w1.frozen? ⟨w.heap.size, 0, none⟩ = false := by rw [hb1.frozen (by simp)]; go_simp
  have hrdy : Ready w1 (fun k => k = w.heap.size + 1 ∨ k = w.heap.size + 1 + 1) (fun k => v.ownBlock = some k) (w.heap.size + 1 + 1) q T n bs :=
    ⟨⟨[], hr1⟩, by
      obtain ⟨olds, h1, h2⟩ := HQ.out
      refine ⟨olds, h1, ?_⟩
      rw [hb1.block q (by have := HQL.out; omega), Below.heap_alloc _ _ _ HQL.out]; exact h2, by have := HQL.out; omega, fun h => (HD.out q h).2 rfl⟩
  go_wp2_with fail
  refine (HH.out w1 _ _ _ hrdy).mono ?_
  rintro e w2 ⟨rfl, F2, cur2, hr2, hq2, hc2⟩
  have hs2 := hc2.size
  have hok2 : w2.cell? ⟨w.heap.size, 0, none⟩ = some (.bool false) := by rw [hc2.cell (by simp; omega) (by have := HQL.out; simp; omega)]; exact hok1
  have hof2 : w2.frozen? ⟨w.heap.size, 0, none⟩ = false := by rw [hc2.frozen (by simp; omega) (by have := HQL.out; simp; omega)]; exact hof1
  clear hok1 hof1
  go_wp2_with fail
  refine (rdLeft _ _ _ _ rest cur2 hr2).mono ?_
  rintro e w3 ⟨rfl, rfl⟩
  go_wp2_with fail
  refine leaves_cons (f := 11) (args := #[.pointer (some ⟨w.heap.size, 0, none⟩)]) (by simp) (by simp [go_sem]) ?_
  refine (caught_idle _ _).mono ?_
  rintro e u' w3 ⟨rfl, rfl, rfl⟩
  have hcell : (w2.setCell ⟨w.heap.size, 0, none⟩ (.bool true)).cell? ⟨w.heap.size, 0, none⟩ = some (.bool true) := by go_simp
  refine ⟨.tuple #[.int .i64 rest.length, .bool true], by simp [results, Try.results6, go_sem, hcell], rfl, ?_, ?_⟩
  · have h0 : Chg (· = q) w (w.alloc (.cells #[.bool false] 4)) := (Chg.refl _ _).alloc _
    have h1 : Chg (· = q) w w1 := h0.trans (Chg.of_below (F := (· = q)) (by simpa using hb1)) (fun _ _ h => h)
    refine (h1.trans hc2 fun k hk h => ?_).setCell (.inr (Nat.le_refl _)) _
    rcases h with (h | h) | h
    · omega
    · omega
    · exact h
  · rw [Below.heap_setCell _ _ _ _ (by have := HQL.out; simp; omega)]
    exact hq2

set_option maxRecDepth 100000 in
theorem got_bad (w : World) (v x : Value) (bs : List UInt8) (q n : Nat) (T : TypeId) (g : FuncId) (hv : BytesAt w v bs) (hD : ∀ g, v.ownBlock = some g → g < w.heap.size ∧ g ≠ q)
    (hq : ∃ olds : List Value, olds.length = n ∧ w.heap[q]? = some (.cells olds.toArray T (0, 0))) (hg : Own g)
    (H : ∀ w1 F D r, Ready w1 F D r q T n bs → Calls Try.prog g #[x, .pointer (some ⟨r, 0, none⟩)] w1 (DecBad w1 F q)) :
    Calls Try.prog 6 #[v, .int .i64 (-1), .func (.func g) #[x] #[]] w (GotBad w q) := by
  have HH := Lib.hid H
  have HD := Lib.hid hD
  have HQ := Lib.hid hq
  have HQL := Lib.hid (show q < w.heap.size by obtain ⟨_, _, h⟩ := hq; exact (Array.getElem?_eq_some_iff.1 h).1)
  have hcf := fun W => hg #[x, .pointer (some ⟨w.heap.size + 1 + 1, 0, none⟩)] W
  clear H hD hq hg
  go_enter_defers Try.func6, Try.ntmps6
  go_wp2_with fail
  refine (newReader _ v bs (hv.alloc _) (fun g h => by have := (HD.out g h).1; simp; omega)).mono ?_
  rintro e w1 ⟨rfl, hb1, hs1, hr1⟩
  simp only [World.size_alloc] at hb1 hs1 hr1 ⊢
  have hok1 : w1.cell? ⟨w.heap.size, 0, none⟩ = some (.bool false) := by rw [hb1.cell (by simp)]; go_simp
  have hof1 : w1.frozen? ⟨w.heap.size, 0, none⟩ = false := by rw [hb1.frozen (by simp)]; go_simp
  have hrdy : Ready w1 (fun k => k = w.heap.size + 1 ∨ k = w.heap.size + 1 + 1) (fun k => v.ownBlock = some k) (w.heap.size + 1 + 1) q T n bs :=
    ⟨⟨[], hr1⟩, by
      obtain ⟨olds, h1, h2⟩ := HQ.out
      refine ⟨olds, h1, ?_⟩
      rw [hb1.block q (by have := HQL.out; omega), Below.heap_alloc _ _ _ HQL.out]; exact h2, by have := HQL.out; omega, fun h => (HD.out q h).2 rfl⟩
  go_wp2_with fail
  refine (HH.out w1 _ _ _ hrdy).mono ?_
  rintro e w2 ⟨a, rfl, hc2⟩
  have hs2 := hc2.size
  have hok2 : w2.cell? ⟨w.heap.size, 0, none⟩ = some (.bool false) := by rw [hc2.cell (by simp; omega) (by have := HQL.out; simp; omega)]; exact hok1
  have hof2 : w2.frozen? ⟨w.heap.size, 0, none⟩ = false := by rw [hc2.frozen (by simp; omega) (by have := HQL.out; simp; omega)]; exact hof1
  clear hok1 hof1
  go_wp2_with fail
  refine leaves_cons (f := 11) (args := #[.pointer (some ⟨w.heap.size, 0, none⟩)]) (by simp) (by simp [go_sem]) ?_
  refine (caught_idle _ _).mono ?_
  rintro e u' w3 ⟨rfl, rfl, rfl⟩
  have hcell : (w2.setCell ⟨w.heap.size, 0, none⟩ (.bool false)).cell? ⟨w.heap.size, 0, none⟩ = some (.bool false) := by go_simp
  refine ⟨.tuple #[.int .i64 0, .bool false], by simp [results, Try.results6, go_sem, hcell], rfl, ?_⟩
  have h0 : Chg (· = q) w (w.alloc (.cells #[.bool false] 4)) := (Chg.refl _ _).alloc _
  have h1 : Chg (· = q) w w1 := h0.trans (Chg.of_below (F := (· = q)) (by simpa using hb1)) (fun _ _ h => h)
  refine (h1.trans hc2 fun k hk h => ?_).setCell (.inr (Nat.le_refl _)) _
  rcases h with (h | h) | h
  · omega
  · omega
  · exact h
end Go.Proofs.Ytkidcgaogjlpaaa
