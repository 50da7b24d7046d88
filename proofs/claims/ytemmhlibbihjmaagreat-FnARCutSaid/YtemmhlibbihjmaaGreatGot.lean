/- NewReader, Left; slices.Clone; impl.caught, impl.got. -/
import Derived.Test.YtemmhlibbihjmaaGreatSq
import Derived.Recover
import Derived.WalkSpells
namespace Go.Proofs.YtemmhlibbihjmaaGreat
open Go.RowKit

theorem newReader (w : World) (v : Value) (bs : List UInt8) (h : BytesAt w v bs) (hD : ∀ g, v.ownBlock = some g → g < w.heap.size) :
    Calls Tryz.prog 36 #[v] w fun e w' => e = .returned (.pointer (some ⟨w.heap.size + 1, 0, none⟩)) ∧ Below w.heap.size w w' ∧ w'.heap.size = w.heap.size + 2 ∧
      RdAt w' (fun k => k = w.heap.size ∨ k = w.heap.size + 1) (fun k => v.ownBlock = some k) (w.heap.size + 1) bs [] := by
  have HD := Lib.hid hD
  clear hD
  obtain ⟨p, c, rfl⟩ := h.slice
  go_enter Tryz.func36, Tryz.ntmps36
  go_wp2
  go_ret
  have hb : Below w.heap.size w ((w.alloc (.cells #[.slice none 0 0] 113)).alloc (.cells #[.slice p bs.length c, .pointer (some ⟨w.heap.size, 0, none⟩)] 115)) := ((Below.refl _ w).alloc (Nat.le_refl _) _).alloc (by simp) _
  refine ⟨rfl, hb, by simp, w.heap.size, .slice none 0 0, rfl, .inr rfl, by omega, ⟨(· = w.heap.size), ⟨rfl, ?_, World.ownsRow_nil _ _ _ _, by simp [Value.ownBlock]⟩, by omega, fun k hk => .inl hk⟩, ⟨_, ?_, h.below hb, fun g hg => hg⟩, ?_, ?_, ?_⟩
  · rw [Below.heap_alloc _ _ _ (by simp)]; exact heap_alloc_new _ _
  · have := heap_alloc_new (w.alloc (.cells #[.slice none 0 0] 113)) (.cells #[.slice p bs.length c, .pointer (some ⟨w.heap.size, 0, none⟩)] 115)
    simpa using this
  · intro k hk h2
    have := HD.out k hk
    omega
  · intro k hk
    have := HD.out k hk
    simp
    omega
  · intro k hk
    simp
    omega

theorem rdLeft (w : World) (F D : Nat → Prop) (r : Nat) (rest cur : List UInt8) (h : RdAt w F D r rest cur) :
    Calls Tryz.prog 42 #[.pointer (some ⟨r, 0, none⟩)] w fun e w' => e = .returned (.int .i64 rest.length) ∧ w = w' := by
  obtain ⟨b, v, -, h⟩ := h
  obtain ⟨vd, hc0, hc1, hf, hb, hcb⟩ := h.cells
  obtain ⟨p, c, rfl⟩ := hb.slice
  go_enter Tryz.func42, Tryz.ntmps42
  go_wp2
  go_ret
  exact ⟨rfl, rfl⟩

theorem RdAt.upd {w w' : World} {F D G : Nat → Prop} {r : Nat} {rest cur : List UInt8} (h : RdAt w F D r rest cur) (hc : Chg G w w') (hF : ∀ k, F k → ¬ G k) (hD : ∀ k, D k → ¬ G k) : RdAt w' F D r rest cur := by
  obtain ⟨b, v, hbr, h⟩ := h
  obtain ⟨FB, ⟨hFb, hpb, hownb, hvb⟩, hnr, hsub⟩ := h.row
  obtain ⟨vd, hr, hbd, hvd⟩ := h.data
  have hs := hc.size
  exact ⟨b, v, hbr, h.own, h.ne, ⟨FB, ⟨hFb, by rw [hc.block b (h.inF b (hsub b hFb)) (hF b (hsub b hFb))]; exact hpb, ownsRow_block hownb fun g hg => hc.block g (h.inF g (hsub g (hvb g hg).1)) (hF g (hsub g (hvb g hg).1)), hvb⟩, hnr, hsub⟩,
    ⟨vd, by rw [hc.block r (h.inF r h.own) (hF r h.own)]; exact hr, hbd.keep fun g hg => hc.block g (h.inD g (hvd g hg)) (hD g (hvd g hg)), hvd⟩, h.disj, h.inD.mono hs, h.inF.mono hs⟩

theorem caught_idle (p : Addr) (w : World) :
    CallsD Tryz.prog 34 #[.pointer (some p)] .returning w fun e u' w' => u' = .returning ∧ e = .returned (.tuple #[]) ∧ w = w' := by
  refine callsD_of_wpS Tryz.func34 rfl fun c₀ cs hu => ?_
  apply wpS_seq
  apply wpS_region
  simp [wpOpsS, go_sem, recoverD, hu, Tryz.ntmps34, Exit.thenS]
  refine wpS_cond (t := false) (by simp [Act.eval, Array.replicate]) ?_
  simp only [Bool.false_eq_true, if_false]
  refine wpS_of_wp (wp_skip ?_)
  cases c₀
  simp_all [bodyPostS, results, Tryz.results34]

/-- What a decoding method leaves: the Reader further on, and the fields of the struct at block q. -/
def DecOk (w1 : World) (F D : Nat → Prop) (r q : Nat) (T : TypeId) (rest : List UInt8) (fields : List Value) (e : Ending) (w2 : World) : Prop :=
  e = .returned .nilIface ∧ ∃ F' cur, RdAt w2 F' D r rest cur ∧ w2.heap[q]? = some (.cells fields.toArray T (0, 0)) ∧ Chg (fun k => F k ∨ k = q) w1 w2

/-- What a decoding method leaves that fails. -/
def DecBad (w1 : World) (F : Nat → Prop) (q : Nat) (e : Ending) (w2 : World) : Prop :=
  ∃ a, e = .returned (.iface 131 (.pointer (some a))) ∧ Chg (fun k => F k ∨ k = q) w1 w2

/-- A Reader is ready, and so is the struct at block q. -/
structure Ready (w : World) (F D : Nat → Prop) (r q : Nat) (T : TypeId) (n : Nat) (bs : List UInt8) : Prop where
  rd : ∃ cur, RdAt w F D r bs cur
  row : ∃ olds : List Value, olds.length = n ∧ w.heap[q]? = some (.cells olds.toArray T (0, 0))
  notF : ¬ F q
  notD : ¬ D q

/-- What got leaves. -/
def GotOk (w : World) (q : Nat) (T : TypeId) (rest : List UInt8) (fields : List Value) (e : Ending) (w' : World) : Prop :=
  e = .returned (.tuple #[.int .i64 rest.length, .bool true]) ∧ Chg (· = q) w w' ∧ w'.heap[q]? = some (.cells fields.toArray T (0, 0))
def GotBad (w : World) (q : Nat) (e : Ending) (w' : World) : Prop := e = .returned (.tuple #[.int .i64 0, .bool false]) ∧ Chg (· = q) w w'

end Go.Proofs.YtemmhlibbihjmaaGreat
