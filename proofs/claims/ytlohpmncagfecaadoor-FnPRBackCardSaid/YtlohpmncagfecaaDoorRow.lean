/- A Reader and a struct that is filled from it; bools. -/
import Derived.Test.YtlohpmncagfecaaDoorGot2
import Derived.Test.YtlohpmncagfecaaDoorSet
import Derived.Test.YtlohpmncagfecaaDoorSetD
import Derived.Test.YtlohpmncagfecaaDoorOpen
namespace Go.Proofs.YtlohpmncagfecaaDoor
open Go.RowKit

def bB (b : Bool) : UInt8 := if b then 1 else 0

/-- Since w0 only the Reader's blocks and the struct at q have changed; what is left to be read; the struct's cells. -/
structure RS (w0 : World) (F0 : Nat → Prop) (w : World) (F D : Nat → Prop) (r q : Nat) (T : TypeId) (row : List Value) (rest : List UInt8) : Prop where
  rd : ∃ cur, RdAt w F D r rest cur
  row : w.heap[q]? = some (.cells row.toArray T (0, 0))
  notF : ¬ F q
  notD : ¬ D q
  chg : Chg (fun k => F0 k ∨ k = q) w0 w
  new : ∀ k, F k → F0 k ∨ w0.heap.size ≤ k

theorem Ready.rs {w : World} {F D : Nat → Prop} {r q : Nat} {T : TypeId} {n : Nat} {bs : List UInt8} (h : Ready w F D r q T n bs) : ∃ row : List Value, row.length = n ∧ RS w F w F D r q T row bs := by
  obtain ⟨hr, ⟨olds, hl, hq⟩, hF, hD⟩ := h
  exact ⟨olds, hl, hr, hq, hF, hD, Chg.refl _ _, fun _ h => .inl h⟩

theorem RS.read {w0 w w1 : World} {F0 F F1 D : Nat → Prop} {r q : Nat} {T : TypeId} {row : List Value} {rest rest1 cur1 : List UInt8} (h : RS w0 F0 w F D r q T row rest) (hr : RdAt w1 F1 D r rest1 cur1) (hu : Upd w w1 F F1) :
    RS w0 F0 w1 F1 D r q T row rest1 := by
  have hql : q < w.heap.size := (Array.getElem?_eq_some_iff.1 h.row).1
  have hs := h.chg.size
  refine ⟨⟨_, hr⟩, by rw [hu.chg.block q hql h.notF]; exact h.row, fun hk => ?_, h.notD, h.chg.trans (hu.chg.mono (G := fun k => F0 k ∨ k = q ∨ w0.heap.size ≤ k) fun k _ hk => (h.new k hk).imp id .inr) fun k hk hg => ?_, fun k hk => ?_⟩
  · rcases hu.new q hk with h1 | h1
    · exact h.notF h1
    · omega
  · rcases hg with h1 | h1 | h1
    · exact .inl h1
    · exact .inr h1
    · omega
  · rcases hu.new k hk with h1 | h1
    · exact h.new k h1
    · exact .inr (by omega)

theorem RS.store {w0 w : World} {F0 F D : Nat → Prop} {r q : Nat} {T : TypeId} {row : List Value} {rest : List UInt8} (h : RS w0 F0 w F D r q T row rest) (j : Nat) (v : Value) :
    RS w0 F0 (w.setCell ⟨q, j, none⟩ v) F D r q T (row.set j v) rest := by
  obtain ⟨cur, hr⟩ := h.rd
  have hC : Chg (· = q) w (w.setCell ⟨q, j, none⟩ v) := (Chg.refl (· = q) w).setCell (.inl rfl) v
  exact ⟨⟨cur, hr.upd hC (fun k hk e => h.notF (e ▸ hk)) fun k hk e => h.notD (e ▸ hk)⟩, row_set h.row j v, h.notF, h.notD, h.chg.setCell (.inl (.inr rfl)) v, h.new⟩

theorem RS.cell {w0 w : World} {F0 F D : Nat → Prop} {r q : Nat} {T : TypeId} {row : List Value} {rest : List UInt8} (h : RS w0 F0 w F D r q T row rest) (j : Nat) (v : Value) (hj : row[j]? = some v) : w.cell? ⟨q, j, none⟩ = some v ∧ w.frozen? ⟨q, j, none⟩ = false := by
  have h1 := h.row
  constructor
  · simp [World.cell?, h1, hj]
  · simp [World.frozen?, h1]

theorem RS.ok {w0 w : World} {F0 F D : Nat → Prop} {r q : Nat} {T : TypeId} {row : List Value} {rest : List UInt8} (h : RS w0 F0 w F D r q T row rest) : DecOk w0 F0 D r q T rest row (.returned .nilIface) w := by
  obtain ⟨cur, hr⟩ := h.rd
  exact ⟨rfl, F, cur, hr, h.row, h.chg⟩

theorem RS.bad {w0 w w1 w2 : World} {F0 F F1 D : Nat → Prop} {r q : Nat} {T : TypeId} {row : List Value} {rest cur1 : List UInt8} {a : Addr} (h : RS w0 F0 w F D r q T row rest) (hr : RdAt w1 F1 D r [] cur1) (hu : Upd w w1 F F1) (hb : Below w1.heap.size w1 w2) :
    DecBad w0 F0 q (.returned (.iface 143 (.pointer (some a)))) w2 :=
  ⟨a, rfl, (h.read hr hu).chg.trans (Chg.of_below (F := fun k => F0 k ∨ k = q) hb) fun _ _ h => h⟩

/-! ### bools -/
theorem rdBool (w : World) (F D : Nat → Prop) (r : Nat) (b : Bool) (rest cur : List UInt8) (h : RdAt w F D r (bB b :: rest) cur) (hm : (bB b :: rest).length ≤ 140737488355328) :
    Calls Tryd.prog 51 #[.pointer (some ⟨r, 0, none⟩)] w (GotE w F D r (.tuple #[.bool b, .nilIface]) rest) := by
  cases b
  all_goals
    go_enter Tryd.func51, Tryd.ntmps51
    go_wp2_with fail
    refine (uint8 _ F D r _ rest cur h hm).mono ?_
    rintro e w1 ⟨rfl, F1, h1, hu⟩
    simp only [bB, if_true, if_false, Bool.false_eq_true] at h1 ⊢
    go_wp2_with fail
    go_ret2
    exact ⟨rfl, F1, _, h1, hu⟩

theorem rdBool_short (w : World) (F D : Nat → Prop) (r : Nat) (cur : List UInt8) (h : RdAt w F D r [] cur) :
    Calls Tryd.prog 51 #[.pointer (some ⟨r, 0, none⟩)] w (Fell w F D r fun v => .tuple #[.bool false, v]) := by
  go_enter Tryd.func51, Tryd.ntmps51
  go_wp2_with fail
  refine (uint8_short _ F D r cur h).mono ?_
  rintro e w1 ⟨a, F1, cur1, rfl, h1, hu⟩
  go_wp2_with fail
  refine (wrapErr _ _ _ _).mono ?_
  rintro e w2 ⟨⟨a2, rfl⟩, hb2⟩
  go_wp2_with fail
  go_ret2
  exact ⟨_, F1, cur1, rfl, h1.below hb2, hu.below hb2⟩

theorem putBool (w : World) (F : Nat → Prop) (p : Nat) (bs : List UInt8) (b : Bool) (h : BufAt w F 57 p bs) (hl : bs.length + 1 ≤ 140737488355328) :
    Calls Tryd.prog 30 #[.pointer (some ⟨p, 0, none⟩), .bool b] w (Put w F 57 p (bs ++ [bB b])) := by
  cases b
  · go_enter Tryd.func30, Tryd.ntmps30
    go_wp2_with (go_at_call 35; refine (putUInt8 _ F p bs 0 h hl).mono ?_; rintro e w' ⟨rfl, hp⟩)
    go_returns
    exact ⟨rfl, hp⟩
  · go_enter Tryd.func30, Tryd.ntmps30
    go_wp2_with (go_at_call 35; refine (putUInt8 _ F p bs 1 h hl).mono ?_; rintro e w' ⟨rfl, hp⟩)
    go_returns
    exact ⟨rfl, hp⟩

theorem putStr (w : World) (F : Nat → Prop) (p : Nat) (bs : List UInt8) (s : ByteArray) (h : BufAt w F 57 p bs) (hF : In F w) (hs : s.size ≤ 140737488355328) (hl : bs.length + (strBytes s.data.toList).length ≤ 140737488355328) :
    Calls Tryd.prog 48 #[.pointer (some ⟨p, 0, none⟩), .string s] w (Put w F 57 p (bs ++ strBytes s.data.toList)) := by
  have e : strBytes s.data.toList = uv s.size ++ s.data.toList := by unfold strBytes; rw [lenSize]
  rw [e] at hl ⊢
  have hl2 : bs.length + (uv s.size).length + s.size ≤ 140737488355328 := by rw [List.length_append, lenSize] at hl; omega
  exact putString w F p bs s h hF hs hl2

/-- A Buffer that is filled out of a struct. -/
structure ES (w0 : World) (F0 : Nat → Prop) (w : World) (F : Nat → Prop) (p : Nat) (acc : List UInt8) (q : Nat) (v : Value) (vs : List Value) : Prop where
  buf : BufAt w F 57 p acc
  inn : In F w
  upd : Upd w0 w F0 F
  row : RowIs w q (v :: vs)
  notF : ¬ F q

theorem ES.step {w0 w w' : World} {F0 F : Nat → Prop} {p q : Nat} {acc acc' : List UInt8} {v : Value} {vs : List Value} {e : Ending} (h : ES w0 F0 w F p acc q v vs) (hp : Put w F 57 p acc' e w') :
    ∃ F', e = .returned (.tuple #[]) ∧ ES w0 F0 w' F' p acc' q v vs := by
  obtain ⟨rfl, F', hb, hu⟩ := hp
  have hql := h.row.lt
  exact ⟨F', rfl, hb, hu.inn h.inn, h.upd.trans hu, h.row.chg hu.chg h.notF, fun hk => by
    rcases hu.new q hk with h1 | h1
    · exact h.notF h1
    · omega⟩

theorem ES.put {w0 w : World} {F0 F : Nat → Prop} {p q : Nat} {acc : List UInt8} {v : Value} {vs : List Value} (h : ES w0 F0 w F p acc q v vs) : Put w0 F0 57 p acc (.returned (.tuple #[])) w :=
  ⟨rfl, F, h.buf, h.upd⟩

theorem strBytes_le (s : ByteArray) (h : s.size ≤ 100) : (strBytes s.data.toList).length ≤ 110 := by
  have h1 := uv_length_le 10 s.data.toList.length (by rw [lenSize]; omega) (by omega)
  unfold strBytes
  rw [List.length_append, lenSize] at *
  omega

theorem Short.nil_of {rest : List UInt8} {x : UInt8} (h : Short rest [x]) : rest = [] := by
  have := h.lt
  simpa using this
end Go.Proofs.YtlohpmncagfecaaDoor
