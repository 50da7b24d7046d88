/- Contracts of proto.Buffer's writing methods. -/
import Derived.Test.YtgnkinhjfcbdbaaDoorProg
import Derived.Test.YtgnkinhjfcbdbaaDoorMem
import Derived.Handy
import Derived.KernelRfl
import Derived.Maps.AppendAt
import Derived.WideLaws
import Derived.Lib.Hide
namespace Go.Proofs.YtgnkinhjfcbdbaaDoor
open Go.RowKit

theorem infoU8 : (Tryd.prog.info? 5).map (fun i => (i.zero, i.size, i.bytes)) = some (some (.int .u8 0), 1, 1) := by kernel_rfl

/-- Bytes as values. -/
def u8s (bs : List UInt8) : List Value := bs.map fun b => .int .u8 b.toNat
 @[simp] theorem u8s_length (bs : List UInt8) : (u8s bs).length = bs.length := by simp [u8s]
theorem u8s_append (a b : List UInt8) : u8s (a ++ b) = u8s a ++ u8s b := by simp [u8s]

/-- A variable of one cell that holds a slice of bytes of the call's own. -/
def BufAt (w : World) (F : Nat → Prop) (T : TypeId) (p : Nat) (bs : List UInt8) : Prop :=
  F p ∧ ∃ v, w.heap[p]? = some (.cells #[v] T (0, 0)) ∧ w.ownsRow 0 5 1 v bs.length (u8s bs) ∧ ∀ g, v.ownBlock = some g → F g ∧ g ≠ p

/-- What a writing method leaves. -/
def Put (w : World) (F : Nat → Prop) (T : TypeId) (p : Nat) (bs : List UInt8) (e : Ending) (w' : World) : Prop :=
  e = .returned (.tuple #[]) ∧ ∃ F', BufAt w' F' T p bs ∧ Upd w w' F F'

theorem bufAt_store {w w1 : World} {F : Nat → Prop} {T : TypeId} {p : Nat} {v v' : Value} {bs : List UInt8} {row : Option Nat} (hp : w.heap[p]? = some (.cells #[v] T (0, 0))) (hF : F p)
    (hv : ∀ g, v.ownBlock = some g → F g ∧ g ≠ p) (hrow : row = v.ownBlock) (hown : w1.ownsRow 0 5 1 v' bs.length (u8s bs)) (hg : w.grownBy w1 row) (hb : v'.ownBlock = v.ownBlock ∨ v'.ownBlock = some w.heap.size) :
    ∃ F', BufAt (w1.setCell ⟨p, 0, none⟩ v') F' T p bs ∧ Upd w (w1.setCell ⟨p, 0, none⟩ v') F F' := by
  have hlt : p < w.heap.size := (Array.getElem?_eq_some_iff.1 hp).1
  have hsz := hg.size
  have hp1 : w1.heap[p]? = some (.cells #[v] T (0, 0)) := by rw [hg.block p hlt (by rw [hrow]; intro e; exact (hv p e.symm).2 rfl)]; exact hp
  have hlt1 := hown.lt
  refine ⟨fun k => F k ∨ (w.heap.size ≤ k ∧ k < w1.heap.size), ⟨.inl hF, v', setCell_one hp1, ?_, ?_⟩, ?_, ?_⟩
  · refine ownsRow_block hown fun g hgg => Below.heap_setCell _ _ _ _ ?_
    rintro rfl
    rcases hb with hb | hb
    · exact (hv _ (hb ▸ hgg)).2 rfl
    · rw [hgg] at hb; simp at hb; omega
  · intro g hgg
    have := hlt1 g hgg
    rcases hb with hb | hb
    · exact ⟨.inl (hv _ (hb ▸ hgg)).1, (hv _ (hb ▸ hgg)).2⟩
    · rw [hgg] at hb; simp at hb; subst hb; exact ⟨.inr (by omega), by omega⟩
  · exact ((Chg.refl F w).grown hg (by intro k hk; exact .inl (hv k (hrow ▸ hk)).1)).setCell (.inl hF) _
  · intro k hk; simpa [World.setCell] using hk

/-- What stands behind an append, ahead of the store that puts the new slice back. -/
def Stored (w w1 : World) (F : Nat → Prop) (T : TypeId) (p : Nat) (v : Value) (bs : List UInt8) : Prop :=
  ∃ F', BufAt (w1.setCell ⟨p, 0, none⟩ v) F' T p bs ∧ Upd w (w1.setCell ⟨p, 0, none⟩ v) F F'

theorem Stored.put {w0 w w1 : World} {F : Nat → Prop} {T : TypeId} {p : Nat} {v : Value} {bs : List UInt8} (h : Stored w w1 F T p v bs) (hu : Upd w0 w F F) : Put w0 F T p bs (.returned (.tuple #[])) (w1.setCell ⟨p, 0, none⟩ v) := by
  obtain ⟨F', hb, hk⟩ := h
  exact ⟨rfl, F', hb, hu.trans hk⟩

theorem BufAt.cell {w : World} {F : Nat → Prop} {T : TypeId} {p : Nat} {bs : List UInt8} (h : BufAt w F T p bs) : ∃ v, w.cell? ⟨p, 0, none⟩ = some v ∧ w.frozen? ⟨p, 0, none⟩ = false ∧ p < w.heap.size := by
  obtain ⟨hF, v, hp, hown, hv⟩ := h
  exact ⟨v, cell_of_one hp, free_of_one hp, (Array.getElem?_eq_some_iff.1 hp).1⟩

theorem BufAt.alloc {w : World} {F : Nat → Prop} {T : TypeId} {p : Nat} {bs : List UInt8} (h : BufAt w F T p bs) (o : Obj) : BufAt (w.alloc o) F T p bs := by
  obtain ⟨hF, v, hp, hown, hv⟩ := h
  exact ⟨hF, v, by rw [Below.heap_alloc _ _ _ (Array.getElem?_eq_some_iff.1 hp).1]; exact hp, hown.alloc o, hv⟩


theorem BufAt.drew {w : World} {F : Nat → Prop} {T : TypeId} {p : Nat} {bs : List UInt8} (h : BufAt w F T p bs) : BufAt w.drew F T p bs := h
theorem BufAt.drewN {w : World} {F : Nat → Prop} {T : TypeId} {p : Nat} {bs : List UInt8} (h : BufAt w F T p bs) (n : Nat) : BufAt (w.drewN n) F T p bs := h

/-- The append of some bytes to the buffer's slice, which has just been loaded. -/
theorem wp_append_buf {o : Oper} {a : Act} {K : Act → World → Prop} {Q : Exit → Act → World → Prop} (w : World) (F : Nat → Prop) (T : TypeId) (p : Nat) (bs : List UInt8) (s x : Operand)
    (ho : o.op = .call { callee := .builtin .append, args := #[s, x], argTypes := #[25, 25] }) (hB : BufAt w F T p bs) (v : Value) (hv : w.cell? ⟨p, 0, none⟩ = some v) (hs : a.eval s = v)
    (ad : Addr) (c : Nat) (news : List UInt8) (m : Nat) (hm : m = news.length) (hx : a.eval x = .slice (some ad) m c) (hnews : ∀ j u, (u8s news)[j]? = some u → w.cell? (ad.add j) = some u) (h0 : 0 < news.length) (hl : bs.length + news.length ≤ 140737488355328)
    (h : ∀ g cap w1, w1.cell? ⟨p, 0, none⟩ = some v → w1.frozen? ⟨p, 0, none⟩ = false → Stored w w1 F T p (.slice (some ⟨g, 0, none⟩) (bs.length + news.length) cap) (bs ++ news) → K (a.put o.dst (.slice (some ⟨g, 0, none⟩) (bs.length + news.length) cap)) w1) :
    o.wp Tryd.prog a w K Q := by
  obtain ⟨hF, v0, hp, hown, hv0⟩ := hB
  have hc := cell_of_one hp
  rw [hc] at hv
  obtain rfl : v0 = v := Option.some.inj hv
  subst hm
  have hlt : p < w.heap.size := (Array.getElem?_eq_some_iff.1 hp).1
  obtain ⟨i0, hi, hz0, hz1, hz2⟩ := info_parts infoU8
  refine wp_append_lies _ s x 25 ho 0 5 i0 (.int .u8 0) 1 1 Tryd.underlying25 hi hz0 hz1 hz2 rfl (by decide) v0 bs.length (u8s bs) hs hown ad news.length c (u8s news) hx (by simp) hnews (one_u8s _) h0 (by unfold maxLen; omega) (by omega) (Nat.zero_le _) w.heap.size rfl ?_
  intro g cap w1 hown1 hgrow hat hlt1
  have hb1 : w1.heap[p]? = w.heap[p]? := hgrow.block p hlt (fun e => (hv0 p e.symm).2 rfl)
  refine h g cap w1 (by rw [World.cell?_of_block (a := ⟨p, 0, none⟩) hb1]; exact hc) (by rw [World.frozen?_of_block (a := ⟨p, 0, none⟩) hb1]; exact free_of_one hp) ?_
  refine bufAt_store hp hF hv0 rfl ?_ hgrow ?_
  · simpa [u8s_append] using hown1
  · rcases hat with h | h
    · exact .inl (by rw [h]; rfl)
    · exact .inr (by rw [h]; rfl)

theorem append_buf {ops : Array Oper} {rest : List Oper} {o : Oper} {a : Act} {Q : Exit → Act → World → Prop} (w : World) (F : Nat → Prop) (T : TypeId) (p : Nat) (bs : List UInt8) (hgd : o.guard = none) (s x : Operand)
    (ho : o.op = .call { callee := .builtin .append, args := #[s, x], argTypes := #[25, 25] }) (hB : BufAt w F T p bs) (v : Value) (hv : w.cell? ⟨p, 0, none⟩ = some v) (hs : a.eval s = v)
    (ad : Addr) (c : Nat) (news : List UInt8) (m : Nat) (hm : m = news.length) (hx : a.eval x = .slice (some ad) m c) (hnews : ∀ j u, (u8s news)[j]? = some u → w.cell? (ad.add j) = some u) (h0 : 0 < news.length) (hl : bs.length + news.length ≤ 140737488355328)
    (h : ∀ g cap w1, w1.cell? ⟨p, 0, none⟩ = some v → w1.frozen? ⟨p, 0, none⟩ = false → Stored w w1 F T p (.slice (some ⟨g, 0, none⟩) (bs.length + news.length) cap) (bs ++ news) → wpList Tryd.prog ops Q rest (a.put o.dst (.slice (some ⟨g, 0, none⟩) (bs.length + news.length) cap)) w1) :
    wpList Tryd.prog ops Q (o :: rest) a w :=
  wpList_plain hgd fun _ hK => wp_append_buf w F T p bs s x ho hB v hv hs ad c news m hm hx hnews h0 hl fun g cap w1 h1 h2 h3 => hK _ _ (h g cap w1 h1 h2 h3)

theorem step_append_buf {ops : Array Oper} {o : Oper} {a : Act} {K : Act → World → Prop} {Q : Exit → Act → World → Prop} {E : Prop} (w : World) (F : Nat → Prop) (T : TypeId) (p : Nat) (bs : List UInt8) (hgd : o.guard = none) (s x : Operand)
    (ho : o.op = .call { callee := .builtin .append, args := #[s, x], argTypes := #[25, 25] }) (hB : BufAt w F T p bs) (v : Value) (hv : w.cell? ⟨p, 0, none⟩ = some v) (hs : a.eval s = v)
    (ad : Addr) (c : Nat) (news : List UInt8) (m : Nat) (hm : m = news.length) (hx : a.eval x = .slice (some ad) m c) (hnews : ∀ j u, (u8s news)[j]? = some u → w.cell? (ad.add j) = some u) (h0 : 0 < news.length) (hl : bs.length + news.length ≤ 140737488355328)
    (h : ∀ g cap w1, w1.cell? ⟨p, 0, none⟩ = some v → w1.frozen? ⟨p, 0, none⟩ = false → Stored w w1 F T p (.slice (some ⟨g, 0, none⟩) (bs.length + news.length) cap) (bs ++ news) → K (a.put o.dst (.slice (some ⟨g, 0, none⟩) (bs.length + news.length) cap)) w1) :
    if Region.wanted o (yielded ops a.tmps) = true then Oper.wp Tryd.prog o a w K Q else E := by
  rw [if_pos (by simp [Region.wanted, hgd])]
  exact wp_append_buf w F T p bs s x ho hB v hv hs ad c news m hm hx hnews h0 hl h

end Go.Proofs.YtgnkinhjfcbdbaaDoor
