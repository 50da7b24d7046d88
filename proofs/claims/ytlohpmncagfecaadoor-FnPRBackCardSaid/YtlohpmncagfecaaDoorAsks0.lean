/- Appends of rows within a region that draws its order; answers that were made lie. -/
import Derived.Test.YtlohpmncagfecaaDoorEqf
namespace Go.Proofs.YtlohpmncagfecaaDoor
open Go.RowKit
set_option linter.unnecessarySimpa false
set_option linter.unusedVariables false
set_option linter.unusedSimpArgs false

theorem step_append_rows {ops : Array Oper} {o : Oper} {a : Act} {K : Act → World → Prop} {Q : Exit → Act → World → Prop} {A : Prop} {T E : TypeId} {size bytes : Nat} (el : Elem T E size bytes) (w : World) (F : Nat → Prop) (n m : Nat) (xs news : List Value) (hgd : o.guard = none) (s x : Operand) (tx : TypeId)
    (ho : o.op = .call { callee := .builtin .append, args := #[s, x], argTypes := #[T, tx] }) (v : Value) (hv : a.eval s = v) (h : OwnR w F E size v n xs) (xv : Value) (hx : a.eval x = xv) (hs : Src Tryd.prog size tx xv m news w) (hl : n + m ≤ 140737488355328) (hlb : (n + m) * bytes ≤ 140737488355328)
    (hK : ∀ p c w' F', OwnR w' F' E size (.slice p (n + m) c) (n + m) (xs ++ news) → Upd w w' F F' → K (a.put o.dst (.slice p (n + m) c)) w') :
    if Region.wanted o (yielded ops a.tmps) = true then Oper.wp Tryd.prog o a w K Q else A := by
  rw [if_pos (by simp [Region.wanted, hgd])]
  exact wp_append_rows el w F n m xs news s x tx ho v hv h xv hx hs hl hlb hK

theorem Outs.gts {B : Nat} {w : World} {Fo F : Nat → Prop} {v : Value} {gs : List Gt} (h : Outs B w Fo F v gs) : GtsAt w v gs := by
  by_cases h0 : gs = []
  · obtain ⟨p, c, hv⟩ := h.slice
    exact .inl ⟨⟨p, c, by rw [hv, h0]; rfl⟩, h0⟩
  · obtain ⟨g0, hg0⟩ : ∃ g, gs[0]? = some g := ⟨_, List.getElem?_eq_getElem (List.length_pos_iff.2 h0)⟩
    obtain ⟨gb, cap, sv, hv, hc, hlt, -⟩ := h.at hg0
    refine .inr ⟨gb, 0, cap, hv, hc, hlt, fun i g hg => ?_⟩
    obtain ⟨gb', cap', sv', hv', hc', hlt', c0, c1, c2, c3, hs⟩ := h.at hg
    rw [hv] at hv'
    injection hv' with e1 e2 e3
    injection e1 with e1
    injection e1 with e1
    subst e1
    rw [Nat.zero_add]
    refine ⟨sv', c0, c1, c2, c3, .inl hs, fun k hn hk => ?_⟩
    rcases hs with ⟨-, e⟩ | ⟨b, off, c, rfl, hl, hcell⟩
    · exact absurd e hn
    · simp [Value.ownBlock] at hk
      obtain ⟨y, hy⟩ : ∃ y, g.s[0]? = some y := ⟨_, List.getElem?_eq_getElem (List.length_pos_iff.2 hn)⟩
      have := World.block_lt_of_cell? _ _ (hcell 0 (List.length_pos_iff.2 hn))
      simp at this
      omega
end Go.Proofs.YtlohpmncagfecaaDoor
