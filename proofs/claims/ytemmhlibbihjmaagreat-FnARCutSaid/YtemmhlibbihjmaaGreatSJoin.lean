/- spec.STJoin: byte strings, one behind the other. -/
import Derived.Test.YtemmhlibbihjmaaGreatGot
namespace Go.Proofs.YtemmhlibbihjmaaGreat
open Go.RowKit

/-- The cells of a block hold slices that read as these byte strings. -/
def SrcsAt (w : World) (b : Nat) (bss : List (List UInt8)) : Prop := ∀ k bs, bss[k]? = some bs → ∃ v, w.cell? ⟨b, k, none⟩ = some v ∧ BytesAt w v bs

theorem SrcsAt.below {w w' : World} {b : Nat} {bss : List (List UInt8)} (h : SrcsAt w b bss) (hb : Below w.heap.size w w') : SrcsAt w' b bss := fun k bs hk => by
  obtain ⟨v, h1, h2⟩ := h k bs hk
  exact ⟨v, by rw [hb.cell (World.block_lt_of_cell? _ _ h1)]; exact h1, h2.below hb⟩

theorem flat_take_succ {bss : List (List UInt8)} {k : Nat} {x : List UInt8} (h : bss[k]? = some x) : (bss.take (k + 1)).flatten = (bss.take k).flatten ++ x := by
  obtain ⟨hk, rfl⟩ := List.getElem?_eq_some_iff.1 h
  rw [List.take_succ_eq_append_getElem hk, List.flatten_append]
  simp
theorem flat_take_le (bss : List (List UInt8)) (k : Nat) : (bss.take k).flatten.length ≤ bss.flatten.length := by
  conv => rhs; rw [← List.take_append_drop k bss]
  rw [List.flatten_append, List.length_append]
  omega

set_option maxRecDepth 100000 in
theorem stJoin (w : World) (b cap : Nat) (bss : List (List UInt8)) (hr : SrcsAt w b bss) (hn : bss.length ≤ 1000000) (hl : bss.flatten.length ≤ 1000000000) :
    Calls Tryz.prog 8 #[.slice (some ⟨b, 0, none⟩) bss.length cap] w (MadeO w bss.flatten) := by
  have HU := Lib.hid (fun k => Nat.le_trans (flat_take_le bss k) hl)
  have HR := Lib.hid hr
  clear hr hl
  go_enter Tryz.func8, Tryz.ntmps8
  go_wp2_with fail
  go_loopw [3, 4] (fun vo vi wr => ∃ (k : Nat) (p : Option Addr) (c : Nat), k ≤ bss.length ∧ vi = .int .i64 k ∧ vo = .slice p (bss.take k).flatten.length c ∧ Since w wr (.slice p (bss.take k).flatten.length c) (bss.take k).flatten) (fun _ vi _ => bss.length - (intOf vi).toNat)
  case atStart => exact ⟨0, none, 0, Nat.zero_le _, rfl, rfl, ⟨fun _ => False, OwnB.nil _ _, fun _ h => h.elim⟩, Below.refl _ _⟩
  case round =>
    obtain ⟨k, p, c, hk, rfl, rfl, hs⟩ := hrel
    by_cases hlt : k < bss.length
    · obtain ⟨x, hxk⟩ : ∃ x, bss[k]? = some x := ⟨_, List.getElem?_eq_getElem hlt⟩
      obtain ⟨v, hcell, hv⟩ := (HR.out.below hs.below) k x hxk
      have hts := flat_take_succ hxk
      have HT := Lib.hid hts
      have hl := HU.out k
      have hl1 := HU.out (k + 1)
      rw [hts, List.length_append] at hl1
      clear hts hxk
      obtain ⟨pre, hpre⟩ : ∃ pre, pre = (bss.take k).flatten := ⟨_, rfl⟩
      rw [← hpre] at hs hl hl1
      have HP := Lib.hid hpre
      rw [← hpre]
      clear hpre
      obtain ⟨p1, c1, rfl⟩ := hv.slice
      go_wp2_with (at_builtin; refine append_since _ w pre x rfl _ _ _ rfl _ rfl hs _ rfl hv.srcB (by omega) ?_; intro q2 c2 w2 s2)
      go_roundw
      case rel =>
        have e : (bss.take (k + 1)).flatten = pre ++ x := by rw [HT.out, HP.out]
        exact ⟨k + 1, q2, c2, by omega, by go_num, by rw [e]; simp, by rw [e]; simpa using s2⟩
      case measure => simp [intOf]; omega
    · obtain rfl : k = bss.length := by omega
      go_wp2_with fail
      go_ret
      have h := hs.madeO
      rw [List.take_length] at h
      simp only [List.take_length]
      exact h
end Go.Proofs.YtemmhlibbihjmaaGreat
