/- impl.got of a closure, with and without a code. -/
import Derived.Test.YtlohpmncagfecaaDoorGot
namespace Go.Proofs.YtlohpmncagfecaaDoor
open Go.RowKit

theorem encodedC (w : World) (g : FuncId) (c1 c2 : Value) (bs : List UInt8) (hg : Own g)
    (H : ∀ w1 F p, BufAt w1 F 57 p [] → In F w1 → (∀ k, F k → w.heap.size ≤ k) → Below w.heap.size w w1 → Calls Tryd.prog g #[.pointer (some ⟨p, 0, none⟩), c1, c2] w1 (Put w1 F 57 p bs)) :
    Calls Tryd.prog 23 #[.func (.func g) #[] #[c1, c2]] w (Made w bs) := by
  have HH := Lib.hid H
  clear H
  have h1 := hg #[Value.pointer (some { block := w.heap.size, off := 0 }), c1, c2] (w.alloc (Obj.cells #[Value.slice none 0 0] 57))
  go_enter Tryd.func23, Tryd.ntmps23
  go_wp2_with fail
  refine (HH.out _ _ _ (bufAt_new _ _) (fun k hk => by simp [hk]) (fun k hk => by omega) ((Below.refl _ _).alloc (Nat.le_refl _) _)).mono ?_
  rintro e w1 ⟨rfl, F', hb, hu⟩
  obtain ⟨v, hc, hbv, hown⟩ := hb.bytes
  have HO := Lib.hid hown
  have hbl := hu.chg
  clear hown
  go_wp2
  go_ret
  refine ⟨?_, v, rfl, hbv, fun k hk => ⟨?_, (HO.out k hk).2⟩⟩
  · exact (((Chg.refl (· = w.heap.size) w).alloc _).trans hbl (fun _ _ h => h)).below (Nat.le_refl _) (fun k hk => by omega)
  · rcases hu.new k (HO.out k hk).1 with h | h
    · omega
    · simp at h; omega

end Go.Proofs.YtlohpmncagfecaaDoor
