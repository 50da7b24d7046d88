/- spec.STLength. -/
import Derived.Test.YtemmhlibbihjmaaGreatSp
namespace Go.Proofs.YtemmhlibbihjmaaGreat
open Go.RowKit
set_option maxRecDepth 100000 in
theorem stLength (w : World) (x : Nat) (hx : x < 18446744073709551616) :
    Calls Tryz.prog 44 #[.int .u64 x] w (MadeO w (uv x)) := by
  have HX := Lib.hid hx
  clear hx
  have HI : PvInv w x x [] (.slice none 0 0) w := ⟨rfl, fun _ => False, OwnB.nil _ _, Upd.refl _ _⟩
  go_enter Tryz.func44, Tryz.ntmps44
  go_wp2_with fail
  go_loopw [0, 3] (fun vx vo wr => ∃ (xk : Nat) (pre : List UInt8) (p : Option Addr) (c : Nat), vx = .int .u64 xk ∧ vo = .slice p pre.length c ∧ PvInv w x xk pre (.slice p pre.length c) wr) (fun vx _ _ => (intOf vx).toNat)
  case atStart => exact ⟨x, [], none, 0, rfl, rfl, HI⟩
  case round =>
    obtain ⟨xk, pre, p, c, rfl, rfl, hinv⟩ := hrel
    have hlen := hinv.len HX.out
    obtain ⟨heq, F, hown, hu⟩ := id hinv
    have HEQ := Lib.hid heq
    clear heq
    by_cases hlt : xk < 128
    · have hb : ((xk : Int)) = ((UInt8.ofNat xk).toNat : Int) := (ofNat_toNat hlt).symm
      have HB := Lib.hid hb
      clear hb
      go_wp2_with (at_builtin; refine append_bytes _ F pre [UInt8.ofNat xk] rfl _ _ _ rfl _ rfl (hown.keep ((Below.refl _ _).alloc (Nat.le_refl _) _)) _ rfl (BytesAt.new1 _ _ _ HB.out).srcB (by simp; omega) ?_; intro q1 c1 w1 F1 hown1 hu1)
      go_ret
      have e : uv x = pre ++ [UInt8.ofNat xk] := by rw [HEQ.out, uv_small hlt]
      rw [e]
      have := MadeO.mk (w := w) (bs := pre ++ [UInt8.ofNat xk]) (p := q1) (c := c1) (by simpa using hown1) ((hu.alloc _).trans hu1)
      simpa using this
    · have hb : (((xk % 128 + 128 : Nat) : Int)) = ((UInt8.ofNat (xk % 128 + 128)).toNat : Int) := by simp; omega
      have HB := Lib.hid ((or128 xk).trans hb)
      clear hb
      go_wp2_with (at_builtin; refine append_bytes _ F pre [UInt8.ofNat (xk % 128 + 128)] rfl _ _ _ rfl _ rfl (hown.keep ((Below.refl _ _).alloc (Nat.le_refl _) _)) _ rfl (BytesAt.new1 _ _ _ HB.out).srcB (by simp; omega) ?_; intro q1 c1 w1 F1 hown1 hu1)
      go_roundw
      case rel =>
        refine ⟨xk / 128, pre ++ [UInt8.ofNat (xk % 128 + 128)], q1, c1, by go_num, by simp, by rw [HEQ.out, uv_big hlt]; simp, F1, by simpa using hown1, (hu.alloc _).trans hu1⟩
      case measure => simp [intOf]; omega
end Go.Proofs.YtemmhlibbihjmaaGreat
