/- impl.ENCode, and the law FnENCodes' walk. -/
import Derived.Test.YtbfhkimjlnmhgaaBytes
import Derived.Test.YtbfhkimjlnmhgaaUv
namespace Go.Proofs.Ytbfhkimjlnmhgaa
open Go.RowKit

theorem own_cc : Own 26 := fun _ _ => by kernel_rfl
theorem own_co : Own 27 := fun _ _ => by kernel_rfl
theorem own_sc : Own 28 := fun _ _ => by kernel_rfl
theorem own_st : Own 29 := fun _ _ => by kernel_rfl

theorem putByte (w : World) (F : Nat → Prop) (p : Nat) (bs : List UInt8) (x : UInt8) (h : BufAt w F 64 p bs) (hl : bs.length + 1 ≤ 140737488355328) :
    Calls Try.prog 35 #[.pointer (some ⟨p, 0, none⟩), .int .u8 x.toNat] w (Put w F 64 p (bs ++ [x])) := by
  go_enter Try.func35, Try.ntmps35
  go_wp2_with (go_at_call 40; refine (putUInt8 _ F p bs x h hl).mono ?_; rintro e w' ⟨rfl, hp⟩)
  go_returns
  exact ⟨rfl, hp⟩

theorem enc_cc (w : World) (F : Nat → Prop) (p : Nat) (x : UInt8) (h : BufAt w F 64 p []) :
    Calls Try.prog 26 #[.int .u8 x.toNat, .pointer (some ⟨p, 0, none⟩)] w (Put w F 64 p [x]) := by
  go_enter Try.func26, Try.ntmps26
  go_wp2_with (go_at_call 35; refine (putByte _ F p [] x h (by simp)).mono ?_; rintro e w' ⟨rfl, hp⟩)
  go_returns
  exact ⟨rfl, hp⟩

theorem enc_sc (w : World) (F : Nat → Prop) (p : Nat) (x : UInt8) (h : BufAt w F 64 p []) :
    Calls Try.prog 28 #[.int .u8 x.toNat, .pointer (some ⟨p, 0, none⟩)] w (Put w F 64 p [x]) := by
  have hb := UInt8.toNat_lt x
  go_enter Try.func28, Try.ntmps28
  go_wp2_with (go_at_call 35; refine (putByte _ F p [] x h (by simp)).mono ?_; rintro e w' ⟨rfl, hp⟩)
  go_returns
  exact ⟨rfl, hp⟩

theorem enc_co (w : World) (F : Nat → Prop) (p : Nat) (x : Nat) (hx : x < 128) (h : BufAt w F 64 p []) (hF : In F w) :
    Calls Try.prog 27 #[.int .u8 x, .pointer (some ⟨p, 0, none⟩)] w (Put w F 64 p [UInt8.ofNat x]) := by
  go_enter Try.func27, Try.ntmps27
  go_wp2_with (go_at_call 36; refine (putUVarInt _ F p [] x (by omega) h hF (by rw [uv_small hx]; simp)).mono ?_; rintro e w' ⟨rfl, hp⟩)
  go_returns
  rw [uv_small hx] at hp
  exact ⟨rfl, hp⟩

theorem enc_st (w : World) (F : Nat → Prop) (p : Nat) (x : Nat) (hx : x < 128) (h : BufAt w F 64 p []) (hF : In F w) :
    Calls Try.prog 29 #[.int .u8 x, .pointer (some ⟨p, 0, none⟩)] w (Put w F 64 p [UInt8.ofNat x]) := by
  go_enter Try.func29, Try.ntmps29
  go_wp2_with (go_at_call 36; refine (putUVarInt _ F p [] x (by omega) h hF (by rw [uv_small hx]; simp)).mono ?_; rintro e w' ⟨rfl, hp⟩)
  go_returns
  rw [uv_small hx] at hp
  exact ⟨rfl, hp⟩

theorem ofNat_toNat {x : Nat} (hx : x < 128) : ((UInt8.ofNat x).toNat : Int) = x := by simp; omega

theorem enCode (w : World) (k : Int) (x : Nat) (hk : k = 2 ∨ k = 4 ∨ k = 10 ∨ k = 11) (hx : x < 128) :
    Calls Try.prog 16 #[.int .i64 k, .int .i64 x] w (Made w [UInt8.ofNat x]) := by
  rcases hk with rfl | rfl | rfl | rfl
  · go_enter Try.func16, Try.ntmps16
    go_wp2_with (go_at_call 25; refine (encoded _ _ _ [UInt8.ofNat x] own_cc (fun w1 F p h _ => by rw [← ofNat_toNat hx]; exact enc_cc w1 F p _ h)).mono ?_; rintro e w' ⟨hb, v, rfl, hv, ho⟩; have HO := Lib.hid ho; clear ho)
    go_ret
    exact ⟨hb, v, rfl, hv, HO.out⟩
  · go_enter Try.func16, Try.ntmps16
    go_wp2_with (go_at_call 25; refine (encoded _ _ _ [UInt8.ofNat x] own_co (fun w1 F p h hF => enc_co w1 F p _ hx h hF)).mono ?_; rintro e w' ⟨hb, v, rfl, hv, ho⟩; have HO := Lib.hid ho; clear ho)
    go_ret
    exact ⟨hb, v, rfl, hv, HO.out⟩
  · go_enter Try.func16, Try.ntmps16
    go_wp2_with (go_at_call 25; refine (encoded _ _ _ [UInt8.ofNat x] own_sc (fun w1 F p h _ => by rw [← ofNat_toNat hx]; exact enc_sc w1 F p _ h)).mono ?_; rintro e w' ⟨hb, v, rfl, hv, ho⟩; have HO := Lib.hid ho; clear ho)
    go_ret
    exact ⟨hb, v, rfl, hv, HO.out⟩
  · go_enter Try.func16, Try.ntmps16
    go_wp2_with (go_at_call 25; refine (encoded _ _ _ [UInt8.ofNat x] own_st (fun w1 F p h hF => enc_st w1 F p _ hx h hF)).mono ?_; rintro e w' ⟨hb, v, rfl, hv, ho⟩; have HO := Lib.hid ho; clear ho)
    go_ret
    exact ⟨hb, v, rfl, hv, HO.out⟩

theorem kinds_at (a : Nat) : ∃ k : Int, [Value.int IntKind.i64 2, Value.int IntKind.i64 4, Value.int IntKind.i64 10, Value.int IntKind.i64 11][a % 4]? = some (.int .i64 k) ∧ (k = 2 ∨ k = 4 ∨ k = 10 ∨ k = 11) := by
  have h : a % 4 = 0 ∨ a % 4 = 1 ∨ a % 4 = 2 ∨ a % 4 = 3 := by omega
  rcases h with h | h | h | h <;> rw [h]
  · exact ⟨2, rfl, by simp⟩
  · exact ⟨4, rfl, by simp⟩
  · exact ⟨10, rfl, by simp⟩
  · exact ⟨11, rfl, by simp⟩

theorem law_walk (w : World) (a b : Nat) :
    Calls Try.prog 7 #[.int .u8 a, .int .u8 b] w fun e w' => e = .returned (.bool true) ∧ Below w.heap.size w w' := by
  obtain ⟨k, hk, hkk⟩ := kinds_at a
  have HK := Lib.hid hkk
  clear hkk
  have hx : b % 128 < 128 := by omega
  go_enter Try.func7, Try.ntmps7
  go_wp2_with fail
  refine (enCode _ k (b % 128) HK.out hx).mono ?_
  intro e w1 hm
  obtain ⟨v1, rfl, hv1, hb1⟩ := hm.both
  clear hm
  go_wp2_with fail
  refine (bytesEqual _ _ _ [UInt8.ofNat (b % 128)] [UInt8.ofNat (b % 128)] (hv1.alloc _) ?_).mono ?_
  · have := bytesAt_new w1 (UInt8.ofNat (b % 128))
    rw [ofNat_toNat hx] at this
    exact this
  rintro e w2 ⟨rfl, rfl⟩
  rw [show ([UInt8.ofNat (b % 128)] == [UInt8.ofNat (b % 128)]) = true by simp]
  go_wp2_with fail
  refine (enCode _ 10 3 (by simp) (by omega)).mono ?_
  intro e w2 hm
  obtain ⟨v2, rfl, hv2, hb2⟩ := hm.both
  clear hm
  go_wp2_with fail
  refine (bytesEqual _ _ _ [3] [3] (hv2.alloc _) (bytesAt_new w2 3)).mono ?_
  rintro e w3 ⟨rfl, rfl⟩
  go_wp2_with fail
  go_ret
  refine ⟨rfl, ?_⟩
  have s1 := hb1.size
  have s2 := hb2.size
  simp at s1 s2
  exact (((((Below.refl _ w).alloc (Nat.le_refl _) _).trans (hb1.mono (by simp))).alloc (by omega) _).trans (hb2.mono (by simp; omega))).alloc (by omega) _
end Go.Proofs.Ytbfhkimjlnmhgaa
