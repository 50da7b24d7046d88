/- spec.PKFault. -/
import Derived.Test.YtlohpmncagfecaaExc
import Derived.Test.YtlohpmncagfecaaLow
import Derived.Test.YtlohpmncagfecaaTexts
import Derived.Test.YtlohpmncagfecaaProfS
namespace Go.Proofs.Ytlohpmncagfecaa
open Go.RowKit

theorem le4_lows (k : Nat) : lows k 0 4 = le4 k := by
  simp [lows, lowB, le4, Lib.leBytes, List.range_succ, Nat.toUInt8, Nat.div_div_eq_div_mul]

set_option maxRecDepth 100000 in
theorem spFault (w : World) (k : Nat) (a b c : ByteArray) (hk : k ≤ 2147483647) (ha : a.size ≤ 100) (hb : b.size ≤ 100) (hc : c.size ≤ 100) :
    Calls Try.prog 30 #[.agg (mExcVals k a b c).toArray] w (Made w (mExcBytes k a b c)) := by
  have hr0 := rowIs_new w [.int .i64 (k : Nat), .string a, .string b, .string c] 57
  have HR0 := Lib.hid hr0
  have hx3 : ∀ x ∈ [a, b, c], x.size ≤ 100 := by
    intro x hx
    simp at hx
    rcases hx with rfl | rfl | rfl <;> assumption
  have HX := Lib.hid hx3
  have hl3 := texts_le [a, b, c] hx3
  have hW : Hid ((w.alloc (.cells #[.int .i64 (k : Nat), .string a, .string b, .string c] 57)).heap.size = w.heap.size + 1) := by show _ = _; simp
  have HK := Lib.hid hk
  have hk0 : (0 : Int) ≤ (k : Int) := by omega
  have hk1 : (k : Int) < 18446744073709551616 := by omega
  have hl3' : (texts [a, b, c]).length ≤ 330 := by simpa using hl3
  clear hx3 hr0 ha hb hc hk hl3
  unfold mExcVals
  go_enter Try.func30, Try.ntmps30
  go_wp2_with fail
  refine (prLow _ k 0 4 (by have := HK.out; omega) (by omega) (by omega)).mono ?_
  intro e w1 hm
  rw [le4_lows] at hm
  obtain ⟨p1, c1, rfl, s1, hb1⟩ := hm.since (Below.refl _ _)
  clear hm
  have hr1 := HR0.out.below hb1
  have x1 := hr1 1 _ rfl
  have x2 := hr1 2 _ rfl
  have x3 := hr1 3 _ rfl
  have hbox := rowIs_new w1 (strs [a, b, c]) 9
  have HBX := Lib.hid hbox
  clear hbox hr1
  go_wp2_with (first
    | (go_at_call 61; refine (pkTexts _ _ _ [a, b, c] HBX.out HX.out (by simp)).mono ?_; intro e w2 hm; obtain ⟨p2, c2, rfl, s2, hb2⟩ := hm.since (Below.refl _ _); clear hm; have s1' := (s1.alloc _).later hb2)
    | (at_builtin; refine append_since _ _ (le4 k) (texts [a, b, c]) rfl _ _ _ rfl _ rfl s1' _ rfl s2.bytes.srcB (by rw [le4_length]; omega) ?_; intro p3 c3 w3 s3)
    | (at_builtin; refine append_since _ _ (le4 k ++ texts [a, b, c]) [bB false] rfl _ _ _ rfl _ rfl (s3.alloc _) _ rfl (BytesAt.new1 _ _ (bB false) rfl).srcB (by simp [le4_length]; omega) ?_; intro p4 c4 w4 s4))
  go_ret
  have e : mExcBytes k a b c = le4 k ++ texts [a, b, c] ++ [bB false] := by simp [mExcBytes, texts]
  rw [e]
  have h := s4.made ((Below.refl _ w).alloc (Nat.le_refl _) _)
  simpa using h
end Go.Proofs.Ytlohpmncagfecaa
