/- spec.PKProfile. -/
import Derived.Test.YtlohpmncagfecaaProf
namespace Go.Proofs.Ytlohpmncagfecaa
open Go.RowKit

def ints64 (xs : List Nat) : List Value := xs.map fun x => Value.int .u64 ((x : Nat) : Int)
theorem Since.nil (w : World) : Since w w (.slice none 0 0) [] := ⟨⟨fun _ => False, OwnB.nil _ _, fun _ h => h.elim⟩, Below.refl _ _⟩
theorem bB_nat (b : Bool) : ((bN b : Nat) : Int) = ((bB b).toNat : Int) := by cases b <;> rfl

theorem below_d (w : World) : Below w.heap.size w w.drew := ⟨rfl, rfl, rfl, Nat.le_refl _, fun _ _ => rfl⟩
theorem below_drew (w : World) (n : Nat) : Below w.heap.size w (w.drewN n) := ⟨rfl, rfl, rfl, Nat.le_refl _, fun _ _ => rfl⟩

set_option maxRecDepth 100000 in
theorem spProfile (w : World) (a b c d : Nat) (x y : Bool) (ha : a < 18446744073709551616) (hb : b < 18446744073709551616) (hc : c < 18446744073709551616) (hd : d < 18446744073709551616) :
    Calls Try.prog 25 #[.agg (iProf a b c d x y).toArray] w (Made w (mProfBytes a b c x d y)) := by
  unfold iProf
  have hr0 := rowIs_new w [.int .u64 a, .int .u64 b, .int .u64 c, .int .u64 d, .bool x, .bool y] 50
  have hr1 := rowIs_new (w.alloc (.cells #[.int .u64 a, .int .u64 b, .int .u64 c, .int .u64 d, .bool x, .bool y] 50)) [.int .u64 a, .int .u64 b, .int .u64 c] 41
  have HR0 := Lib.hid (hr0.below ((Below.refl _ _).alloc (Nat.le_refl _) (.cells #[.int .u64 a, .int .u64 b, .int .u64 c] 41)))
  have HR1 := Lib.hid hr1
  obtain ⟨W0, hW0⟩ : ∃ W0, W0 = (w.alloc (.cells #[.int .u64 a, .int .u64 b, .int .u64 c, .int .u64 d, .bool x, .bool y] 50)).alloc (.cells #[.int .u64 a, .int .u64 b, .int .u64 c] 41) := ⟨_, rfl⟩
  have hX : ∀ (k z : Nat), [a, b, c][k]? = some z → z < 18446744073709551616 := by
    intro k z hz
    match k, hz with
    | 0, hz => obtain rfl := Option.some.inj hz; exact ha
    | 1, hz => obtain rfl := Option.some.inj hz; exact hb
    | 2, hz => obtain rfl := Option.some.inj hz; exact hc
    | k + 3, hz => simp at hz
  have HX := Lib.hid hX
  have HU : Hid (∀ k, (uvs ([a, b, c].take k)).length ≤ 30) := by
    have h1 := uv_length_le 10 a (by omega) (by omega)
    have h2 := uv_length_le 10 b (by omega) (by omega)
    have h3 := uv_length_le 10 c (by omega) (by omega)
    intro k
    match k with
    | 0 => simp [uvs]
    | 1 => simp [uvs]; omega
    | 2 => simp [uvs]; omega
    | k + 3 => simp [uvs]; omega
  have HD := Lib.hid hd
  have hsz : W0.heap.size = w.heap.size + 1 + 1 := by rw [hW0]; simp
  rw [← hW0] at HR0
  simp only [World.size_alloc] at HR1
  have HR1 : Hid (RowIs W0 (w.heap.size + 1) (ints64 [a, b, c])) := by rw [hW0]; exact HR1
  have HW0 := Lib.hid hW0
  clear hX hr0 hr1 ha hb hc hd hW0
  go_enter Try.func25, Try.ntmps25
  go_wp2_with fail
  rw [← HW0.out]
  go_loopw [3, 14] (fun vo vi wr => ∃ (k : Nat) (p : Option Addr) (c1 : Nat), k ≤ 3 ∧ vi = .int .i64 k ∧ vo = .slice p (uvs ([a, b, c].take k)).length c1 ∧ Since W0 wr (.slice p (uvs ([a, b, c].take k)).length c1) (uvs ([a, b, c].take k))) (fun _ vi _ => 3 - (intOf vi).toNat)
  case atStart => exact ⟨0, none, 0, Nat.zero_le _, rfl, rfl, Since.nil _⟩
  case round =>
    obtain ⟨k, p, c1, hk, rfl, rfl, hs⟩ := hrel
    by_cases hlt : k < 3
    · obtain ⟨z, hz⟩ : ∃ z, [a, b, c][k]? = some z := ⟨_, List.getElem?_eq_getElem hlt⟩
      have hcell : wr.cell? ⟨w.heap.size + 1, k, none⟩ = some (.int .u64 (z : Int)) := (HR1.out.below hs.below) k _ (by unfold ints64; rw [List.getElem?_map, hz]; rfl)
      have hzb : z < 18446744073709551616 := HX.out k z hz
      have hts := uvs_take_succ hz
      have HT := Lib.hid hts
      have hu10 := uv_length_le 10 z (by omega) (by omega)
      have hl := HU.out k
      clear hts hz
      obtain ⟨pre, hpre⟩ : ∃ pre, pre = uvs ([a, b, c].take k) := ⟨_, rfl⟩
      rw [← hpre] at hs hl
      have HP := Lib.hid hpre
      rw [← hpre]
      clear hpre
      go_wp2_with (first | (go_at_call 56; refine (prVar _ z (by omega)).mono ?_; intro e w1 hm; obtain ⟨p1, c2, rfl, s1, hb1⟩ := hm.since hs.below; clear hm) | (at_builtin; refine append_since _ W0 pre (uv z) rfl _ _ _ rfl _ rfl (hs.later hb1) _ rfl s1.bytes.srcB (by omega) ?_; intro q2 c3 w2 s2))
      go_roundw
      case rel =>
        have e : uvs ([a, b, c].take (k + 1)) = pre ++ uv z := by rw [HT.out, HP.out]
        exact ⟨k + 1, q2, c3, by omega, by go_num, by rw [e]; simp, by rw [e]; simpa using s2⟩
      case measure => simp [intOf]; omega
    · obtain rfl : k = 3 := by omega
      have hl := HU.out 3
      simp only [List.take_of_length_le (show [a, b, c].length ≤ 3 by simp)] at hs hl ⊢
      obtain ⟨pre, hpre⟩ : ∃ pre, pre = uvs [a, b, c] := ⟨_, rfl⟩
      rw [← hpre] at hs hl
      have HP := Lib.hid hpre
      rw [← hpre]
      clear hpre
      have q3 : wr.cell? ⟨w.heap.size, 3, none⟩ = some (.int .u64 d) := (HR0.out.below hs.below) 3 _ rfl
      have q4 : wr.cell? ⟨w.heap.size, 4, none⟩ = some (.bool x) := (HR0.out.below hs.below) 4 _ rfl
      have q5 : wr.cell? ⟨w.heap.size, 5, none⟩ = some (.bool y) := (HR0.out.below hs.below) 5 _ rfl
      go_wp2_with fail
      go_region_held3 (fun w' => w'.cell? ⟨w.heap.size, 3, none⟩ = some (.int .u64 d) ∧ w'.cell? ⟨w.heap.size, 4, none⟩ = some (.bool x) ∧ w'.cell? ⟨w.heap.size, 5, none⟩ = some (.bool y)) (first | go_keep | (go_split_ands; refine ⟨?_, ?_, ?_⟩ <;> assumption))
        (first
          | (go_at_call 44; refine (pkBool _ x).mono ?_; rintro e w1 ⟨rfl, rfl⟩)
          | (refine step_append_since _ W0 pre [bB x] (by rfl) _ _ _ (by rfl) _ (by rfl) ((hs.alloc _).later (below_d _)) _ (by rfl) ((BytesAt.new1 _ _ _ (bB_nat x)).below (below_d _)).srcB (by simp; omega) ?_; intro p1 c2 w1 s1; have t3 := (HR0.out.below s1.below) 3 _ rfl; have t4 := (HR0.out.below s1.below) 4 _ rfl; have t5 := (HR0.out.below s1.below) 5 _ rfl)
          | (go_at_call 56; refine (prVar _ d (by have := HD.out; omega)).mono ?_; intro e w2 hm; obtain ⟨p2, c3, rfl, s2, hb2⟩ := hm.since (w0 := W0) (by first | exact s1.below | exact (s1.later (below_d _)).below); clear hm; have s1' : Since W0 w2 _ _ := (by first | exact s1.later hb2 | exact (s1.later (below_d _)).later hb2); have u3 := (HR0.out.below s2.below) 3 _ rfl; have u4 := (HR0.out.below s2.below) 4 _ rfl; have u5 := (HR0.out.below s2.below) 5 _ rfl)
          | (refine step_append_since _ W0 (pre ++ [bB x]) (uv d) (by rfl) _ _ _ (by rfl) _ (by rfl) (by first | exact s1' | exact s1'.later (below_d _)) _ (by rfl) (by first | exact s2.bytes.srcB | exact (s2.bytes.below (below_d _)).srcB) (by have := uv_length_le 10 d (by have := HD.out; omega) (by omega); simp; omega) ?_; intro p3 c4 w3 s3; have x3 := (HR0.out.below s3.below) 3 _ rfl; have x4 := (HR0.out.below s3.below) 4 _ rfl; have x5 := (HR0.out.below s3.below) 5 _ rfl)
          | fail)
      all_goals
        have s3n : Since W0 w3 (.slice p3 (pre.length + 1 + (uv d).length) c4) (pre ++ [bB x] ++ uv d) := by have h := s3; rw [List.length_append] at h; exact h
        have hl5 := uv_length_le 10 d (by have := HD.out; omega) (by omega)
        go_wp2_with (first | (go_at_call 44; refine (pkBool _ y).mono ?_; rintro e w4 ⟨rfl, rfl⟩) | (at_builtin; refine append_since _ W0 (pre ++ [bB x] ++ uv d) [bB y] rfl _ _ _ rfl _ rfl (by first | exact s3n.alloc _ | exact (s3n.later (below_drew _ _)).alloc _) _ rfl (BytesAt.new1 _ _ _ (bB_nat y)).srcB (by simp; omega) ?_; intro p4 c5 w5 s5))
        go_ret
        have e : mProfBytes a b c x d y = pre ++ [bB x] ++ uv d ++ [bB y] := by rw [HP.out]; simp [mProfBytes, uvs]
        rw [e]
        have h := s5.made (w := w) (by rw [HW0.out]; exact ((Below.refl _ w).alloc (Nat.le_refl _) _).alloc (by simp) _)
        simpa using h
end Go.Proofs.Ytlohpmncagfecaa
