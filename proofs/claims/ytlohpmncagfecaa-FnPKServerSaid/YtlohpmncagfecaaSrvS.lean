/- spec.PKServerBytes, spec.PKServer. -/
import Derived.Test.YtlohpmncagfecaaSrv
import Derived.Test.YtlohpmncagfecaaProfS
namespace Go.Proofs.Ytlohpmncagfecaa
open Go.RowKit

theorem srvBytes0 (ver : Int) (m : ByteArray) (a b c : Nat) (y d : ByteArray) (u : Nat) (h : ver < 54058) : srvBytes ver m a b c y d u = strBytes m.data.toList ++ uvs [a, b, c] := by
  unfold srvBytes
  rw [if_pos h]
  simp [mSrv0Bytes, uvs]
theorem srvBytes1 (ver : Int) (m : ByteArray) (a b c : Nat) (y d : ByteArray) (u : Nat) (h : 54058 ≤ ver) (h2 : ver < 54372) : srvBytes ver m a b c y d u = strBytes m.data.toList ++ uvs [a, b, c] ++ strBytes y.data.toList := by
  unfold srvBytes
  rw [if_neg (by omega), if_pos h2]
  simp [mSrv1Bytes, uvs]
theorem srvBytes2 (ver : Int) (m : ByteArray) (a b c : Nat) (y d : ByteArray) (u : Nat) (h : 54372 ≤ ver) (h2 : ver < 54401) : srvBytes ver m a b c y d u = strBytes m.data.toList ++ uvs [a, b, c] ++ strBytes y.data.toList ++ strBytes d.data.toList := by
  unfold srvBytes
  rw [if_neg (by omega), if_neg (by omega), if_pos h2]
  simp [mSrv2Bytes, uvs]
theorem srvBytes3 (ver : Int) (m : ByteArray) (a b c : Nat) (y d : ByteArray) (u : Nat) (h : 54401 ≤ ver) : srvBytes ver m a b c y d u = strBytes m.data.toList ++ uvs [a, b, c] ++ strBytes y.data.toList ++ strBytes d.data.toList ++ uvs [u] := by
  unfold srvBytes
  rw [if_neg (by omega), if_neg (by omega), if_neg (by omega)]
  simp [mSrv3Bytes, uvs]

set_option maxHeartbeats 4000000 in
set_option maxRecDepth 100000 in
theorem spServerBytes (w : World) (ver : Int) (m : ByteArray) (a b c : Nat) (y d : ByteArray) (u : Nat) (hm : m.size ≤ 100) (ha : a ≤ 9223372036854775807) (hb : b ≤ 9223372036854775807) (hc : c ≤ 9223372036854775807) (hy : y.size ≤ 100) (hd : d.size ≤ 100) (hu : u ≤ 9223372036854775807) :
    Calls Try.prog 35 #[.agg (srvVals m a b c y d u).toArray, .int .i64 ver] w (Made w (srvBytes ver m a b c y d u)) := by
  have HLm := Lib.hid (strBytes_le m hm)
  have HLy := Lib.hid (strBytes_le y hy)
  have HLd := Lib.hid (strBytes_le d hd)
  have hx3 : ∀ x ∈ [a, b, c], x ≤ 9223372036854775807 := by
    intro x hx
    simp at hx
    rcases hx with rfl | rfl | rfl <;> assumption
  have hx1 : ∀ x ∈ [u], x ≤ 9223372036854775807 := by simpa using hu
  have HX3 := Lib.hid hx3
  have HX1 := Lib.hid hx1
  have HU3 := Lib.hid (uvs_le [a, b, c] hx3)
  have HU1 := Lib.hid (uvs_le [u] hx1)
  have HR0 := Lib.hid (rowIs_new w [.string m, .int .i64 (a : Nat), .int .i64 (b : Nat), .int .i64 (c : Nat), .string y, .string d, .int .i64 (u : Nat)] 65)
  have a0 := HR0.out 0 _ rfl
  have a1 := HR0.out 1 _ rfl
  have a2 := HR0.out 2 _ rfl
  have a3 := HR0.out 3 _ rfl
  have HB0 := Lib.hid (fun n => below_drew (w.alloc (.cells #[.string m, .int .i64 (a : Nat), .int .i64 (b : Nat), .int .i64 (c : Nat), .string y, .string d, .int .i64 (u : Nat)] 65)) n)
  clear hx3 hx1 hm ha hb hc hy hd hu
  unfold srvVals
  go_enter Try.func35, Try.ntmps35
  go_wp2_with fail
  go_region_held3 (fun w' => w'.cell? ⟨w.heap.size, 0, none⟩ = some (.string m) ∧ w'.cell? ⟨w.heap.size, 1, none⟩ = some (.int .i64 (a : Nat)) ∧ w'.cell? ⟨w.heap.size, 2, none⟩ = some (.int .i64 (b : Nat)) ∧ w'.cell? ⟨w.heap.size, 3, none⟩ = some (.int .i64 (c : Nat))) (first | go_keep | (go_split_ands; refine ⟨?_, ?_, ?_, ?_⟩ <;> assumption))
    (first
      | (go_at_call 45; refine (pkText _ m (by have := HLm.out; omega)).mono ?_; intro e w1 hm; obtain ⟨p1, c1, rfl, s1, hb1⟩ := hm.since (w0 := (w.alloc (.cells #[.string m, .int .i64 (a : Nat), .int .i64 (b : Nat), .int .i64 (c : Nat), .string y, .string d, .int .i64 (u : Nat)] 65))) (by first | exact HB0.out _ | exact (HB0.out _).alloc (by simp [World.drewN]) _); clear hm; (try (have hrow : RowIs w1 (w.heap.size + 1) (ints [a, b, c]) := (by have h := (rowIs_new ((w.alloc (.cells #[.string m, .int .i64 (a : Nat), .int .i64 (b : Nat), .int .i64 (c : Nat), .string y, .string d, .int .i64 (u : Nat)] 65)).drewN _) (ints [a, b, c]) 3).below hb1; simpa using h))); have q0 := (HR0.out.below s1.below) 0 _ rfl; have q1 := (HR0.out.below s1.below) 1 _ rfl; have q2 := (HR0.out.below s1.below) 2 _ rfl; have q3 := (HR0.out.below s1.below) 3 _ rfl)
      | (go_at_call 46; refine (pkInts _ _ 3 [a, b, c] (by first | exact rowIs_new _ _ _ | exact hrow) HX3.out (by simp)).mono ?_; intro e w2 hm; obtain ⟨p2, c2, rfl, s2, hb2⟩ := hm.since (w0 := (w.alloc (.cells #[.string m, .int .i64 (a : Nat), .int .i64 (b : Nat), .int .i64 (c : Nat), .string y, .string d, .int .i64 (u : Nat)] 65))) (by first | exact s1.below | exact (s1.alloc _).below | exact ((s1.alloc _).later (below_d _)).below); clear hm; have s1' := (by first | exact s1.later hb2 | exact (s1.alloc _).later hb2 | exact ((s1.alloc _).later (below_d _)).later hb2 : Since (w.alloc (.cells #[.string m, .int .i64 (a : Nat), .int .i64 (b : Nat), .int .i64 (c : Nat), .string y, .string d, .int .i64 (u : Nat)] 65)) w2 _ _); have r0 := (HR0.out.below s2.below) 0 _ rfl; have r1 := (HR0.out.below s2.below) 1 _ rfl; have r2 := (HR0.out.below s2.below) 2 _ rfl; have r3 := (HR0.out.below s2.below) 3 _ rfl)
      | (refine step_append_since _ _ (strBytes m.data.toList) (uvs [a, b, c]) (by rfl) _ _ _ (by rfl) _ (by rfl) (by first | exact s1' | exact s1'.later (below_d _)) _ (by rfl) (by first | exact s2.bytes.srcB | exact (s2.bytes.below (below_d _)).srcB) (by have := HLm.out; have := HU3.out; simp at this; omega) ?_; intro p3 c3 w3 s3; have t0 := (HR0.out.below s3.below) 0 _ rfl; have t1 := (HR0.out.below s3.below) 1 _ rfl; have t2 := (HR0.out.below s3.below) 2 _ rfl; have t3 := (HR0.out.below s3.below) 3 _ rfl)
      | fail)
  all_goals
    obtain ⟨acc, hacc⟩ : ∃ acc, acc = strBytes m.data.toList ++ uvs [a, b, c] := ⟨_, rfl⟩
    have hal : acc.length ≤ 140 := by have h1 := HLm.out; have h2 := HU3.out; rw [hacc, List.length_append]; simp at h2; omega
    rw [← hacc, show (strBytes m.data.toList).length + (uvs [a, b, c]).length = acc.length by rw [hacc, List.length_append]] at s3
    rw [show (strBytes m.data.toList).length + (uvs [a, b, c]).length = acc.length by rw [hacc, List.length_append]]
    have HC := Lib.hid hacc
    have v4 := (HR0.out.below s3.below) 4 _ rfl
    have v5 := (HR0.out.below s3.below) 5 _ rfl
    have v6 := (HR0.out.below s3.below) 6 _ rfl
    clear hacc a0 a1 a2 a3 t0 t1 t2 t3 r0 r1 r2 r3 q0 q1 q2 q3
    rcases (by omega : ver < 54058 ∨ (54058 ≤ ver ∧ ver < 54372) ∨ (54372 ≤ ver ∧ ver < 54401) ∨ 54401 ≤ ver) with hv | ⟨hv, hv2⟩ | ⟨hv, hv2⟩ | hv
    · go_wp2_with fail
      go_ret
      rw [srvBytes0 _ _ _ _ _ _ _ _ hv, ← HC.out]
      exact s3.made ((Below.refl _ w).alloc (Nat.le_refl _) _)
    · go_wp2_with (first | (go_at_call 45; refine (pkText _ y (by have := HLy.out; omega)).mono ?_; intro e w4 hm; obtain ⟨p4, c4, rfl, s4, hb4⟩ := hm.since s3.below; clear hm; have s3' := s3.later hb4) | (at_builtin; refine append_since _ _ acc (strBytes y.data.toList) rfl _ _ _ rfl _ rfl s3' _ rfl s4.bytes.srcB (by have := HLy.out; omega) ?_; intro p5 c5 w5 s5; have e5 := (HR0.out.below s5.below) 5 _ rfl; have e6 := (HR0.out.below s5.below) 6 _ rfl))
      go_ret
      rw [srvBytes1 _ _ _ _ _ _ _ _ hv hv2, ← HC.out]
      exact s5.made ((Below.refl _ w).alloc (Nat.le_refl _) _)
    · go_wp2_with (first | (go_at_call 45; refine (pkText _ y (by have := HLy.out; omega)).mono ?_; intro e w4 hm; obtain ⟨p4, c4, rfl, s4, hb4⟩ := hm.since s3.below; clear hm; have s3' := s3.later hb4) | (at_builtin; refine append_since _ _ acc (strBytes y.data.toList) rfl _ _ _ rfl _ rfl s3' _ rfl s4.bytes.srcB (by have := HLy.out; omega) ?_; intro p5 c5 w5 s5; have e5 := (HR0.out.below s5.below) 5 _ rfl; have e6 := (HR0.out.below s5.below) 6 _ rfl) | (go_at_call 45; refine (pkText _ d (by have := HLd.out; omega)).mono ?_; intro e w6 hm; obtain ⟨p6, c6, rfl, s6, hb6⟩ := hm.since s5.below; clear hm; have s5' := s5.later hb6) | (at_builtin; refine append_since _ _ (acc ++ strBytes y.data.toList) (strBytes d.data.toList) rfl _ _ _ rfl _ rfl s5' _ rfl s6.bytes.srcB (by have := HLy.out; have := HLd.out; rw [List.length_append]; omega) ?_; intro p7 c7 w7 s7; have f6 := (HR0.out.below s7.below) 6 _ rfl))
      go_ret
      rw [srvBytes2 _ _ _ _ _ _ _ _ hv hv2, ← HC.out]
      have h := s7.made ((Below.refl _ w).alloc (Nat.le_refl _) _)
      simpa using h
    · go_wp2_with (first | (go_at_call 45; refine (pkText _ y (by have := HLy.out; omega)).mono ?_; intro e w4 hm; obtain ⟨p4, c4, rfl, s4, hb4⟩ := hm.since s3.below; clear hm; have s3' := s3.later hb4) | (at_builtin; refine append_since _ _ acc (strBytes y.data.toList) rfl _ _ _ rfl _ rfl s3' _ rfl s4.bytes.srcB (by have := HLy.out; omega) ?_; intro p5 c5 w5 s5; have e5 := (HR0.out.below s5.below) 5 _ rfl; have e6 := (HR0.out.below s5.below) 6 _ rfl) | (go_at_call 45; refine (pkText _ d (by have := HLd.out; omega)).mono ?_; intro e w6 hm; obtain ⟨p6, c6, rfl, s6, hb6⟩ := hm.since s5.below; clear hm; have s5' := s5.later hb6) | (at_builtin; refine append_since _ _ (acc ++ strBytes y.data.toList) (strBytes d.data.toList) rfl _ _ _ rfl _ rfl s5' _ rfl s6.bytes.srcB (by have := HLy.out; have := HLd.out; rw [List.length_append]; omega) ?_; intro p7 c7 w7 s7; have f6 := (HR0.out.below s7.below) 6 _ rfl; have s7n : Since _ w7 (.slice p7 (acc.length + (strBytes y.data.toList).length + (strBytes d.data.toList).length) c7) _ := (by have h := s7; rw [List.length_append] at h; exact h)) | (go_at_call 46; refine (pkInts _ _ 1 [u] (rowIs_new _ _ _) HX1.out (by simp)).mono ?_; intro e w8 hm; obtain ⟨p8, c8, rfl, s8, hb8⟩ := hm.since (s7.alloc _).below; clear hm; have s7' := (s7n.alloc _).later hb8) | (at_builtin; refine append_since _ _ (acc ++ strBytes y.data.toList ++ strBytes d.data.toList) (uvs [u]) rfl _ _ _ rfl _ rfl s7' _ rfl s8.bytes.srcB (by have := HLy.out; have := HLd.out; have h9 := HU1.out; simp only [List.length_cons, List.length_nil] at h9; rw [List.length_append, List.length_append]; omega) ?_; intro p9 c9 w9 s9))
      go_ret
      rw [srvBytes3 _ _ _ _ _ _ _ _ hv, ← HC.out]
      have h := s9.made ((Below.refl _ w).alloc (Nat.le_refl _) _)
      simpa using h

def srvArgs (m : ByteArray) (a b c : Nat) (y d : ByteArray) (u : Nat) : Value := .agg (srvVals m a b c y d u).toArray

set_option maxRecDepth 100000 in
theorem spServer (w : World) (ver : Int) (m : ByteArray) (a b c : Nat) (y d : ByteArray) (u : Nat) :
    Calls Try.prog 37 #[.agg (srvVals m a b c y d u).toArray, .int .i64 ver] w fun e w' => e = .returned (.agg (srvDec ver m a b c y d u).toArray) ∧ Below w.heap.size w w' := by
  unfold srvDec verT verD verP srvVals
  rcases (by omega : ver < 54058 ∨ (54058 ≤ ver ∧ ver < 54372) ∨ (54372 ≤ ver ∧ ver < 54401) ∨ 54401 ≤ ver) with hv | ⟨hv, hv2⟩ | ⟨hv, hv2⟩ | hv
  · have h1 : ver < 54372 := by omega
    have h2 : ver < 54401 := by omega
    rw [if_pos hv, if_pos h1, if_pos h2]
    go_enter Try.func37, Try.ntmps37
    go_wp2
    refine bodyPost_ret (v := .agg #[.string m, .int .i64 (a : Nat), .int .i64 (b : Nat), .int .i64 (c : Nat), .string ⟨#[]⟩, .string ⟨#[]⟩, .int .i64 0]) (by simp [results, Try.results37, go_sem]) rfl ⟨rfl, ?_⟩
    repeat (first | exact Below.refl _ _ | refine Below.setCell ?_ (by simp) _ | refine Below.alloc ?_ (by simp; try omega) _)
  · have h1 : ¬ ver < 54058 := by omega
    have h2 : ver < 54401 := by omega
    rw [if_neg h1, if_pos hv2, if_pos h2]
    go_enter Try.func37, Try.ntmps37
    go_wp2
    refine bodyPost_ret (v := .agg #[.string m, .int .i64 (a : Nat), .int .i64 (b : Nat), .int .i64 (c : Nat), .string y, .string ⟨#[]⟩, .int .i64 0]) (by simp [results, Try.results37, go_sem]) rfl ⟨rfl, ?_⟩
    repeat (first | exact Below.refl _ _ | refine Below.setCell ?_ (by simp) _ | refine Below.alloc ?_ (by simp; try omega) _)
  · have h1 : ¬ ver < 54058 := by omega
    have h2 : ¬ ver < 54372 := by omega
    rw [if_neg h1, if_neg h2, if_pos hv2]
    go_enter Try.func37, Try.ntmps37
    go_wp2
    refine bodyPost_ret (v := .agg #[.string m, .int .i64 (a : Nat), .int .i64 (b : Nat), .int .i64 (c : Nat), .string y, .string d, .int .i64 0]) (by simp [results, Try.results37, go_sem]) rfl ⟨rfl, ?_⟩
    repeat (first | exact Below.refl _ _ | refine Below.setCell ?_ (by simp) _ | refine Below.alloc ?_ (by simp; try omega) _)
  · have h1 : ¬ ver < 54058 := by omega
    have h2 : ¬ ver < 54372 := by omega
    have h3 : ¬ ver < 54401 := by omega
    rw [if_neg h1, if_neg h2, if_neg h3]
    go_enter Try.func37, Try.ntmps37
    go_wp2
    refine bodyPost_ret (v := .agg #[.string m, .int .i64 (a : Nat), .int .i64 (b : Nat), .int .i64 (c : Nat), .string y, .string d, .int .i64 (u : Nat)]) (by simp [results, Try.results37, go_sem]) rfl ⟨rfl, ?_⟩
    repeat (first | exact Below.refl _ _ | refine Below.setCell ?_ (by simp) _ | refine Below.alloc ?_ (by simp; try omega) _)
end Go.Proofs.Ytlohpmncagfecaa
