/- laws.FnARReadStr. -/
import Derived.Test.YtifnjiimlpjljaaArrR
import Derived.Test.YtifnjiimlpjljaaSJoin
namespace Go.Proofs.Ytifnjiimlpjljaa
open Go.RowKit
set_option linter.unusedVariables false
set_option linter.unusedSimpArgs false

theorem srcs_three {w : World} {v1 v2 v3 : Value} {a b c : List UInt8} (h1 : BytesAt w v1 a) (h2 : BytesAt w v2 b) (h3 : BytesAt w v3 c) (T : TypeId) : SrcsAt (w.alloc (.cells #[v1, v2, v3] T)) w.heap.size [a, b, c] := by
  have hb : Below w.heap.size w (w.alloc (.cells #[v1, v2, v3] T)) := (Below.refl _ w).alloc (Nat.le_refl _) _
  have hh := heap_alloc_new w (.cells #[v1, v2, v3] T)
  intro k bs hk
  match k, hk with
  | 0, hk => obtain rfl : a = bs := by simpa using hk
             exact ⟨v1, by unfold World.cell?; simp only [hh]; rfl, h1.below hb⟩
  | 1, hk => obtain rfl : b = bs := by simpa using hk
             exact ⟨v2, by unfold World.cell?; simp only [hh]; rfl, h2.below hb⟩
  | 2, hk => obtain rfl : c = bs := by simpa using hk
             exact ⟨v3, by unfold World.cell?; simp only [hh]; rfl, h3.below hb⟩
theorem join_three (w : World) (v1 v2 v3 : Value) (a b c : List UInt8) (h1 : BytesAt w v1 a) (h2 : BytesAt w v2 b) (h3 : BytesAt w v3 c) (hl : a.length + b.length + c.length ≤ 1000000000) :
    Calls Try.prog 11 #[.slice (some ⟨w.heap.size, 0, none⟩) 3 3] (w.alloc (.cells #[v1, v2, v3] 23)) (MadeO (w.alloc (.cells #[v1, v2, v3] 23)) (a ++ (b ++ c))) := by
  have h := stJoin (w.alloc (.cells #[v1, v2, v3] 23)) w.heap.size 3 [a, b, c] (srcs_three h1 h2 h3 _) (by simp) (by simpa [Nat.add_assoc] using hl)
  have e : [a, b, c].flatten = a ++ (b ++ c) := by simp
  rw [e] at h
  exact h

/-- What is looked at is not much. -/
structure Little (ll : List (List ByteArray)) : Prop where
  len : ll.length ≤ 1000
  flat : ll.flatten.length ≤ 100000
  small : Small (bytesOf ll.flatten)
  enc : (encS (bytesOf ll.flatten)).length ≤ 100000000
  each : ∀ ss ∈ ll, ss.length ≤ 100000000
theorem encS_small (l : List (List UInt8)) : (encS l).length ≤ 2 * l.flatten.length + l.length := encK_le none l
theorem flat_bound {α : Type} (m : Nat) : ∀ ll : List (List α), (∀ ss ∈ ll, ss.length ≤ m) → ll.flatten.length ≤ ll.length * m
  | [], _ => by simp
  | x :: ll, h => by
    have h1 := flat_bound m ll fun s hs => h s (List.mem_cons_of_mem _ hs)
    have h2 := h x List.mem_cons_self
    rw [List.flatten_cons, List.length_append, List.length_cons, Nat.add_mul]
    omega
theorem little_of (ll : List (List ByteArray)) (n m : Nat) (hn : ll.length ≤ n) (hm : ∀ ss ∈ ll, ss.length ≤ m ∧ ∀ s ∈ ss, s.size ≤ 60) (h : n * m ≤ 100000) (hn1 : n ≤ 1000) : Little ll := by
  have hf : ll.flatten.length ≤ n * m := Nat.le_trans (flat_bound m ll fun ss hs => (hm ss hs).1) (Nat.mul_le_mul_right _ hn)
  have hb : (bytesOf ll.flatten).flatten.length ≤ (bytesOf ll.flatten).length * 60 := flat_bound 60 _ fun s hs => by
    unfold bytesOf at hs
    obtain ⟨x, hx, rfl⟩ := List.mem_map.1 hs
    obtain ⟨ss, h1, h2⟩ := List.mem_flatten.1 hx
    have := (hm ss h1).2 x h2
    rw [Array.length_toList]
    exact this
  have hl : (bytesOf ll.flatten).length = ll.flatten.length := by unfold bytesOf; rw [List.length_map]
  rw [hl] at hb
  have he := encS_small (bytesOf ll.flatten)
  rw [hl] at he
  refine ⟨by omega, by omega, ⟨by omega, by rw [hl]; omega⟩, by omega, fun ss hs => ?_⟩
  have h1 : ss.length ≤ ll.flatten.length := by
    obtain ⟨a, b, rfl⟩ := List.append_of_mem hs
    simp
    omega
  omega
theorem wordsOf_small (ss : List ByteArray) (m : Nat) : (wordsOf ss m).length ≤ m ∧ ∀ s ∈ wordsOf ss m, s.size ≤ 60 := by
  unfold wordsOf
  refine ⟨by simp; omega, fun s hs => ?_⟩
  obtain ⟨x, -, rfl⟩ := List.mem_map.1 hs
  exact cut60_size x
theorem listsOf_little (ll : List (List ByteArray)) : Little (listsOf ll) := by
  refine little_of _ 21 12 (by unfold listsOf; simp; omega) (fun ss hs => ?_) (by omega) (by omega)
  unfold listsOf at hs
  rcases List.mem_append.1 hs with hs | hs
  · obtain ⟨x, -, rfl⟩ := List.mem_map.1 hs
    exact wordsOf_small x 12
  · obtain rfl := List.mem_singleton.1 hs
    exact ⟨by simp, by decide⟩

set_option maxRecDepth 100000 in
set_option maxHeartbeats 1000000 in
theorem lawReadStr (w : World) (v tv : Value) (rows : List (List ByteArray)) (t : List UInt8) (h : LstL w v rows) (hl : rows.length ≤ 9223372036854775807) (hb : ∀ ss ∈ rows, ss.length ≤ 9223372036854775807 ∧ ∀ s ∈ ss, s.size ≤ 9223372036854775807) (ht : BytesAt w tv t) (htl : t.length ≤ 9223372036854775807) :
    Calls Try.prog 3 #[v, tv] w fun e w' => e = .returned (.bool true) ∧ Below w.heap.size w w' := by
  obtain ⟨p, c, rfl, hlc⟩ := h.slice
  obtain ⟨pt, ct, rfl⟩ := ht.slice
  have HL := Lib.hid h
  have HT := Lib.hid ht
  have HFIT := Lib.hid (fits1V w _ rows h hl hb)
  by_cases htb : 2147483647 < t.length
  · have htI : (2147483647 : Int) < (t.length : Int) := by omega
    clear h hb ht
    go_enter Try.func3, Try.ntmps3
    go_wp2_with fail
    refine HFIT.out.mono ?_
    rintro e w1 ⟨rfl, b, rfl, hfit⟩
    clear hfit
    cases b <;>
    · go_wp2_with fail
      go_ret
      exact ⟨rfl, Below.refl _ _⟩
  · have htI : ¬ (2147483647 : Int) < (t.length : Int) := by omega
    clear h hb ht
    go_enter Try.func3, Try.ntmps3
    go_wp2_with fail
    refine HFIT.out.mono ?_
    rintro e w1 ⟨rfl, b, rfl, hfit⟩
    cases b
    · clear hfit
      go_wp2_with fail
      go_ret
      exact ⟨rfl, Below.refl _ _⟩
    · have HLS := Lib.hid (arListsV w _ rows HL.out (hfit rfl))
      obtain ⟨L, hL⟩ : ∃ L, L = listsOf rows := ⟨_, rfl⟩
      have HLIT := Lib.hid (listsOf_little rows)
      rw [← hL] at HLS HLIT
      have hlen := HLIT.out.len
      clear hfit HFIT hL
      go_wp2_with fail
      refine HLS.out.mono ?_
      rintro e w1 ⟨x, rfl, hx, hb1⟩
      obtain ⟨px, cx, rfl, hcx⟩ := hx.slice
      have HTT := Lib.hid (stTailV w1 _ t (HT.out.below hb1) (by omega))
      have HX := Lib.hid (And.intro hx hb1)
      clear hx hb1 HLS
      go_wp2_with fail
      refine HTT.out.mono ?_
      rintro e w2 ⟨rfl, xt, rfl, hxt⟩
      obtain ⟨T, hTe⟩ : ∃ T, T = t.take 40 := ⟨_, rfl⟩
      have hTl : T.length ≤ 40 := by rw [hTe]; simp; omega
      rw [← hTe] at hxt
      obtain ⟨pq, cq, rfl⟩ := hxt.slice
      have HXT := Lib.hid hxt
      have HA := Lib.hid (arLensV w1 _ L HX.out.1 (by omega))
      clear hxt HTT hTe
      go_wp2_with fail
      refine HA.out.mono ?_
      rintro e w3 ⟨y3, rfl, hy3, hb3, -⟩
      have hy3' : FlatAt w3 y3 (lensOf L).length (intsN (lensOf L)) := by rw [show (lensOf L).length = L.length by simp [lensOf]]; exact hy3
      have HO := Lib.hid (arOffsetsV w3 y3 (lensOf L) hy3' (by simp [lensOf]; omega) (by rw [lensOf_sum]; have := HLIT.out.flat; omega))
      obtain ⟨p3, c3, rfl, -⟩ := hy3.slice
      have HB3 := Lib.hid hb3
      clear hy3 hy3' hb3 HA
      go_wp2_with fail
      refine HO.out.mono ?_
      intro e w4 hm4
      obtain ⟨p4, c4, rfl, s4, hb4⟩ := hm4.since (Below.refl _ _)
      have h4 : BytesAt w4 _ ((offsOf L).flatMap le8) := s4.bytes
      have hb34 := HB3.out.trans (hb4.mono HB3.out.size)
      have hx4 := HX.out.1.below strL_stable hb34
      have HF := Lib.hid (arFlatV w4 _ L hx4 (by omega) (by have := HLIT.out.flat; omega))
      have HS4 := Lib.hid (And.intro h4 hb34)
      clear hm4 s4 h4 hb4 hb34 hx4 HO HB3
      obtain ⟨B1, hB1⟩ : ∃ B1, B1 = (offsOf L).flatMap le8 := ⟨_, rfl⟩
      rw [show (sumsOf 0 (lensOf L)).flatMap le8 = (offsOf L).flatMap le8 from rfl, ← hB1] at HS4 ⊢
      have HB1 := Lib.hid hB1
      clear hB1
      go_wp2_with fail
      refine HF.out.mono ?_
      rintro e w5 ⟨y5, rfl, hy5, hb5, -⟩
      obtain ⟨FL, hFL⟩ : ∃ FL, FL = L.flatten := ⟨_, rfl⟩
      have HST := Lib.hid (stStringsV w5 y5 L.flatten hy5 HLIT.out.small)
      rw [← hFL] at hy5 HST
      have HFL := Lib.hid hFL
      clear hFL
      obtain ⟨p5, c5, rfl, -⟩ := hy5.slice
      have HB5 := Lib.hid hb5
      clear hy5 hb5 HF
      go_wp2_with fail
      refine HST.out.mono ?_
      intro e w6 hm6
      obtain ⟨p6, c6, rfl, s6, hb6⟩ := hm6.since (Below.refl _ _)
      obtain ⟨B2, hB2⟩ : ∃ B2, B2 = encS (bytesOf FL) := ⟨_, rfl⟩
      rw [← hB2] at s6 ⊢
      have hB1 := HB1.out
      rw [HFL.out] at hB2
      have hb56 := HB5.out.trans (hb6.mono HB5.out.size)
      have hb16 := HS4.out.2.trans (hb56.mono HS4.out.2.size)
      have hB1l : B1.length ≤ 8000 := by rw [hB1, le8s_length, offsOf_length]; omega
      have hB2l : B2.length ≤ 100000000 := by rw [hB2]; exact HLIT.out.enc
      have HJ := Lib.hid (join_three w6 _ _ _ B1 B2 T (HS4.out.1.below hb56) s6.bytes (HXT.out.below hb16) (by omega))
      have HB16 := Lib.hid hb16
      obtain ⟨JJ, hJJ⟩ : ∃ JJ, JJ = B1 ++ (B2 ++ T) := ⟨_, rfl⟩
      have hJl : JJ.length ≤ 1000000000 := by rw [hJJ, List.length_append, List.length_append]; omega
      rw [← hJJ] at HJ
      have HJJ := Lib.hid hJJ
      clear hJJ
      have HB2 := Lib.hid hB2
      clear hm6 s6 hb6 hb56 hb16 HST HB5 HS4 hB1 hB2
      go_wp2_with fail
      refine HJ.out.mono ?_
      intro e w7 hm7
      obtain ⟨p7, c7, F7, rfl, ho7, hF7, hb7⟩ := hm7
      have hb17 : Below w1.heap.size w1 w7 := HB16.out.trans ((((Below.refl _ w6).alloc (Nat.le_refl _) _).trans (hb7.mono (by simp))).mono HB16.out.size)
      have HR := Lib.hid (arReadStr w7 L _ JJ T true ho7.bytes (fun g hg => (hF7 g (ho7.2 g hg)).2) (.inl ⟨rfl, by rw [HJJ.out, HB1.out, HB2.out]⟩) hJl (by omega) (by have := HLIT.out.flat; omega) (by have := HLIT.out.enc; omega))
      have HB17 := Lib.hid hb17
      clear ho7 hF7 hb7 hb17 HJ
      go_wp2_with fail
      refine HR.out.mono ?_
      rintro e w8 ⟨h8, -⟩
      obtain ⟨x8, rfl, hx8, hb8⟩ := h8 rfl
      have hb18 := HB17.out.trans (hb8.mono HB17.out.size)
      have HSM := Lib.hid (arSameV w8 x8 _ L hx8 (HX.out.1.below strL_stable hb18) (by omega) HLIT.out.each)
      obtain ⟨p8, c8, rfl, -⟩ := hx8.slice
      have HB18 := Lib.hid (HX.out.2.trans (hb18.mono HX.out.2.size))
      clear h8 hx8 hb8 hb18 HR
      go_wp2_with fail
      refine HSM.out.mono ?_
      rintro e w9 ⟨rfl, m, rfl⟩
      go_wp2_with fail
      go_ret
      exact ⟨rfl, HB18.out.trans ((drewN_below w8 m).mono HB18.out.size)⟩
end Go.Proofs.Ytifnjiimlpjljaa
