/- laws.FnPKFault. -/
import Derived.Test.YtlohpmncagfecaaFaultS
import Derived.Test.YtlohpmncagfecaaSetL
import Derived.Test.YtlohpmncagfecaaProfL
namespace Go.Proofs.Ytlohpmncagfecaa
open Go.RowKit

theorem fits16_yes (w : World) (k : Int) (a b c : ByteArray) (h1 : a.size ≤ 2147483647) (h2 : b.size ≤ 2147483647) (h3 : c.size ≤ 2147483647) :
    Calls Try.prog 27 #[.agg #[.int .i64 k, .string a, .string b, .string c]] w fun e w' => e = .returned (.bool true) ∧ Below w.heap.size w w' := by
  go_enter Try.func27, Try.ntmps27
  go_wp2
  go_ret
  exact ⟨rfl, (Below.refl _ w).alloc (Nat.le_refl _) _⟩

theorem fits16_no (w : World) (k : Int) (a b c : ByteArray) (h : ¬ (a.size ≤ 2147483647 ∧ b.size ≤ 2147483647 ∧ c.size ≤ 2147483647)) :
    Calls Try.prog 27 #[.agg #[.int .i64 k, .string a, .string b, .string c]] w fun e w' => e = .returned (.bool false) ∧ Below w.heap.size w w' := by
  rcases (by omega : 2147483647 < a.size ∨ (a.size ≤ 2147483647 ∧ 2147483647 < b.size) ∨ (a.size ≤ 2147483647 ∧ b.size ≤ 2147483647 ∧ 2147483647 < c.size)) with h1 | ⟨h1, h2⟩ | ⟨h1, h2, h3⟩
  all_goals
    clear h
    go_enter Try.func27, Try.ntmps27
    go_wp2
    go_ret
    exact ⟨rfl, (Below.refl _ w).alloc (Nat.le_refl _) _⟩

set_option maxRecDepth 100000 in
theorem lawFault_no1 (w : World) (k : Int) (a b c : ByteArray) (p : Option Addr) (ln cp n : Nat) (hln : ln ≤ 9223372036854775807) (h : ¬ ((a.size ≤ 2147483647 ∧ b.size ≤ 2147483647 ∧ c.size ≤ 2147483647) ∧ ln ≤ 2147483647)) :
    Calls Try.prog 7 #[.agg #[.int .i64 k, .string a, .string b, .string c], .slice p ln cp, .int .u16 n] w fun e w' => e = .returned (.bool true) ∧ Below w.heap.size w w' := by
  by_cases h1 : a.size ≤ 2147483647 ∧ b.size ≤ 2147483647 ∧ c.size ≤ 2147483647
  · have h2 : 2147483647 < ln := by omega
    go_enter Try.func7, Try.ntmps7
    go_wp2_with (go_at_call 27; refine (fits16_yes _ k a b c h1.1 h1.2.1 h1.2.2).mono ?_; rintro e w1 ⟨rfl, hb1⟩)
    go_ret
    exact ⟨rfl, ((Below.refl _ w).alloc (Nat.le_refl _) _).trans (hb1.mono (by simp))⟩
  · go_enter Try.func7, Try.ntmps7
    go_wp2_with (go_at_call 27; refine (fits16_no _ k a b c h1).mono ?_; rintro e w1 ⟨rfl, hb1⟩)
    go_ret
    exact ⟨rfl, ((Below.refl _ w).alloc (Nat.le_refl _) _).trans (hb1.mono (by simp))⟩

theorem boxR {w w1 : World} {l : List Value} {T : TypeId} (hb : Below (w.heap.size + 1) (w.alloc (.cells l.toArray T)) w1) : RowIs w1 w.heap.size l :=
  (rowIs_new w l T).below (by simpa using hb)

set_option maxRecDepth 100000 in
theorem lawFault_no2 (w : World) (k : Int) (a b c : ByteArray) (p : Option Addr) (ln cp n : Nat) (h1 : a.size ≤ 2147483647) (h2 : b.size ≤ 2147483647) (h3 : c.size ≤ 2147483647) (h4 : ln ≤ 2147483647) (h : ¬ (short [a, b, c] = true ∧ whole [k] = true ∧ ln ≤ 9)) :
    Calls Try.prog 7 #[.agg #[.int .i64 k, .string a, .string b, .string c], .slice p ln cp, .int .u16 n] w fun e w' => e = .returned (.bool true) ∧ Below w.heap.size w w' := by
  have h9 : short [a, b, c] = true → whole [k] = true → 9 < ln := fun x y => Nat.lt_of_not_le fun z => h ⟨x, y, z⟩
  have H9 := Lib.hid h9
  clear h h9
  by_cases hs : short [a, b, c] = true
  · cases hw : whole [k]
    · have HS := Lib.hid hs
      have HW := Lib.hid hw
      clear hs hw
      go_enter Try.func7, Try.ntmps7
      go_wp2_with fail
      refine (fits16_yes _ k a b c h1 h2 h3).mono ?_
      rintro e w1 ⟨rfl, hb1⟩
      simp only [World.size_alloc] at hb1
      have hr := boxR (l := [.int .i64 k, .string a, .string b, .string c]) hb1
      have a1 := hr 1 _ rfl
      have a2 := hr 2 _ rfl
      have a3 := hr 3 _ rfl
      have hB1 := ((Below.refl _ w).alloc (Nat.le_refl _) _).trans (hb1.mono (by simp))
      go_wp2_with fail
      refine (pkShort _ _ _ [a, b, c] (rowIs_new w1 (strs [a, b, c]) 9) (by simp)).mono ?_
      rintro e w2 ⟨rfl, hw2⟩
      rw [HS.out]
      have hB2 : Below w1.heap.size w1 w2 := by rw [← hw2]; exact (Below.refl _ w1).alloc (Nat.le_refl _) _
      have hr2 := hr.below hB2
      have hBB := hB1.trans (hB2.mono hB1.size)
      clear hw2 hr a1 a2 a3 hB1 hb1 hB2
      have b0 := hr2 0 _ rfl
      go_wp2_with fail
      refine (pkWhole _ _ _ [k] (rowIs_new w2 (zints [k]) 3) (by simp)).mono ?_
      rintro e w3 ⟨rfl, rfl⟩
      rw [HW.out]
      go_wp2_with fail
      go_ret
      exact ⟨rfl, hBB.alloc hBB.size _⟩
    · have h5 := H9.out hs hw
      have HS := Lib.hid hs
      have HW := Lib.hid hw
      clear hs hw
      go_enter Try.func7, Try.ntmps7
      go_wp2_with fail
      refine (fits16_yes _ k a b c h1 h2 h3).mono ?_
      rintro e w1 ⟨rfl, hb1⟩
      simp only [World.size_alloc] at hb1
      have hr := boxR (l := [.int .i64 k, .string a, .string b, .string c]) hb1
      have a1 := hr 1 _ rfl
      have a2 := hr 2 _ rfl
      have a3 := hr 3 _ rfl
      have hB1 := ((Below.refl _ w).alloc (Nat.le_refl _) _).trans (hb1.mono (by simp))
      go_wp2_with fail
      refine (pkShort _ _ _ [a, b, c] (rowIs_new w1 (strs [a, b, c]) 9) (by simp)).mono ?_
      rintro e w2 ⟨rfl, hw2⟩
      rw [HS.out]
      have hB2 : Below w1.heap.size w1 w2 := by rw [← hw2]; exact (Below.refl _ w1).alloc (Nat.le_refl _) _
      have hr2 := hr.below hB2
      have hBB := hB1.trans (hB2.mono hB1.size)
      clear hw2 hr a1 a2 a3 hB1 hb1 hB2
      have b0 := hr2 0 _ rfl
      go_wp2_with fail
      refine (pkWhole _ _ _ [k] (rowIs_new w2 (zints [k]) 3) (by simp)).mono ?_
      rintro e w3 ⟨rfl, rfl⟩
      rw [HW.out]
      go_wp2_with fail
      go_ret
      exact ⟨rfl, hBB.alloc hBB.size _⟩
  · have hs' : short [a, b, c] = false := by simpa using hs
    have HS := Lib.hid hs'
    clear hs hs'
    go_enter Try.func7, Try.ntmps7
    go_wp2_with fail
    refine (fits16_yes _ k a b c h1 h2 h3).mono ?_
    rintro e w1 ⟨rfl, hb1⟩
    simp only [World.size_alloc] at hb1
    have hr := boxR (l := [.int .i64 k, .string a, .string b, .string c]) hb1
    have a1 := hr 1 _ rfl
    have a2 := hr 2 _ rfl
    have a3 := hr 3 _ rfl
    have hB1 := ((Below.refl _ w).alloc (Nat.le_refl _) _).trans (hb1.mono (by simp))
    go_wp2_with fail
    refine (pkShort _ _ _ [a, b, c] (rowIs_new w1 (strs [a, b, c]) 9) (by simp)).mono ?_
    rintro e w2 ⟨rfl, rfl⟩
    rw [HS.out]
    go_wp2_with fail
    go_ret
    exact ⟨rfl, hB1.alloc hB1.size _⟩

theorem short3 {a b c : ByteArray} (h : a.size ≤ 100 ∧ b.size ≤ 100 ∧ c.size ≤ 100) : short [a, b, c] = true := by simp [short]; omega
theorem whole1n {k : Nat} (h : k ≤ 2147483647) : whole [(k : Int)] = true := by simp [whole]; omega

set_option maxRecDepth 100000 in
theorem lawFault_yes (w : World) (k : Nat) (a b c : ByteArray) (hk : k ≤ 2147483647) (ha : a.size ≤ 100) (hb : b.size ≤ 100) (hc : c.size ≤ 100) (v : Value) (behind : List UInt8) (n : Nat) (hx : BytesAt w v behind) (hl : behind.length ≤ 9) (hu : n < 65536) :
    Calls Try.prog 7 #[.agg #[.int .i64 (k : Nat), .string a, .string b, .string c], v, .int .u16 n] w fun e w' => e = .returned (.bool true) ∧ Below w.heap.size w w' := by
  obtain ⟨p, cp, rfl⟩ := hx.slice
  have HI := Lib.hid (fun w1 => pkFault w1 k a b c hk ha hb hc)
  have HS := Lib.hid (fun w1 => spFault w1 k a b c hk ha hb hc)
  have HG := Lib.hid (fun w1 v1 all hall hv1 hD1 => pkFaultGet w1 v1 behind k a b c hk ha hb hc (by omega) all hall hv1 hD1)
  have HZ := Lib.hid (fun w1 v1 all hs hv1 hD1 => pkFaultGet_bad w1 v1 k a b c hk ha hb hc all hs hv1 hD1)
  have hbl := mExcLen k a b c hk ha hb hc
  have H100 := Lib.hid (And.intro hk (And.intro ha (And.intro hb hc)))
  have H3 := Lib.hid (show a.size ≤ 2147483647 ∧ b.size ≤ 2147483647 ∧ c.size ≤ 2147483647 by omega)
  clear ha hb hc hk
  obtain ⟨bs, hbs⟩ : ∃ bs, bs = mExcBytes k a b c := ⟨_, rfl⟩
  have hb0 : 1 ≤ bs.length := by rw [hbs, mExcBytes, List.length_append, le4_length]; omega
  rw [← hbs] at HI HS HG HZ hbl
  clear hbs
  have hl2 : behind.length ≤ 2147483647 := by omega
  unfold mExcVals at HI HS HG
  go_enter Try.func7, Try.ntmps7
  go_wp2_with fail
  refine (fits16_yes _ k a b c H3.out.1 H3.out.2.1 H3.out.2.2).mono ?_
  rintro e w1 ⟨rfl, hb1⟩
  simp only [World.size_alloc] at hb1
  have hr := boxR (l := [.int .i64 (k : Nat), .string a, .string b, .string c]) hb1
  have a1 := hr 1 _ rfl
  have a2 := hr 2 _ rfl
  have a3 := hr 3 _ rfl
  have hB1 := ((Below.refl _ w).alloc (Nat.le_refl _) _).trans (hb1.mono (by simp))
  go_wp2_with fail
  refine (pkShort _ _ _ [a, b, c] (rowIs_new w1 (strs [a, b, c]) 9) (by simp)).mono ?_
  rintro e w2 ⟨rfl, hw2⟩
  rw [short3 H100.out.2]
  have hB2 : Below w1.heap.size w1 w2 := by rw [← hw2]; exact (Below.refl _ w1).alloc (Nat.le_refl _) _
  have hr2 := hr.below hB2
  have hBB := hB1.trans (hB2.mono hB1.size)
  clear hw2 hr a1 a2 a3 hB1 hb1 hB2
  have b0 := hr2 0 _ rfl
  go_wp2_with fail
  refine (pkWhole _ _ _ [(k : Int)] (rowIs_new w2 (zints [(k : Int)]) 3) (by simp)).mono ?_
  rintro e w3 ⟨rfl, hw3⟩
  rw [whole1n H100.out.1]
  have hB3 : Below w2.heap.size w2 w3 := by rw [← hw3]; exact (Below.refl _ w2).alloc (Nat.le_refl _) _
  have hr3 := hr2.below hB3
  have hBB3 := hBB.trans (hB3.mono hBB.size)
  clear hw3 hr2 b0 hBB hB3
  have a0 := hr3 0 _ rfl
  have a1 := hr3 1 _ rfl
  have a2 := hr3 2 _ rfl
  have a3 := hr3 3 _ rfl
  go_wp2_with fail
  refine (HI.out _).mono ?_
  intro e w4 hm
  obtain ⟨v4, rfl, hv4, hb4, HV4⟩ := Made.hid hm
  clear hm a0 a1 a2 a3
  have hr4 := hr3.below hb4
  have hB4 := hBB3.trans (hb4.mono hBB3.size)
  clear hr3 hBB3 hb4
  have a0 := hr4 0 _ rfl
  have a1 := hr4 1 _ rfl
  have a2 := hr4 2 _ rfl
  have a3 := hr4 3 _ rfl
  go_wp2_with fail
  refine (HS.out _).mono ?_
  intro e w5 hm
  obtain ⟨v5, rfl, hv5, hb5, -⟩ := Made.hid hm
  clear hm a0 a1 a2 a3
  have hr5 := hr4.below hb5
  have hB5 := hB4.trans (hb5.mono hB4.size)
  have hv4' := hv4.below hb5
  have HS5 := Lib.hid hb5.size
  clear hr4 hB4 hb5 hv4
  go_wp2_with fail
  refine (bytesEqual _ _ _ bs bs hv4' hv5).mono ?_
  rintro e w6 ⟨rfl, rfl⟩
  rw [show (bs == bs) = true by simp]
  have hx5 := hx.below hB5
  go_wp2_with (first | (go_at_call 16; refine (cloneBytes _ v4 bs hv4' (by omega)).mono ?_; intro e w6 hm; obtain ⟨p6, c6, rfl, s6, hb6⟩ := hm.since (Below.refl _ _); clear hm) | (at_builtin; refine append_since _ _ bs behind rfl _ _ _ rfl _ rfl s6 _ rfl (hx5.below hb6).srcB (by omega) ?_; intro q7 c7 w7 s7))
  have hs7 : BytesAt w7 (.slice q7 (bs.length + behind.length) c7) (bs ++ behind) := s7.bytes
  refine (HG.out _ _ (bs ++ behind) rfl hs7 (fun g hg => by obtain ⟨F, ho, hF⟩ := s7.own; exact (hF g (ho.2 g hg)).2)).mono ?_
  rintro e w8 ⟨rfl, hb8⟩
  have hB8 := hB5.trans ((s7.below.mono hB5.size).trans (hb8.mono (by have := s7.below.size; have := hB5.size; omega)))
  have hr8 := (hr5.below s7.below).below hb8
  have hv8 := (hv4'.below s7.below).below hb8
  have HS8 := Lib.hid (Nat.le_trans s7.below.size hb8.size)
  clear hs7 hb8 s7 s6 hb6 hr5 hB5 hv4' hv5 hx5
  go_wp2_with fail
  have hrn := rowIs_new w8 [.int .i64 (k : Nat), .string a, .string b, .string c] 57
  have hA : Below w8.heap.size w8 (w8.alloc (.cells #[.int .i64 (k : Nat), .string a, .string b, .string c] 57)) := (Below.refl _ _).alloc (Nat.le_refl _) _
  refine (pkCut _ v4 bs n (hv8.below hA) (by omega) (by omega) hu).mono ?_
  rintro e w9 ⟨⟨x9, rfl, hx9, ho9⟩, hw9⟩
  have hr9 : RowIs w9 w8.heap.size [.int .i64 (k : Nat), .string a, .string b, .string c] := by rw [← hw9]; exact hrn
  have hr9' : RowIs w9 w.heap.size [.int .i64 (k : Nat), .string a, .string b, .string c] := by rw [← hw9]; exact hr8.below hA
  have hB9 : Below w.heap.size w w9 := by rw [← hw9]; exact hB8.trans (hA.mono hB8.size)
  have hS9 : Hid (w8.heap.size < w9.heap.size) := by rw [← hw9]; show _ < _; simp
  rw [hw9] at hx9
  have HO9 := Lib.hid ho9
  have hsh := short_take (Nat.mod_lt n (show 0 < bs.length by omega))
  clear ho9 hw9 hrn hA hr8 hv8 hB8
  go_wp2_with fail
  refine (HZ.out _ x9 _ hsh hx9 (fun g hg => by have h1 := HV4.out g (HO9.out g hg); have h2 := HS5.out; have h4 := HS8.out; have h5 := hS9.out; omega)).mono ?_
  rintro e w10 ⟨rfl, hb10⟩
  have hrA := (hr9.below hb10).below ((Below.refl _ _).alloc (Nat.le_refl _) (.cells #[.int .i64 0, .string ⟨#[]⟩, .string ⟨#[]⟩, .string ⟨#[]⟩] 57))
  have hrB := (hr9'.below hb10).below ((Below.refl _ _).alloc (Nat.le_refl _) (.cells #[.int .i64 0, .string ⟨#[]⟩, .string ⟨#[]⟩, .string ⟨#[]⟩] 57))
  have hB10 := hB9.trans (hb10.mono hB9.size)
  have a0 := hrA 0 _ rfl
  have a1 := hrA 1 _ rfl
  have a2 := hrA 2 _ rfl
  have a3 := hrA 3 _ rfl
  have b0 := hrB 0 _ rfl
  have b1 := hrB 1 _ rfl
  have b2 := hrB 2 _ rfl
  have b3 := hrB 3 _ rfl
  clear hrA hrB hr9 hr9' hb10 hB9 hsh hx9
  go_wp2_with fail
  go_ret
  exact ⟨rfl, hB10.alloc hB10.size _⟩

theorem lawFault (w : World) (k : Int) (a b c : ByteArray) (v : Value) (behind : List UInt8) (n : Nat) (hx : BytesAt w v behind) (hlen : behind.length ≤ 9223372036854775807) (hu : n < 65536) :
    Calls Try.prog 7 #[.agg #[.int .i64 k, .string a, .string b, .string c], v, .int .u16 n] w fun e w' => e = .returned (.bool true) ∧ Below w.heap.size w w' := by
  obtain ⟨p, cp, rfl⟩ := id hx.slice
  by_cases h1 : (a.size ≤ 2147483647 ∧ b.size ≤ 2147483647 ∧ c.size ≤ 2147483647) ∧ behind.length ≤ 2147483647
  · by_cases h2 : short [a, b, c] = true ∧ whole [k] = true ∧ behind.length ≤ 9
    · have h3 : a.size ≤ 100 ∧ b.size ≤ 100 ∧ c.size ≤ 100 := by have := h2.1; simp [short] at this; omega
      have h4 : 0 ≤ k ∧ k < 2147483648 := by have := h2.2.1; simp [whole] at this; omega
      obtain ⟨m, rfl⟩ := Int.eq_ofNat_of_zero_le h4.1
      exact lawFault_yes w m a b c (by omega) h3.1 h3.2.1 h3.2.2 _ behind n hx h2.2.2 hu
    · exact lawFault_no2 w k a b c p _ cp n h1.1.1 h1.1.2.1 h1.1.2.2 h1.2 h2
  · exact lawFault_no1 w k a b c p _ cp n hlen h1
end Go.Proofs.Ytlohpmncagfecaa
