/- laws.FnPKSetting. -/
import Derived.Test.YtlohpmncagfecaaSetD
import Derived.Test.YtlohpmncagfecaaShort
namespace Go.Proofs.Ytlohpmncagfecaa
open Go.RowKit

theorem fits17_no (w : World) (k v : ByteArray) (i c o : Bool) (h : ¬ (k.size ≤ 2147483647 ∧ v.size ≤ 2147483647)) :
    Calls Try.prog 10 #[.agg #[.string k, .string v, .bool i, .bool c, .bool o]] w fun e w' => e = .returned (.bool false) ∧ Below w.heap.size w w' := by
  by_cases h1 : k.size ≤ 2147483647
  · have h2 : 2147483647 < v.size := by omega
    go_enter Try.func10, Try.ntmps10
    go_wp2
    go_ret
    exact ⟨rfl, (Below.refl _ w).alloc (Nat.le_refl _) _⟩
  · have h2 : 2147483647 < k.size := by omega
    go_enter Try.func10, Try.ntmps10
    go_wp2
    go_ret
    exact ⟨rfl, (Below.refl _ w).alloc (Nat.le_refl _) _⟩

theorem fits17_yes (w : World) (k v : ByteArray) (i c o : Bool) (h : k.size ≤ 2147483647) (h2 : v.size ≤ 2147483647) :
    Calls Try.prog 10 #[.agg #[.string k, .string v, .bool i, .bool c, .bool o]] w fun e w' => e = .returned (.bool true) ∧ Below w.heap.size w w' := by
  go_enter Try.func10, Try.ntmps10
  go_wp2
  go_ret
  exact ⟨rfl, (Below.refl _ w).alloc (Nat.le_refl _) _⟩

set_option maxRecDepth 100000 in
theorem law_no1 (w : World) (k v : ByteArray) (i c o : Bool) (p : Option Addr) (ln cp n : Nat) (hln : ln ≤ 9223372036854775807) (h : ¬ (k.size ≤ 2147483647 ∧ v.size ≤ 2147483647 ∧ ln ≤ 2147483647)) :
    Calls Try.prog 3 #[.agg #[.string k, .string v, .bool i, .bool c, .bool o], .slice p ln cp, .int .u16 n] w fun e w' => e = .returned (.bool true) ∧ Below w.heap.size w w' := by
  by_cases h1 : k.size ≤ 2147483647 ∧ v.size ≤ 2147483647
  · have h2 : 2147483647 < ln := by omega
    go_enter Try.func3, Try.ntmps3
    go_wp2_with (go_at_call 10; refine (fits17_yes _ k v i c o h1.1 h1.2).mono ?_; rintro e w1 ⟨rfl, hb1⟩)
    go_ret
    exact ⟨rfl, ((Below.refl _ w).alloc (Nat.le_refl _) _).trans (hb1.mono (by simp))⟩
  · go_enter Try.func3, Try.ntmps3
    go_wp2_with (go_at_call 10; refine (fits17_no _ k v i c o h1).mono ?_; rintro e w1 ⟨rfl, hb1⟩)
    go_ret
    exact ⟨rfl, ((Below.refl _ w).alloc (Nat.le_refl _) _).trans (hb1.mono (by simp))⟩
theorem box5 {w w1 : World} {a b c d e : Value} {T : TypeId} (hb : Below (w.heap.size + 1) (w.alloc (.cells #[a, b, c, d, e] T)) w1) : RowIs w1 w.heap.size [a, b, c, d, e] :=
  (rowIs_new w [a, b, c, d, e] T).below (by simpa using hb)

set_option maxRecDepth 100000 in
theorem law_no2 (w : World) (k v : ByteArray) (i c o : Bool) (p : Option Addr) (ln cp n : Nat) (h1 : k.size ≤ 2147483647) (h2 : v.size ≤ 2147483647) (h3 : ln ≤ 2147483647) (h : ¬ (short [k, v] = true ∧ k.data.toList ≠ [] ∧ ln ≤ 9)) :
    Calls Try.prog 3 #[.agg #[.string k, .string v, .bool i, .bool c, .bool o], .slice p ln cp, .int .u16 n] w fun e w' => e = .returned (.bool true) ∧ Below w.heap.size w w' := by
  have h9 : short [k, v] = true → k.data.toList ≠ [] → 9 < ln := fun a b => Nat.lt_of_not_le fun c => h ⟨a, b, c⟩
  have H9 := Lib.hid h9
  clear h h9
  cases hs : short [k, v] <;> by_cases he : k.data.toList = []
  all_goals
    have HS := Lib.hid hs
    (try (have h10 := H9.out hs he))
    clear hs
    first
      | (have e1 : k.toList = [] := by rw [ByteArray.toList_eq]; exact he)
      | (have e1 : ¬ k.toList = [] := by rw [ByteArray.toList_eq]; exact he)
    first
      | (have e2 : k.toList.isEmpty = true := by rw [e1]; rfl)
      | (have e2 : k.toList.isEmpty = false := by simpa using e1)
    clear he
    go_enter Try.func3, Try.ntmps3
    go_wp2_with fail
    refine (fits17_yes _ k v i c o h1 h2).mono ?_
    rintro e w1 ⟨rfl, hb1⟩
    simp only [World.size_alloc] at hb1
    have hr := box5 hb1
    have a0 := hr 0 _ rfl
    have a1 := hr 1 _ rfl
    go_wp2_with fail
    refine (pkShort _ _ _ [k, v] (rowIs_new w1 (strs [k, v]) 9) (by simp)).mono ?_
    rintro e w2 ⟨rfl, rfl⟩
    rw [HS.out]
    have b0 := (rowIs_new w1 (strs [k, v]) 9)
    have c0 : (w1.alloc (.cells (strs [k, v]).toArray 9)).cell? ⟨w.heap.size, 0, none⟩ = some (.string k) := by rw [World.cell?_alloc_past _ _ _ hr.lt]; exact a0
    clear b0
    go_wp2_with fail
    go_ret
    exact ⟨rfl, ((((Below.refl _ w).alloc (Nat.le_refl _) _).trans (hb1.mono (by simp))).alloc (by have := hb1.size; simp at this; omega) _)⟩

theorem short_take {bs : List UInt8} {m : Nat} (h : m < bs.length) : Short (bs.take m) bs :=
  ⟨bs.drop m, by intro e; have := congrArg List.length e; simp at this; omega, (List.take_append_drop m bs).symm⟩

set_option maxRecDepth 100000 in
theorem law_yes (w : World) (k v : ByteArray) (i c o : Bool) (x : Value) (behind : List UInt8) (n : Nat) (hx : BytesAt w x behind)
    (hk : k.size ≤ 100) (hv : v.size ≤ 100) (he : k.data.toList ≠ []) (hl : behind.length ≤ 9) (hu : n < 65536) :
    Calls Try.prog 3 #[.agg #[.string k, .string v, .bool i, .bool c, .bool o], x, .int .u16 n] w fun e w' => e = .returned (.bool true) ∧ Below w.heap.size w w' := by
  have hs : short [k, v] = true := by simp [short]; omega
  have HS := Lib.hid hs
  clear hs
  have e1 : ¬ k.toList = [] := by rw [ByteArray.toList_eq]; exact he
  have e2 : k.toList.isEmpty = false := by simpa using e1
  have HE := Lib.hid he
  clear he
  obtain ⟨p, cp, rfl⟩ := hx.slice
  obtain ⟨bs, hbs⟩ : ∃ bs, bs = setBytes k.data.toList v.data.toList i c o := ⟨_, rfl⟩
  have hle := setBytes_le k.data.toList v.data.toList i c o (by rw [lenSize]; exact hk) (by rw [lenSize]; exact hv)
  have hbl : bs.length ≤ 221 := by rw [hbs]; exact hle.2.2.2
  have hb0 : 0 < bs.length := by
    rw [hbs]
    have h := uv_length_pos (k.data.toList.length)
    unfold setBytes strBytes
    rw [List.length_append, List.length_append]
    omega
  have HBS := Lib.hid hbs
  clear hbs hle
  go_enter Try.func3, Try.ntmps3
  go_wp2_with fail
  refine (fits17_yes _ k v i c o (by omega) (by omega)).mono ?_
  rintro e w1 ⟨rfl, hb1⟩
  simp only [World.size_alloc] at hb1
  have hr := box5 hb1
  have hB1 : Below w.heap.size w w1 := ((Below.refl _ w).alloc (Nat.le_refl _) _).trans (hb1.mono (by omega))
  clear hb1
  have a0 := hr 0 _ rfl
  have a1 := hr 1 _ rfl
  go_wp2_with fail
  refine (pkShort _ _ _ [k, v] (rowIs_new w1 (strs [k, v]) 9) (by simp)).mono ?_
  rintro e w2 ⟨rfl, hw2⟩
  rw [HS.out]
  have hB2 : Below w1.heap.size w1 w2 := by rw [← hw2]; exact (Below.refl _ w1).alloc (Nat.le_refl _) _
  have hr2 := hr.below hB2
  have hB := hB1.trans (hB2.mono hB1.size)
  clear hw2 hr a0 a1 hB1 hB2
  have a0 := hr2 0 _ rfl
  have a1 := hr2 1 _ rfl
  have a2 := hr2 2 _ rfl
  have a3 := hr2 3 _ rfl
  have a4 := hr2 4 _ rfl
  go_wp2_with fail
  refine (pkSetting _ k v i c o hk hv).mono ?_
  intro e w3 hm
  rw [← HBS.out] at hm
  obtain ⟨v3, rfl, hv3, hb3⟩ := hm.both
  have HV3 : Hid (∀ g, v3.ownBlock = some g → g < w3.heap.size) := fun g hg => by
    obtain ⟨-, v', he', -, ho⟩ := hm
    obtain rfl : v3 = v' := by simpa using he'
    exact (ho g hg).2
  clear hm a0 a1 a2 a3 a4
  have hr3 := hr2.below hb3
  have hBB := hB.trans (hb3.mono hB.size)
  clear hr2 hB hb3
  have a0 := hr3 0 _ rfl
  have a1 := hr3 1 _ rfl
  have a2 := hr3 2 _ rfl
  have a3 := hr3 3 _ rfl
  have a4 := hr3 4 _ rfl
  go_wp2_with fail
  refine (spSetting _ k v i c o hk hv).mono ?_
  intro e w4 hm
  rw [← HBS.out] at hm
  obtain ⟨v4, rfl, hv4, hb4⟩ := hm.both
  clear hm a0 a1 a2 a3 a4
  have hr4 := hr3.below hb4
  have hB4 := hBB.trans (hb4.mono hBB.size)
  have hv3' := hv3.below hb4
  have HS4 := Lib.hid hb4.size
  clear hr3 hBB hb4 hv3
  go_wp2_with fail
  refine (bytesEqual _ _ _ bs bs hv3' hv4).mono ?_
  rintro e w5 ⟨rfl, rfl⟩
  rw [show (bs == bs) = true by simp]
  have hx4 := hx.below hB4
  go_wp2_with (first | (go_at_call 16; refine (cloneBytes _ v3 bs hv3' (by omega)).mono ?_; intro e w5 hm; obtain ⟨p5, c5, rfl, s5, hb5⟩ := hm.since (Below.refl _ _); clear hm) | (at_builtin; refine append_since _ _ bs behind rfl _ _ _ rfl _ rfl s5 _ rfl (hx4.below hb5).srcB (by omega) ?_; intro q6 c6 w6 s6))
  have hs6 : BytesAt w6 (.slice q6 (bs.length + behind.length) c6) (setBytes k.data.toList v.data.toList i c o ++ behind) := by rw [← HBS.out]; exact s6.bytes
  refine (pkSettingGet _ _ k.data.toList v.data.toList behind i c o (by rw [lenSize]; exact hk) (by rw [lenSize]; exact hv) HE.out (by omega) hs6 (fun g hg => by obtain ⟨F, ho, hF⟩ := s6.own; exact (hF g (ho.2 g hg)).2)).mono ?_
  rintro e w7 ⟨rfl, hb7⟩
  have hB7 := hB4.trans ((s6.below.mono hB4.size).trans (hb7.mono (by have := s6.below.size; have := hB4.size; omega)))
  have hr7 := (hr4.below s6.below).below hb7
  have hv7 := (hv3'.below s6.below).below hb7
  have HS7 := Lib.hid (Nat.le_trans s6.below.size hb7.size)
  clear hs6 hb7 s6 s5 hb5 hr4 hB4 hv3' hv4 hx4
  go_wp2_with fail
  have hk2 : (⟨k.data⟩ : ByteArray) = k := rfl
  have hv2 : (⟨v.data⟩ : ByteArray) = v := rfl
  have hr8 := rowIs_new w7 [.string k, .string v, .bool i, .bool c, .bool o] 23
  have hA : Below w7.heap.size w7 (w7.alloc (.cells #[.string k, .string v, .bool i, .bool c, .bool o] 23)) := (Below.refl _ _).alloc (Nat.le_refl _) _
  refine (pkCut _ v3 bs n (hv7.below hA) hb0 (by omega) hu).mono ?_
  rintro e w9 ⟨⟨x9, rfl, hx9, ho9⟩, hw9⟩
  have hr9 : RowIs w9 w7.heap.size [.string k, .string v, .bool i, .bool c, .bool o] := by rw [← hw9]; exact hr8
  have hr9' : RowIs w9 w.heap.size [.string k, .string v, .bool i, .bool c, .bool o] := by rw [← hw9]; exact hr7.below hA
  have hB9 : Below w.heap.size w w9 := by rw [← hw9]; exact hB7.trans (hA.mono hB7.size)
  have hS9 : Hid (w7.heap.size < w9.heap.size) := by rw [← hw9]; show _ < _; simp
  rw [hw9] at hx9
  have HO9 := Lib.hid ho9
  have hsh := short_take (Nat.mod_lt n hb0)
  rw [HBS.out] at hsh hx9
  clear ho9 hw9 hr8 hA hr7 hv7 hB7
  go_wp2_with fail
  refine (pkSettingGet_bad _ x9 k.data.toList v.data.toList _ i c o (by rw [lenSize]; exact hk) (by rw [lenSize]; exact hv) HE.out hsh hx9 (fun g hg => by have h1 := HV3.out g (HO9.out g hg); have h2 := HS4.out; have h3 := HS7.out; have h4 := hS9.out; omega)).mono ?_
  rintro e w10 ⟨rfl, hb10⟩
  have hrA := (hr9.below hb10).below ((Below.refl _ _).alloc (Nat.le_refl _) (.cells #[.string ⟨#[]⟩, .string ⟨#[]⟩, .bool false, .bool false, .bool false] 23))
  have hrB := (hr9'.below hb10).below ((Below.refl _ _).alloc (Nat.le_refl _) (.cells #[.string ⟨#[]⟩, .string ⟨#[]⟩, .bool false, .bool false, .bool false] 23))
  have hB10 := hB9.trans (hb10.mono hB9.size)
  have a0 := hrA 0 _ rfl
  have a1 := hrA 1 _ rfl
  have a2 := hrA 2 _ rfl
  have a3 := hrA 3 _ rfl
  have a4 := hrA 4 _ rfl
  have b0 := hrB 0 _ rfl
  have b1 := hrB 1 _ rfl
  have b2 := hrB 2 _ rfl
  have b3 := hrB 3 _ rfl
  have b4 := hrB 4 _ rfl
  clear hrA hrB hr9 hr9' hb10 hB9 hsh hx9
  go_wp2_with fail
  go_ret
  exact ⟨rfl, hB10.alloc hB10.size _⟩
theorem law_walk (w : World) (k v : ByteArray) (i c o : Bool) (x : Value) (behind : List UInt8) (n : Nat) (hx : BytesAt w x behind) (hlen : behind.length ≤ 9223372036854775807) (hu : n < 65536) :
    Calls Try.prog 3 #[.agg #[.string k, .string v, .bool i, .bool c, .bool o], x, .int .u16 n] w fun e w' => e = .returned (.bool true) ∧ Below w.heap.size w w' := by
  obtain ⟨p, cp, rfl⟩ := id hx.slice
  by_cases h1 : k.size ≤ 2147483647 ∧ v.size ≤ 2147483647 ∧ behind.length ≤ 2147483647
  · by_cases h2 : short [k, v] = true ∧ k.data.toList ≠ [] ∧ behind.length ≤ 9
    · have h3 : k.size ≤ 100 ∧ v.size ≤ 100 := by have := h2.1; simp [short] at this; omega
      exact law_yes w k v i c o _ behind n hx h3.1 h3.2 h2.2.1 h2.2.2 hu
    · exact law_no2 w k v i c o p _ cp n h1.1 h1.2.1 h1.2.2 h2
  · exact law_no1 w k v i c o p _ cp n hlen h1
end Go.Proofs.Ytlohpmncagfecaa
