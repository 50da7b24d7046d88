/- spec.TMText; zzCut; proto.Time64.String; proto.ParseTime64; FnTMNanoText. -/
import Derived.Test.YtnmfaccpdgbjoaaDoorTmS
import Derived.Test.YtnmfaccpdgbjoaaDoorTmX
namespace Go.Proofs.YtnmfaccpdgbjoaaDoor
open Go.RowKit
set_option linter.unusedVariables false
set_option linter.unusedSimpArgs false

theorem below_drewN (w : World) (k : Nat) : Below w.heap.size w (w.drewN k) := ⟨rfl, rfl, rfl, Nat.le_refl _, fun _ _ => rfl⟩

set_option maxRecDepth 100000 in
theorem specText (w : World) (n : Nat) (hn : n < 360000) : Calls Tryd.prog 8 #[.int .i64 n] w fun e w' => e = .returned (.string (ba (txt n))) ∧ Below w.heap.size w w' := by
  have ht : txt n = two (n / 3600) ++ ([58] ++ (two (n / 60 % 60) ++ ([58] ++ two (n % 60)))) := rfl
  have b1 : n / 3600 < 100 := by omega
  have b2 : n / 60 % 60 < 100 := by omega
  have b3 : n % 60 < 100 := by omega
  have b4 : n / 60 < 10000 := by omega
  have m0 : Int.tdiv (n : Int) 3600 = ((n / 3600 : Nat) : Int) := tdivN _ 3600 _ rfl
  have m1 : Int.tdiv (n : Int) 60 = ((n / 60 : Nat) : Int) := tdivN _ 60 _ rfl
  have m2 : Int.tmod ((n / 60 : Nat) : Int) 60 = ((n / 60 % 60 : Nat) : Int) := tmodN _ 60 _ rfl
  have m3 : Int.tmod ((n : Nat) : Int) 60 = ((n % 60 : Nat) : Int) := tmodN _ 60 _ rfl
  generalize n / 60 % 60 = q at *
  generalize n / 3600 = p at *
  generalize n / 60 = m at *
  generalize n % 60 = r at *
  have Z1 := Lib.hid (fun w => tmTwo w p b1)
  have Z2 := Lib.hid (fun w => tmTwo w q b2)
  have Z3 := Lib.hid (fun w => tmTwo w r b3)
  have E1 := Lib.hid (show ba (two p) ++ (⟨#[58]⟩ : ByteArray) ++ ba (two q) ++ (⟨#[58]⟩ : ByteArray) ++ ba (two r) = ba (txt n) from by
    show _ ++ ba [58] ++ _ ++ ba [58] ++ _ = _
    rw [ba_app, ba_app, ba_app, ba_app, ht]
    rfl)
  have z1 : (ba (two p)).size = 2 := rfl
  have z2 : (ba (two q)).size = 2 := rfl
  have z3 : (ba (two r)).size = 2 := rfl
  obtain ⟨P, hP⟩ : ∃ P, P = ba (two p) := ⟨_, rfl⟩
  obtain ⟨Q, hQ⟩ : ∃ Q, Q = ba (two q) := ⟨_, rfl⟩
  obtain ⟨R, hR⟩ : ∃ R, R = ba (two r) := ⟨_, rfl⟩
  rw [← hP] at Z1 z1 E1
  rw [← hQ] at Z2 z2 E1
  rw [← hR] at Z3 z3 E1
  clear ht hP hQ hR
  have h58 : (⟨#[58]⟩ : ByteArray).size = 1 := rfl
  have f1 : (P ++ (⟨#[58]⟩ : ByteArray)).size = 3 := by rw [ByteArray.size_append, z1]; rfl
  have f2 : (P ++ (⟨#[58]⟩ : ByteArray) ++ Q).size = 5 := by rw [ByteArray.size_append, f1, z2]
  have f3 : (P ++ (⟨#[58]⟩ : ByteArray) ++ Q ++ (⟨#[58]⟩ : ByteArray)).size = 6 := by rw [ByteArray.size_append, f2]; rfl
  go_enter Tryd.func8, Tryd.ntmps8
  go_wp2_with (go_at_call 13; first | (with_reducible refine (Z1.out _).mono ?_; rintro e w1 ⟨rfl, h1⟩) | (with_reducible refine (Z2.out _).mono ?_; rintro e w2 ⟨rfl, h2⟩) | (with_reducible refine (Z3.out _).mono ?_; rintro e w3 ⟨rfl, h3⟩) | fail)
  go_ret
  exact ⟨by rw [← E1.out]; rfl, (h1.trans (h2.mono h1.size)).trans (h3.mono (h1.trans (h2.mono h1.size)).size)⟩

set_option maxRecDepth 100000 in
theorem zzCutL (w : World) (l : List UInt8) (c : UInt8) (k : Nat) (hs : l.length ≤ 1000000) (hk : k < l.length) (hi : idxB l c.toNat = (k : Int)) :
    Calls Tryd.prog 19 #[.string (ba l), .string ⟨#[c]⟩] w fun e w' => e = .returned (.tuple #[.string (ba (l.take k)), .string (ba (l.drop (k + 1))), .bool true]) ∧ Below w.heap.size w w' := by
  have h1 : ((⟨#[c]⟩ : ByteArray).size : Int) = 1 := rfl
  have hsz := ba_size l
  have HX := Lib.hid (fun w => zzIndexL w l c hs)
  rw [hi] at HX
  have E1 : (ba l).extract 0 k = ba (l.take k) := by rw [ba_extract]; simp
  have E2 : (ba l).extract (k + 1) (ba l).size = ba (l.drop (k + 1)) := by rw [ba_extract, hsz]; congr 1; exact List.take_of_length_le (by simp)
  have s1 := fun W => slice_to (ba l) k (by omega) W
  have s2 := fun W => slice_from (ba l) k (by omega) W
  rw [E1] at s1
  rw [E2] at s2
  clear hi E1 E2
  go_enter Tryd.func19, Tryd.ntmps19
  go_wp2_with (go_at_call 26; refine (HX.out _).mono ?_; rintro e w' ⟨rfl, rfl⟩)
  go_quiet (fail)
  go_wp2
  go_ret3
  exact ⟨rfl, below_drewN _ _⟩

/-- A time of day with nine digits behind the period. -/
def txt9 (q r : Nat) : List UInt8 := txt q ++ ([46] ++ digs 9 r)
theorem digit_ne (c d : Nat) (hd : d < 10) (hc : c < 48 ∨ 57 < c) : (UInt8.ofNat (48 + d)).toNat ≠ c := by
  have : (UInt8.ofNat (48 + d)).toNat = 48 + d := by simp; omega
  omega
theorem two_ne (c n : Nat) (hn : n < 100) (hc : c < 48 ∨ 57 < c) : ∀ x ∈ two n, x.toNat ≠ c := by
  intro x hx
  simp only [two, List.mem_cons, List.not_mem_nil, or_false] at hx
  rcases hx with rfl | rfl
  · exact digit_ne c _ (by omega) hc
  · exact digit_ne c _ (by omega) hc
theorem split_txt (q : Nat) (hq : q < 360000) : splitL 58 (txt q) = [ba (two (q / 3600)), ba (two (q / 60 % 60)), ba (two (q % 60))] := by
  unfold splitL txt
  rw [show ((58 : UInt8).toNat) = 58 from rfl]
  rw [List.singleton_append, splitB_at 58 58 _ rfl _ (two_ne 58 _ (by omega) (by omega)), List.singleton_append, splitB_at 58 58 _ rfl _ (two_ne 58 _ (by omega) (by omega)), splitB_none 58 _ (two_ne 58 _ (by omega) (by omega))]
  rfl
theorem idx_txt9 (q r : Nat) (hq : q < 360000) : idxB (txt9 q r) 46 = 8 := by
  rcases idx_cases (txt9 q r) 46 with ⟨h, hn⟩ | ⟨k, hk, hi, hn, x, hx, hxc⟩
  · exact absurd rfl (hn 46 (by simp [txt9]))
  · rw [hi]
    have hl : (txt q).length = 8 := rfl
    have hno : ∀ y ∈ txt q, y.toNat ≠ 46 := by
      intro y hy
      simp only [txt, List.mem_append, List.mem_cons, List.not_mem_nil, or_false] at hy
      rcases hy with h | rfl | h | rfl | h
      · exact two_ne 46 _ (by omega) (by omega) y h
      · decide
      · exact two_ne 46 _ (by omega) (by omega) y h
      · decide
      · exact two_ne 46 _ (by omega) (by omega) y h
    have h8 : 8 ≤ k := by
      rcases Nat.lt_or_ge k 8 with h | h
      · exfalso
        rw [txt9, List.getElem?_append_left (by omega)] at hx
        exact hno x (List.mem_of_getElem? hx) hxc
      · exact h
    have h8' : k ≤ 8 := by
      rcases Nat.lt_or_ge 8 k with h | h
      · exfalso
        refine hn 46 ?_ rfl
        have : (txt9 q r)[8]? = some 46 := rfl
        exact List.mem_of_getElem? (i := 8) (by rw [List.getElem?_take, if_pos h, this])
      · exact h
    omega
theorem cut_txt9 (q r : Nat) : (txt9 q r).take 8 = txt q ∧ (txt9 q r).drop 9 = digs 9 r := ⟨rfl, rfl⟩

theorem three_strs {w : World} {v : Value} {X Y Z : ByteArray} (h : StrL w v [X, Y, Z]) : ∃ g o c : Nat, v = .slice (some ⟨g, o, none⟩) 3 c ∧ g < w.heap.size ∧ 3 ≤ c ∧ w.cell? ⟨g, o, none⟩ = some (.string X) ∧ w.cell? ⟨g, o + 1, none⟩ = some (.string Y) ∧ w.cell? ⟨g, o + 2, none⟩ = some (.string Z) := by
  obtain ⟨p, c, rfl, hc⟩ := h.slice
  obtain ⟨g, o, rfl, -, -, -, c0⟩ := h.row (i := 0) (s := X) rfl
  obtain ⟨g1, o1, he1, -, -, -, c1⟩ := h.row (i := 1) (s := Y) rfl
  obtain ⟨g2, o2, he2, -, -, -, c2⟩ := h.row (i := 2) (s := Z) rfl
  obtain ⟨rfl, rfl⟩ : g = g1 ∧ o = o1 := by simpa using he1
  obtain ⟨rfl, rfl⟩ : g = g2 ∧ o = o2 := by simpa using he2
  exact ⟨g, o, c, rfl, World.block_lt_of_cell? _ _ c0, hc, c0, c1, c2⟩

set_option maxRecDepth 100000 in
theorem parse64 (w : World) (q r : Nat) (hq : q < 360000) (hr : r < 1000000000) :
    Calls Tryd.prog 12 #[.string (ba (txt9 q r))] w fun e w' => e = .returned (.tuple #[.int .i64 ((q : Int) * 1000000000 + r), .nilIface]) ∧ Below w.heap.size w w' := by
  have HC := Lib.hid (fun w => zzCutL w (txt9 q r) 46 8 (by show (txt q ++ ([46] ++ digs 9 r)).length ≤ _; simp [txt_len, digs_len]) (by show 8 < (txt q ++ ([46] ++ digs 9 r)).length; simp [txt_len, digs_len]) (idx_txt9 q r hq))
  rw [(cut_txt9 q r).1, (cut_txt9 q r).2] at HC
  have HS := Lib.hid (fun w => zzSplitL w (txt q) 58 (by rw [txt_len]; omega))
  rw [split_txt q hq] at HS
  have A1 := Lib.hid (fun w => atoiTwo w (q / 3600) (by omega))
  have A2 := Lib.hid (fun w => atoiTwo w (q / 60 % 60) (by omega))
  have A3 := Lib.hid (fun w => atoiTwo w (q % 60) (by omega))
  have HP := Lib.hid (fun w => parseNine w r hr)
  have hsum : q / 3600 * 3600 + q / 60 % 60 * 60 + q % 60 = q := by omega
  have b1 : q / 3600 < 100 := by omega
  have b2 : q / 60 % 60 < 60 := by omega
  have b3 : q % 60 < 60 := by omega
  have n1 : (ba (digs 9 r)).size = 9 := by rw [ba_size, digs_len]
  obtain ⟨D, hD⟩ : ∃ D, D = ba (digs 9 r) := ⟨_, rfl⟩
  obtain ⟨T, hT⟩ : ∃ T, T = ba (txt q) := ⟨_, rfl⟩
  obtain ⟨S, hS⟩ : ∃ S, S = ba (txt9 q r) := ⟨_, rfl⟩
  rw [← hD] at HC HP n1
  rw [← hT] at HC HS
  rw [← hS] at HC ⊢
  have hne : (D.toList == []) = false := by
    have : D.toList = digs 9 r := by rw [hD, ba_toList]
    rw [this]
    rfl
  clear hD hT hS
  generalize q / 3600 = x at *
  generalize q / 60 % 60 = y at *
  generalize q % 60 = z at *
  obtain ⟨X, hX⟩ : ∃ X, X = ba (two x) := ⟨_, rfl⟩
  obtain ⟨Y, hY⟩ : ∃ Y, Y = ba (two y) := ⟨_, rfl⟩
  obtain ⟨Z, hZ⟩ : ∃ Z, Z = ba (two z) := ⟨_, rfl⟩
  rw [← hX, ← hY, ← hZ] at HS
  rw [← hX] at A1
  rw [← hY] at A2
  rw [← hZ] at A3
  clear hX hY hZ
  go_enter Tryd.func12, Tryd.ntmps12
  go_wp2_with (go_at_call 19; refine (HC.out _).mono ?_; rintro e w1 ⟨rfl, h1⟩)
  have H1 := Lib.hid h1
  clear h1
  go_wp2_with fail
  refine (HS.out _).mono ?_
  rintro e w2 ⟨v, rfl, hsv, h2, -⟩
  obtain ⟨g, o, cc, rfl, hg, hcc, c0, c1, c2⟩ := three_strs hsv
  have H2 := Lib.hid (H1.out.trans (h2.mono H1.out.size))
  clear h2 hsv
  go_wp2_with fail
  refine (A1.out _).mono ?_
  rintro e w3 ⟨rfl, h3⟩
  rw [← h3.cell (p := ⟨g, o + 1, none⟩) hg] at c1
  rw [← h3.cell (p := ⟨g, o + 2, none⟩) hg] at c2
  have hg3 := Nat.lt_of_lt_of_le hg h3.size
  have H3 := Lib.hid (H2.out.trans (h3.mono H2.out.size))
  clear h3 c0
  go_wp2_with fail
  refine (A2.out _).mono ?_
  rintro e w4 ⟨rfl, h4⟩
  rw [← h4.cell (p := ⟨g, o + 2, none⟩) hg3] at c2
  have H4 := Lib.hid (H3.out.trans (h4.mono H3.out.size))
  clear h4 c1
  go_wp2_with fail
  refine (A3.out _).mono ?_
  rintro e w5 ⟨rfl, h5⟩
  have H5 := Lib.hid (H4.out.trans (h5.mono H4.out.size))
  clear h5 c2
  go_wp2_with fail
  go_loop [5] (fun s => s = .string D) (fun _ => 0)
  case atStart => rfl
  case round =>
    subst hrel
    go_wp2_with (go_at_call 23; refine (HP.out _).mono ?_; rintro e w6 ⟨rfl, h6⟩)
    go_ret2
    refine ⟨?_, H5.out.trans (h6.mono H5.out.size)⟩
    have : (x : Int) * 3600 + (y : Int) * 60 + (z : Int) = (q : Int) := by omega
    rw [← this]
    rfl

set_option maxRecDepth 100000 in
theorem tmParse64 (w : World) (q r : Nat) (hq : q < 360000) (hr : r < 1000000000) :
    Calls Tryd.prog 7 #[.string (ba (txt9 q r))] w fun e w' => e = .returned (.tuple #[.int .i64 ((q : Int) * 1000000000 + r), .bool true]) ∧ Below w.heap.size w w' := by
  have HP := Lib.hid (fun w => parse64 w q r hq hr)
  go_enter Tryd.func7, Tryd.ntmps7
  go_wp2_with (go_at_call 12; refine (HP.out _).mono ?_; rintro e w1 ⟨rfl, h1⟩)
  go_quiet (fail)
  go_wp2
  go_ret2
  exact ⟨rfl, h1.trans ((below_drewN _ _).mono h1.size)⟩

theorem nanoseconds (w : World) (n : Nat) (hn : n < 360000000000000) : Calls Tryd.prog 18 #[.int .i64 n] w fun e w' => e = .returned (.int .i64 n) ∧ w = w' := by
  go_enter Tryd.func18, Tryd.ntmps18
  go_wp2
  go_ret
  exact ⟨rfl, rfl⟩
set_option maxRecDepth 100000 in
theorem text64 (w : World) (n : Nat) (hn : n < 360000000000000) (hFI : ∀ w (i : Nat), i < 100 → Calls Tryd.prog 25 #[.int .i64 i, .int .i64 10] w fun e w' => e = .returned (.string (ba (Lib.decDigits i))) ∧ w = w')
    (hFB : ∀ i : Nat, i < 1000000000 → Calls Tryd.prog 25 #[.int .i64 i, .int .i64 10] w fun e w' => e = .returned (.string (ba (Lib.decDigits i))) ∧ Below w.heap.size w w') :
    Calls Tryd.prog 11 #[.int .i64 n] w fun e w' => e = .returned (.string (ba (txt9 (n / 1000000000) (n % 1000000000)))) ∧ Below w.heap.size w w' := by
  have H1 := hours w (n / 3600000000000) (n % 3600000000000) (by omega) (by omega)
  rw [show ((n / 3600000000000 * 3600000000000 + n % 3600000000000 : Nat) : Int) = (n : Int) by omega] at H1
  have H2 := minutes w (n / 60000000000) (n % 60000000000) (by omega) (by omega)
  rw [show ((n / 60000000000 * 60000000000 + n % 60000000000 : Nat) : Int) = (n : Int) by omega] at H2
  have H3 := seconds w (n / 1000000000) (n % 1000000000) (by omega) (by omega)
  rw [show ((n / 1000000000 * 1000000000 + n % 1000000000 : Nat) : Int) = (n : Int) by omega] at H3
  have hz : ∀ w (i : Nat), i < 100 → Calls Tryd.prog 17 #[.int .i64 i, .int .i64 2] w fun e w' => e = .returned (.string (ba (two i))) ∧ w = w' := fun w i hi => by
    have := zzPadV (Lib.decDigits i) i 2 (by omega) (Nat.le_trans (dec_len 1 i (by omega)) (by decide)) (by decide) w (fun w' => w = w') (hFI w i hi)
    rwa [pad_two i hi] at this
  have hy := zzPadV (Lib.decDigits (n % 1000000000)) (n % 1000000000) 9 (by omega) (Nat.le_trans (dec_len 8 _ (by omega)) (by decide)) (by decide) w (fun w' => Below w.heap.size w w') (hFB _ (by omega))
  rw [pad_digs 8 _ (by omega), show ((9 : Nat) : Int) = 9 from rfl] at hy
  have ht : txt9 (n / 1000000000) (n % 1000000000) = two (n / 1000000000 / 3600) ++ ([58] ++ (two (n / 1000000000 / 60 % 60) ++ ([58] ++ (two (n / 1000000000 % 60) ++ ([46] ++ digs 9 (n % 1000000000)))))) := by simp [txt9, txt]
  have e1 : n / 1000000000 / 3600 = n / 3600000000000 := by omega
  have e2 : n / 1000000000 / 60 = n / 60000000000 := by omega
  rw [e1, e2] at ht
  have b1 : n / 3600000000000 < 100 := by omega
  have b2 : n / 60000000000 % 60 < 100 := by omega
  have b3 : n / 1000000000 % 60 < 100 := by omega
  have b4 : n / 60000000000 < 10000 := by omega
  have b5 : n / 1000000000 < 400000 := by omega
  have m2 : Int.tmod ((n / 60000000000 : Nat) : Int) 60 = ((n / 60000000000 % 60 : Nat) : Int) := tmodN _ 60 _ rfl
  have m3 : Int.tmod ((n / 1000000000 : Nat) : Int) 60 = ((n / 1000000000 % 60 : Nat) : Int) := tmodN _ 60 _ rfl
  have m4 : Int.tmod (n : Int) 1000000000 = ((n % 1000000000 : Nat) : Int) := tmodN _ 1000000000 _ rfl
  have ln : (ba (digs 9 (n % 1000000000))).size = 9 := by rw [ba_size, digs_len]
  clear e1 e2
  generalize txt9 (n / 1000000000) (n % 1000000000) = whole at *
  generalize n / 60000000000 % 60 = q at *
  generalize n / 1000000000 % 60 = r at *
  generalize n % 1000000000 = f at *
  generalize n / 3600000000000 = p at *
  generalize n / 60000000000 = m at *
  generalize n / 1000000000 = t at *
  have Z1 := Lib.hid (fun w => hz w p b1)
  have Z2 := Lib.hid (fun w => hz w q b2)
  have Z3 := Lib.hid (fun w => hz w r b3)
  have E1 := Lib.hid (show ba (two p) ++ (⟨#[58]⟩ : ByteArray) ++ ba (two q) ++ (⟨#[58]⟩ : ByteArray) ++ ba (two r) ++ (⟨#[46]⟩ : ByteArray) ++ ba (digs 9 f) = ba whole from by
    show _ ++ ba [58] ++ _ ++ ba [58] ++ _ ++ ba [46] ++ _ = _
    rw [ba_app, ba_app, ba_app, ba_app, ba_app, ba_app, ht]
    congr 1)
  have z1 : (ba (two p)).size = 2 := rfl
  have z2 : (ba (two q)).size = 2 := rfl
  have z3 : (ba (two r)).size = 2 := rfl
  obtain ⟨P, hP⟩ : ∃ P, P = ba (two p) := ⟨_, rfl⟩
  obtain ⟨Q, hQ⟩ : ∃ Q, Q = ba (two q) := ⟨_, rfl⟩
  obtain ⟨R, hR⟩ : ∃ R, R = ba (two r) := ⟨_, rfl⟩
  obtain ⟨D, hD⟩ : ∃ D, D = ba (digs 9 f) := ⟨_, rfl⟩
  rw [← hP] at Z1 z1 E1
  rw [← hQ] at Z2 z2 E1
  rw [← hR] at Z3 z3 E1
  rw [← hD] at hy ln E1
  have HY := Lib.hid hy
  have G1 := Lib.hid H1
  have G2 := Lib.hid H2
  have G3 := Lib.hid H3
  have G4 := Lib.hid (nanoseconds w n hn)
  clear hz H1 H2 H3 hFI hFB ht hP hQ hR hD hy
  have h58 : (⟨#[58]⟩ : ByteArray).size = 1 := rfl
  have h46 : (⟨#[46]⟩ : ByteArray).size = 1 := rfl
  have f1 : (P ++ (⟨#[58]⟩ : ByteArray)).size = 3 := by rw [ByteArray.size_append, z1]; rfl
  have f2 : (P ++ (⟨#[58]⟩ : ByteArray) ++ Q).size = 5 := by rw [ByteArray.size_append, f1, z2]
  have f3 : (P ++ (⟨#[58]⟩ : ByteArray) ++ Q ++ (⟨#[58]⟩ : ByteArray)).size = 6 := by rw [ByteArray.size_append, f2]; rfl
  have f4 : (P ++ (⟨#[58]⟩ : ByteArray) ++ Q ++ (⟨#[58]⟩ : ByteArray) ++ R).size = 8 := by rw [ByteArray.size_append, f3, z3]
  have f5 : (P ++ (⟨#[58]⟩ : ByteArray) ++ Q ++ (⟨#[58]⟩ : ByteArray) ++ R ++ (⟨#[46]⟩ : ByteArray)).size = 9 := by rw [ByteArray.size_append, f4]; rfl
  go_enter Tryd.func11, Tryd.ntmps11
  go_wp2_with (first | (go_at_call 14; refine G1.out.mono ?_; rintro e w' ⟨s1, rfl, hs1, rfl⟩; have d1 := fun W => conv_down s1 p W hs1 (by omega)) | (go_at_call 15; refine G2.out.mono ?_; rintro e w' ⟨s2, rfl, hs2, rfl⟩; have d2 := fun W => conv_down s2 m W hs2 (by omega)) | (go_at_call 16; refine G3.out.mono ?_; rintro e w' ⟨s3, rfl, hs3, rfl⟩; have d3 := fun W => conv_down s3 t W hs3 (by omega)) | (go_at_call 18; refine G4.out.mono ?_; rintro e w' ⟨rfl, rfl⟩; clear d1 d2 d3) | (go_at_call 17; first | (with_reducible refine (Z1.out _).mono ?_; rintro e w' ⟨rfl, rfl⟩) | (with_reducible refine (Z2.out _).mono ?_; rintro e w' ⟨rfl, rfl⟩) | (with_reducible refine (Z3.out _).mono ?_; rintro e w' ⟨rfl, rfl⟩) | (with_reducible refine HY.out.mono ?_; rintro e w9 ⟨rfl, h9⟩) | fail) | fail)
  go_ret
  exact ⟨by rw [← E1.out]; rfl, h9⟩

set_option maxRecDepth 100000 in
theorem tmText64 (w : World) (n : Nat) (hn : n < 360000000000000) (hFI : ∀ w (i : Nat), i < 100 → Calls Tryd.prog 25 #[.int .i64 i, .int .i64 10] w fun e w' => e = .returned (.string (ba (Lib.decDigits i))) ∧ w = w')
    (hFB : ∀ i : Nat, i < 1000000000 → Calls Tryd.prog 25 #[.int .i64 i, .int .i64 10] w fun e w' => e = .returned (.string (ba (Lib.decDigits i))) ∧ Below w.heap.size w w') :
    Calls Tryd.prog 6 #[.int .i64 n] w fun e w' => e = .returned (.string (ba (txt9 (n / 1000000000) (n % 1000000000)))) ∧ Below w.heap.size w w' := by
  have HF := Lib.hid (text64 w n hn hFI hFB)
  clear hFI hFB
  go_enter Tryd.func6, Tryd.ntmps6
  go_wp2_with (go_at_call 11; refine HF.out.mono ?_; rintro e w1 ⟨rfl, h1⟩)
  go_ret
  exact ⟨rfl, h1⟩

set_option maxRecDepth 100000 in
theorem nanoRow (w : World) (t : Nat) (ht : t < 18446744073709551616) (hFI : ∀ w (i : Nat), i < 100 → Calls Tryd.prog 25 #[.int .i64 i, .int .i64 10] w fun e w' => e = .returned (.string (ba (Lib.decDigits i))) ∧ w = w')
    (hFB : ∀ i : Nat, i < 1000000000 → Calls Tryd.prog 25 #[.int .i64 i, .int .i64 10] w fun e w' => e = .returned (.string (ba (Lib.decDigits i))) ∧ Below w.heap.size w w') :
    Calls Tryd.prog 4 #[.int .u64 t] w fun e w' => e = .returned (.bool true) ∧ Below w.heap.size w w' := by
  obtain ⟨n, hn⟩ : ∃ n, n = t % 360000000000000 := ⟨_, rfl⟩
  have hn2 : n < 360000000000000 := by omega
  have m0 : (t : Int) % 360000000000000 = (n : Int) := by omega
  have HA := Lib.hid (tmText64 w n hn2 hFI hFB)
  have HB := Lib.hid (fun w => tmParse64 w (n / 1000000000) (n % 1000000000) (by omega) (by omega))
  rw [show ((n / 1000000000 : Nat) : Int) * 1000000000 + ((n % 1000000000 : Nat) : Int) = (n : Int) by omega] at HB
  have HC := Lib.hid (fun w => specText w (n / 1000000000) (by omega))
  have HD := Lib.hid (fun w => tmDigits w (n % 1000000000) (by omega))
  have m1 : Int.tdiv (n : Int) 1000000000 = ((n / 1000000000 : Nat) : Int) := tdivN _ 1000000000 _ rfl
  have m2 : Int.tmod (n : Int) 1000000000 = ((n % 1000000000 : Nat) : Int) := tmodN _ 1000000000 _ rfl
  have ln : (ba (digs 9 (n % 1000000000))).size = 9 := by rw [ba_size, digs_len]
  have lt : (ba (txt (n / 1000000000))).size = 8 := by rw [ba_size]; rfl
  have l46 : (⟨#[46]⟩ : ByteArray).size = 1 := rfl
  have hq : n / 1000000000 < 400000 := by omega
  have hr : n % 1000000000 < 1000000000 := by omega
  have E : ba (txt (n / 1000000000)) ++ (⟨#[46]⟩ : ByteArray) ++ ba (digs 9 (n % 1000000000)) = ba (txt9 (n / 1000000000) (n % 1000000000)) := by
    show _ ++ ba [46] ++ _ = _
    rw [ba_app, ba_app]
    simp [txt9]
  clear hFI hFB hn
  generalize n / 1000000000 = q at *
  generalize n % 1000000000 = r at *
  generalize ba (txt9 q r) = S at *
  generalize ba (txt q) = A at *
  generalize ba (digs 9 r) = B at *
  have k1 : (A ++ (⟨#[46]⟩ : ByteArray)).size = 9 := by rw [ByteArray.size_append, lt]; rfl
  have K : (S.toList == (A ++ (⟨#[46]⟩ : ByteArray) ++ B).toList) = true := by rw [E]; simp
  clear E
  go_enter Tryd.func4, Tryd.ntmps4
  go_wp2_with (go_at_call 6; refine HA.out.mono ?_; rintro e w1 ⟨rfl, h1⟩)
  have H1 := Lib.hid h1
  clear h1
  go_wp2_with (go_at_call 7; refine (HB.out _).mono ?_; rintro e w2 ⟨rfl, h2⟩)
  have H2 := Lib.hid (H1.out.trans (h2.mono H1.out.size))
  clear h2
  go_wp2_with (go_at_call 8; refine (HC.out _).mono ?_; rintro e w3 ⟨rfl, h3⟩)
  have H3 := Lib.hid (H2.out.trans (h3.mono H2.out.size))
  clear h3
  go_wp2_with (go_at_call 9; refine (HD.out _).mono ?_; rintro e w4 ⟨rfl, h4⟩)
  go_ret
  exact ⟨rfl, H3.out.trans (h4.mono H3.out.size)⟩
end Go.Proofs.YtnmfaccpdgbjoaaDoor
