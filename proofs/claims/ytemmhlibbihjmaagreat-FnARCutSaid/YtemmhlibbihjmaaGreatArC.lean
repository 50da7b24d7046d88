/- laws.FnARCut. -/
import Derived.Test.YtemmhlibbihjmaaGreatMapL
import Derived.Test.YtemmhlibbihjmaaGreatMapB
namespace Go.Proofs.YtemmhlibbihjmaaGreat
open Go.RowKit
set_option linter.unusedVariables false
set_option linter.unusedSimpArgs false

theorem short_cut {E : List UInt8} {m : Nat} (h : m < E.length) : Short (E.take m) E :=
  ⟨E.drop m, by intro e; have := congrArg List.length e; simp at this; omega, (List.take_append_drop m E).symm⟩
theorem bytes_cut {w : World} {p : Option Addr} {c : Nat} {b : List UInt8} (h : BytesAt w (.slice p b.length c) b) (m : Nat) (hm : m ≤ b.length) : BytesAt w (.slice p m c) (b.take m) := by
  rcases h with ⟨h1, rfl⟩ | ⟨g, off, cap, h1, hc, hx⟩
  · obtain rfl : m = 0 := by simpa using hm
    exact .inl ⟨h1, by simp⟩
  · obtain ⟨rfl, -, rfl⟩ : p = some ⟨g, off, none⟩ ∧ b.length = b.length ∧ c = cap := by simpa using h1
    exact .inr ⟨g, off, c, by simp [Nat.min_eq_left hm], by simp; omega, fun j hj => by
      have hj2 : j < b.length := by simp at hj; omega
      rw [hx j hj2]; simp⟩
theorem bytes_cap {w : World} {p : Option Addr} {c : Nat} {b : List UInt8} (h : BytesAt w (.slice p b.length c) b) : b.length ≤ c := by
  rcases h with ⟨h1, rfl⟩ | ⟨g, off, cap, h1, hc, hx⟩
  · simp
  · obtain ⟨-, -, rfl⟩ : p = some ⟨g, off, none⟩ ∧ b.length = b.length ∧ c = cap := by simpa using h1
    exact hc
theorem bytes_low {w : World} {p : Option Addr} {n m c : Nat} {b : List UInt8} (h : BytesAt w (.slice p n c) b) (h0 : 0 < b.length) : ∀ g, (Value.slice p m c).ownBlock = some g → g < w.heap.size := by
  rcases h with ⟨h1, rfl⟩ | ⟨g, off, cap, h1, hc, hx⟩
  · simp at h0
  · obtain ⟨rfl, -, rfl⟩ : p = some ⟨g, off, none⟩ ∧ n = b.length ∧ c = cap := by simpa using h1
    intro k hk
    obtain rfl : g = k := by simpa [Value.ownBlock] using hk
    exact World.block_lt_of_cell? _ _ (hx 0 h0)

def sKey : ByteArray := ⟨#[107, 101, 121]⟩
def sVal : ByteArray := ⟨#[118, 97, 108, 117, 101]⟩
def sOther : ByteArray := ⟨#[111, 116, 104, 101, 114]⟩
def twoP : List (List Pr) := [[(sKey, sVal)], [(sOther, ⟨#[]⟩)]]
theorem pairL_lit (w : World) (a b : ByteArray) : PairL (w.alloc (.cells #[.string a, .string b] 39)) (.slice (some ⟨w.heap.size, 0, none⟩) 1 1) [(a, b)] :=
  ⟨_, _, rfl, Nat.le_refl _, fun _ => ⟨_, 0, rfl, fun j x hj => by
    have h := heap_alloc_new w (.cells #[.string a, .string b] 39)
    rw [Nat.zero_add]
    simp only [World.cell?, h]
    have e : pcells [(a, b)] = [.string a, .string b] := rfl
    rw [e] at hj
    simpa using hj⟩⟩
def litW (w : World) : World := ((w.alloc (.cells #[.string ⟨#[107, 101, 121]⟩, .string ⟨#[118, 97, 108, 117, 101]⟩] 39)).alloc (.cells #[.string ⟨#[111, 116, 104, 101, 114]⟩, .string ⟨#[]⟩] 39)).alloc (.cells #[.slice (some ⟨w.heap.size, 0, none⟩) 1 1, .slice (some ⟨w.heap.size + 1, 0, none⟩) 1 1] 40)
theorem litW_below (w : World) : Below w.heap.size w (litW w) := below_alloc (below_alloc ((Below.refl _ w).alloc (Nat.le_refl _) _) (Nat.le_refl _) _) (Nat.le_refl _) _
theorem litW_at (w : World) : LstP (litW w) (.slice (some ⟨w.heap.size + 2, 0, none⟩) 2 2) twoP := by
  obtain ⟨w1, hw1⟩ : ∃ w1, w1 = w.alloc (.cells #[.string sKey, .string sVal] 39) := ⟨_, rfl⟩
  obtain ⟨w2, hw2⟩ : ∃ w2, w2 = w1.alloc (.cells #[.string sOther, .string ⟨#[]⟩] 39) := ⟨_, rfl⟩
  have s1 : w1.heap.size = w.heap.size + 1 := by rw [hw1]; simp
  have s2 : w2.heap.size = w.heap.size + 2 := by rw [hw2]; simp [s1]
  have p1 : PairL w1 (.slice (some ⟨w.heap.size, 0, none⟩) 1 1) [(sKey, sVal)] := by rw [hw1]; exact pairL_lit w sKey sVal
  have p2 : PairL w2 (.slice (some ⟨w.heap.size + 1, 0, none⟩) 1 1) [(sOther, ⟨#[]⟩)] := by rw [hw2, ← s1]; exact pairL_lit w1 sOther ⟨#[]⟩
  have e : litW w = w2.alloc (.cells #[.slice (some ⟨w.heap.size, 0, none⟩) 1 1, .slice (some ⟨w.heap.size + 1, 0, none⟩) 1 1] 40) := by rw [hw2, hw1]; rfl
  have b12 : Below w1.heap.size w1 w2 := by rw [hw2]; exact (Below.refl _ w1).alloc (Nat.le_refl _) _
  have b23 : Below w2.heap.size w2 (litW w) := by rw [e]; exact (Below.refl _ w2).alloc (Nat.le_refl _) _
  have q1 := (p1.below b12).below b23
  have q2 := p2.below b23
  refine ⟨[.slice (some ⟨w.heap.size, 0, none⟩) 1 1, .slice (some ⟨w.heap.size + 1, 0, none⟩) 1 1], rfl, ⟨_, _, rfl, Nat.le_refl _, fun _ => ⟨_, 0, rfl, fun j x hj => ?_⟩⟩, fun i x a hx ha => ?_⟩
  · have h := heap_alloc_new w2 (.cells #[.slice (some ⟨w.heap.size, 0, none⟩) 1 1, .slice (some ⟨w.heap.size + 1, 0, none⟩) 1 1] 40)
    rw [Nat.zero_add, e, ← s2]
    simp only [World.cell?, h]
    simpa using hj
  · match i, hx, ha with
    | 0, hx, ha =>
      obtain rfl : _ = x := by simpa using hx
      obtain rfl : _ = a := by simpa [twoP] using ha
      exact q1
    | 1, hx, ha =>
      obtain rfl : _ = x := by simpa using hx
      obtain rfl : _ = a := by simpa [twoP] using ha
      exact q2
theorem mod_facts (a : Nat) (E : List UInt8) (ha : a < 65536) (hE0 : 0 < E.length) (hEl : E.length ≤ 1000000000) : ∃ m : Nat, m < E.length ∧ (a : Int).tmod (E.length : Int) = (m : Int) ∧ (a : Int) % (E.length : Int) = (m : Int) ∧ IntKind.i64.wrap (m : Int) = (m : Int) ∧ ¬ (E.length : Int) = 0 ∧ ¬ E = [] := by
  have hml : a % E.length < E.length := Nat.mod_lt _ hE0
  refine ⟨a % E.length, hml, ?_, by simp, by rw [IntKind.wrap_i64]; omega, by omega, by rintro rfl; simp at hE0⟩
  have h := Int.ofNat_tmod a E.length
  simpa using h.symm
theorem maskB_len (ms : List May) : (maskB ms).length = ms.length := by simp [maskB]

set_option maxRecDepth 100000 in
set_option maxHeartbeats 2000000 in
theorem lawCut (w : World) (v yv : Value) (rows : List (List ByteArray)) (ms : List May) (a : Nat) (h : LstL w v rows) (hl : rows.length ≤ 9223372036854775807) (hb : ∀ ss ∈ rows, ss.length ≤ 9223372036854775807 ∧ ∀ s ∈ ss, s.size ≤ 9223372036854775807)
    (hy : MayL w yv ms) (hyl : ms.length ≤ 9223372036854775807) (hyb : ∀ m ∈ ms, m.2.size ≤ 9223372036854775807) (ha : a < 65536) :
    Calls Tryz.prog 3 #[v, yv, .int .u16 a] w fun e w' => e = .returned (.bool true) ∧ Below w.heap.size w w' := by
  obtain ⟨p, c, rfl, hlc⟩ := h.slice
  obtain ⟨py, cy, rfl, hlcy⟩ := hy.slice
  have HL := Lib.hid h
  have HY := Lib.hid hy
  have HFIT := Lib.hid (fits1V w _ rows h hl hb)
  have HFI5 := Lib.hid (fits5V w _ ms hy hyl hyb)
  have haw : IntKind.i64.wrap (a : Int) = (a : Int) := by rw [IntKind.wrap_i64]; omega
  clear h hb hy hyb
  go_enter Tryz.func3, Tryz.ntmps3
  go_wp2_with fail
  refine HFIT.out.mono ?_
  rintro e w1 ⟨rfl, b, rfl, hfit⟩
  cases b
  · clear hfit HFI5
    go_wp2_with fail
    go_ret
    exact ⟨rfl, Below.refl _ _⟩
  · have HLS0 := Lib.hid (fun W (hW : Below w.heap.size w W) => arListsV W _ rows (HL.out.below strL_stable hW) (hfit rfl))
    clear hfit HFIT
    go_wp2_with fail
    refine HFI5.out.mono ?_
    rintro e w2 ⟨hb2, b, rfl, hfit⟩
    have HB2 := Lib.hid hb2
    cases b
    · clear hfit hb2 HLS0
      go_wp2_with fail
      go_ret
      exact ⟨rfl, HB2.out⟩
    · have HLS := Lib.hid (HLS0.out w2 hb2)
      have HMS := Lib.hid (fun W (hW : Below w.heap.size w W) => arMaybesV W _ ms (HY.out.below hW) (hfit rfl))
      obtain ⟨L, hL⟩ : ∃ L, L = listsOf rows := ⟨_, rfl⟩
      obtain ⟨M, hM⟩ : ∃ M, M = maybesOf ms := ⟨_, rfl⟩
      have HLIT := Lib.hid (listsOf_little rows)
      have HMLT := Lib.hid (And.intro (maybesOf_len ms) (And.intro (maybesOf_each ms) (may_small _ (maybesOf_len ms) (maybesOf_each ms))))
      have hMpos : 0 < M.length := by rw [hM]; unfold maybesOf; simp
      have hLpos : 0 < L.length := by rw [hL]; unfold listsOf; simp
      rw [← hL] at HLS HLIT
      rw [← hM] at HMS HMLT
      have hlen := HLIT.out.len
      have hlenM := HMLT.out.1
      have HNO : Hid (normOf M = M) := Lib.hid (norm_self M fun m hm => (HMLT.out.2.1 m hm).2)
      clear hfit HFI5 HLS0 hL hM hb2
      go_wp2_with fail
      refine HLS.out.mono ?_
      rintro e w3 ⟨x, rfl, hx, hb3⟩
      obtain ⟨px, cx, rfl, hcx⟩ := hx.slice
      have HB3 := Lib.hid (HB2.out.trans (hb3.mono HB2.out.size))
      have HMS3 := Lib.hid (HMS.out w3 HB3.out)
      have HX := Lib.hid hx
      clear hx hb3 HLS HMS
      go_wp2_with fail
      refine HMS3.out.mono ?_
      rintro e w4 ⟨y, rfl, hy4, hb4⟩
      obtain ⟨pz, cz, rfl, hcz⟩ := hy4.slice
      have hx4 := HX.out.below strL_stable hb4
      have HB4 := Lib.hid (HB3.out.trans (hb4.mono HB3.out.size))
      have HX4 := Lib.hid (And.intro hx4 hy4)
      have HA := Lib.hid (arLensV w4 _ L hx4 (by omega))
      clear hx4 hy4 hb4 HMS3 HX
      go_wp2_with fail
      refine HA.out.mono ?_
      rintro e w5 ⟨y3, rfl, hy3, hb3, -⟩
      have hy3' : FlatAt w5 y3 (lensOf L).length (intsN (lensOf L)) := by rw [show (lensOf L).length = L.length by simp [lensOf]]; exact hy3
      have HO := Lib.hid (arOffsetsV w5 y3 (lensOf L) hy3' (by simp [lensOf]; omega) (by rw [lensOf_sum]; have := HLIT.out.flat; omega))
      obtain ⟨p3, c3, rfl, -⟩ := hy3.slice
      have HB5 := Lib.hid hb3
      clear hy3 hy3' hb3 HA
      go_wp2_with fail
      refine HO.out.mono ?_
      intro e w6 hm6
      obtain ⟨p4, c4, rfl, s4, hb6⟩ := hm6.since (Below.refl _ _)
      have h4 : BytesAt w6 _ ((offsOf L).flatMap le8) := s4.bytes
      have hb46 := HB5.out.trans (hb6.mono HB5.out.size)
      have hx6 := HX4.out.1.below strL_stable hb46
      have HF := Lib.hid (arFlatV w6 _ L hx6 (by omega) (by have := HLIT.out.flat; omega))
      have HS6 := Lib.hid (And.intro h4 hb46)
      clear hm6 s4 h4 hb6 hb46 hx6 HO HB5
      obtain ⟨B1, hB1⟩ : ∃ B1, B1 = (offsOf L).flatMap le8 := ⟨_, rfl⟩
      rw [show (sumsOf 0 (lensOf L)).flatMap le8 = (offsOf L).flatMap le8 from rfl, ← hB1] at HS6 ⊢
      have HB1 := Lib.hid hB1
      clear hB1
      go_wp2_with fail
      refine HF.out.mono ?_
      rintro e w7 ⟨y5, rfl, hy5, hb7, -⟩
      obtain ⟨FL, hFL⟩ : ∃ FL, FL = L.flatten := ⟨_, rfl⟩
      have HST := Lib.hid (stStringsV w7 y5 L.flatten hy5 HLIT.out.small)
      rw [← hFL] at hy5 HST
      have HFL := Lib.hid hFL
      clear hFL
      obtain ⟨p5, c5, rfl, -⟩ := hy5.slice
      have HB7 := Lib.hid hb7
      clear hy5 hb7 HF
      go_wp2_with fail
      refine HST.out.mono ?_
      intro e w8 hm8
      obtain ⟨p6, c6, rfl, s6, hb8⟩ := hm8.since (Below.refl _ _)
      obtain ⟨B2, hB2⟩ : ∃ B2, B2 = encS (bytesOf FL) := ⟨_, rfl⟩
      rw [← hB2] at s6 ⊢
      have hB1 := HB1.out
      rw [HFL.out] at hB2
      have hb68 := HB7.out.trans (hb8.mono HB7.out.size)
      have hb48 := HS6.out.2.trans (hb68.mono HS6.out.2.size)
      have hB1l : B1.length ≤ 8000 ∧ 0 < B1.length := by rw [hB1, le8s_length, offsOf_length]; omega
      have hB2l : B2.length ≤ 100000000 := by rw [hB2]; exact HLIT.out.enc
      have HJ := Lib.hid (join_twoA w8 _ _ B1 B2 (HS6.out.1.below hb68) s6.bytes (by omega))
      have HB48 := Lib.hid hb48
      obtain ⟨EA, hEA⟩ : ∃ EA, EA = B1 ++ B2 := ⟨_, rfl⟩
      have hEAl : EA.length ≤ 1000000000 ∧ 0 < EA.length := by rw [hEA, List.length_append]; omega
      rw [← hEA] at HJ
      have HEA : Hid (EA = (offsOf L).flatMap le8 ++ encS (bytesOf L.flatten)) := Lib.hid (by rw [hEA, hB1, hB2])
      clear hEA hm8 s6 hb8 hb68 hb48 HST HB7 HS6 hB1 hB2 hB1l hB2l
      go_wp2_with fail
      refine HJ.out.mono ?_
      intro e w9 hm9
      obtain ⟨p7, c7, rfl, hA9, hb9, -⟩ := madeO_convA hm9
      have hb49 : Below w4.heap.size w4 w9 := HB48.out.trans ((((Below.refl _ w8).alloc (Nat.le_refl _) _).trans (hb9.mono (by simp))).mono HB48.out.size)
      have HNU := Lib.hid (arNullsV w9 _ M (HX4.out.2.below hb49) (by omega) HMLT.out.2.2.1)
      have HA9 := Lib.hid (And.intro hA9 hb49)
      obtain ⟨EN, hEN⟩ : ∃ EN, EN = maskB M ++ encS (bytesOf (M.map valOf)) := ⟨_, rfl⟩
      have hENl : EN.length ≤ 1000000000 ∧ 0 < EN.length := by rw [hEN, List.length_append, maskB_len]; have := HMLT.out.2.2.2; omega
      rw [← hEN] at HNU
      have HEN := Lib.hid hEN
      clear hm9 hA9 hb9 hb49 HJ HB48 HB1 HFL hEN
      go_wp2_with fail
      refine HNU.out.mono ?_
      rintro e w10 ⟨hb10, y10, rfl, hy10, -⟩
      obtain ⟨p10, c10, rfl⟩ := hy10.slice
      have HN10 := Lib.hid (And.intro hy10 hb10)
      have HPQ := Lib.hid (And.intro (litW_at w10) (litW_below w10))
      have hs12 : (litW w10).heap.size = w10.heap.size + 3 := by simp [litW]
      have HAP := Lib.hid (arPairsB (litW w10) _ twoP (litW_at w10) (by decide) (by decide) ⟨by decide, by decide⟩ ⟨by decide, by decide⟩)
      obtain ⟨EP, hEP⟩ : ∃ EP, EP = (offsOf (kk twoP)).flatMap le8 ++ (encS (bytesOf (kk twoP).flatten) ++ encS (bytesOf (vv twoP).flatten)) := ⟨_, rfl⟩
      have hEPl : EP.length ≤ 1000000000 ∧ 0 < EP.length := by
        rw [hEP, List.length_append, List.length_append, le8s_length, offsOf_length]
        have h1 := encS_small (bytesOf (kk twoP).flatten)
        have h2 := encS_small (bytesOf (vv twoP).flatten)
        have h3 : (bytesOf (kk twoP).flatten).flatten.length ≤ 100 ∧ (bytesOf (vv twoP).flatten).flatten.length ≤ 100 ∧ (bytesOf (kk twoP).flatten).length ≤ 100 ∧ (bytesOf (vv twoP).flatten).length ≤ 100 ∧ (kk twoP).length = 2 := by decide
        omega
      rw [← hEP] at HAP
      have HEP := Lib.hid hEP
      unfold litW at HAP
      clear hy10 hb10 HNU hEP hs12
      go_wp2_with fail
      refine HAP.out.mono ?_
      intro e w13 hm13
      have hm13' : MadeO (litW w10) EP e w13 := hm13
      obtain ⟨p13, c13, rfl, hy13, hb13, -⟩ := madeO_convA hm13'
      have hb10w : Below w10.heap.size w10 w13 := HPQ.out.2.trans (hb13.mono HPQ.out.2.size)
      have hb9w := HN10.out.2.trans (hb10w.mono HN10.out.2.size)
      have hb4w := HA9.out.2.trans (hb9w.mono HA9.out.2.size)
      have HBY : Hid (BytesAt w13 (.slice p7 EA.length c7) EA ∧ BytesAt w13 (.slice p10 EN.length c10) EN ∧ BytesAt w13 (.slice p13 EP.length c13) EP) := Lib.hid ⟨HA9.out.1.below hb9w, HN10.out.1.below hb10w, hy13⟩
      have hcA := bytes_cap HBY.out.1
      have hcN := bytes_cap HBY.out.2.1
      have hcP := bytes_cap HBY.out.2.2
      have HBW := Lib.hid (HB4.out.trans (hb4w.mono HB4.out.size))
      clear hm13 hm13' hy13 hb13 hb10w hb9w hb4w HAP HN10 HPQ HA9 HX4 HB4 HB3 HB2
      have HLA : Hid (∀ W dv bs ok, BytesAt W dv bs → (∀ g, dv.ownBlock = some g → g < W.heap.size) → RestA ok L [] bs → bs.length ≤ 1000000000 → Calls Tryz.prog 15 #[dv, .int .i64 L.length] W (ReadL W ok L [])) := Lib.hid fun W dv bs ok h1 h2 h3 h4 => arReadStr W L dv bs [] ok h1 h2 h3 h4 (by omega) (by have := HLIT.out.flat; omega) (by have := HLIT.out.enc; omega)
      have HLN : Hid (∀ W dv bs, BytesAt W dv bs → (∀ g, dv.ownBlock = some g → g < W.heap.size) → RestN false M [] bs → bs.length ≤ 1000000000 → Calls Tryz.prog 16 #[dv, .int .i64 M.length] W (ReadN W false M [])) := Lib.hid fun W dv bs h1 h2 h3 h4 => arReadNull W M dv bs [] false h1 h2 h3 h4 (by omega) (by have := HMLT.out.2.2.2; omega)
      have HTWO : Hid (twoP.length = 2 ∧ twoP.flatten.length ≤ 100000 ∧ (encS (bytesOf (kk twoP).flatten)).length ≤ 1000000000 ∧ (encS (bytesOf (vv twoP).flatten)).length ≤ 1000000000 ∧ ∀ ps ∈ twoP, ps.length ≤ 1000000) := Lib.hid ⟨rfl, by decide, by
        have h1 := encS_small (bytesOf (kk twoP).flatten)
        have h3 : (bytesOf (kk twoP).flatten).flatten.length ≤ 100 ∧ (bytesOf (kk twoP).flatten).length ≤ 100 := by decide
        omega, by
        have h1 := encS_small (bytesOf (vv twoP).flatten)
        have h3 : (bytesOf (vv twoP).flatten).flatten.length ≤ 100 ∧ (bytesOf (vv twoP).flatten).length ≤ 100 := by decide
        omega, by decide⟩
      obtain ⟨mA, hmA, hA1, hA2, hA3, hA4, hA5⟩ := mod_facts a EA ha hEAl.2 hEAl.1
      have hA6 : (mA : Int) ≤ (c7 : Int) := by omega
      have HC1 := Lib.hid (HLA.out w13 (.slice p7 mA c7) (EA.take mA) false (bytes_cut HBY.out.1 mA (Nat.le_of_lt hmA)) (bytes_low HBY.out.1 hEAl.2) (.inr ⟨rfl, by rw [← HEA.out]; exact short_cut hmA⟩) (by rw [List.length_take]; omega))
      go_wp2_with fail
      refine HC1.out.mono ?_
      rintro e w14 ⟨-, h14⟩
      obtain ⟨rfl, hb14⟩ := h14 rfl
      have HB14 := Lib.hid hb14
      clear h14 hb14 HC1 hmA hA1 hA2 hA3 hA4 hA5 hA6
      obtain ⟨mN, hmN, hN1, hN2, hN3, hN4, hN5⟩ := mod_facts a EN ha hENl.2 hENl.1
      have hN6 : (mN : Int) ≤ (c10 : Int) := by omega
      have hby2 := HBY.out.2.1.below HB14.out
      have HC2 := Lib.hid (HLN.out w14 (.slice p10 mN c10) (EN.take mN) (bytes_cut hby2 mN (Nat.le_of_lt hmN)) (bytes_low hby2 hENl.2) (.inr ⟨rfl, by rw [← HEN.out]; exact short_cut hmN⟩) (by rw [List.length_take]; omega))
      clear hby2
      go_wp2_with fail
      refine HC2.out.mono ?_
      rintro e w15 ⟨-, h15⟩
      obtain ⟨x15, rfl, hx15, hb15⟩ := h15 rfl
      obtain ⟨p15, c15, rfl, -⟩ := hx15.slice
      have HB15 := Lib.hid (HB14.out.trans (hb15.mono HB14.out.size))
      clear h15 hx15 hb15 HC2 HB14 hmN hN1 hN2 hN3 hN4 hN5 hN6
      obtain ⟨mP, hmP, hP1, hP2, hP3, hP4, hP5⟩ := mod_facts a EP ha hEPl.2 hEPl.1
      have hP6 : (mP : Int) ≤ (c13 : Int) := by omega
      have hby3 := HBY.out.2.2.below HB15.out
      have HC3 := Lib.hid (arReadMapBad w15 twoP (.slice p13 mP c13) (EP.take mP) (bytes_cut hby3 mP (Nat.le_of_lt hmP)) (bytes_low hby3 hEPl.2) (by rw [← HEP.out]; exact short_cut hmP) (by rw [List.length_take]; omega) (by rw [HTWO.out.1]; omega) (by rw [HTWO.out.1]; omega) HTWO.out.2.1 HTWO.out.2.2.1 HTWO.out.2.2.2.1 HTWO.out.2.2.2.2)
      rw [HTWO.out.1] at HC3
      clear hby3
      go_wp2_with fail
      refine HC3.out.mono ?_
      rintro e w16 ⟨rfl, hb16⟩
      have HB16 := Lib.hid (HB15.out.trans (hb16.mono HB15.out.size))
      clear hb16 HC3 HB15 hmP hP1 hP2 hP3 hP4 hP5 hP6
      have hby4 := HBY.out.1.below HB16.out
      have HC4 := Lib.hid (HLA.out w16 (.slice p7 EA.length c7) EA true hby4 (bytes_low hby4 hEAl.2) (.inl ⟨rfl, by rw [HEA.out, List.append_nil]⟩) hEAl.1)
      clear hby4
      go_wp2_with fail
      refine HC4.out.mono ?_
      rintro e w17 ⟨h17, -⟩
      obtain ⟨x17, rfl, hx17, hb17⟩ := h17 rfl
      obtain ⟨p17, c17, rfl, -⟩ := hx17.slice
      have HB17 := Lib.hid (HB16.out.trans (hb17.mono HB16.out.size))
      clear h17 hx17 hb17 HC4 HB16
      have hby5 := HBY.out.2.2.below HB17.out
      have HC5 := Lib.hid (arReadMap w17 twoP (.slice p13 EP.length c13) EP [] hby5 (bytes_low hby5 hEPl.2) (by unfold RestM; rw [HEP.out, List.append_nil]) hEPl.1 (by rw [HTWO.out.1]; omega) (by rw [HTWO.out.1]; omega) HTWO.out.2.1 HTWO.out.2.2.1 HTWO.out.2.2.2.1 HTWO.out.2.2.2.2)
      rw [HTWO.out.1] at HC5
      clear hby5
      go_wp2_with fail
      refine HC5.out.mono ?_
      rintro e w18 ⟨x18, rfl, hx18, hb18⟩
      obtain ⟨p18, c18, rfl, -⟩ := hx18.slice
      have HB18 := Lib.hid (HB17.out.trans (hb18.mono HB17.out.size))
      clear hx18 hb18 HC5 HB17
      go_wp2_with fail
      go_ret
      exact ⟨rfl, HBW.out.trans (HB18.out.mono HBW.out.size)⟩
end Go.Proofs.YtemmhlibbihjmaaGreat
