/- laws.FnPRStrings. -/
import Derived.Test.YtlohpmncagfecaaAsk2
import Derived.Test.YtlohpmncagfecaaJoins
namespace Go.Proofs.Ytlohpmncagfecaa
open Go.RowKit
set_option linter.unnecessarySimpa false
set_option linter.unusedVariables false
set_option linter.unusedSimpArgs false

theorem rowIs_new8 (w : World) (x y : Pr) (sx sy : Value) (T : TypeId) : RowIs (w.alloc (.cells #[.int .i64 x.op, .int .u64 (x.u : Nat), .int .u64 (x.v : Nat), sx, .int .i64 y.op, .int .u64 (y.u : Nat), .int .u64 (y.v : Nat), sy] T)) w.heap.size [.int .i64 x.op, .int .u64 (x.u : Nat), .int .u64 (x.v : Nat), sx, .int .i64 y.op, .int .u64 (y.u : Nat), .int .u64 (y.v : Nat), sy] := rowIs_new w _ T

/-- Two values that have just been laid. -/
theorem prims_new2 (w : World) (x y : Pr) (T : TypeId) (hx : x.s = []) (hy : y.s = []) (hu : x.u < 18446744073709551616 ∧ y.u < 18446744073709551616) (hv : x.v < 18446744073709551616 ∧ y.v < 18446744073709551616) (c : Nat) (hc : 2 ≤ c) :
    PrimsAt (w.alloc (.cells #[.int .i64 x.op, .int .u64 (x.u : Nat), .int .u64 (x.v : Nat), .slice none 0 0, .int .i64 y.op, .int .u64 (y.u : Nat), .int .u64 (y.v : Nat), .slice none 0 0] T)) (w.heap.size + 1) (.slice (some ⟨w.heap.size, 0, none⟩) 2 c) [x, y] := by
  have hr := rowIs_new8 w x y (.slice none 0 0) (.slice none 0 0) T
  refine .inr ⟨w.heap.size, 0, c, rfl, hc, by omega, fun i z hz => ?_⟩
  match i, hz with
  | 0, hz =>
    obtain rfl : x = z := by simpa using hz
    exact ⟨.slice none 0 0, by simpa using hr 0 _ rfl, by simpa using hr 1 _ rfl, by simpa using hr 2 _ rfl, by simpa using hr 3 _ rfl, by rw [hx]; exact .inl (.inl ⟨rfl, rfl⟩), fun g h => absurd hx h, hu.1, hv.1, by simp [hx]⟩
  | 1, hz =>
    obtain rfl : y = z := by simpa using hz
    exact ⟨.slice none 0 0, by simpa using hr 4 _ rfl, by simpa using hr 5 _ rfl, by simpa using hr 6 _ rfl, by simpa using hr 7 _ rfl, by rw [hy]; exact .inl (.inl ⟨rfl, rfl⟩), fun g h => absurd hy h, hu.2, hv.2, by simp [hy]⟩
  | k + 2, hz => simp at hz

theorem strBytes_len (s : List UInt8) (h : s.length ≤ 300) : (strBytes s).length ≤ 310 := by
  have := uv_length_le 10 s.length (by omega) (by omega)
  simp [strBytes]; omega

theorem run_str (op : Int) (hop : op = 18 ∨ op = 20 ∨ op = 21) (s : List UInt8) : Run [⟨op, 0, 0, []⟩, ⟨1, 0, 0, []⟩] (strBytes s) [⟨0, 0, s, false⟩, errG] := by
  refine .ok _ _ _ [] _ _ rfl ?_ (by simp) (.bad _ _ _ (get1_bad _ _ _))
  rcases hop with rfl | rfl | rfl
  · have := more18 0 0 [] s []
    rw [List.append_nil] at this
    exact getMore _ _ _ _ (by decide) (by decide) this
  · have := more20 0 0 [] s []
    rw [List.append_nil] at this
    exact getMore _ _ _ _ (by decide) (by decide) this
  · have := more21 0 0 [] s []
    rw [List.append_nil] at this
    exact getMore _ _ _ _ (by decide) (by decide) this

theorem run_app (s ahead : List UInt8) (h : ahead.length ≤ 1000) : Run [⟨22, 0, 0, ahead⟩] (strBytes s) [⟨0, 0, ahead ++ s, false⟩] := by
  refine .ok _ _ _ [] _ _ rfl ?_ (by simp) (.nil _)
  have := more22 0 0 ahead s [] h
  rw [List.append_nil] at this
  exact getMore _ _ _ _ (by simp) (by simp) this

theorem run_long (s : List UInt8) (h : s.length ≤ 300) : Run [⟨17, 0, 0, []⟩, ⟨19, s.length, 0, []⟩] (strBytes s) [⟨s.length, 0, [], false⟩, ⟨0, 0, s, false⟩] := by
  refine .ok _ _ _ s _ _ rfl ?_ (by simp [strBytes]) (.ok _ _ _ [] _ _ rfl ?_ (by simp) (.nil _))
  · exact getMore _ _ _ _ (by decide) (by decide) (more17 0 0 s.length [] s (by omega))
  · have := more19 0 [] s []
    rw [List.append_nil] at this
    exact getMore _ _ _ _ (by simp) (by simp) this

theorem strs_no (w : World) (p q : Option Addr) (n m cp cq : Nat) (hn : n ≤ 9223372036854775807) (hm : m ≤ 9223372036854775807) (h : ¬ (n ≤ 300 ∧ m ≤ 100)) :
    Calls Try.prog 5 #[.slice p n cp, .slice q m cq] w fun e w' => e = .returned (.bool true) ∧ Below w.heap.size w w' := by
  rcases (by omega : 2147483647 < n ∨ (n ≤ 2147483647 ∧ 2147483647 < m) ∨ (n ≤ 2147483647 ∧ m ≤ 2147483647 ∧ 300 < n) ∨ (n ≤ 300 ∧ m ≤ 2147483647 ∧ 100 < m)) with h1 | ⟨h1, h2⟩ | ⟨h1, h2, h3⟩ | ⟨h1, h2, h3⟩
  all_goals
    clear h
    go_enter Try.func5, Try.ntmps5
    go_wp2_with fail
    go_ret
    exact ⟨rfl, Below.refl _ _⟩

set_option maxRecDepth 100000 in
set_option maxHeartbeats 1000000 in
theorem strs_yes (w : World) (sv av : Value) (s ahead : List UInt8) (hs : BytesAt w sv s) (hsD : ∀ g, sv.ownBlock = some g → g < w.heap.size) (ha : BytesAt w av ahead) (haD : ∀ g, av.ownBlock = some g → g < w.heap.size) (hsl : s.length ≤ 300) (hal : ahead.length ≤ 100) :
    Calls Try.prog 5 #[sv, av] w fun e w' => e = .returned (.bool true) ∧ Below w.heap.size w w' := by
  obtain ⟨ps, cs, rfl⟩ := hs.slice
  obtain ⟨pa, ca, rfl⟩ := ha.slice
  have hpr := prims_new w ⟨18, 0, 0, s⟩ _ 43 hs hsD (by simp) (by simp) (by simp; omega) 1 (Nat.le_refl _)
  have HP := Lib.hid (prPut _ _ _ _ hpr (by simp) ⟨by simp [okPr]; omega, by simp⟩)
  have HS := Lib.hid (And.intro hs (And.intro hsD (And.intro ha haD)))
  clear hpr hs hsD ha haD
  go_enter Try.func5, Try.ntmps5
  go_wp2_with fail
  refine HP.out.mono ?_
  intro e w1 hm
  obtain ⟨hb1, v1, rfl, hv1, hg1⟩ := hm
  have he : prsBytes [⟨18, 0, 0, s⟩] = strBytes s := by simp [prsBytes, prBytes, primBytes]
  rw [he] at hv1
  have hB1 : Below w.heap.size w w1 := ((Below.refl _ w).alloc (Nat.le_refl _) _).trans (hb1.mono (by simp))
  obtain ⟨bs, hbs⟩ : ∃ bs, bs = strBytes s := ⟨_, rfl⟩
  have hbl : bs.length ≤ 310 := by rw [hbs]; exact strBytes_len s hsl
  rw [← hbs] at hv1
  have HBS := Lib.hid hbs
  obtain ⟨p1, c1, rfl⟩ := hv1.slice
  have HV1 := Lib.hid (And.intro hv1 (And.intro (fun g (h : (Value.slice p1 bs.length c1).ownBlock = some g) => (hg1 g h).2) hB1))
  clear hb1 hv1 hg1 he hbs hB1
  have hops := rowIs_new w1 [.int .i64 18, .int .i64 20, .int .i64 21] 3
  have HOPS := Lib.hid hops
  clear hops
  go_wp2_with fail
  go_loopw [33] (fun vi wr => ∃ k : Nat, k ≤ 3 ∧ vi = .int .i64 k ∧ Below (w1.heap.size + 1) (w1.alloc (.cells #[.int .i64 18, .int .i64 20, .int .i64 21] 3)) wr) (fun vi _ => 3 - (intOf vi).toNat)
  case atStart => exact ⟨0, by omega, rfl, Below.refl _ _⟩
  case round =>
    obtain ⟨k, hk, rfl, hbl2⟩ := hrel
    have HBL := Lib.hid hbl2
    have hszr := hbl2.size
    simp only [World.size_alloc] at hszr
    have hB1r : Below w1.heap.size w1 wr := ((Below.refl _ w1).alloc (Nat.le_refl _) _).trans (hbl2.mono (by omega))
    have hv1r := HV1.out.1.below hB1r
    have hB0r : Below w.heap.size w wr := HV1.out.2.2.trans (hB1r.mono HV1.out.2.2.size)
    have hsr := HS.out.1.below hB0r
    have HR := Lib.hid (And.intro hB1r (And.intro hv1r (And.intro hB0r hsr)))
    have hopr := HOPS.out.below (by simpa using hbl2)
    have o0 := hopr 0 _ rfl
    have o1 := hopr 1 _ rfl
    have o2 := hopr 2 _ rfl
    clear hbl2 hB1r hv1r hB0r hsr hopr
    by_cases hlt : k < 3
    · have hop : k = 0 ∨ k = 1 ∨ k = 2 := by omega
      rcases hop with rfl | rfl | rfl
      · have hpr := prims_new2 wr ⟨18, 0, 0, []⟩ ⟨1, 0, 0, []⟩ 43 rfl rfl (by decide) (by decide) 2 (Nat.le_refl _)
        have HG := Lib.hid (prGet _ _ _ _ bs _ _ (HR.out.2.1.alloc _) (fun g hg => by have := HV1.out.2.1 g hg; simp; omega) hpr (by simp) (by simp) (by omega) (by rw [HBS.out]; exact run_str 18 (by simp) s))
        clear hpr
        go_wp2_with fail
        refine HG.out.mono ?_
        rintro e w2 ⟨v2, Fo, rfl, hout, hb2⟩
        obtain ⟨gb, cap, sv0, rfl, hcap, hgl, k0, k1, k2, k3, hsv0⟩ := hout.at (i := 0) rfl
        obtain ⟨gb', cap', sv1, he, hcap', hgl', j0, j1, j2, j3, -⟩ := hout.at (i := 1) rfl
        obtain ⟨rfl, rfl⟩ : gb = gb' ∧ cap = cap' := by simpa using he
        simp only [Nat.zero_mul, Nat.zero_add, Nat.one_mul] at k0 k1 k2 k3 j0 j1 j2 j3
        have hcap2 : 2 ≤ cap := hcap
        have hbr2 : Below wr.heap.size wr w2 := ((Below.refl _ wr).alloc (Nat.le_refl _) _).trans (hb2.mono (by simp))
        have hs2 := HR.out.2.2.2.below hbr2
        have HE := Lib.hid (And.intro hsv0 hs2)
        have HB2 := Lib.hid hbr2
        obtain ⟨q0, d0, rfl⟩ := hsv0.slice
        clear hout he hb2 hgl' hcap hcap' hbr2 hs2 hsv0
        go_wp2_with fail
        refine (bytesEqual _ _ _ s s HE.out.1 HE.out.2).mono ?_
        rintro e w3 ⟨rfl, rfl⟩
        rw [show (s == s) = true by simp]
        go_wp2_with fail
        go_roundw
        case rel => exact ⟨1, by omega, by go_num, HBL.out.trans (HB2.out.mono (by omega))⟩
        case measure => simp [intOf]
      · have hpr := prims_new2 wr ⟨20, 0, 0, []⟩ ⟨1, 0, 0, []⟩ 43 rfl rfl (by decide) (by decide) 2 (Nat.le_refl _)
        have HG := Lib.hid (prGet _ _ _ _ bs _ _ (HR.out.2.1.alloc _) (fun g hg => by have := HV1.out.2.1 g hg; simp; omega) hpr (by simp) (by simp) (by omega) (by rw [HBS.out]; exact run_str 20 (by simp) s))
        clear hpr
        go_wp2_with fail
        refine HG.out.mono ?_
        rintro e w2 ⟨v2, Fo, rfl, hout, hb2⟩
        obtain ⟨gb, cap, sv0, rfl, hcap, hgl, k0, k1, k2, k3, hsv0⟩ := hout.at (i := 0) rfl
        obtain ⟨gb', cap', sv1, he, hcap', hgl', j0, j1, j2, j3, -⟩ := hout.at (i := 1) rfl
        obtain ⟨rfl, rfl⟩ : gb = gb' ∧ cap = cap' := by simpa using he
        simp only [Nat.zero_mul, Nat.zero_add, Nat.one_mul] at k0 k1 k2 k3 j0 j1 j2 j3
        have hcap2 : 2 ≤ cap := hcap
        have hbr2 : Below wr.heap.size wr w2 := ((Below.refl _ wr).alloc (Nat.le_refl _) _).trans (hb2.mono (by simp))
        have hs2 := HR.out.2.2.2.below hbr2
        have HE := Lib.hid (And.intro hsv0 hs2)
        have HB2 := Lib.hid hbr2
        obtain ⟨q0, d0, rfl⟩ := hsv0.slice
        clear hout he hb2 hgl' hcap hcap' hbr2 hs2 hsv0
        go_wp2_with fail
        refine (bytesEqual _ _ _ s s HE.out.1 HE.out.2).mono ?_
        rintro e w3 ⟨rfl, rfl⟩
        rw [show (s == s) = true by simp]
        go_wp2_with fail
        go_roundw
        case rel => exact ⟨2, by omega, by go_num, HBL.out.trans (HB2.out.mono (by omega))⟩
        case measure => simp [intOf]
      · have hpr := prims_new2 wr ⟨21, 0, 0, []⟩ ⟨1, 0, 0, []⟩ 43 rfl rfl (by decide) (by decide) 2 (Nat.le_refl _)
        have HG := Lib.hid (prGet _ _ _ _ bs _ _ (HR.out.2.1.alloc _) (fun g hg => by have := HV1.out.2.1 g hg; simp; omega) hpr (by simp) (by simp) (by omega) (by rw [HBS.out]; exact run_str 21 (by simp) s))
        clear hpr
        go_wp2_with fail
        refine HG.out.mono ?_
        rintro e w2 ⟨v2, Fo, rfl, hout, hb2⟩
        obtain ⟨gb, cap, sv0, rfl, hcap, hgl, k0, k1, k2, k3, hsv0⟩ := hout.at (i := 0) rfl
        obtain ⟨gb', cap', sv1, he, hcap', hgl', j0, j1, j2, j3, -⟩ := hout.at (i := 1) rfl
        obtain ⟨rfl, rfl⟩ : gb = gb' ∧ cap = cap' := by simpa using he
        simp only [Nat.zero_mul, Nat.zero_add, Nat.one_mul] at k0 k1 k2 k3 j0 j1 j2 j3
        have hcap2 : 2 ≤ cap := hcap
        have hbr2 : Below wr.heap.size wr w2 := ((Below.refl _ wr).alloc (Nat.le_refl _) _).trans (hb2.mono (by simp))
        have hs2 := HR.out.2.2.2.below hbr2
        have HE := Lib.hid (And.intro hsv0 hs2)
        have HB2 := Lib.hid hbr2
        obtain ⟨q0, d0, rfl⟩ := hsv0.slice
        clear hout he hb2 hgl' hcap hcap' hbr2 hs2 hsv0
        go_wp2_with fail
        refine (bytesEqual _ _ _ s s HE.out.1 HE.out.2).mono ?_
        rintro e w3 ⟨rfl, rfl⟩
        rw [show (s == s) = true by simp]
        go_wp2_with fail
        go_roundw
        case rel => exact ⟨3, by omega, by go_num, HBL.out.trans (HB2.out.mono (by omega))⟩
        case measure => simp [intOf]
    · obtain ⟨A, hA⟩ : ∃ A, A = ahead ++ s := ⟨_, rfl⟩
      have HAA := Lib.hid hA
      clear hA
      have har := HS.out.2.2.1.below HR.out.2.2.1
      have hpr := prims_new wr ⟨22, 0, 0, ahead⟩ _ 43 har (fun g hg => by have := HS.out.2.2.2 g hg; have := HR.out.2.2.1.size; omega) (by simp) (by simp) (by simp; omega) 1 (Nat.le_refl _)
      have HG := Lib.hid (prGet _ _ _ _ bs _ _ (HR.out.2.1.alloc _) (fun g hg => by have := HV1.out.2.1 g hg; simp; omega) hpr (by simp) (by simp) (by omega) (by rw [HBS.out]; exact run_app s ahead (by omega)))
      rw [← HAA.out] at HG
      clear hpr har o0 o1 o2
      go_wp2_with fail
      refine HG.out.mono ?_
      rintro e w2 ⟨v2, Fo, rfl, hout, hb2⟩
      obtain ⟨gb, cap, sv0, rfl, hcap, hgl, k0, k1, k2, k3, hsv0⟩ := hout.at (i := 0) rfl
      simp only [Nat.zero_mul, Nat.zero_add] at k0 k1 k2 k3
      have hcap1 : 1 ≤ cap := hcap
      have hbr2 : Below wr.heap.size wr w2 := ((Below.refl _ wr).alloc (Nat.le_refl _) _).trans (hb2.mono (by simp))
      have hv2 := HR.out.2.1.below hbr2
      have H2 := Lib.hid (And.intro hbr2 (And.intro hsv0 (And.intro hgl (And.intro k2 k3))))
      have hpr2 := prims_new2 w2 ⟨17, 0, 0, []⟩ ⟨19, s.length, 0, []⟩ 43 rfl rfl (by simp; omega) (by simp) 2 (Nat.le_refl _)
      have HG2 := Lib.hid (prGet _ _ _ _ bs _ _ (hv2.alloc _) (fun g hg => by have := HV1.out.2.1 g hg; have := hbr2.size; simp; omega) hpr2 (by simp) (by simp) (by omega) (by rw [HBS.out]; exact run_long s hsl))
      clear hpr2 hout hb2 hcap hbr2 hv2 hsv0 HG k0 k1 k2 k3 hgl
      go_wp2_with fail
      refine HG2.out.mono ?_
      rintro e w3 ⟨v3, Fo3, rfl, hout, hb3⟩
      obtain ⟨gd, cap3, sv3, rfl, hcap3, hgl3, l0, l1, l2, l3, -⟩ := hout.at (i := 0) rfl
      obtain ⟨gd', cap3', sv4, he, hcap3', hgl3', m0, m1, m2, m3, hsv4⟩ := hout.at (i := 1) rfl
      obtain ⟨rfl, rfl⟩ : gd = gd' ∧ cap3 = cap3' := by simpa using he
      simp only [Nat.zero_mul, Nat.zero_add, Nat.one_mul] at l0 l1 l2 l3 m0 m1 m2 m3
      have hcap32 : 2 ≤ cap3 := hcap3
      have hbr3 : Below w2.heap.size w2 w3 := ((Below.refl _ w2).alloc (Nat.le_refl _) _).trans (hb3.mono (by simp))
      have hb13 : Below wr.heap.size wr w3 := H2.out.1.trans (hbr3.mono H2.out.1.size)
      have hs3 := HR.out.2.2.2.below hb13
      have ha3 := (HS.out.2.2.1.below HR.out.2.2.1).below hb13
      have hB3 : Below w.heap.size w w3 := HR.out.2.2.1.trans (hb13.mono HR.out.2.2.1.size)
      have n2 : w3.cell? ⟨gb, 2, none⟩ = some sv0 := by rw [hbr3.cell H2.out.2.2.1]; exact H2.out.2.2.2.1
      have n3 : w3.cell? ⟨gb, 3, none⟩ = some (.bool false) := by rw [hbr3.cell H2.out.2.2.1]; exact H2.out.2.2.2.2
      have h03 := H2.out.2.1.below hbr3
      have HE := Lib.hid (And.intro hsv4 (And.intro hs3 (And.intro ha3 (And.intro hB3 h03))))
      obtain ⟨q4, d4, rfl⟩ := hsv4.slice
      obtain ⟨q0, d0, rfl⟩ := h03.slice
      clear hout he hb3 hgl3' hcap3 hcap3' hbr3 hb13 hs3 ha3 hB3 h03 hsv4 HG2
      go_wp2_with fail
      refine (bytesEqual _ _ _ s s HE.out.1 HE.out.2.1).mono ?_
      rintro e w4 ⟨rfl, rfl⟩
      rw [show (s == s) = true by simp]
      have HBD := Lib.hid (below_d' w3)
      go_wp2_with fail
      go_region_held3 (fun w' => w'.cell? ⟨gb, 2, none⟩ = some (.slice q0 A.length d0)) (first | go_keep | assumption) (first
        | (go_at_call 16; refine (cloneBytes _ _ ahead (by exact HE.out.2.2.1) (by omega)).mono ?_; intro e w5 hm; obtain ⟨p5, c5, rfl, s5, hb5⟩ := hm.since (Below.refl _ _); clear hm; have hb35 : Below w3.heap.size w3 w5 := (below_d' w3).trans hb5; have n5 : w5.cell? ⟨gb, 2, none⟩ = some (.slice q0 A.length d0) := (by rw [hb5.cell (by have := World.block_lt_of_cell? _ _ n2; exact this)]; exact n2))
        | (refine step_append_since _ _ ahead s (by rfl) _ _ _ (by rfl) _ (by rfl) s5 _ (by rfl) (by exact (HE.out.2.1.below hb35).srcB) (by omega) ?_; intro p6 c6 w6 s6; have n6 : w6.cell? ⟨gb, 2, none⟩ = some (.slice q0 A.length d0) := (by rw [s6.below.cell (by have := World.block_lt_of_cell? _ _ n2; exact this)]; exact n2); have q6 : Below w3.heap.size w3 w6 := (below_d' w3).trans s6.below; have hv6 : BytesAt w6 (.slice p6 (ahead.length + s.length) c6) A := (by rw [HAA.out]; exact s6.bytes); have h06 : BytesAt w6 (.slice q0 A.length d0) A := HE.out.2.2.2.2.below q6)
        | (go_at_call 13; refine (bytesEqual _ _ _ A A h06 hv6).mono ?_; rintro e w8 ⟨rfl, rfl⟩; rw [show (A == A) = true by simp])
        | fail)
      all_goals
        go_wp2_with fail
        go_ret
        exact ⟨rfl, HE.out.2.2.2.1.trans (q6.mono HE.out.2.2.2.1.size)⟩

theorem strs (w : World) (sv av : Value) (s ahead : List UInt8) (hs : BytesAt w sv s) (hsD : ∀ g, sv.ownBlock = some g → g < w.heap.size) (ha : BytesAt w av ahead) (haD : ∀ g, av.ownBlock = some g → g < w.heap.size) (h1 : s.length ≤ 9223372036854775807) (h2 : ahead.length ≤ 9223372036854775807) :
    Calls Try.prog 5 #[sv, av] w fun e w' => e = .returned (.bool true) ∧ Below w.heap.size w w' := by
  by_cases h : s.length ≤ 300 ∧ ahead.length ≤ 100
  · exact strs_yes w sv av s ahead hs hsD ha haD h.1 h.2
  · obtain ⟨p, c, rfl⟩ := hs.slice
    obtain ⟨q, d, rfl⟩ := ha.slice
    exact strs_no w p q _ _ c d h1 h2 h
end Go.Proofs.Ytlohpmncagfecaa
