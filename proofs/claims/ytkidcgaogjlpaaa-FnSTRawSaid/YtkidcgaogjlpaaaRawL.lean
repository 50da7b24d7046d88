/- laws.FnSTRaw. -/
import Derived.Test.YtkidcgaogjlpaaaRaw
import Derived.Test.YtkidcgaogjlpaaaSJoin
namespace Go.Proofs.Ytkidcgaogjlpaaa
open Go.RowKit
set_option linter.unusedVariables false
set_option linter.unnecessarySimpa false
set_option linter.unusedSimpArgs false

theorem BytesAt.takes {w : World} {p : Option Addr} {c : Nat} {l : List UInt8} (h : BytesAt w (.slice p l.length c) l) (n : Nat) (hn : n ≤ l.length) (h0 : 0 < n) : BytesAt w (.slice p n c) (l.take n) := by
  rcases h with ⟨h1, rfl⟩ | ⟨b, off, cap, h1, hl, hc⟩
  · simp at hn; omega
  · obtain ⟨rfl, -, rfl⟩ : p = some ⟨b, off, none⟩ ∧ l.length = l.length ∧ c = cap := by simpa using h1
    have e : (l.take n).length = n := by simp; omega
    refine .inr ⟨b, off, c, by rw [e], by omega, fun j hj => ?_⟩
    rw [e] at hj
    rw [hc j (by omega)]
    simp

theorem made_zeros (n : Nat) : (madeCells (Value.int .u8 0).cells (n * 1)).toList = u8s (List.replicate n 0) := by
  apply List.ext_getElem
  · simp [madeCells]
  · intro i h1 h2
    simp [madeCells, u8s, Value.cells, Nat.mod_one]

theorem owns_new {w w1 : World} {n : Nat} (h : w1.ownsRow 0 5 1 (.slice (some ⟨w.heap.size, 0, none⟩) n n) n (madeCells (Value.int .u8 0).cells (n * 1)).toList) : BytesAt w1 (.slice (some ⟨w.heap.size, 0, none⟩) n n) (List.replicate n 0) := by
  rw [made_zeros] at h
  exact OwnB.bytes (F := fun _ => True) ⟨by simpa using h, fun _ _ => trivial⟩

theorem srcs_two {w : World} {v1 v2 : Value} {a b : List UInt8} (h1 : BytesAt w v1 a) (h2 : BytesAt w v2 b) (T : TypeId) : SrcsAt (w.alloc (.cells #[v1, v2] T)) w.heap.size [a, b] := by
  have hb : Below w.heap.size w (w.alloc (.cells #[v1, v2] T)) := (Below.refl _ w).alloc (Nat.le_refl _) _
  have hh := heap_alloc_new w (.cells #[v1, v2] T)
  intro k bs hk
  match k, hk with
  | 0, hk => obtain rfl : a = bs := by simpa using hk
             exact ⟨v1, by unfold World.cell?; simp only [hh]; rfl, h1.below hb⟩
  | 1, hk => obtain rfl : b = bs := by simpa using hk
             exact ⟨v2, by unfold World.cell?; simp only [hh]; rfl, h2.below hb⟩

set_option maxRecDepth 100000 in
theorem lawRaw (w : World) (s m : Nat) (hs : s < 256) (hm : m < 256) (v : Value) (l : List UInt8) (hv : BytesAt w v l) (hg : ∀ g, v.ownBlock = some g → g < w.heap.size) (hl : l.length ≤ 9223372036854775807) :
    Calls Try.prog 3 #[.int .u8 s, v, .int .u8 m] w fun e w' => e = .returned (.bool true) ∧ Below w.heap.size w w' := by
  obtain ⟨p, c, rfl⟩ := hv.slice
  have hcap : l.length ≤ c := by
    rcases hv with ⟨h1, rfl⟩ | ⟨b, off, cap, h1, hl, hc⟩
    · simp
    · obtain ⟨-, -, rfl⟩ : p = some ⟨b, off, none⟩ ∧ l.length = l.length ∧ c = cap := by simpa using h1
      exact hl
  by_cases hbig : 2147483647 < l.length
  · clear hv hg
    go_enter Try.func3, Try.ntmps3
    go_wp2
    go_ret
    exact ⟨rfl, Below.refl _ _⟩
  obtain ⟨n, hn⟩ : ∃ n : Nat, n = 1 + s % 40 := ⟨_, rfl⟩
  obtain ⟨rows, hrows⟩ : ∃ n : Nat, n = 1 + m % 60 := ⟨_, rfl⟩
  have en : 1 + (s : Int) % 40 = (n : Int) := by omega
  have er : 1 + (m : Int) % 60 = (rows : Int) := by omega
  have bn : 1 ≤ n ∧ n ≤ 40 := by omega
  have br : 1 ≤ rows ∧ rows ≤ 60 := by omega
  clear hn hrows
  obtain ⟨i0, hi, hz0, hz1, hz2⟩ := info_parts infoU8
  by_cases h400 : 400 < l.length
  · have HV := Lib.hid (hv.takes 400 (by omega) (by omega))
    have hcapI : (400 : Int) ≤ (c : Int) := by omega
    clear hv hg
    go_enter Try.func3, Try.ntmps3
    go_wp2_with (at_make; refine wpList_make_full _ rfl _ _ _ rfl 0 5 i0 (.int .u8 0) 1 Try.underlying22 hi hz0 hz1 .i64 .i64 n n n rfl rfl rfl rfl (by rw [hz2]; omega) (by unfold maxLen; omega) (Nat.zero_le _) ?_; intro w1 hown hgr; have hb1 : Below w.heap.size w w1 := ⟨hgr.os, hgr.tape, hgr.output, hgr.size, fun k hk => hgr.block k hk (by simp)⟩; have hz := owns_new hown; have hS := srcs_two hz (HV.out.below hb1) 22; clear hown hgr)
    refine (stJoin _ w1.heap.size 2 [List.replicate n 0, l.take 400] hS (by simp) (by simp; omega)).mono ?_
    rintro e w2 ⟨p2, c2, F2, rfl, hown2, hnew2, hb2⟩
    have hbs0 : [List.replicate n 0, l.take 400].flatten = List.replicate n 0 ++ l.take 400 := by simp
    rw [hbs0] at hown2 ⊢
    obtain ⟨bs, hbs⟩ : ∃ bs, bs = List.replicate n 0 ++ l.take 400 := ⟨_, rfl⟩
    rw [← hbs] at hown2 ⊢
    have hbl : bs.length ≤ 440 ∧ n ≤ bs.length := by rw [hbs]; simp; omega
    have hv2 := hown2.bytes
    have hg2 : ∀ g, (Value.slice p2 bs.length c2).ownBlock = some g → g < w2.heap.size := fun g hg => (hnew2 g (hown2.2 g hg)).2
    have hB2 : Below w.heap.size w w2 := (hb1.trans (((Below.refl _ w1).alloc (Nat.le_refl _) (.cells #[.slice (some ⟨w.heap.size, 0, none⟩) n n, .slice p 400 c] 22)).mono hb1.size)).trans (hb2.mono (by have := hb1.size; simp; omega))
    have hcap2 : bs.length ≤ c2 := by
      rcases hv2 with ⟨h1, rfl⟩ | ⟨b, off, cap, h1, hl, hc⟩
      · simp
      · obtain ⟨-, -, rfl⟩ : p2 = some ⟨b, off, none⟩ ∧ bs.length = bs.length ∧ c2 = cap := by simpa using h1
        exact hl
    clear hown2 hnew2 hb2 hS hz hb1 hbs hbs0
    obtain ⟨nr, hnr⟩ : ∃ nr, nr = n * rows := ⟨_, rfl⟩
    have hnr1 : nr ≤ 2400 := by rw [hnr]; exact Nat.le_trans (Nat.mul_le_mul bn.2 br.2) (by decide)
    have hnr0 : 0 < nr := by rw [hnr]; exact Nat.mul_pos bn.1 br.1
    have hnrI : (rows : Int) * (n : Int) = (nr : Int) := by rw [hnr, Int.mul_comm]; simp
    have hwr : IntKind.i64.wrap ((rows : Int) * (n : Int)) = (nr : Int) := by rw [hnrI, IntKind.wrap_i64]; omega
    by_cases hfit : nr ≤ bs.length
    · have hfitI : (nr : Int) ≤ (bs.length : Int) := by omega
      have HV2 := Lib.hid hv2
      have HB2 := Lib.hid hB2
      have HG2 := Lib.hid hg2
      have HR1 := Lib.hid (stRaw_ok w2 _ bs n rows nr hv2 hg2 (by omega) hnr hnr0 hfit (by omega))
      clear hv2 hB2 hg2 hnr
      go_wp2_with fail
      refine HR1.out.mono ?_
      rintro e w3 ⟨v3, rfl, hv3, hb3⟩
      have HR2 := Lib.hid (stRaw_ok w3 _ bs n 1 n (HV2.out.below hb3) (fun g hg => Nat.lt_of_lt_of_le (HG2.out g hg) hb3.size) (by omega) (by omega) (by omega) hbl.2 (by omega))
      have HV3 := Lib.hid hv3
      have HB3 := Lib.hid hb3
      clear hv3 hb3 HR1
      go_wp2_with fail
      refine HR2.out.mono ?_
      rintro e w4 ⟨v4, rfl, hv4, hb4⟩
      have hb24 : Below w2.heap.size w2 w4 := HB3.out.trans (hb4.mono HB3.out.size)
      have d4 : ∀ m, Below w4.heap.size w4 (w4.drewN m) := fun m => ⟨rfl, rfl, rfl, Nat.le_refl _, fun _ _ => rfl⟩
      have t1 := ((HV2.out.takes n hbl.2 (by omega)).below hb24)
      have t2 := ((HV2.out.takes nr hfit hnr0).below hb24)
      have t3 := HV3.out.below hb4
      have cv1 := fun m => run_convert_at (hv4.below (d4 m))
      have cv2 := fun m => run_convert_at (t1.below (d4 m))
      have cv3 := fun m => run_convert_at (t3.below (d4 m))
      have cv4 := fun m => run_convert_at (t2.below (d4 m))
      obtain ⟨lf, hlf⟩ : ∃ lf, lf = bs.length - nr := ⟨_, rfl⟩
      rw [← hlf]
      have hsub : IntKind.i64.wrap ((bs.length : Int) - (nr : Int)) = (lf : Int) := by rw [IntKind.wrap_i64]; omega
      have hsub2 : (bs.length : Int) - (nr : Int) = (lf : Int) := by omega
      have bnr : (nr : Int) ≤ (c2 : Int) := by omega
      have bn2 : (n : Int) ≤ (c2 : Int) := by omega
      have HE := Lib.hid (HB2.out.trans (hb24.mono HB2.out.size))
      obtain ⟨q3, d3, rfl⟩ : ∃ q d, v3 = .slice q nr d := by
        obtain ⟨q, d, h⟩ := t3.slice
        rw [show (bs.take nr).length = nr by simp; omega] at h
        exact ⟨q, d, h⟩
      obtain ⟨q4, e4, rfl⟩ : ∃ q d, v4 = .slice q n d := by
        obtain ⟨q, d, h⟩ := hv4.slice
        rw [show (bs.take n).length = n by simp; omega] at h
        exact ⟨q, d, h⟩
      clear hv4 hb4 HR2 t1 t2 t3 d4 hb24 hlf en er
      go_wp2_with fail
      go_quiet (fail)
      go_wp2_with fail
      go_quiet (fail)
      go_wp2_with fail
      go_ret
      exact ⟨rfl, HE.out.trans ⟨rfl, rfl, rfl, by have := HE.out.size; simpa using this, fun _ _ => rfl⟩⟩
    · have hlt : bs.length < n * rows := by omega
      have hltI : (bs.length : Int) < (nr : Int) := by omega
      have HR1 := Lib.hid (stRaw_bad w2 _ bs n rows hv2 hg2 (by omega) hlt)
      have HV2 := Lib.hid hv2
      have HB2 := Lib.hid hB2
      have HG2 := Lib.hid hg2
      clear hv2 hB2 hg2 hnr hlt
      go_wp2_with fail
      refine HR1.out.mono ?_
      rintro e w3 ⟨rfl, hb3⟩
      have HR2 := Lib.hid (stRaw_ok w3 _ bs n 1 n (HV2.out.below hb3) (fun g hg => Nat.lt_of_lt_of_le (HG2.out g hg) hb3.size) (by omega) (by omega) (by omega) hbl.2 (by omega))
      have HB3 := Lib.hid hb3
      clear hb3 HR1
      go_wp2_with fail
      refine HR2.out.mono ?_
      rintro e w4 ⟨v4, rfl, hv4, hb4⟩
      have hb24 : Below w2.heap.size w2 w4 := HB3.out.trans (hb4.mono HB3.out.size)
      have d4 : ∀ m, Below w4.heap.size w4 (w4.drewN m) := fun m => ⟨rfl, rfl, rfl, Nat.le_refl _, fun _ _ => rfl⟩
      have t1 := ((HV2.out.takes n hbl.2 (by omega)).below hb24)
      have cv1 := fun m => run_convert_at (hv4.below (d4 m))
      have cv2 := fun m => run_convert_at (t1.below (d4 m))
      have bn2 : (n : Int) ≤ (c2 : Int) := by omega
      have HE := Lib.hid (HB2.out.trans (hb24.mono HB2.out.size))
      obtain ⟨q4, e4, rfl⟩ : ∃ q d, v4 = .slice q n d := by
        obtain ⟨q, d, h⟩ := hv4.slice
        rw [show (bs.take n).length = n by simp; omega] at h
        exact ⟨q, d, h⟩
      clear hv4 hb4 HR2 t1 d4 hb24 en er
      go_wp2_with fail
      go_quiet (fail)
      go_wp2_with fail
      go_quiet (fail)
      go_wp2_with fail
      go_ret
      exact ⟨rfl, HE.out.trans ⟨rfl, rfl, rfl, by have := HE.out.size; simpa using this, fun _ _ => rfl⟩⟩
  · have HV := Lib.hid hv
    clear hv hg
    go_enter Try.func3, Try.ntmps3
    go_wp2_with (at_make; refine wpList_make_full _ rfl _ _ _ rfl 0 5 i0 (.int .u8 0) 1 Try.underlying22 hi hz0 hz1 .i64 .i64 n n n rfl rfl rfl rfl (by rw [hz2]; omega) (by unfold maxLen; omega) (Nat.zero_le _) ?_; intro w1 hown hgr; have hb1 : Below w.heap.size w w1 := ⟨hgr.os, hgr.tape, hgr.output, hgr.size, fun k hk => hgr.block k hk (by simp)⟩; have hz := owns_new hown; have hS := srcs_two hz (HV.out.below hb1) 22; clear hown hgr)
    refine (stJoin _ w1.heap.size 2 [List.replicate n 0, l] hS (by simp) (by simp; omega)).mono ?_
    rintro e w2 ⟨p2, c2, F2, rfl, hown2, hnew2, hb2⟩
    have hbs0 : [List.replicate n 0, l].flatten = List.replicate n 0 ++ l := by simp
    rw [hbs0] at hown2 ⊢
    obtain ⟨bs, hbs⟩ : ∃ bs, bs = List.replicate n 0 ++ l := ⟨_, rfl⟩
    rw [← hbs] at hown2 ⊢
    have hbl : bs.length ≤ 440 ∧ n ≤ bs.length := by rw [hbs]; simp; omega
    have hv2 := hown2.bytes
    have hg2 : ∀ g, (Value.slice p2 bs.length c2).ownBlock = some g → g < w2.heap.size := fun g hg => (hnew2 g (hown2.2 g hg)).2
    have hB2 : Below w.heap.size w w2 := (hb1.trans (((Below.refl _ w1).alloc (Nat.le_refl _) (.cells #[.slice (some ⟨w.heap.size, 0, none⟩) n n, .slice p l.length c] 22)).mono hb1.size)).trans (hb2.mono (by have := hb1.size; simp; omega))
    have hcap2 : bs.length ≤ c2 := by
      rcases hv2 with ⟨h1, rfl⟩ | ⟨b, off, cap, h1, hl, hc⟩
      · simp
      · obtain ⟨-, -, rfl⟩ : p2 = some ⟨b, off, none⟩ ∧ bs.length = bs.length ∧ c2 = cap := by simpa using h1
        exact hl
    clear hown2 hnew2 hb2 hS hz hb1 hbs hbs0
    obtain ⟨nr, hnr⟩ : ∃ nr, nr = n * rows := ⟨_, rfl⟩
    have hnr1 : nr ≤ 2400 := by rw [hnr]; exact Nat.le_trans (Nat.mul_le_mul bn.2 br.2) (by decide)
    have hnr0 : 0 < nr := by rw [hnr]; exact Nat.mul_pos bn.1 br.1
    have hnrI : (rows : Int) * (n : Int) = (nr : Int) := by rw [hnr, Int.mul_comm]; simp
    have hwr : IntKind.i64.wrap ((rows : Int) * (n : Int)) = (nr : Int) := by rw [hnrI, IntKind.wrap_i64]; omega
    by_cases hfit : nr ≤ bs.length
    · have hfitI : (nr : Int) ≤ (bs.length : Int) := by omega
      have HV2 := Lib.hid hv2
      have HB2 := Lib.hid hB2
      have HG2 := Lib.hid hg2
      have HR1 := Lib.hid (stRaw_ok w2 _ bs n rows nr hv2 hg2 (by omega) hnr hnr0 hfit (by omega))
      clear hv2 hB2 hg2 hnr
      go_wp2_with fail
      refine HR1.out.mono ?_
      rintro e w3 ⟨v3, rfl, hv3, hb3⟩
      have HR2 := Lib.hid (stRaw_ok w3 _ bs n 1 n (HV2.out.below hb3) (fun g hg => Nat.lt_of_lt_of_le (HG2.out g hg) hb3.size) (by omega) (by omega) (by omega) hbl.2 (by omega))
      have HV3 := Lib.hid hv3
      have HB3 := Lib.hid hb3
      clear hv3 hb3 HR1
      go_wp2_with fail
      refine HR2.out.mono ?_
      rintro e w4 ⟨v4, rfl, hv4, hb4⟩
      have hb24 : Below w2.heap.size w2 w4 := HB3.out.trans (hb4.mono HB3.out.size)
      have d4 : ∀ m, Below w4.heap.size w4 (w4.drewN m) := fun m => ⟨rfl, rfl, rfl, Nat.le_refl _, fun _ _ => rfl⟩
      have t1 := ((HV2.out.takes n hbl.2 (by omega)).below hb24)
      have t2 := ((HV2.out.takes nr hfit hnr0).below hb24)
      have t3 := HV3.out.below hb4
      have cv1 := fun m => run_convert_at (hv4.below (d4 m))
      have cv2 := fun m => run_convert_at (t1.below (d4 m))
      have cv3 := fun m => run_convert_at (t3.below (d4 m))
      have cv4 := fun m => run_convert_at (t2.below (d4 m))
      obtain ⟨lf, hlf⟩ : ∃ lf, lf = bs.length - nr := ⟨_, rfl⟩
      rw [← hlf]
      have hsub : IntKind.i64.wrap ((bs.length : Int) - (nr : Int)) = (lf : Int) := by rw [IntKind.wrap_i64]; omega
      have hsub2 : (bs.length : Int) - (nr : Int) = (lf : Int) := by omega
      have bnr : (nr : Int) ≤ (c2 : Int) := by omega
      have bn2 : (n : Int) ≤ (c2 : Int) := by omega
      have HE := Lib.hid (HB2.out.trans (hb24.mono HB2.out.size))
      obtain ⟨q3, d3, rfl⟩ : ∃ q d, v3 = .slice q nr d := by
        obtain ⟨q, d, h⟩ := t3.slice
        rw [show (bs.take nr).length = nr by simp; omega] at h
        exact ⟨q, d, h⟩
      obtain ⟨q4, e4, rfl⟩ : ∃ q d, v4 = .slice q n d := by
        obtain ⟨q, d, h⟩ := hv4.slice
        rw [show (bs.take n).length = n by simp; omega] at h
        exact ⟨q, d, h⟩
      clear hv4 hb4 HR2 t1 t2 t3 d4 hb24 hlf en er
      go_wp2_with fail
      go_quiet (fail)
      go_wp2_with fail
      go_quiet (fail)
      go_wp2_with fail
      go_ret
      exact ⟨rfl, HE.out.trans ⟨rfl, rfl, rfl, by have := HE.out.size; simpa using this, fun _ _ => rfl⟩⟩
    · have hlt : bs.length < n * rows := by omega
      have hltI : (bs.length : Int) < (nr : Int) := by omega
      have HR1 := Lib.hid (stRaw_bad w2 _ bs n rows hv2 hg2 (by omega) hlt)
      have HV2 := Lib.hid hv2
      have HB2 := Lib.hid hB2
      have HG2 := Lib.hid hg2
      clear hv2 hB2 hg2 hnr hlt
      go_wp2_with fail
      refine HR1.out.mono ?_
      rintro e w3 ⟨rfl, hb3⟩
      have HR2 := Lib.hid (stRaw_ok w3 _ bs n 1 n (HV2.out.below hb3) (fun g hg => Nat.lt_of_lt_of_le (HG2.out g hg) hb3.size) (by omega) (by omega) (by omega) hbl.2 (by omega))
      have HB3 := Lib.hid hb3
      clear hb3 HR1
      go_wp2_with fail
      refine HR2.out.mono ?_
      rintro e w4 ⟨v4, rfl, hv4, hb4⟩
      have hb24 : Below w2.heap.size w2 w4 := HB3.out.trans (hb4.mono HB3.out.size)
      have d4 : ∀ m, Below w4.heap.size w4 (w4.drewN m) := fun m => ⟨rfl, rfl, rfl, Nat.le_refl _, fun _ _ => rfl⟩
      have t1 := ((HV2.out.takes n hbl.2 (by omega)).below hb24)
      have cv1 := fun m => run_convert_at (hv4.below (d4 m))
      have cv2 := fun m => run_convert_at (t1.below (d4 m))
      have bn2 : (n : Int) ≤ (c2 : Int) := by omega
      have HE := Lib.hid (HB2.out.trans (hb24.mono HB2.out.size))
      obtain ⟨q4, e4, rfl⟩ : ∃ q d, v4 = .slice q n d := by
        obtain ⟨q, d, h⟩ := hv4.slice
        rw [show (bs.take n).length = n by simp; omega] at h
        exact ⟨q, d, h⟩
      clear hv4 hb4 HR2 t1 d4 hb24 en er
      go_wp2_with fail
      go_quiet (fail)
      go_wp2_with fail
      go_quiet (fail)
      go_wp2_with fail
      go_ret
      exact ⟨rfl, HE.out.trans ⟨rfl, rfl, rfl, by have := HE.out.size; simpa using this, fun _ _ => rfl⟩⟩

end Go.Proofs.Ytkidcgaogjlpaaa
