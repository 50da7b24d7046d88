/- impl.decodes[[]string], impl.ARReadStr. -/
import Derived.Test.YtemmhlibbihjmaaGreatArrD
import Derived.Test.YtemmhlibbihjmaaGreatGot
namespace Go.Proofs.YtemmhlibbihjmaaGreat
open Go.RowKit
set_option linter.unusedVariables false
set_option linter.unusedSimpArgs false

theorem mArrDec : MRow 66 "DecodeColumn" [] (some (75, true)) := mRow_of (by kernel_rfl)
theorem mArrRows : MRow 66 "Rows" [] (some (78, false)) := mRow_of (by kernel_rfl)
theorem mArrRow : MRow 66 "Row" [] (some (77, false)) := mRow_of (by kernel_rfl)
theorem oArr : Own 75 ∧ Own 78 ∧ Own 77 := ⟨fun _ _ => by kernel_rfl, fun _ _ => by kernel_rfl, fun _ _ => by kernel_rfl⟩

/-- The bytes of lists of strings, what is behind them. -/
def RestA (ok : Bool) (ll : List (List ByteArray)) (tail rest : List UInt8) : Prop :=
  (ok = true ∧ rest = (offsOf ll).flatMap le8 ++ (encS (bytesOf ll.flatten) ++ tail)) ∨ (ok = false ∧ Short rest ((offsOf ll).flatMap le8 ++ encS (bytesOf ll.flatten)))

def DecodedL (w : World) (F : Nat → Prop) (ok : Bool) (ll : List (List ByteArray)) (tail : List UInt8) (e : Ending) (w' : World) : Prop :=
  (ok = true → ∃ x, e = .returned (.tuple #[x, .int .i64 tail.length, .bool true]) ∧ LstL w' x ll ∧ Chg F w w') ∧
  (ok = false → e = .returned (.tuple #[.slice none 0 0, .int .i64 0, .bool false]) ∧ Chg F w w')

/-- .. in blocks that are not elder than B. -/
def LowP {α : Type} (P : World → Value → α → Prop) (B : Nat) (w : World) (x : Value) (a : α) : Prop := P w x a ∧ ∀ g, x.ownBlock = some g → B ≤ g
theorem lowP_stable {α : Type} {P : World → Value → α → Prop} (hP : Stable P) (B : Nat) : Stable (LowP P B) := fun w w' G x a h hc hG => ⟨hP w w' G x a h.1 hc hG, h.2⟩
/-- A cell of an elder block is set. -/
theorem AccL.setLow {α : Type} {P : World → Value → α → Prop} (hP : Stable P) {w2 wr : World} {F : Nat → Prop} {E : TypeId} {v y : Value} {l : List α} {p : Addr} (h : AccL (LowP P w2.heap.size) w2 F E v l wr) (hp : p.block < w2.heap.size) : EachAt P (wr.setCell p y) v l := by
  have hlow := h.inn.2
  obtain ⟨xs, a, b, c⟩ := h
  have hc : Chg (fun k => k = p.block) wr (wr.setCell p y) := (Chg.refl (fun k => k = p.block) wr).setCell (.inl rfl) y
  exact ⟨xs, a, b.own.flat.chg hc fun g hg e => by have := hlow g (b.own.2 g hg); omega, fun i x l hx hl => hP _ _ _ _ _ (c i x l hx hl).1.1 hc fun g hg e => by have := (c i x l hx hl).1.2 g hg; omega⟩

set_option maxRecDepth 100000 in
set_option maxHeartbeats 1000000 in
theorem decodesA (w : World) (q d : Nat) (Fq Fd : Nat → Prop) (ll : List (List ByteArray)) (dv : Value) (bs tail : List UInt8) (ok : Bool) (hX : ArrX w Fq Fd q d [] []) (hd : BytesAt w dv bs) (hD : ∀ g, dv.ownBlock = some g → g < w.heap.size ∧ ¬ Fq g ∧ ¬ Fd g)
    (hrest : RestA ok ll tail bs) (hbig : bs.length ≤ 1000000000) (hl : ll.length ≤ 100000) (hf : ll.flatten.length ≤ 100000000) (hE : (encS (bytesOf ll.flatten)).length ≤ 1000000000) :
    Calls Tryz.prog 27 #[.iface 66 (.pointer (some ⟨q, 0, none⟩)), dv, .int .i64 ll.length] w (DecodedL w (fun k => Fq k ∨ Fd k) ok ll tail) := by
  obtain ⟨W0, hW0⟩ : ∃ W0, W0 = w.alloc (.cells #[.bool false] 4) := ⟨_, rfl⟩
  have hb0 : Below w.heap.size w W0 := by rw [hW0]; exact (Below.refl _ w).alloc (Nat.le_refl _) _
  have hs0 : W0.heap.size = w.heap.size + 1 := by rw [hW0]; simp
  have ht0 : W0.cell? ⟨w.heap.size, 0, none⟩ = some (.bool false) ∧ W0.frozen? ⟨w.heap.size, 0, none⟩ = false := by rw [hW0]; constructor <;> go_simp
  obtain ⟨pd, cd, rfl⟩ := hd.slice
  have HN := Lib.hid (newReader W0 _ bs (hd.below hb0) fun g hg => by have := hD g hg; omega)
  have HX := Lib.hid (And.intro hX (And.intro hD (And.intro hrest hE)))
  have HW := Lib.hid (And.intro hb0 (And.intro hs0 ht0))
  have hmd := fun W => meth_ptr 292 mArrDec Tryz.underlying66 (.pointer (some ⟨q, 0, none⟩)) W
  have hod := fun a b W => oArr.1 #[.pointer (some ⟨q, 0, none⟩), a, b] W
  rw [hW0] at HN
  have HWW := Lib.hid hW0
  clear hX hd hD hrest hE hb0 hs0 ht0 hW0
  go_enter_defers Tryz.func27, Tryz.ntmps27
  go_wp2_with fail
  refine HN.out.mono ?_
  rintro e w1 ⟨rfl, hb1, hs1, hr1⟩
  rw [← HWW.out] at hb1 hs1 hr1 ⊢
  clear HN HWW
  obtain ⟨hb0, hs0, ht0⟩ := HW.out
  obtain ⟨hX, hD, hrest, hE⟩ := HX.out
  have hbw1 : Below w.heap.size w w1 := hb0.trans (hb1.mono hb0.size)
  have hX1 := hX.keep hbw1
  have HDEC := Lib.hid (arrDecode w1 _ _ Fq Fd (W0.heap.size + 1) q d ll tail bs [] ok hr1 hX1 (fun k hk => ⟨fun e => by have := hX.inq k hk; rcases e with e | e <;> omega, fun e => (hD k e).2.1 hk⟩) (fun k hk => ⟨fun e => by have := hX.ind k hk; rcases e with e | e <;> omega, fun e => (hD k e).2.2 hk⟩) hrest hbig hl hf hE)
  have k1 : w1.cell? ⟨w.heap.size, 0, none⟩ = some (.bool false) := by rw [hb1.cell (p := ⟨w.heap.size, 0, none⟩) (show w.heap.size < W0.heap.size by omega)]; exact ht0.1
  have k2 : w1.frozen? ⟨w.heap.size, 0, none⟩ = false := by rw [hb1.frozen (p := ⟨w.heap.size, 0, none⟩) (show w.heap.size < W0.heap.size by omega)]; exact ht0.2
  have hlt1 : w.heap.size < w1.heap.size := by omega
  have hnk : ¬ ((w.heap.size = W0.heap.size ∨ w.heap.size = W0.heap.size + 1) ∨ Fq w.heap.size ∨ Fd w.heap.size) := fun h => by
    rcases h with (h | h) | h | h
    · omega
    · omega
    · have := hX.inq _ h; omega
    · have := hX.ind _ h; omega
  have hch1 : Chg (fun k => Fq k ∨ Fd k) w w1 := Chg.of_below hbw1
  have hgo : ∀ k, k < w.heap.size → (k = W0.heap.size ∨ k = W0.heap.size + 1) ∨ Fq k ∨ Fd k → Fq k ∨ Fd k := fun k hk h => by
    rcases h with (h | h) | h
    · omega
    · omega
    · exact h
  have HC := Lib.hid (And.intro hch1 (And.intro hnk (And.intro hgo hlt1)))
  clear hb0 hs0 ht0 hX hD hrest hE hbw1 hX1 hr1 hb1 hs1 hnk hch1 hgo hlt1
  cases ok
  · go_wp2_with fail
    refine HDEC.out.mono ?_
    rintro e w3 ⟨-, h3⟩
    obtain ⟨⟨a, rfl⟩, hc3⟩ := h3 rfl
    clear h3
    obtain ⟨hch1, hnk, hgo, hlt1⟩ := HC.out
    have j1 : w3.cell? ⟨w.heap.size, 0, none⟩ = some (.bool false) := by rw [hc3.cell (p := ⟨w.heap.size, 0, none⟩) hlt1 hnk]; exact k1
    have j2 : w3.frozen? ⟨w.heap.size, 0, none⟩ = false := by rw [hc3.frozen (p := ⟨w.heap.size, 0, none⟩) hlt1 hnk]; exact k2
    have HC3 := Lib.hid (hch1.trans hc3 hgo)
    clear hc3 hch1 hnk hgo hlt1 k1 k2
    go_wp2_with fail
    refine leaves_cons (f := 34) (args := #[.pointer (some ⟨w.heap.size, 0, none⟩)]) (by simp) (by simp [go_sem]) ?_
    refine (caught_idle _ _).mono ?_
    rintro e u' w4 ⟨rfl, rfl, rfl⟩
    have hcell : (w3.setCell ⟨w.heap.size, 0, none⟩ (.bool false)).cell? ⟨w.heap.size, 0, none⟩ = some (.bool false) := by go_simp
    exact ⟨.tuple #[.slice none 0 0, .int .i64 0, .bool false], by simp [results, Tryz.results27, go_sem, hcell], fun h => by simp at h, fun _ => ⟨rfl, HC3.out.setCell (p := ⟨w.heap.size, 0, none⟩) (.inr (Nat.le_refl _)) _⟩⟩
  · go_wp2_with fail
    refine HDEC.out.mono ?_
    rintro e w2 ⟨h2, -⟩
    obtain ⟨rfl, Fr2, cur2, Fq2, Fd2, hR2, hX2, hU2, hD2⟩ := h2 rfl
    clear h2
    obtain ⟨hch1, hnk, hgo, hlt1⟩ := HC.out
    have j1 : w2.cell? ⟨w.heap.size, 0, none⟩ = some (.bool false) := by rw [hU2.chg.cell (p := ⟨w.heap.size, 0, none⟩) hlt1 hnk]; exact k1
    have j2 : w2.frozen? ⟨w.heap.size, 0, none⟩ = false := by rw [hU2.chg.frozen (p := ⟨w.heap.size, 0, none⟩) hlt1 hnk]; exact k2
    have hlt2 : w.heap.size < w2.heap.size := by have := hU2.chg.size; omega
    have hch2 := hch1.trans hU2.chg hgo
    obtain ⟨v2, hXX, -⟩ := hX2.off
    obtain ⟨p2, c2, rfl⟩ := hXX.slice
    have hflat : FlatAt w2 (.slice p2 (offsOf ll).length c2) (offsOf ll).length (u64s (offsOf ll)) := OwnR.flat (F := fun _ => True) ⟨hXX.own, fun _ _ => trivial⟩
    rw [offsOf_length] at hflat hXX
    have HX2 := Lib.hid (And.intro hflat (And.intro hX2.col (And.intro hXX.at_ (And.intro hXX.lt hR2))))
    have HC2 := Lib.hid (And.intro hch2 (And.intro hlt2 (And.intro j1 j2)))
    clear hch1 hnk hgo hlt1 k1 k2 hR2 hX2 hU2 hD2 hXX hflat hch2 hlt2 j1 j2 HDEC HC
    go_wp2_with fail
    go_loopw [6, 10] (fun vo vi wr => ∃ (i : Nat) (F : Nat → Prop), i ≤ ll.length ∧ vi = .int .i64 i ∧ AccL (LowP StrL w2.heap.size) w2 F 35 vo (ll.take i) wr) (fun _ vi _ => ll.length - (intOf vi).toNat)
    case atStart => exact ⟨0, _, Nat.zero_le _, rfl, AccL.start _ w2 35⟩
    case round =>
      obtain ⟨i, F, hi, rfl, hA⟩ := hrel
      have hlen : (ll.take i).length = i := by simp; omega
      obtain ⟨po, co, rfl⟩ := hA.slice
      rw [hlen] at hA ⊢
      have HLEN := Lib.hid hlen
      have HA := Lib.hid hA
      have HAT : Hid (∀ W, Below w2.heap.size w2 W → (loadVar 124 ⟨q, 0, none⟩).run Tryz.prog W = .ok (.agg #[.slice p2 ll.length c2, .iface 74 (.pointer (some ⟨d, 0, none⟩))]) W) := Lib.hid fun W hb => by
        obtain ⟨-, -, h1, h2, -⟩ := HX2.out
        exact load_twoA (T := 124) (by rw [hb.block q h2]; exact h1) Tryz.underlying124 (by kernel_rfl)
      have hmR := meth_val 292 mArrRows Tryz.underlying66 ⟨q, 0, none⟩ wr _ (HAT.out wr hA.below)
      have hoR := fun W => oArr.2.1 #[.agg #[.slice p2 ll.length c2, .iface 74 (.pointer (some ⟨d, 0, none⟩))]] W
      have HRW := Lib.hid (arrRows wr p2 ll.length c2 (.iface 74 (.pointer (some ⟨d, 0, none⟩))))
      clear hA hlen
      go_wp2_with fail
      refine HRW.out.mono ?_
      rintro e w4 ⟨rfl, hb4⟩
      have hbw4 : Below w2.heap.size w2 w4 := HA.out.below.trans (hb4.mono HA.out.below.size)
      have HB4 := Lib.hid (And.intro hb4 hbw4)
      by_cases hlt : i < ll.length
      · have hltI : (i : Int) < (ll.length : Int) := by omega
        obtain ⟨ss, hsi⟩ : ∃ ss, ll[i]? = some ss := ⟨_, List.getElem?_eq_getElem hlt⟩
        have hmW := meth_val 292 mArrRow Tryz.underlying66 ⟨q, 0, none⟩ w4 _ (HAT.out w4 hbw4)
        have hoW := fun W => oArr.2.2 #[.agg #[.slice p2 ll.length c2, .iface 74 (.pointer (some ⟨d, 0, none⟩))], .int .i64 (i : Int)] W
        have HRR := Lib.hid (arrRow w4 (.slice p2 ll.length c2) d Fd2 ll (HX2.out.1.below hbw4) (HX2.out.2.1.keep hbw4) (by omega) hf i ss hsi)
        have HS := Lib.hid (takeSnoc hsi)
        clear hb4 hbw4 hsi hmR hoR
        go_wp2_with fail
        refine HRR.out.mono ?_
        rintro e w5 ⟨x, rfl, hx, hb5, ho5⟩
        obtain ⟨px, cx, rfl, -⟩ := hx.slice
        obtain ⟨hb4, hbw4⟩ := HB4.out
        have hb45 := hb4.trans (hb5.mono hb4.size)
        obtain ⟨xs, hown, hmore⟩ := HA.out.more (lowP_stable strL_stable _) hb45 (x := .slice px ss.length cx) (a := ss) ⟨hx, fun g hg => by have := ho5 g hg; have := hbw4.size; omega⟩ (fun g hg => ⟨(ho5 g hg).2, fun e => by have h1 := HA.out.inn.1 g e; have := ho5 g hg; have := hb4.size; omega⟩) (.cells #[.slice px ss.length cx] 35)
        rw [HLEN.out] at hown hmore
        have HOWN := Lib.hid hown
        have HMORE := Lib.hid hmore
        have HSR := Lib.hid (src_new elemStrss w5.heap.size [.slice px ss.length cx] _ (heap_alloc_new w5 (.cells #[.slice px ss.length cx] 35)) rfl (by simp [Value.oneCell']) 1)
        clear hown hmore hx ho5 hb5 hb45 hb4 hbw4
        go_wp2_with (at_builtin; refine append_rows elemStrss _ F i 1 xs _ rfl _ _ _ rfl _ rfl HOWN.out _ rfl HSR.out (by omega) (by omega) ?_; intro p5 c5 w6 F5 hown5 hu5)
        go_roundw
        case rel => exact ⟨i + 1, F5, hlt, by go_num, by rw [HS.out]; exact HMORE.out p5 c5 w6 F5 hown5 hu5⟩
        case measure => simp [intOf]; omega
      · obtain rfl : i = ll.length := by omega
        have hltI : ¬ (ll.length : Int) < (ll.length : Int) := by omega
        have HA4 := Lib.hid (HA.out.keep (lowP_stable strL_stable _) hb4)
        have HLF := Lib.hid (rdLeft w4 _ _ _ tail cur2 (HX2.out.2.2.2.2.below hbw4))
        have i1 : w4.cell? ⟨w.heap.size, 0, none⟩ = some (.bool false) := by rw [hbw4.cell (p := ⟨w.heap.size, 0, none⟩) HC2.out.2.1]; exact HC2.out.2.2.1
        have i2 : w4.frozen? ⟨w.heap.size, 0, none⟩ = false := by rw [hbw4.frozen (p := ⟨w.heap.size, 0, none⟩) HC2.out.2.1]; exact HC2.out.2.2.2
        clear hb4 hbw4 hmR hoR HRW
        go_wp2_with fail
        refine HLF.out.mono ?_
        rintro e w5 ⟨rfl, rfl⟩
        go_wp2_with fail
        refine leaves_cons (f := 34) (args := #[.pointer (some ⟨w.heap.size, 0, none⟩)]) (by simp) (by simp [go_sem]) ?_
        refine (caught_idle _ _).mono ?_
        rintro e u' w6 ⟨rfl, rfl, rfl⟩
        have hcell : (w4.setCell ⟨w.heap.size, 0, none⟩ (.bool true)).cell? ⟨w.heap.size, 0, none⟩ = some (.bool true) := by go_simp
        have h := HA4.out.setLow (p := ⟨w.heap.size, 0, none⟩) (y := .bool true) strL_stable HC2.out.2.1
        rw [List.take_length] at h
        exact ⟨.tuple #[.slice po ll.length co, .int .i64 tail.length, .bool true], by simp [results, Tryz.results27, go_sem, hcell], fun _ => ⟨_, rfl, h, (HC2.out.1.trans (Chg.of_below (F := fun _ => False) HB4.out.2) fun _ _ h => h.elim).setCell (p := ⟨w.heap.size, 0, none⟩) (.inr (Nat.le_refl _)) _⟩, fun h => by simp at h⟩

set_option maxRecDepth 100000 in
theorem foundA (w : World) (p : Option Addr) (n c : Nat) (left : Int) : Calls Tryz.prog 26 #[.slice p n c, .int .i64 left, .bool true] w fun e w' => e = .returned (.tuple #[.slice p n c, .int .i64 left, .bool true]) ∧ w = w' := by
  go_enter Tryz.func26, Tryz.ntmps26
  go_wp2_with fail
  refine bodyPost_ret (v := .tuple #[.slice p n c, .int .i64 left, .bool true]) (by simp [results, Tryz.results26, go_sem]) rfl ⟨rfl, rfl⟩
set_option maxRecDepth 100000 in
theorem foundA_not (w : World) : Calls Tryz.prog 26 #[.slice none 0 0, .int .i64 0, .bool false] w fun e w' => e = .returned (.tuple #[.slice none 0 0, .int .i64 0, .bool false]) ∧ w = w' := by
  go_enter Tryz.func26, Tryz.ntmps26
  go_wp2_with fail
  refine bodyPost_ret (v := .tuple #[.slice none 0 0, .int .i64 0, .bool false]) (by simp [results, Tryz.results26, go_sem]) rfl ⟨rfl, rfl⟩

def ReadL (w : World) (ok : Bool) (ll : List (List ByteArray)) (tail : List UInt8) (e : Ending) (w' : World) : Prop :=
  (ok = true → ∃ x, e = .returned (.tuple #[x, .int .i64 tail.length, .bool true]) ∧ LstL w' x ll ∧ Below w.heap.size w w') ∧
  (ok = false → e = .returned (.tuple #[.slice none 0 0, .int .i64 0, .bool false]) ∧ Below w.heap.size w w')

set_option maxRecDepth 100000 in
theorem arReadStr (w : World) (ll : List (List ByteArray)) (dv : Value) (bs tail : List UInt8) (ok : Bool) (hd : BytesAt w dv bs) (hD : ∀ g, dv.ownBlock = some g → g < w.heap.size)
    (hrest : RestA ok ll tail bs) (hbig : bs.length ≤ 1000000000) (hl : ll.length ≤ 100000) (hf : ll.flatten.length ≤ 100000000) (hE : (encS (bytesOf ll.flatten)).length ≤ 1000000000) :
    Calls Tryz.prog 15 #[dv, .int .i64 ll.length] w (ReadL w ok ll tail) := by
  obtain ⟨pd, cd, rfl⟩ := hd.slice
  have HN := Lib.hid (strsNew w)
  have HX := Lib.hid (And.intro hd (And.intro hD (And.intro hrest hE)))
  clear hd hD hrest hE
  go_enter Tryz.func15, Tryz.ntmps15
  go_wp2_with fail
  refine HN.out.mono ?_
  rintro e w1 ⟨rfl, hb1, hs1, hX1⟩
  obtain ⟨hd, hD, hrest, hE⟩ := HX.out
  have HDEC := Lib.hid (decodesA w1 _ _ _ _ ll _ bs tail ok hX1 (hd.below hb1) (fun g hg => ⟨by have := hD g hg; omega, by have := hD g hg; omega, by have := hD g hg; omega⟩) hrest hbig hl hf hE)
  have HB := Lib.hid (And.intro hb1 hs1)
  clear hb1 hs1 hX1 hd hD hrest hE HN
  have HBEL : Hid (∀ w2, Chg (fun k => k = w.heap.size + 1 ∨ k = w.heap.size) w1 w2 → Below w.heap.size w w2) := Lib.hid fun w2 hc => HB.out.1.trans (hc.below (by have := HB.out.2; omega) fun k hk => by omega)
  cases ok
  · go_wp2_with fail
    refine HDEC.out.mono ?_
    rintro e w2 ⟨-, h2⟩
    obtain ⟨rfl, hc⟩ := h2 rfl
    have HC := Lib.hid (HBEL.out w2 hc)
    clear h2 hc
    go_wp2_with (go_at_call 26; refine (foundA_not _).mono ?_; rintro e w3 ⟨rfl, rfl⟩)
    refine bodyPost_ret (v := .tuple #[.slice none 0 0, .int .i64 0, .bool false]) (by simp [results, Tryz.results15, go_sem]) rfl ?_
    exact ⟨fun h => by simp at h, fun _ => ⟨rfl, HC.out⟩⟩
  · go_wp2_with fail
    refine HDEC.out.mono ?_
    rintro e w2 ⟨h2, -⟩
    obtain ⟨x, rfl, hx, hc⟩ := h2 rfl
    obtain ⟨px, cx, rfl, -⟩ := hx.slice
    have HC := Lib.hid (And.intro (HBEL.out w2 hc) hx)
    clear h2 hc hx
    go_wp2_with (go_at_call 26; refine (foundA _ _ _ _ _).mono ?_; rintro e w3 ⟨rfl, rfl⟩)
    refine bodyPost_ret (v := .tuple #[.slice px ll.length cx, .int .i64 tail.length, .bool true]) (by simp [results, Tryz.results15, go_sem]) rfl ?_
    exact ⟨fun _ => ⟨_, rfl, HC.out.2, HC.out.1⟩, fun h => by simp at h⟩
end Go.Proofs.YtemmhlibbihjmaaGreat
