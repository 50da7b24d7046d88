/- proto.ColNullable[string].Row; impl.decodes, found, turned, maybe over it; impl.ARReadNull. -/
import Derived.Test.YtemmhlibbihjmaaGreatNul
import Derived.Test.YtemmhlibbihjmaaGreatArrR
namespace Go.Proofs.YtemmhlibbihjmaaGreat
open Go.RowKit
set_option linter.unusedVariables false
set_option linter.unusedSimpArgs false

/-- A value, or none. -/
abbrev May := Bool × ByteArray
def mayC (m : May) : List Value := [.bool m.1, .string m.2]
def mcells (ms : List May) : List Value := ms.flatMap mayC
def valOf (m : May) : ByteArray := if m.1 then m.2 else ⟨#[]⟩
def maskB (ms : List May) : List UInt8 := ms.map fun m => if m.1 then 0 else 1
def normOf (ms : List May) : List May := ms.map fun m => (m.1, valOf m)
theorem mcells_length (ms : List May) : (mcells ms).length = ms.length * 2 := by
  induction ms with
  | nil => rfl
  | cons m ms ih => simp only [mcells, List.flatMap_cons, List.length_append, List.length_cons] at ih ⊢; simp [mayC, ih]; omega
theorem mcells_get : ∀ (ms : List May) (i : Nat) (m : May), ms[i]? = some m → (mcells ms)[i * 2]? = some (.bool m.1) ∧ (mcells ms)[i * 2 + 1]? = some (.string m.2)
  | [], i, m, h => by simp at h
  | a :: ms, 0, m, h => by
    obtain rfl : a = m := by simpa using h
    exact ⟨rfl, rfl⟩
  | a :: ms, i + 1, m, h => by
    have ih := mcells_get ms i m (by simpa using h)
    have e : mcells (a :: ms) = mayC a ++ mcells ms := rfl
    rw [e, List.getElem?_append_right (by simp [mayC]; omega), List.getElem?_append_right (by simp [mayC]; omega)]
    have h1 : (i + 1) * 2 - (mayC a).length = i * 2 := by simp [mayC]; omega
    have h2 : (i + 1) * 2 + 1 - (mayC a).length = i * 2 + 1 := by simp [mayC]; omega
    rw [h1, h2]
    exact ih
theorem mcells_snoc (ms : List May) (m : May) : mcells (ms ++ [m]) = mcells ms ++ mayC m := by simp [mcells]

set_option maxRecDepth 100000 in
set_option maxHeartbeats 1000000 in
theorem nulRow (w : World) (v : Value) (d : Nat) (Fd : Nat → Prop) (ms : List May) (hv : FlatAt w v ms.length (u8s (maskB ms))) (hd : StrCol w Fd 77 d (bytesOf (ms.map valOf))) (hl : ms.length ≤ 100000000) (i : Nat) (m : May) (hi : ms[i]? = some m) :
    Calls Tryz.prog 83 #[.agg #[v, .iface 74 (.pointer (some ⟨d, 0, none⟩))], .int .i64 i] w fun e w' => e = .returned (.agg #[.bool m.1, .string (valOf m)]) ∧ Below w.heap.size w w' := by
  obtain ⟨p, c, rfl, hc⟩ := hv.slice
  obtain ⟨hil, -⟩ := List.getElem?_eq_some_iff.1 hi
  obtain ⟨vd, ud, hdh, -, -, hdl, hsv, -⟩ := hd.view
  obtain ⟨W0, hW0⟩ : ∃ W0, W0 = (w.alloc (.cells #[.slice p ms.length c, .iface 74 (.pointer (some ⟨d, 0, none⟩))] 109)).alloc (.cells #[.bool false, .string ⟨#[]⟩] 71) := ⟨_, rfl⟩
  have hb0 : Below w.heap.size w W0 := by rw [hW0]; exact below_alloc ((Below.refl _ w).alloc (Nat.le_refl _) _) (Nat.le_refl _) _
  have hs0 : W0.heap.size = w.heap.size + 2 := by rw [hW0]; simp
  have k0 : W0.cell? ⟨w.heap.size, 0, none⟩ = some (.slice p ms.length c) := by rw [hW0]; go_simp
  have k1 : W0.cell? ⟨w.heap.size, 1, none⟩ = some (.iface 74 (.pointer (some ⟨d, 0, none⟩))) := by rw [hW0]; go_simp
  have t0 : W0.cell? ⟨w.heap.size + 1, 0, none⟩ = some (.bool false) ∧ W0.cell? ⟨w.heap.size + 1, 1, none⟩ = some (.string ⟨#[]⟩) ∧ W0.frozen? ⟨w.heap.size + 1, 0, none⟩ = false ∧ W0.frozen? ⟨w.heap.size + 1, 1, none⟩ = false := by rw [hW0]; refine ⟨?_, ?_, ?_, ?_⟩ <;> go_simp
  have hld := load_twoA (w := W0.drew) (T := 77) (by show W0.heap[d]? = _; rw [hb0.block d hdl]; exact hdh) Tryz.underlying77 (by kernel_rfl)
  have hmm := meth_val 292 mStrRow Tryz.underlying74 ⟨d, 0, none⟩ W0.drew (.agg #[vd, ud]) hld
  have hoo := fun a W => oStr.1 #[.agg #[vd, ud], a] W
  have hbd : Below w.heap.size w W0.drew := hb0.trans ((drewBelow W0).mono hb0.size)
  have HR := Lib.hid (strRow W0.drew vd ud _ (hsv.below hbd) i (valOf m).data.toList (by unfold bytesOf; simp [hi]) (by unfold bytesOf; simp; omega))
  rw [show (⟨(valOf m).data.toList.toArray⟩ : ByteArray) = valOf m from ofS1_to _] at HR
  obtain ⟨x, hx⟩ : ∃ x : UInt8, x = if m.1 then 0 else 1 := ⟨_, rfl⟩
  have HU : Hid (∀ W, Below w.heap.size w W → Calls Tryz.prog 86 #[.slice p ms.length c, .int .i64 i] W fun e w' => e = .returned (.int .u8 x.toNat) ∧ W = w') := Lib.hid fun W hb => u8Row W p ms.length c i (maskB ms) x (hv.below hb) (by unfold maskB; simp [hi, hx]) hil
  have hxe : ((x.toNat : Int) == 0) = m.1 := by
    rw [hx]
    cases m.1 <;> rfl
  obtain ⟨y, hy⟩ : ∃ y : Int, y = (x.toNat : Int) := ⟨_, rfl⟩
  rw [← hy] at HU hxe
  have HW := Lib.hid (And.intro hb0 (And.intro hs0 (And.intro t0 hbd)))
  have HW0 := Lib.hid hW0
  generalize valOf m = sm at HR
  generalize m.1 = bm at hxe
  clear hv hd hdh hsv hi hW0 hb0 hs0 t0 hbd hx hy hld
  go_enter Tryz.func83, Tryz.ntmps83
  go_wp2_with fail
  rw [← HW0.out]
  go_region_held3 (fun w' => w'.cell? ⟨w.heap.size, 0, none⟩ = some (.slice p ms.length c) ∧ w'.cell? ⟨w.heap.size, 1, none⟩ = some (.iface 74 (.pointer (some ⟨d, 0, none⟩)))) (first | exact ⟨y0, y1⟩ | exact ⟨k0, k1⟩ | (refine ⟨?_, ?_⟩ <;> (first | (rw [World.cell?_setCell_far _ _ _ _ (by simp)]; first | exact y0 | exact y1) | go_keep)) | go_keep)
    (first
      | (go_at_call 90; refine HR.out.mono ?_; rintro e w3 ⟨rfl, hb3⟩; have hb3' := drewTrans hb3; have hlt3 : w.heap.size < W0.heap.size := (by have := HW.out.2.1; omega); have hlt4 : w.heap.size + 1 < W0.heap.size := (by have := HW.out.2.1; omega); have y0 : w3.cell? ⟨w.heap.size, 0, none⟩ = some (.slice p ms.length c) := (by rw [hb3'.cell hlt3]; exact k0); have y1 : w3.cell? ⟨w.heap.size, 1, none⟩ = some (.iface 74 (.pointer (some ⟨d, 0, none⟩))) := (by rw [hb3'.cell hlt3]; exact k1); have z0 : w3.cell? ⟨w.heap.size + 1, 0, none⟩ = some (.bool false) := (by rw [hb3'.cell hlt4]; exact HW.out.2.2.1.1); have z1 : w3.cell? ⟨w.heap.size + 1, 1, none⟩ = some (.string ⟨#[]⟩) := (by rw [hb3'.cell hlt4]; exact HW.out.2.2.1.2.1); have f0 : w3.frozen? ⟨w.heap.size + 1, 0, none⟩ = false := (by rw [hb3'.frozen hlt4]; exact HW.out.2.2.1.2.2.1); have f1 : w3.frozen? ⟨w.heap.size + 1, 1, none⟩ = false := (by rw [hb3'.frozen hlt4]; exact HW.out.2.2.1.2.2.2))
      | (go_at_call 86; refine (HU.out w3 (HW.out.1.trans (hb3'.mono HW.out.1.size))).mono ?_; rintro e w4 ⟨rfl, rfl⟩))
  all_goals
    go_wp2_with fail
    obtain ⟨W5, hW5⟩ : ∃ W5, W5 = (w3.setCell ⟨w.heap.size + 1, 0, none⟩ (.bool bm)).setCell ⟨w.heap.size + 1, 1, none⟩ (.string sm) := ⟨_, rfl⟩
    have g0 : W5.cell? ⟨w.heap.size + 1, 0, none⟩ = some (.bool bm) := by rw [hW5]; go_simp
    have g1 : W5.cell? ⟨w.heap.size + 1, 1, none⟩ = some (.string sm) := by rw [hW5]; go_simp
    have hb5 : Below w.heap.size w W5 := by
      have h3 := HW.out.1.trans (hb3'.mono HW.out.1.size)
      rw [hW5]
      exact (((Chg.of_below (F := fun k => w.heap.size ≤ k) h3).setCell (p := ⟨w.heap.size + 1, 0, none⟩) (.inl (Nat.le_succ _)) _).setCell (p := ⟨w.heap.size + 1, 1, none⟩) (.inl (Nat.le_succ _)) _).below (Nat.le_refl _) fun _ h => h
    rw [← hW5]
    refine bodyPost_ret (v := .agg #[.bool bm, .string sm]) (by simp [results, Tryz.results83, go_sem, g0, g1]) rfl ⟨rfl, hb5⟩

theorem elemNul : Elem 68 71 2 24 := elem_of (z := .agg #[.bool false, .string ⟨#[]⟩]) Tryz.underlying68 (by kernel_rfl) (by rfl) (by decide)
theorem elemMay : Elem 23 52 2 24 := elem_of (z := .agg #[.bool false, .string ⟨#[]⟩]) Tryz.underlying23 (by kernel_rfl) (by rfl) (by decide)
def MayL (w : World) (v : Value) (ms : List May) : Prop := FlatAt w v ms.length (mcells ms)
theorem MayL.below {w w' : World} {v : Value} {ms : List May} (h : MayL w v ms) (hb : Below w.heap.size w w') : MayL w' v ms := FlatAt.below h hb
theorem MayL.slice {w : World} {v : Value} {ms : List May} (h : MayL w v ms) : ∃ p c, v = .slice p ms.length c ∧ ms.length ≤ c := FlatAt.slice h
theorem MayL.row {w : World} {p : Option Addr} {n c : Nat} {ms : List May} (h : MayL w (.slice p n c) ms) {i : Nat} {m : May} (hi : ms[i]? = some m) :
    ∃ g o : Nat, p = some ⟨g, o, none⟩ ∧ n = ms.length ∧ i < n ∧ n ≤ c ∧ w.cell? ⟨g, o + i * 2, none⟩ = some (.bool m.1) ∧ w.cell? ⟨g, o + i * 2 + 1, none⟩ = some (.string m.2) := by
  obtain ⟨p', c', he, hn, hx⟩ := id h
  obtain ⟨rfl, rfl, rfl⟩ : p = p' ∧ n = ms.length ∧ c = c' := by simpa using he
  obtain ⟨hil, -⟩ := List.getElem?_eq_some_iff.1 hi
  obtain ⟨h1, h2⟩ := mcells_get ms i m hi
  obtain ⟨g, o, rfl, hx2⟩ := hx (by intro e; rw [e] at h1; simp at h1)
  exact ⟨g, o, rfl, rfl, hil, hn, hx2 _ _ h1, by rw [Nat.add_assoc]; exact hx2 _ _ h2⟩

theorem mNulDec : MRow 73 "DecodeColumn" [] (some (81, true)) := mRow_of (by kernel_rfl)
theorem mNulRows : MRow 73 "Rows" [] (some (84, false)) := mRow_of (by kernel_rfl)
theorem mNulRow : MRow 73 "Row" [] (some (83, false)) := mRow_of (by kernel_rfl)
theorem oNul : Own 81 ∧ Own 84 ∧ Own 83 := ⟨fun _ _ => by kernel_rfl, fun _ _ => by kernel_rfl, fun _ _ => by kernel_rfl⟩
theorem Acc.setLow {w2 wr : World} {F : Nat → Prop} {E : TypeId} {size n : Nat} {v y : Value} {xs : List Value} {p : Addr} (h : Acc w2 F E size v n xs wr) (hp : p.block < w2.heap.size) : FlatAt (wr.setCell p y) v n xs := by
  have hc : Chg (fun k => k = p.block) wr (wr.setCell p y) := (Chg.refl (fun k => k = p.block) wr).setCell (.inl rfl) y
  exact h.own.flat.chg hc fun g hg e => by have := h.low g (h.own.2 g hg); omega

/-- The bytes of a nullable column. -/
def RestN (ok : Bool) (ms : List May) (tail rest : List UInt8) : Prop :=
  (ok = true ∧ rest = maskB ms ++ (encS (bytesOf (ms.map valOf)) ++ tail)) ∨ (ok = false ∧ Short rest (maskB ms ++ encS (bytesOf (ms.map valOf))))
def DecodedN (w : World) (F : Nat → Prop) (ok : Bool) (ms : List May) (tail : List UInt8) (e : Ending) (w' : World) : Prop :=
  (ok = true → ∃ x, e = .returned (.tuple #[x, .int .i64 tail.length, .bool true]) ∧ MayL w' x (normOf ms) ∧ Chg F w w') ∧
  (ok = false → e = .returned (.tuple #[.slice none 0 0, .int .i64 0, .bool false]) ∧ Chg F w w')

set_option maxRecDepth 100000 in
set_option maxHeartbeats 1000000 in
theorem decodesN (w : World) (q d : Nat) (Fq Fd : Nat → Prop) (ms : List May) (dv : Value) (bs tail : List UInt8) (ok : Bool) (hX : NulX w Fq Fd q d [] []) (hd : BytesAt w dv bs) (hD : ∀ g, dv.ownBlock = some g → g < w.heap.size ∧ ¬ Fq g ∧ ¬ Fd g)
    (hrest : RestN ok ms tail bs) (hbig : bs.length ≤ 1000000000) (hl : ms.length ≤ 100000) (hE : (encS (bytesOf (ms.map valOf))).length ≤ 1000000000) :
    Calls Tryz.prog 30 #[.iface 73 (.pointer (some ⟨q, 0, none⟩)), dv, .int .i64 ms.length] w (DecodedN w (fun k => Fq k ∨ Fd k) ok ms tail) := by
  obtain ⟨W0, hW0⟩ : ∃ W0, W0 = w.alloc (.cells #[.bool false] 4) := ⟨_, rfl⟩
  have hb0 : Below w.heap.size w W0 := by rw [hW0]; exact (Below.refl _ w).alloc (Nat.le_refl _) _
  have hs0 : W0.heap.size = w.heap.size + 1 := by rw [hW0]; simp
  have ht0 : W0.cell? ⟨w.heap.size, 0, none⟩ = some (.bool false) ∧ W0.frozen? ⟨w.heap.size, 0, none⟩ = false := by rw [hW0]; constructor <;> go_simp
  obtain ⟨pd, cd, rfl⟩ := hd.slice
  have HN := Lib.hid (newReader W0 _ bs (hd.below hb0) fun g hg => by have := hD g hg; omega)
  have HX := Lib.hid (And.intro hX (And.intro hD (And.intro hrest hE)))
  have HW := Lib.hid (And.intro hb0 (And.intro hs0 ht0))
  have hmd := fun W => meth_ptr 292 mNulDec Tryz.underlying73 (.pointer (some ⟨q, 0, none⟩)) W
  have hod := fun a b W => oNul.1 #[.pointer (some ⟨q, 0, none⟩), a, b] W
  rw [hW0] at HN
  have HWW := Lib.hid hW0
  clear hX hd hD hrest hE hb0 hs0 ht0 hW0
  go_enter_defers Tryz.func30, Tryz.ntmps30
  go_wp2_with fail
  refine HN.out.mono ?_
  rintro e w1 ⟨rfl, hb1, hs1, hr1⟩
  rw [← HWW.out] at hb1 hs1 hr1 ⊢
  clear HN HWW
  obtain ⟨hb0, hs0, ht0⟩ := HW.out
  obtain ⟨hX, hD, hrest, hE⟩ := HX.out
  have hbw1 : Below w.heap.size w w1 := hb0.trans (hb1.mono hb0.size)
  have hX1 := hX.keep hbw1
  have HDEC := Lib.hid (nulDecode w1 _ _ Fq Fd (W0.heap.size + 1) q d ms.length (maskB ms) (bytesOf (ms.map valOf)) tail bs [] ok hr1 hX1 (fun k hk => ⟨fun e => by have := hX.inq k hk; rcases e with e | e <;> omega, fun e => (hD k e).2.1 hk⟩) (fun k hk => ⟨fun e => by have := hX.ind k hk; rcases e with e | e <;> omega, fun e => (hD k e).2.2 hk⟩) hrest hbig (by simp [maskB]) (by simp [bytesOf]) hl hE)
  have k1 : w1.cell? ⟨w.heap.size, 0, none⟩ = some (.bool false) := by rw [hb1.cell (p := ⟨w.heap.size, 0, none⟩) (show w.heap.size < W0.heap.size by omega)]; exact ht0.1
  have k2 : w1.frozen? ⟨w.heap.size, 0, none⟩ = false := by rw [hb1.frozen (p := ⟨w.heap.size, 0, none⟩) (show w.heap.size < W0.heap.size by omega)]; exact ht0.2
  have hlt1 : w.heap.size < w1.heap.size := by omega
  have hnk : ¬ ((w.heap.size = W0.heap.size ∨ w.heap.size = W0.heap.size + 1) ∨ Fq w.heap.size ∨ Fd w.heap.size) := fun h => by
    rcases h with (h | h) | h | h
    · omega
    · omega
    · have := hX.inq _ h; omega
    · have := hX.ind _ h; omega
  have hch1 : Chg (fun k => Fq k ∨ Fd k) w w1 := Chg.of_below hbw1
  have hgo : ∀ k, k < w.heap.size → (k = W0.heap.size ∨ k = W0.heap.size + 1) ∨ Fq k ∨ Fd k → Fq k ∨ Fd k := fun k hk h => by
    rcases h with (h | h) | h
    · omega
    · omega
    · exact h
  have HC := Lib.hid (And.intro hch1 (And.intro hnk (And.intro hgo hlt1)))
  clear hb0 hs0 ht0 hX hD hrest hE hbw1 hX1 hr1 hb1 hs1 hnk hch1 hgo hlt1
  cases ok
  · go_wp2_with fail
    refine HDEC.out.mono ?_
    rintro e w3 ⟨-, h3⟩
    obtain ⟨⟨a, rfl⟩, hc3⟩ := h3 rfl
    clear h3
    obtain ⟨hch1, hnk, hgo, hlt1⟩ := HC.out
    have j1 : w3.cell? ⟨w.heap.size, 0, none⟩ = some (.bool false) := by rw [hc3.cell (p := ⟨w.heap.size, 0, none⟩) hlt1 hnk]; exact k1
    have j2 : w3.frozen? ⟨w.heap.size, 0, none⟩ = false := by rw [hc3.frozen (p := ⟨w.heap.size, 0, none⟩) hlt1 hnk]; exact k2
    have HC3 := Lib.hid (hch1.trans hc3 hgo)
    clear hc3 hch1 hnk hgo hlt1 k1 k2
    go_wp2_with fail
    refine leaves_cons (f := 34) (args := #[.pointer (some ⟨w.heap.size, 0, none⟩)]) (by simp) (by simp [go_sem]) ?_
    refine (caught_idle _ _).mono ?_
    rintro e u' w4 ⟨rfl, rfl, rfl⟩
    have hcell : (w3.setCell ⟨w.heap.size, 0, none⟩ (.bool false)).cell? ⟨w.heap.size, 0, none⟩ = some (.bool false) := by go_simp
    exact ⟨.tuple #[.slice none 0 0, .int .i64 0, .bool false], by simp [results, Tryz.results30, go_sem, hcell], fun h => by simp at h, fun _ => ⟨rfl, HC3.out.setCell (p := ⟨w.heap.size, 0, none⟩) (.inr (Nat.le_refl _)) _⟩⟩
  · go_wp2_with fail
    refine HDEC.out.mono ?_
    rintro e w2 ⟨h2, -⟩
    obtain ⟨rfl, Fr2, cur2, Fq2, Fd2, hR2, hX2, hU2, hD2⟩ := h2 rfl
    clear h2
    obtain ⟨hch1, hnk, hgo, hlt1⟩ := HC.out
    have j1 : w2.cell? ⟨w.heap.size, 0, none⟩ = some (.bool false) := by rw [hU2.chg.cell (p := ⟨w.heap.size, 0, none⟩) hlt1 hnk]; exact k1
    have j2 : w2.frozen? ⟨w.heap.size, 0, none⟩ = false := by rw [hU2.chg.frozen (p := ⟨w.heap.size, 0, none⟩) hlt1 hnk]; exact k2
    have hlt2 : w.heap.size < w2.heap.size := by have := hU2.chg.size; omega
    have hch2 := hch1.trans hU2.chg hgo
    obtain ⟨v2, hXX, -⟩ := hX2.off
    obtain ⟨p2, c2, rfl⟩ := hXX.slice
    have hml : (maskB ms).length = ms.length := by simp [maskB]
    have hflat : FlatAt w2 (.slice p2 (maskB ms).length c2) (maskB ms).length (u8s (maskB ms)) := OwnR.flat (F := fun _ => True) ⟨hXX.own, fun _ _ => trivial⟩
    rw [hml] at hflat hXX
    have HX2 := Lib.hid (And.intro hflat (And.intro hX2.col (And.intro hXX.at_ (And.intro hXX.lt hR2))))
    have HC2 := Lib.hid (And.intro hch2 (And.intro hlt2 (And.intro j1 j2)))
    clear hch1 hnk hgo hlt1 k1 k2 hR2 hX2 hU2 hD2 hXX hflat hch2 hlt2 j1 j2 HDEC HC hml
    go_wp2_with fail
    go_loopw [6, 10] (fun vo vi wr => ∃ (i : Nat) (F : Nat → Prop), i ≤ ms.length ∧ vi = .int .i64 i ∧ Acc w2 F 71 2 vo i (mcells (normOf (ms.take i))) wr) (fun _ vi _ => ms.length - (intOf vi).toNat)
    case atStart => exact ⟨0, _, Nat.zero_le _, rfl, Acc.start w2 71 2⟩
    case round =>
      obtain ⟨i, F, hi, rfl, hA⟩ := hrel
      obtain ⟨po, co, rfl⟩ := hA.slice
      have HA := Lib.hid hA
      have HAT : Hid (∀ W, Below w2.heap.size w2 W → (loadVar 109 ⟨q, 0, none⟩).run Tryz.prog W = .ok (.agg #[.slice p2 ms.length c2, .iface 74 (.pointer (some ⟨d, 0, none⟩))]) W) := Lib.hid fun W hb => by
        obtain ⟨-, -, h1, h2, -⟩ := HX2.out
        exact load_twoA (T := 109) (by rw [hb.block q h2]; exact h1) Tryz.underlying109 (by kernel_rfl)
      have hmR := meth_val 292 mNulRows Tryz.underlying73 ⟨q, 0, none⟩ wr _ (HAT.out wr hA.below)
      have hoR := fun W => oNul.2.1 #[.agg #[.slice p2 ms.length c2, .iface 74 (.pointer (some ⟨d, 0, none⟩))]] W
      have HRW := Lib.hid (nulRows wr p2 ms.length c2 (.iface 74 (.pointer (some ⟨d, 0, none⟩))))
      clear hA
      go_wp2_with fail
      refine HRW.out.mono ?_
      rintro e w4 ⟨rfl, hb4⟩
      have hbw4 : Below w2.heap.size w2 w4 := HA.out.below.trans (hb4.mono HA.out.below.size)
      have HB4 := Lib.hid (And.intro hb4 hbw4)
      by_cases hlt : i < ms.length
      · have hltI : (i : Int) < (ms.length : Int) := by omega
        obtain ⟨m, hsi⟩ : ∃ m, ms[i]? = some m := ⟨_, List.getElem?_eq_getElem hlt⟩
        have hmW := meth_val 292 mNulRow Tryz.underlying73 ⟨q, 0, none⟩ w4 _ (HAT.out w4 hbw4)
        have hoW := fun W => oNul.2.2 #[.agg #[.slice p2 ms.length c2, .iface 74 (.pointer (some ⟨d, 0, none⟩))], .int .i64 (i : Int)] W
        have HRR := Lib.hid (nulRow w4 (.slice p2 ms.length c2) d Fd2 ms (HX2.out.1.below hbw4) (HX2.out.2.1.keep hbw4) (by omega) i m hsi)
        have HS : Hid (mcells (normOf (ms.take (i + 1))) = mcells (normOf (ms.take i)) ++ [.bool m.1, .string (valOf m)]) := Lib.hid (by rw [takeSnoc hsi]; simp [normOf, mcells, mayC])
        generalize valOf m = sm at HRR HS
        generalize m.1 = bm at HRR HS
        have HOWN : Hid (∀ W2, Below wr.heap.size wr W2 → OwnR (W2.alloc (.cells #[.bool bm, .string sm] 71)) F 71 2 (.slice po i co) i (mcells (normOf (ms.take i)))) := Lib.hid fun W2 hb => (HA.out.own.keep hb).keep ((Below.refl _ _).alloc (Nat.le_refl _) _)
        have HSR : Hid (∀ W2 : World, Src Tryz.prog 2 68 (.slice (some ⟨W2.heap.size, 0, none⟩) 1 1) 1 [.bool bm, .string sm] (W2.alloc (.cells #[.bool bm, .string sm] 71))) := Lib.hid fun W2 => src_new elemNul W2.heap.size [.bool bm, .string sm] _ (heap_alloc_new W2 _) rfl (by simp [Value.oneCell']) 1
        clear hb4 hbw4 hsi hmR hoR
        go_wp2_with fail
        refine HRR.out.mono ?_
        rintro e w5 ⟨rfl, hb5⟩
        have hb45 := HB4.out.1.trans (hb5.mono HB4.out.1.size)
        go_wp2_with (at_builtin; refine append_rows elemNul _ F i 1 _ _ rfl _ _ _ rfl _ rfl (HOWN.out w5 hb45) _ rfl (HSR.out w5) (by omega) (by omega) ?_; intro p5 c5 w6 F5 hown5 hu5)
        go_roundw
        case rel => exact ⟨i + 1, F5, hlt, by go_num, by rw [HS.out]; exact (HA.out.keep (below_alloc hb45 (Nat.le_refl _) _)).next hown5 hu5⟩
        case measure => simp [intOf]; omega
      · obtain rfl : i = ms.length := by omega
        have hltI : ¬ (ms.length : Int) < (ms.length : Int) := by omega
        have HA4 := Lib.hid (HA.out.keep hb4)
        have HLF := Lib.hid (rdLeft w4 _ _ _ tail cur2 (HX2.out.2.2.2.2.below hbw4))
        have i1 : w4.cell? ⟨w.heap.size, 0, none⟩ = some (.bool false) := by rw [hbw4.cell (p := ⟨w.heap.size, 0, none⟩) HC2.out.2.1]; exact HC2.out.2.2.1
        have i2 : w4.frozen? ⟨w.heap.size, 0, none⟩ = false := by rw [hbw4.frozen (p := ⟨w.heap.size, 0, none⟩) HC2.out.2.1]; exact HC2.out.2.2.2
        clear hb4 hbw4 hmR hoR HRW
        go_wp2_with fail
        refine HLF.out.mono ?_
        rintro e w5 ⟨rfl, rfl⟩
        go_wp2_with fail
        refine leaves_cons (f := 34) (args := #[.pointer (some ⟨w.heap.size, 0, none⟩)]) (by simp) (by simp [go_sem]) ?_
        refine (caught_idle _ _).mono ?_
        rintro e u' w6 ⟨rfl, rfl, rfl⟩
        have hcell : (w4.setCell ⟨w.heap.size, 0, none⟩ (.bool true)).cell? ⟨w.heap.size, 0, none⟩ = some (.bool true) := by go_simp
        have h := HA4.out.setLow (p := ⟨w.heap.size, 0, none⟩) (y := .bool true) HC2.out.2.1
        rw [List.take_length] at h
        have hnl : (normOf ms).length = ms.length := by simp [normOf]
        exact ⟨.tuple #[.slice po ms.length co, .int .i64 tail.length, .bool true], by simp [results, Tryz.results30, go_sem, hcell], fun _ => ⟨_, rfl, by unfold MayL; rw [hnl]; exact h, (HC2.out.1.trans (Chg.of_below (F := fun _ => False) HB4.out.2) fun _ _ h => h.elim).setCell (p := ⟨w.heap.size, 0, none⟩) (.inr (Nat.le_refl _)) _⟩, fun h => by simp at h⟩
end Go.Proofs.YtemmhlibbihjmaaGreat
