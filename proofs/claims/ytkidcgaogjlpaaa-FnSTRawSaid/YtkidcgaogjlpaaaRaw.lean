/- proto.ColRaw: DecodeColumn, EncodeColumn; impl.STRaw. -/
import Derived.Test.YtkidcgaogjlpaaaInto
import Derived.Deep.RegionHeld3
import Derived.Deep.QuietTactic
import Derived.BigQuiet
namespace Go.Proofs.Ytkidcgaogjlpaaa
open Go.RowKit
set_option linter.unusedVariables false

theorem elemU8 : Elem 22 5 1 1 := elem_of Try.underlying22 infoU8 (by rfl) (by decide)
theorem zeroU8 : ∀ i, Try.prog.info? 5 = some i → i.zero = some (.int .u8 0) := by
  intro i hi
  have h := infoU8
  rw [hi] at h
  simp at h
  exact h.1

/-- The append of zeros to nothing. -/
theorem step_zeros {ops : Array Oper} {o : Oper} {a : Act} {K : Act → World → Prop} {Q : Exit → Act → World → Prop} {E : Prop} (w : World) (m : Nat) (hgd : o.guard = none) (s x : Operand)
    (ho : o.op = .call { callee := .builtin .append, args := #[s, x], argTypes := #[22, 3] }) (hs : a.eval s = .slice none 0 0) (hx : a.eval x = .int .i64 m) (hl : m ≤ 140737488355328)
    (h : ∀ p c w1 F', OwnR w1 F' 5 1 (.slice p m c) m (Builtin.zeroCells (Value.int .u8 0).cells m).toList → Below w.heap.size w w1 → (∀ k, F' k → w.heap.size ≤ k) → K (a.put o.dst (.slice p m c)) w1) :
    if Region.wanted o (yielded ops a.tmps) = true then Oper.wp Try.prog o a w K Q else E := by
  rw [if_pos (by simp [Region.wanted, hgd])]
  obtain ⟨p, c, w', F', hr, hown, hu⟩ := run_append_zeros elemU8 w (fun _ => False) _ 0 [] (OwnR.nil _ _ _ _) 3 o.type Try.underlying3 (.int .u8 0) zeroU8 (by simp [Value.cells, Value.oneCell']) m (by omega) (by omega)
  simp only [Nat.zero_add, List.nil_append] at hr hown
  unfold Oper.wp execOp
  simp only [ho, resolve, invoke, builtin, Sem.run_bind, Sem.run_pure, Result.andThen_ok, List.map_toArray, List.map_cons, List.map_nil, hs, hx, hr]
  exact h p c w' F' hown (hu.chg.below (Nat.le_refl _) (fun _ h => h.elim)) (fun k hk => (hu.new k hk).elim (fun h => h.elim) (fun h => h.1))

/-- A ColRaw at block q. -/
def RawAt (w : World) (q : Nat) (t : ByteArray) (size : Nat) (v : Value) (count : Nat) : Prop := w.heap[q]? = some (.cells #[.string t, .int .i64 size, v, .int .i64 count] 31 (0, 0))

theorem RawAt.cells {w : World} {q : Nat} {t : ByteArray} {size : Nat} {v : Value} {count : Nat} (h : RawAt w q t size v count) :
    w.cell? ⟨q, 0, none⟩ = some (.string t) ∧ w.cell? ⟨q, 1, none⟩ = some (.int .i64 size) ∧ w.cell? ⟨q, 2, none⟩ = some v ∧ w.cell? ⟨q, 3, none⟩ = some (.int .i64 count) ∧ (∀ k, w.frozen? ⟨q, k, none⟩ = false) ∧ q < w.heap.size := by
  unfold RawAt at h
  exact ⟨by simp [World.cell?, h], by simp [World.cell?, h], by simp [World.cell?, h], by simp [World.cell?, h], fun k => by simp [World.frozen?, h], (Array.getElem?_eq_some_iff.1 h).1⟩

theorem RawAt.count {w : World} {q : Nat} {t : ByteArray} {size : Nat} {v : Value} {count : Nat} (h : RawAt w q t size v count) (n : Nat) : RawAt (w.setCell ⟨q, 3, none⟩ (.int .i64 n)) q t size v n := by
  unfold RawAt at *
  simp [World.setCell, Array.getElem?_modify, h]
theorem RawAt.data {w : World} {q : Nat} {t : ByteArray} {size : Nat} {v : Value} {count : Nat} (h : RawAt w q t size v count) (v' : Value) : RawAt (w.setCell ⟨q, 2, none⟩ v') q t size v' count := by
  unfold RawAt at *
  simp [World.setCell, Array.getElem?_modify, h]

set_option maxRecDepth 100000 in
theorem rawDecode_bad (w : World) (F D : Nat → Prop) (q r size rows : Nat) (t : ByteArray) (rest cur : List UInt8) (h : RdAt w F D r rest cur) (hq : RawAt w q t size (.slice none 0 0) 0) (hs : size * rows ≤ 1000000) (hl : rest.length < size * rows) :
    Calls Try.prog 8 #[.pointer (some ⟨q, 0, none⟩), .pointer (some ⟨r, 0, none⟩), .int .i64 rows] w fun e w' => ∃ a, e = .returned (.iface 56 (.pointer (some a))) ∧ Chg F w w' := by
  obtain ⟨c0, c1, c2, c3, cf, cl⟩ := hq.cells
  have hL := Lib.hid (fun n => rdLeft (w.drewN n) F D r rest cur (h.below ⟨rfl, rfl, rfl, Nat.le_refl _, fun _ _ => rfl⟩))
  obtain ⟨m, hm⟩ : ∃ m, m = size * rows := ⟨_, rfl⟩
  rw [← hm] at hs hl
  have hm2 : (size : Int) * (rows : Int) = (m : Int) := by rw [hm]; simp
  have hw : IntKind.i64.wrap ((size : Int) * (rows : Int)) = m := by rw [hm2, IntKind.wrap_i64]; omega
  have hlt : (rest.length : Int) < (m : Int) := by omega
  have HR := Lib.hid (fun n => show RdAt (w.drewN n) F D r rest cur from h.below ⟨rfl, rfl, rfl, Nat.le_refl _, fun _ _ => rfl⟩)
  clear h hq hm hm2
  go_enter Try.func8, Try.ntmps8
  go_wp2_with fail
  go_quiet ((go_at_call 14; exact Calls.quiet_of_same ((hL.out _).mono fun _ _ h => ⟨h.1, h.2.symm⟩)))
  obtain ⟨b, v, hbr, h⟩ := HR.out _
  go_wp2_with (first | (go_at_call 16; refine (rdEnd _ F D r rest b v (u8s cur) h).mono ?_; rintro e w1 ⟨⟨a, rfl⟩, h1, hu⟩) | (go_at_call 15; refine (wrapErr _ _ _ _).mono ?_; rintro e w2 ⟨⟨a2, rfl⟩, hb2⟩))
  go_ret
  exact ⟨_, rfl, (((Chg.refl F w).drewN _).trans hu.chg (fun _ _ h => h)).trans (Chg.of_below hb2) (fun _ _ h => h)⟩

set_option maxRecDepth 100000 in
theorem rawDecode_ok (w : World) (F D : Nat → Prop) (q r size rows n : Nat) (t : ByteArray) (rest cur : List UInt8) (h : RdAt w F D r rest cur) (hq : RawAt w q t size (.slice none 0 0) 0) (hF : ¬ F q) (hD : ¬ D q) (hInD : In D w) (hs : n ≤ 1000000) (hn : n = size * rows) (h0 : 0 < n) (hl : n ≤ rest.length) (hm : rest.length ≤ 140737488355328) :
    Calls Try.prog 8 #[.pointer (some ⟨q, 0, none⟩), .pointer (some ⟨r, 0, none⟩), .int .i64 rows] w fun e w' => e = .returned .nilIface ∧ (∃ F' cur, RdAt w' F' D r (rest.drop n) cur) ∧ Chg (fun k => F k ∨ k = q) w w' ∧
      ∃ g c, RawAt w' q t size (.slice (some ⟨g, 0, none⟩) n c) rows ∧ BytesAt w' (.slice (some ⟨g, 0, none⟩) n c) (rest.take n) ∧ w.heap.size ≤ g := by
  obtain ⟨c0, c1, c2, c3, cf, cl⟩ := hq.cells
  have cf1 := cf 3
  have cf2 := cf 2
  have hw : IntKind.i64.wrap ((size : Int) * (rows : Int)) = n := by
    have hm2 : (size : Int) * (rows : Int) = (n : Int) := by rw [hn]; simp
    rw [hm2, IntKind.wrap_i64]; omega
  have hlt : ¬ ((rest.length : Int) < (n : Int)) := by omega
  have hL := Lib.hid (fun n => rdLeft (w.drewN n) F D r rest cur (h.below ⟨rfl, rfl, rfl, Nat.le_refl _, fun _ _ => rfl⟩))
  have HQ := Lib.hid hq
  have HR := Lib.hid h
  have HF := Lib.hid hF
  have HD := Lib.hid hD
  have HI := Lib.hid hInD
  clear hn h hq cf hF hD hInD
  go_enter Try.func8, Try.ntmps8
  go_wp2_with fail
  go_quiet ((go_at_call 14; exact Calls.quiet_of_same ((hL.out _).mono fun _ _ h => ⟨h.1, h.2.symm⟩)))
  go_wp2_with fail
  go_region_law ((refine step_zeros _ n (by rfl) _ _ (by rfl) (by rfl) (by rfl) (by omega) ?_; intro p c w1 F' hown hb hnew; have d2 : w1.cell? ⟨q, 2, none⟩ = some (.slice none 0 0) := (by rw [hb.cell (by simpa using cl)]; go_simp); have e2 : w1.frozen? ⟨q, 2, none⟩ = false := (by rw [hb.frozen (by simpa using cl)]; go_simp)))
  all_goals
    have hW : RawAt (w.setCell ⟨q, 3, none⟩ (.int .i64 rows)) q t size (.slice none 0 0) rows := HQ.out.count rows
    have hW1 : RawAt w1 q t size (.slice none 0 0) rows := by
      unfold RawAt at hW ⊢
      rw [hb.block q (by simpa using cl)]
      exact hW
    have hC : Chg (· = q) w (w1.setCell ⟨q, 2, none⟩ (.slice p n c)) := (((((Chg.refl (· = q) w).drewN nq).setCell (p := ⟨q, 3, none⟩) (.inl rfl) (.int .i64 rows)).drew).trans (Chg.of_below (F := (· = q)) hb) (fun _ _ h => h)).setCell (p := ⟨q, 2, none⟩) (.inl rfl) _
    have hW2 := hW1.data (.slice p n c)
    have hsz := hb.size
    obtain ⟨-, ⟨h1, -⟩ | ⟨g, cap, cur2, h1, -, hg, hnc, -, hcs, -⟩⟩ := hown.1
    · exfalso
      have : n = 0 := by simp at h1; exact h1.2.1
      omega
    obtain ⟨rfl, -, rfl⟩ : p = some ⟨g, 0, none⟩ ∧ n = n ∧ c = cap := by simpa using h1
    have hgn : w.heap.size ≤ g := by have := hnew g (hown.2 g rfl); simpa using this
    have hgl : g < w1.heap.size := (Array.getElem?_eq_some_iff.1 hg).1
    have hgq : g ≠ q := by omega
    have hg2 : (w1.setCell ⟨q, 2, none⟩ (.slice (some ⟨g, 0, none⟩) n c)).heap[g]? = some (.cells cur2 5 (0, 0)) := by rw [Below.heap_setCell _ _ _ _ hgq]; exact hg
    have hR2 := HR.out.upd hC (fun k hk e => HF.out (e ▸ hk)) (fun k hk e => HD.out (e ▸ hk))
    obtain ⟨b0, v0, -, hx⟩ := HR.out
    have hFg : ¬ F g := fun h => by have := hx.inF g h; omega
    have hDg : ¬ D g := fun h => by have := HI.out g h; omega
    have hFr := hx.own
    clear hx
    have HW2 := Lib.hid hW2
    have HC := Lib.hid hC
    clear hown h1 hW hW1 hW2 hC hg hnew hb
    go_wp2_with ((go_at_call 17; go_loud (refine (readInto _ F D r g 0 n c rest cur hR2 cur2 _ hg2 (by omega) hFg hDg hl hm).mono ?_; rintro e w3 ⟨rfl, h3, hc3, hg3⟩)))
    go_ret
    have hq3 : RawAt w3 q t size (.slice (some ⟨g, 0, none⟩) n c) rows := by
      have h := HW2.out
      unfold RawAt at h ⊢
      rw [hc3.block q (by simp; omega) (by
        rintro (e | e)
        · exact HF.out (e ▸ hFr)
        · exact hgq e.symm)]
      exact h
    refine ⟨rfl, ⟨F, cur, h3⟩, (HC.out.mono fun k _ hk => .inr hk).trans hc3 fun k hk h => ?_, g, c, hq3, ?_, hgn⟩
    · rcases h with rfl | rfl
      · exact .inl hFr
      · omega
    · have htl : (rest.take n).length = n := by simp; omega
      refine .inr ⟨g, 0, c, by rw [htl], by rw [htl]; exact hnc, fun j hj => ?_⟩
      have hx : (u8s (rest.take n) ++ cur2.toList.drop (0 + n))[j]? = some (.int .u8 ((rest.take n)[j]).toNat) := by
        rw [List.getElem?_append_left (by rw [u8s_length]; exact hj)]
        simp only [u8s, List.getElem?_map, List.getElem?_eq_getElem hj, Option.map_some]
      simp only [World.cell?, hg3, Nat.zero_add, List.take_zero, List.nil_append]
      simpa using hx

theorem belowDrew (w : World) : Below w.heap.size w w.drew := ⟨rfl, rfl, rfl, Nat.le_refl _, fun _ _ => rfl⟩

set_option maxRecDepth 100000 in
theorem rawEncode (w : World) (F : Nat → Prop) (p size count : Nat) (t : ByteArray) (v : Value) (bs : List UInt8) (h : BufAt w F 51 p []) (hv : BytesAt w v bs) (hl : bs.length ≤ 140737488355328) :
    Calls Try.prog 10 #[.agg #[.string t, .int .i64 size, v, .int .i64 count], .pointer (some ⟨p, 0, none⟩)] w (Put w F 51 p bs) := by
  obtain ⟨v0, hc, hf, hlt⟩ := h.cell
  obtain ⟨p1, cp1, rfl⟩ := hv.slice
  have HV := Lib.hid (fun (w' : World) (hb : Below w.heap.size w w') => (hv.below hb).srcB)
  have HB := Lib.hid h
  clear hv h
  go_enter Try.func10, Try.ntmps10
  go_wp2_with fail
  have hB1 := HB.out.alloc (.cells #[.string t, .int .i64 size, .slice p1 bs.length cp1, .int .i64 count] 31)
  go_region_law ((refine step_append_bufs _ F _ p [] bs (by rfl) _ _ _ (by rfl) hB1.drew v0 (by go_simp) (by rfl) _ (by rfl) (HV.out _ (((Below.refl _ w).alloc (Nat.le_refl _) _).trans ((belowDrew _).mono (by simp)))) (by simpa using hl) ?_; intro g cap w3 hc2 hf2 hst))
  all_goals
    go_returns
    have h := hst.put (((Upd.refl F w).alloc _).drew)
    simpa using h

theorem own_raw1 : Own 7 := fun _ _ => by kernel_rfl
theorem own_rawEnc : Own 10 := fun _ _ => by kernel_rfl

theorem raw1_ok (w : World) (F D : Nat → Prop) (pc pr q r size rows n : Nat) (t : ByteArray) (rest cur : List UInt8) (hpc : w.cell? ⟨pc, 0, none⟩ = some (.pointer (some ⟨q, 0, none⟩))) (hpr : w.cell? ⟨pr, 0, none⟩ = some (.int .i64 rows)) (h : RdAt w F D r rest cur) (hq : RawAt w q t size (.slice none 0 0) 0) (hF : ¬ F q) (hD : ¬ D q) (hInD : In D w) (hs : n ≤ 1000000) (hn : n = size * rows) (h0 : 0 < n) (hl : n ≤ rest.length) (hm : rest.length ≤ 140737488355328) :
    Calls Try.prog 7 #[.pointer (some ⟨r, 0, none⟩), .pointer (some ⟨pc, 0, none⟩), .pointer (some ⟨pr, 0, none⟩)] w fun e w' => e = .returned .nilIface ∧ (∃ F' cur, RdAt w' F' D r (rest.drop n) cur) ∧ Chg (fun k => F k ∨ k = q) w w' ∧
      ∃ g c, RawAt w' q t size (.slice (some ⟨g, 0, none⟩) n c) rows ∧ BytesAt w' (.slice (some ⟨g, 0, none⟩) n c) (rest.take n) ∧ w.heap.size ≤ g := by
  have H := Lib.hid (rawDecode_ok w F D q r size rows n t rest cur h hq hF hD hInD hs hn h0 hl hm)
  clear h hq hF hD hInD hn
  go_enter Try.func7, Try.ntmps7
  go_wp2_with ((go_at_call 8; refine H.out.mono ?_; rintro e w1 ⟨rfl, h1, h2, h3⟩))
  go_ret
  exact ⟨rfl, h1, h2, h3⟩

theorem raw1_bad (w : World) (F D : Nat → Prop) (pc pr q r size rows : Nat) (t : ByteArray) (rest cur : List UInt8) (hpc : w.cell? ⟨pc, 0, none⟩ = some (.pointer (some ⟨q, 0, none⟩))) (hpr : w.cell? ⟨pr, 0, none⟩ = some (.int .i64 rows)) (h : RdAt w F D r rest cur) (hq : RawAt w q t size (.slice none 0 0) 0) (hs : size * rows ≤ 1000000) (hl : rest.length < size * rows) :
    Calls Try.prog 7 #[.pointer (some ⟨r, 0, none⟩), .pointer (some ⟨pc, 0, none⟩), .pointer (some ⟨pr, 0, none⟩)] w fun e w' => ∃ a, e = .returned (.iface 56 (.pointer (some a))) ∧ Chg F w w' := by
  have H := Lib.hid (rawDecode_bad w F D q r size rows t rest cur h hq hs hl)
  clear h hq hs hl
  go_enter Try.func7, Try.ntmps7
  go_wp2_with ((go_at_call 8; refine H.out.mono ?_; rintro e w1 ⟨a, rfl, h1⟩))
  go_ret
  exact ⟨a, rfl, h1⟩

/-- What STRaw has laid ahead of its call of got. -/
def rawW (w : World) (size rows : Nat) : World :=
  ((w.alloc (.cells #[.int .i64 rows] 3)).alloc (.cells #[.string ⟨#[83, 116, 114, 105, 110, 103]⟩, .int .i64 size, .slice none 0 0, .int .i64 0] 31)).alloc (.cells #[.pointer (some ⟨w.heap.size + 1, 0, none⟩)] 28)

theorem rawW_size (w : World) (size rows : Nat) : (rawW w size rows).heap.size = w.heap.size + 3 := by simp [rawW]
theorem rawW_below (w : World) (size rows : Nat) : Below w.heap.size w (rawW w size rows) := (((Below.refl _ w).alloc (Nat.le_refl _) _).alloc (by simp) _).alloc (by simp; omega) _
theorem rawW_raw (w : World) (size rows : Nat) : RawAt (rawW w size rows) (w.heap.size + 1) ⟨#[83, 116, 114, 105, 110, 103]⟩ size (.slice none 0 0) 0 := by
  unfold RawAt rawW
  rw [Below.heap_alloc _ _ _ (by simp)]
  have h := heap_alloc_new (w.alloc (.cells #[.int .i64 rows] 3)) (.cells #[.string ⟨#[83, 116, 114, 105, 110, 103]⟩, .int .i64 size, .slice none 0 0, .int .i64 0] 31)
  simpa using h
theorem rawW_rows (w : World) (size rows : Nat) : (rawW w size rows).cell? ⟨w.heap.size, 0, none⟩ = some (.int .i64 rows) := by unfold rawW; go_simp
theorem rawW_c (w : World) (size rows : Nat) : (rawW w size rows).cell? ⟨w.heap.size + 1 + 1, 0, none⟩ = some (.pointer (some ⟨w.heap.size + 1, 0, none⟩)) := by unfold rawW; go_simp

set_option maxRecDepth 100000 in
theorem stRaw_bad (w : World) (v : Value) (bs : List UInt8) (size rows : Nat) (hv : BytesAt w v bs) (hD : ∀ g, v.ownBlock = some g → g < w.heap.size) (hs : size * rows ≤ 1000000) (hl : bs.length < size * rows) :
    Calls Try.prog 5 #[.int .i64 size, v, .int .i64 rows] w fun e w' => e = .returned (.tuple #[.slice none 0 0, .int .i64 0, .bool false]) ∧ Below w.heap.size w w' := by
  have H := Lib.hid (gotC_bad (rawW w size rows) v (.pointer (some ⟨w.heap.size + 1 + 1, 0, none⟩)) (.pointer (some ⟨w.heap.size, 0, none⟩)) bs (w.heap.size + 1) 7 (hv.below (rawW_below w size rows)) (fun g hg => by have := hD g hg; rw [rawW_size]; omega) (by rw [rawW_size]; omega) own_raw1
    (fun w1 F D r ⟨cur, h1⟩ hb hF hDD => (raw1_bad w1 F D (w.heap.size + 1 + 1) w.heap.size (w.heap.size + 1) r size rows _ bs cur
        (by rw [hb.cell (by simp only [rawW_size]; omega)]; exact rawW_c w size rows) (by rw [hb.cell (by simp only [rawW_size]; omega)]; exact rawW_rows w size rows) h1
        (by have h := rawW_raw w size rows; unfold RawAt at h ⊢; rw [hb.block _ (by rw [rawW_size]; omega)]; exact h) hs hl).mono fun e w2 ⟨a, h2, h3⟩ => ⟨a, h2, h3.mono fun _ _ h => .inl h⟩))
  have HB := Lib.hid (rawW_below w size rows)
  have HN := Lib.hid (rawW_size w size rows)
  clear hv hD
  unfold rawW at H HB HN
  go_enter Try.func5, Try.ntmps5
  go_wp2_with ((go_at_call 6; refine H.out.mono ?_; rintro e w1 ⟨rfl, h1⟩))
  go_returns
  exact ⟨rfl, HB.out.trans (h1.below (by rw [HN.out]; omega) (fun k hk => by omega))⟩
set_option maxRecDepth 100000 in
theorem stRaw_ok (w : World) (v : Value) (bs : List UInt8) (size rows n : Nat) (hv : BytesAt w v bs) (hD : ∀ g, v.ownBlock = some g → g < w.heap.size) (hs : n ≤ 1000000) (hn : n = size * rows) (h0 : 0 < n) (hl : n ≤ bs.length) (hm : bs.length ≤ 140737488355328) :
    Calls Try.prog 5 #[.int .i64 size, v, .int .i64 rows] w fun e w' => ∃ v', e = .returned (.tuple #[v', .int .i64 (bs.length - n : Nat), .bool true]) ∧ BytesAt w' v' (bs.take n) ∧ Below w.heap.size w w' := by
  have H := Lib.hid (gotC_ok (rawW w size rows) v (.pointer (some ⟨w.heap.size + 1 + 1, 0, none⟩)) (.pointer (some ⟨w.heap.size, 0, none⟩)) bs (bs.drop n) (w.heap.size + 1)
    (fun w2 => ∃ g c, RawAt w2 (w.heap.size + 1) ⟨#[83, 116, 114, 105, 110, 103]⟩ size (.slice (some ⟨g, 0, none⟩) n c) rows ∧ BytesAt w2 (.slice (some ⟨g, 0, none⟩) n c) (bs.take n) ∧ w.heap.size + 3 < g) 7 (hv.below (rawW_below w size rows)) (fun g hg => by have := hD g hg; rw [rawW_size]; omega) (by rw [rawW_size]; omega) own_raw1
    (fun w2 x ⟨g, c, h1, h2, h3⟩ => ⟨g, c, by unfold RawAt at h1 ⊢; rw [rawW_size, Below.heap_setCell _ _ _ _ (by simp)]; exact h1, h2.keep fun k hk => by
      have : g = k := by simpa [Value.ownBlock] using hk
      rw [rawW_size, Below.heap_setCell _ _ _ _ (by simp; omega)], h3⟩)
    (fun w1 F D r ⟨cur, h1⟩ hb hF hDD => (raw1_ok w1 F D (w.heap.size + 1 + 1) w.heap.size (w.heap.size + 1) r size rows n _ bs cur
        (by rw [hb.cell (by simp only [rawW_size]; omega)]; exact rawW_c w size rows) (by rw [hb.cell (by simp only [rawW_size]; omega)]; exact rawW_rows w size rows) h1
        (by have h := rawW_raw w size rows; unfold RawAt at h ⊢; rw [hb.block _ (by rw [rawW_size]; omega)]; exact h)
        (fun h => by have := hF _ h; rw [rawW_size] at this; omega) (fun h => by have := hD _ (hDD _ h); omega) (fun k hk => by have := hD _ (hDD _ hk); have := hb.size; rw [rawW_size] at this; omega) hs hn h0 hl hm).mono
      fun e w2 ⟨h2, h3, h4, g, c, h5, h6, h7⟩ => ⟨h2, h3, h4, g, c, h5, h6, by have := hF r (by obtain ⟨_, _, _, h⟩ := h1; exact h.own); have h8 := hb.size; obtain ⟨_, _, _, hx⟩ := h1; have h9 := hx.inF r hx.own; rw [rawW_size] at this h8; omega⟩))
  have HB := Lib.hid (rawW_below w size rows)
  have HN := Lib.hid (rawW_size w size rows)
  have HC := Lib.hid (rawW_c w size rows)
  have HL := Lib.hid (show (bs.take n).length ≤ 140737488355328 by simp; omega)
  have hdl : (bs.drop n).length = bs.length - n := by simp
  have HDL := Lib.hid hdl
  clear hv hD hn hdl
  unfold rawW at H HB HN HC
  go_enter Try.func5, Try.ntmps5
  go_wp2_with ((go_at_call 6; refine H.out.mono ?_; rintro e w1 ⟨rfl, hchg, g, c, hraw, hby, hg⟩; have hcv : w1.cell? ⟨w.heap.size + 1 + 1, 0, none⟩ = some (.pointer (some ⟨w.heap.size + 1, 0, none⟩)) := (by rw [hchg.cell (by simp) (by simp)]; exact HC.out); obtain ⟨c0, c1, c2, c3, -, cl⟩ := hraw.cells))
  refine (encodedM _ 10 _ (bs.take n) own_rawEnc (fun w2 F p hb _ _ hbl => rawEncode w2 F p size rows _ _ _ hb (hby.below hbl) HL.out)).mono ?_
  rintro e w2 ⟨hb2, v2, rfl, hv2, -⟩
  go_wp2_with fail
  go_returns
  have hsz := hchg.size
  rw [HN.out] at hsz
  refine ⟨v2, ?_, hv2, (HB.out.trans (hchg.below (by rw [HN.out]; omega) (fun k hk => by omega))).trans (hb2.mono (by omega))⟩
  first | rfl | (rw [← HDL.out]; rfl)
end Go.Proofs.Ytkidcgaogjlpaaa
