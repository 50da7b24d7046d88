/- proto.Setting: Decode; impl.PKSettingGet. -/
import Derived.Test.YtlohpmncagfecaaGot
import Derived.Test.YtlohpmncagfecaaSet
namespace Go.Proofs.Ytlohpmncagfecaa
open Go.RowKit

theorem row_cells {w : World} {q : Nat} {cs : List Value} {T : TypeId} (h : w.heap[q]? = some (.cells cs.toArray T (0, 0))) : ∀ j, j < cs.length → (w.cell? ⟨q, j, none⟩).isSome = true ∧ w.frozen? ⟨q, j, none⟩ = false := fun j hj => by
  constructor
  · simp [World.cell?, h, hj]
  · simp [World.frozen?, h]

theorem row_set {w : World} {q : Nat} {cs : List Value} {T : TypeId} (h : w.heap[q]? = some (.cells cs.toArray T (0, 0))) (j : Nat) (v : Value) : (w.setCell ⟨q, j, none⟩ v).heap[q]? = some (.cells (cs.set j v).toArray T (0, 0)) := by
  simp [World.setCell, Array.getElem?_modify, h]

set_option maxRecDepth 100000 in
theorem setDecode (w : World) (F D : Nat → Prop) (r q : Nat) (k v tail : List UInt8) (i c o : Bool) (hk : k.length ≤ 100) (hv : v.length ≤ 100) (hne : k ≠ []) (ht : tail.length ≤ 100)
    (h : Ready w F D r q 80 5 (setBytes k v i c o ++ tail)) :
    Calls Try.prog 48 #[.pointer (some ⟨q, 0, none⟩), .pointer (some ⟨r, 0, none⟩)] w (DecOk w F D r q 80 tail [.string ⟨k.toArray⟩, .string ⟨v.toArray⟩, .bool i, .bool c, .bool o]) := by
  obtain ⟨⟨cur, hr⟩, ⟨olds, hol, hq⟩, hnF, hnD⟩ := h
  obtain ⟨o0, o1, o2, o3, o4, rfl⟩ : ∃ o0 o1 o2 o3 o4, olds = [o0, o1, o2, o3, o4] := by
    match olds, hol with
    | [a, b, c, d, e], _ => exact ⟨a, b, c, d, e, rfl⟩
  clear hol
  have hql : q < w.heap.size := (Array.getElem?_eq_some_iff.1 hq).1
  have hl := setBytes_le k v i c o hk hv
  unfold setBytes at hl hr
  rw [List.append_assoc, List.append_assoc] at hr
  have hm1 : (strBytes k ++ (uv (flagsOf i c o) ++ (strBytes v ++ tail))).length ≤ 140737488355328 := by simp; omega
  have hm2 : (uv (flagsOf i c o) ++ (strBytes v ++ tail)).length ≤ 140737488355328 := by simp; omega
  have hm3 : (strBytes v ++ tail).length ≤ 140737488355328 := by simp; omega
  have hfl : flagsOf i c o < 18446744073709551616 := by unfold flagsOf bN; split <;> split <;> split <;> omega
  have HFL := Lib.hid hfl
  clear hfl hl
  go_enter Try.func48, Try.ntmps48
  go_wp2_with fail
  refine (str _ F D r k _ cur hr hm1).mono ?_
  rintro e w1 ⟨rfl, F1, cur1, hr1, hu1⟩
  have hne1 : (k == []) = false := by simpa using hne
  go_wp2_with fail
  refine (uvarint _ F1 D r (flagsOf i c o) _ cur1 HFL.out hr1 hm2).mono ?_
  rintro e w2 ⟨rfl, F2, cur2, hr2, hu2⟩
  go_wp2_with fail
  refine (str _ F2 D r v tail cur2 hr2 hm3).mono ?_
  rintro e w3 ⟨rfl, F3, cur3, hr3, hu3⟩
  have hU := hu1.trans (hu2.trans hu3)
  have hq3 : w3.heap[q]? = some (.cells [o0, o1, o2, o3, o4].toArray 80 (0, 0)) := by rw [hU.chg.block q hql hnF]; exact hq
  obtain ⟨x0, x1, x2, x3, x4⟩ : (w3.cell? ⟨q, 0, none⟩ = some o0) ∧ (w3.cell? ⟨q, 1, none⟩ = some o1) ∧ (w3.cell? ⟨q, 2, none⟩ = some o2) ∧ (w3.cell? ⟨q, 3, none⟩ = some o3) ∧ (w3.cell? ⟨q, 4, none⟩ = some o4) := by
    simp [World.cell?, hq3]
  have z : ∀ j, w3.frozen? ⟨q, j, none⟩ = false := fun j => by simp [World.frozen?, hq3]
  have HQ3 := Lib.hid hq3
  have HQ := Lib.hid hq
  clear hq3 hq
  have hF3 : ¬ F3 q := fun hk => by rcases hU.new q hk with h1 | h1; exact hnF h1; omega
  go_wp2_with fail
  go_ret
  have e1 : (bits .and .u64 ((flagsOf i c o : Nat) : Int) 1 != 0) = i := by cases i <;> cases c <;> cases o <;> decide +kernel
  have e2 : (bits .and .u64 ((flagsOf i c o : Nat) : Int) 2 != 0) = c := by cases i <;> cases c <;> cases o <;> decide +kernel
  have e3 : (bits .and .u64 ((flagsOf i c o : Nat) : Int) 4 != 0) = o := by cases i <;> cases c <;> cases o <;> decide +kernel
  rw [e1, e2, e3]
  have hC : ∀ (W : World) (j : Nat) (u : Value), Chg (· = q) W (W.setCell ⟨q, j, none⟩ u) := fun W j u => (Chg.refl (· = q) W).setCell (.inl rfl) u
  have tr : ∀ {a b c : World}, Chg (· = q) a b → Chg (· = q) b c → Chg (· = q) a c := fun h k => h.trans k fun _ _ h => h
  have hAll := tr (tr (tr (tr (hC w3 0 (.string ⟨k.toArray⟩)) (hC _ 2 (.bool i))) (hC _ 3 (.bool c))) (hC _ 4 (.bool o))) (hC _ 1 (.string ⟨v.toArray⟩))
  refine ⟨rfl, F3, cur3, ?_, ?_, ?_⟩
  · exact hr3.upd hAll (fun j hj e => hF3 (e ▸ hj)) (fun j hj e => hnD (e ▸ hj))
  · exact row_set (row_set (row_set (row_set (row_set HQ3.out 0 _) 2 _) 3 _) 4 _) 1 _
  · exact (hU.chg.mono fun _ _ h => .inl h).trans (hAll.mono (G := fun j => F j ∨ j = q) fun _ _ h => .inr h) fun _ _ h => h
theorem wrapfErr (w : World) (T : TypeId) (x y : Value) (s : ByteArray) : Calls Try.prog 77 #[.iface T x, .string s, y] w fun e w' => (∃ a, e = .returned (.iface 189 (.pointer (some a)))) ∧ Below w.heap.size w w' := by
  go_enter Try.func77, Try.ntmps77
  go_wp2_with (go_at_call 75; refine (wrapErr _ _ _ _).mono ?_; rintro e w2 ⟨⟨a2, rfl⟩, hb2⟩)
  go_ret
  exact ⟨⟨_, rfl⟩, hb2⟩

theorem decBad_of {w w1 w2 : World} {F F1 : Nat → Prop} {q : Nat} {a : Addr} (hu : Upd w w1 F F1) (hb : Below w1.heap.size w1 w2) :
    DecBad w F q (.returned (.iface 189 (.pointer (some a)))) w2 :=
  ⟨a, rfl, (hu.below hb).chg.mono fun _ _ h => .inl h⟩

set_option maxRecDepth 100000 in
theorem setDecode_short (w : World) (F D : Nat → Prop) (r q : Nat) (k v bs : List UInt8) (i c o : Bool) (hk : k.length ≤ 100) (hv : v.length ≤ 100) (hne : k ≠ []) (hs : Short bs (setBytes k v i c o))
    (h : Ready w F D r q 80 5 bs) :
    Calls Try.prog 48 #[.pointer (some ⟨q, 0, none⟩), .pointer (some ⟨r, 0, none⟩)] w (DecBad w F q) := by
  obtain ⟨⟨cur, hr⟩, -, -, -⟩ := h
  have hl := setBytes_le k v i c o hk hv
  have hfl : flagsOf i c o < 18446744073709551616 := by unfold flagsOf bN; split <;> split <;> split <;> omega
  have HFL := Lib.hid hfl
  have hne1 : (k == []) = false := by simpa using hne
  have hle := hs.lt
  clear hfl hne
  unfold setBytes at hs hl hle
  rcases hs.split with hs1 | ⟨r1, rfl, hs1⟩
  · go_enter Try.func48, Try.ntmps48
    go_wp2_with fail
    refine (str_short _ F D r k bs cur hr hs1 (by omega)).mono ?_
    rintro e w1 ⟨a1, F1, cur1, rfl, hr1, hu1⟩
    go_wp2_with fail
    refine (wrapErr _ _ _ _).mono ?_
    rintro e w2 ⟨⟨a2, rfl⟩, hb2⟩
    go_wp2_with fail
    go_ret
    exact decBad_of hu1 hb2
  · rcases hs1.split with hs2 | ⟨r2, rfl, hs2⟩
    · go_enter Try.func48, Try.ntmps48
      go_wp2_with fail
      refine (str _ F D r k _ cur hr (by omega)).mono ?_
      rintro e w1 ⟨rfl, F1, cur1, hr1, hu1⟩
      go_wp2_with fail
      refine (uvarint_short _ F1 D r (flagsOf i c o) r1 cur1 HFL.out hr1 hs2).mono ?_
      rintro e w2 ⟨a2, F2, cur2, rfl, hr2, hu2⟩
      go_wp2_with fail
      refine (wrapErr _ _ _ _).mono ?_
      rintro e w3 ⟨⟨a3, rfl⟩, hb3⟩
      go_wp2_with fail
      go_ret
      exact decBad_of (hu1.trans hu2) hb3
    · have hle2 := hs2.lt
      go_enter Try.func48, Try.ntmps48
      go_wp2_with fail
      refine (str _ F D r k _ cur hr (by omega)).mono ?_
      rintro e w1 ⟨rfl, F1, cur1, hr1, hu1⟩
      go_wp2_with fail
      refine (uvarint _ F1 D r (flagsOf i c o) r2 cur1 HFL.out hr1 (by simp; omega)).mono ?_
      rintro e w2 ⟨rfl, F2, cur2, hr2, hu2⟩
      go_wp2_with fail
      refine (str_short _ F2 D r v r2 cur2 hr2 hs2 (by omega)).mono ?_
      rintro e w3 ⟨a3, F3, cur3, rfl, hr3, hu3⟩
      go_wp2_with fail
      refine (wrapfErr _ _ _ _ _).mono ?_
      rintro e w4 ⟨⟨a4, rfl⟩, hb4⟩
      go_wp2_with fail
      go_ret
      exact decBad_of (hu1.trans (hu2.trans hu3)) (((Below.refl _ w3).alloc (Nat.le_refl _) _).trans (hb4.mono (by simp)))
theorem own_setDecode : Own 48 := fun _ _ => by kernel_rfl

theorem chg_below {w w0 w' : World} {q : Nat} (hb : Below w.heap.size w w0) (hc : Chg (· = q) w0 w') (hq : w.heap.size ≤ q) : Below w.heap.size w w' :=
  hb.trans (hc.below hb.size fun k hk => by omega)

theorem settingOf (w : World) (k v : ByteArray) (i c o : Bool) :
    Calls Try.prog 49 #[.agg #[.string k, .string v, .bool i, .bool c, .bool o]] w fun e w' => e = .returned (.agg #[.string k, .string v, .bool i, .bool c, .bool o]) ∧ Below w.heap.size w w' := by
  go_enter Try.func49, Try.ntmps49
  go_wp2
  refine bodyPost_ret (v := .agg #[.string k, .string v, .bool i, .bool c, .bool o]) (by simp [results, Try.results49, go_sem]) rfl ⟨rfl, ?_⟩
  exact ((Below.refl _ w).alloc (Nat.le_refl _) _).alloc (by simp) _

set_option maxRecDepth 100000 in
theorem pkSettingGet (w : World) (x : Value) (k v tail : List UInt8) (i c o : Bool) (hk : k.length ≤ 100) (hv : v.length ≤ 100) (hne : k ≠ []) (ht : tail.length ≤ 100)
    (hx : BytesAt w x (setBytes k v i c o ++ tail)) (hD : ∀ g, x.ownBlock = some g → g < w.heap.size) :
    Calls Try.prog 15 #[x] w fun e w' => e = .returned (.tuple #[.agg #[.string ⟨k.toArray⟩, .string ⟨v.toArray⟩, .bool i, .bool c, .bool o], .int .i64 tail.length, .bool true]) ∧ Below w.heap.size w w' := by
  have HD := Lib.hid hD
  clear hD
  go_enter Try.func15, Try.ntmps15
  go_wp2_with fail
  refine (got_ok _ x _ _ tail (w.heap.size + 1) 5 80 _ _ ((hx.alloc _).alloc _) (fun g h => by have := HD.out g h; simp; omega) ⟨_, rfl, by
      have := heap_alloc_new (w.alloc (.cells #[.string ⟨#[]⟩, .string ⟨#[]⟩, .bool false, .bool false, .bool false] 23)) (.cells #[.string ⟨#[]⟩, .string ⟨#[]⟩, .bool false, .bool false, .bool false] 80)
      simpa using this⟩ own_setDecode
    (fun w1 F D r h => setDecode w1 F D r _ k v tail i c o hk hv hne ht h)).mono ?_
  rintro e w1 ⟨rfl, hc1, hq1⟩
  have hs1 := hc1.size
  simp at hs1
  obtain ⟨x0, x1, x2, x3, x4⟩ : (w1.cell? ⟨w.heap.size + 1, 0, none⟩ = some (.string ⟨k.toArray⟩)) ∧ (w1.cell? ⟨w.heap.size + 1, 1, none⟩ = some (.string ⟨v.toArray⟩)) ∧ (w1.cell? ⟨w.heap.size + 1, 2, none⟩ = some (.bool i)) ∧ (w1.cell? ⟨w.heap.size + 1, 3, none⟩ = some (.bool c)) ∧ (w1.cell? ⟨w.heap.size + 1, 4, none⟩ = some (.bool o)) := by
    simp [World.cell?, hq1]
  have hq0 : w1.heap[w.heap.size]? = some (.cells [Value.string ⟨#[]⟩, .string ⟨#[]⟩, .bool false, .bool false, .bool false].toArray 23 (0, 0)) := by
    rw [hc1.block _ (by simp; omega) (by omega), Below.heap_alloc _ _ _ (by simp)]; exact heap_alloc_new _ _
  have hsz : w.heap.size < w1.heap.size := by omega
  have HB := Lib.hid (chg_below (((Below.refl _ w).alloc (Nat.le_refl _) _).alloc (by simp) _) hc1 (by omega))
  have HQ0 := Lib.hid hq0
  clear hq0 hq1 hc1
  go_wp2_with (go_at_call 49; refine (settingOf _ _ _ _ _ _).mono ?_; rintro e w2 ⟨rfl, hb2⟩; have hq2 : w2.heap[w.heap.size]? = some (.cells [Value.string ⟨#[]⟩, .string ⟨#[]⟩, .bool false, .bool false, .bool false].toArray 23 (0, 0)) := (by rw [hb2.block _ hsz]; exact HQ0.out); have z : ∀ j, w2.frozen? ⟨w.heap.size, j, none⟩ = false := (fun j => by simp [World.frozen?, hq2]); obtain ⟨y0, y1, y2, y3, y4⟩ : (w2.cell? ⟨w.heap.size, 0, none⟩ = some (.string ⟨#[]⟩)) ∧ (w2.cell? ⟨w.heap.size, 1, none⟩ = some (.string ⟨#[]⟩)) ∧ (w2.cell? ⟨w.heap.size, 2, none⟩ = some (.bool false)) ∧ (w2.cell? ⟨w.heap.size, 3, none⟩ = some (.bool false)) ∧ (w2.cell? ⟨w.heap.size, 4, none⟩ = some (.bool false)) := (by simp [World.cell?, hq2]); clear hq2)
  refine bodyPost_ret (v := .tuple #[.agg #[.string ⟨k.toArray⟩, .string ⟨v.toArray⟩, .bool i, .bool c, .bool o], .int .i64 tail.length, .bool true]) (by simp [results, Try.results15, go_sem, y0, y1, y2, y3, y4]) rfl ⟨rfl, ?_⟩
  have h2 : Below w.heap.size w w2 := HB.out.trans (hb2.mono (by omega))
  exact ((((h2.setCell (Nat.le_refl _) _).setCell (Nat.le_refl _) _).setCell (Nat.le_refl _) _).setCell (Nat.le_refl _) _).setCell (Nat.le_refl _) _

set_option maxRecDepth 100000 in
theorem pkSettingGet_bad (w : World) (x : Value) (k v bs : List UInt8) (i c o : Bool) (hk : k.length ≤ 100) (hv : v.length ≤ 100) (hne : k ≠ []) (hs : Short bs (setBytes k v i c o))
    (hx : BytesAt w x bs) (hD : ∀ g, x.ownBlock = some g → g < w.heap.size) :
    Calls Try.prog 15 #[x] w fun e w' => e = .returned (.tuple #[.agg #[.string ⟨#[]⟩, .string ⟨#[]⟩, .bool false, .bool false, .bool false], .int .i64 0, .bool false]) ∧ Below w.heap.size w w' := by
  have HD := Lib.hid hD
  clear hD
  go_enter Try.func15, Try.ntmps15
  go_wp2_with fail
  refine (got_bad _ x _ _ (w.heap.size + 1) 5 80 _ ((hx.alloc _).alloc _) (fun g h => by have := HD.out g h; simp; omega) ⟨_, rfl, by
      have := heap_alloc_new (w.alloc (.cells #[.string ⟨#[]⟩, .string ⟨#[]⟩, .bool false, .bool false, .bool false] 23)) (.cells #[.string ⟨#[]⟩, .string ⟨#[]⟩, .bool false, .bool false, .bool false] 80)
      simpa using this⟩ own_setDecode
    (fun w1 F D r h => setDecode_short w1 F D r _ k v bs i c o hk hv hne hs h)).mono ?_
  rintro e w1 ⟨rfl, hc1⟩
  have hs1 := hc1.size
  simp at hs1
  have hq0 : w1.heap[w.heap.size]? = some (.cells [Value.string ⟨#[]⟩, .string ⟨#[]⟩, .bool false, .bool false, .bool false].toArray 23 (0, 0)) := by
    rw [hc1.block _ (by simp; omega) (by omega), Below.heap_alloc _ _ _ (by simp)]; exact heap_alloc_new _ _
  have z : ∀ j, w1.frozen? ⟨w.heap.size, j, none⟩ = false := fun j => by simp [World.frozen?, hq0]
  obtain ⟨y0, y1, y2, y3, y4⟩ : (w1.cell? ⟨w.heap.size, 0, none⟩ = some (.string ⟨#[]⟩)) ∧ (w1.cell? ⟨w.heap.size, 1, none⟩ = some (.string ⟨#[]⟩)) ∧ (w1.cell? ⟨w.heap.size, 2, none⟩ = some (.bool false)) ∧ (w1.cell? ⟨w.heap.size, 3, none⟩ = some (.bool false)) ∧ (w1.cell? ⟨w.heap.size, 4, none⟩ = some (.bool false)) := by
    simp [World.cell?, hq0]
  have HB := Lib.hid (chg_below (((Below.refl _ w).alloc (Nat.le_refl _) _).alloc (by simp) _) hc1 (by omega))
  clear hq0 hc1
  go_wp2_with fail
  refine bodyPost_ret (v := .tuple #[.agg #[.string ⟨#[]⟩, .string ⟨#[]⟩, .bool false, .bool false, .bool false], .int .i64 0, .bool false]) (by simp [results, Try.results15, go_sem, y0, y1, y2, y3, y4]) rfl ⟨rfl, ?_⟩
  exact ((((HB.out.setCell (Nat.le_refl _) _).setCell (Nat.le_refl _) _).setCell (Nat.le_refl _) _).setCell (Nat.le_refl _) _).setCell (Nat.le_refl _) _
end Go.Proofs.Ytlohpmncagfecaa
