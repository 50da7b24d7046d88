/- ServerHello: its bytes, EncodeAware, DecodeAware. -/
import Derived.Test.YtlohpmncagfecaaFeat
namespace Go.Proofs.Ytlohpmncagfecaa
open Go.RowKit
set_option linter.unusedSimpArgs false
set_option linter.unusedVariables false

def mSrv2Bytes (m : ByteArray) (a : Nat) (b : Nat) (c : Nat) (y : ByteArray) (d : ByteArray) (u : Nat) : List UInt8 := strBytes m.data.toList ++ (uv a ++ (uv b ++ (uv c ++ (strBytes y.data.toList ++ (strBytes d.data.toList)))))
def mSrv2Vals (m : ByteArray) (a : Nat) (b : Nat) (c : Nat) (y : ByteArray) (d : ByteArray) (u : Nat) : List Value := [Value.string m, Value.int .i64 (a : Nat), Value.int .i64 (b : Nat), Value.int .i64 (c : Nat), Value.string y, Value.string d, Value.int .i64 (u : Nat)]
theorem mSrv2Lens (m : ByteArray) (a : Nat) (b : Nat) (c : Nat) (y : ByteArray) (d : ByteArray) (u : Nat) (hm : m.size ≤ 100) (ha : a ≤ 9223372036854775807) (hb : b ≤ 9223372036854775807) (hc : c ≤ 9223372036854775807) (hy : y.size ≤ 100) (hd : d.size ≤ 100) (hu : u ≤ 9223372036854775807) : (strBytes m.data.toList).length ≤ 110 ∧ (uv a).length ≤ 10 ∧ (uv b).length ≤ 10 ∧ (uv c).length ≤ 10 ∧ (strBytes y.data.toList).length ≤ 110 ∧ (strBytes d.data.toList).length ≤ 110 := by
  exact ⟨strBytes_le m hm, uv_length_le 10 a (by omega) (by omega), uv_length_le 10 b (by omega) (by omega), uv_length_le 10 c (by omega) (by omega), strBytes_le y hy, strBytes_le d hd⟩
theorem mSrv2Len (m : ByteArray) (a : Nat) (b : Nat) (c : Nat) (y : ByteArray) (d : ByteArray) (u : Nat) (hm : m.size ≤ 100) (ha : a ≤ 9223372036854775807) (hb : b ≤ 9223372036854775807) (hc : c ≤ 9223372036854775807) (hy : y.size ≤ 100) (hd : d.size ≤ 100) (hu : u ≤ 9223372036854775807) : (mSrv2Bytes m a b c y d u).length ≤ 1000 := by
  have h := mSrv2Lens m a b c y d u hm ha hb hc hy hd hu
  unfold mSrv2Bytes
  simp only [List.length_append, List.length_cons, List.length_nil] at h ⊢
  omega

set_option maxRecDepth 100000 in
theorem mSrv2Encode (w : World) (F : Nat → Prop) (p q : Nat) (m : ByteArray) (a : Nat) (b : Nat) (c : Nat) (y : ByteArray) (d : ByteArray) (u : Nat) (hm : m.size ≤ 100) (ha : a ≤ 9223372036854775807) (hb : b ≤ 9223372036854775807) (hc : c ≤ 9223372036854775807) (hy : y.size ≤ 100) (hd : d.size ≤ 100) (hu : u ≤ 9223372036854775807) (ver : Int) (hv1 : 54372 ≤ ver) (hv2 : ver < 54401) (h : BufAt w F 119 p []) (hF : In F w) (hq : RowIs w q (mSrv2Vals m a b c y d u)) (hn : ¬ F q) :
    Calls Try.prog 160 #[.pointer (some ⟨q, 0, none⟩), .pointer (some ⟨p, 0, none⟩), .int .i64 ver] w (Put w F 119 p (0 :: mSrv2Bytes m a b c y d u)) := by
  have HL := Lib.hid (mSrv2Lens m a b c y d u hm ha hb hc hy hd hu)
  have Ha := Lib.hid ha
  clear ha
  have Hb := Lib.hid hb
  clear hb
  have Hc := Lib.hid hc
  clear hc
  have Hu := Lib.hid hu
  clear hu
  unfold mSrv2Vals at hq
  have es0 : ES w F w F p [] q (.string m) [.int .i64 (a : Nat), .int .i64 (b : Nat), .int .i64 (c : Nat), .string y, .string d, .int .i64 (u : Nat)] := ⟨h, hF, Upd.refl _ _, hq, hn⟩
  clear h hF hq hn
  go_enter Try.func160, Try.ntmps160
  have c0_0 := es0.row 0 _ rfl
  have c0_1 := es0.row 1 _ rfl
  have c0_2 := es0.row 2 _ rfl
  have c0_3 := es0.row 3 _ rfl
  have c0_4 := es0.row 4 _ rfl
  have c0_5 := es0.row 5 _ rfl
  have c0_6 := es0.row 6 _ rfl
  go_wp2_with (go_at_call 162; first | (refine (featYes _ _ _ (by omega)).mono ?_; rintro e wq ⟨rfl, rfl⟩) | (refine (featNo _ _ _ (by omega)).mono ?_; rintro e wq ⟨rfl, rfl⟩))
  refine (enc_sc1 _ _ p [] 0 es0.buf).mono ?_
  intro e w1 hp
  obtain ⟨F1, rfl, es1⟩ := es0.step hp
  clear hp
  have c1_0 := es1.row 0 _ rfl
  have c1_1 := es1.row 1 _ rfl
  have c1_2 := es1.row 2 _ rfl
  have c1_3 := es1.row 3 _ rfl
  have c1_4 := es1.row 4 _ rfl
  have c1_5 := es1.row 5 _ rfl
  have c1_6 := es1.row 6 _ rfl
  go_wp2_with (go_at_call 162; first | (refine (featYes _ _ _ (by omega)).mono ?_; rintro e wq ⟨rfl, rfl⟩) | (refine (featNo _ _ _ (by omega)).mono ?_; rintro e wq ⟨rfl, rfl⟩))
  refine (putStr _ _ p _ m es1.buf es1.inn (by omega) (by have := HL.out; (try simp only [List.length_append, List.length_cons, List.length_nil] at this ⊢); omega)).mono ?_
  intro e w2 hp
  obtain ⟨F2, rfl, es2⟩ := es1.step hp
  clear hp es1 c1_0 c1_1 c1_2 c1_3 c1_4 c1_5 c1_6
  have c2_0 := es2.row 0 _ rfl
  have c2_1 := es2.row 1 _ rfl
  have c2_2 := es2.row 2 _ rfl
  have c2_3 := es2.row 3 _ rfl
  have c2_4 := es2.row 4 _ rfl
  have c2_5 := es2.row 5 _ rfl
  have c2_6 := es2.row 6 _ rfl
  go_wp2_with (go_at_call 162; first | (refine (featYes _ _ _ (by omega)).mono ?_; rintro e wq ⟨rfl, rfl⟩) | (refine (featNo _ _ _ (by omega)).mono ?_; rintro e wq ⟨rfl, rfl⟩))
  refine (putInt _ _ p _ a Ha.out es2.buf es2.inn (by have := HL.out; (try simp only [List.length_append, List.length_cons, List.length_nil] at this ⊢); omega)).mono ?_
  intro e w3 hp
  obtain ⟨F3, rfl, es3⟩ := es2.step hp
  clear hp es2 c2_0 c2_1 c2_2 c2_3 c2_4 c2_5 c2_6
  have c3_0 := es3.row 0 _ rfl
  have c3_1 := es3.row 1 _ rfl
  have c3_2 := es3.row 2 _ rfl
  have c3_3 := es3.row 3 _ rfl
  have c3_4 := es3.row 4 _ rfl
  have c3_5 := es3.row 5 _ rfl
  have c3_6 := es3.row 6 _ rfl
  go_wp2_with (go_at_call 162; first | (refine (featYes _ _ _ (by omega)).mono ?_; rintro e wq ⟨rfl, rfl⟩) | (refine (featNo _ _ _ (by omega)).mono ?_; rintro e wq ⟨rfl, rfl⟩))
  refine (putInt _ _ p _ b Hb.out es3.buf es3.inn (by have := HL.out; (try simp only [List.length_append, List.length_cons, List.length_nil] at this ⊢); omega)).mono ?_
  intro e w4 hp
  obtain ⟨F4, rfl, es4⟩ := es3.step hp
  clear hp es3 c3_0 c3_1 c3_2 c3_3 c3_4 c3_5 c3_6
  have c4_0 := es4.row 0 _ rfl
  have c4_1 := es4.row 1 _ rfl
  have c4_2 := es4.row 2 _ rfl
  have c4_3 := es4.row 3 _ rfl
  have c4_4 := es4.row 4 _ rfl
  have c4_5 := es4.row 5 _ rfl
  have c4_6 := es4.row 6 _ rfl
  go_wp2_with (go_at_call 162; first | (refine (featYes _ _ _ (by omega)).mono ?_; rintro e wq ⟨rfl, rfl⟩) | (refine (featNo _ _ _ (by omega)).mono ?_; rintro e wq ⟨rfl, rfl⟩))
  refine (putInt _ _ p _ c Hc.out es4.buf es4.inn (by have := HL.out; (try simp only [List.length_append, List.length_cons, List.length_nil] at this ⊢); omega)).mono ?_
  intro e w5 hp
  obtain ⟨F5, rfl, es5⟩ := es4.step hp
  clear hp es4 c4_0 c4_1 c4_2 c4_3 c4_4 c4_5 c4_6
  have c5_0 := es5.row 0 _ rfl
  have c5_1 := es5.row 1 _ rfl
  have c5_2 := es5.row 2 _ rfl
  have c5_3 := es5.row 3 _ rfl
  have c5_4 := es5.row 4 _ rfl
  have c5_5 := es5.row 5 _ rfl
  have c5_6 := es5.row 6 _ rfl
  go_wp2_with (go_at_call 162; first | (refine (featYes _ _ _ (by omega)).mono ?_; rintro e wq ⟨rfl, rfl⟩) | (refine (featNo _ _ _ (by omega)).mono ?_; rintro e wq ⟨rfl, rfl⟩))
  refine (putStr _ _ p _ y es5.buf es5.inn (by omega) (by have := HL.out; (try simp only [List.length_append, List.length_cons, List.length_nil] at this ⊢); omega)).mono ?_
  intro e w6 hp
  obtain ⟨F6, rfl, es6⟩ := es5.step hp
  clear hp es5 c5_0 c5_1 c5_2 c5_3 c5_4 c5_5 c5_6
  have c6_0 := es6.row 0 _ rfl
  have c6_1 := es6.row 1 _ rfl
  have c6_2 := es6.row 2 _ rfl
  have c6_3 := es6.row 3 _ rfl
  have c6_4 := es6.row 4 _ rfl
  have c6_5 := es6.row 5 _ rfl
  have c6_6 := es6.row 6 _ rfl
  go_wp2_with (go_at_call 162; first | (refine (featYes _ _ _ (by omega)).mono ?_; rintro e wq ⟨rfl, rfl⟩) | (refine (featNo _ _ _ (by omega)).mono ?_; rintro e wq ⟨rfl, rfl⟩))
  refine (putStr _ _ p _ d es6.buf es6.inn (by omega) (by have := HL.out; (try simp only [List.length_append, List.length_cons, List.length_nil] at this ⊢); omega)).mono ?_
  intro e w7 hp
  obtain ⟨F7, rfl, es7⟩ := es6.step hp
  clear hp es6 c6_0 c6_1 c6_2 c6_3 c6_4 c6_5 c6_6
  have c7_0 := es7.row 0 _ rfl
  have c7_1 := es7.row 1 _ rfl
  have c7_2 := es7.row 2 _ rfl
  have c7_3 := es7.row 3 _ rfl
  have c7_4 := es7.row 4 _ rfl
  have c7_5 := es7.row 5 _ rfl
  have c7_6 := es7.row 6 _ rfl
  go_wp2_with (go_at_call 162; first | (refine (featYes _ _ _ (by omega)).mono ?_; rintro e wq ⟨rfl, rfl⟩) | (refine (featNo _ _ _ (by omega)).mono ?_; rintro e wq ⟨rfl, rfl⟩))
  go_returns
  have h := es7.put
  unfold mSrv2Bytes
  simpa using h

set_option maxRecDepth 100000 in
theorem mSrv2Decode (w : World) (F D : Nat → Prop) (r q : Nat) (tail : List UInt8) (m : ByteArray) (a : Nat) (b : Nat) (c : Nat) (y : ByteArray) (d : ByteArray) (u : Nat) (hm : m.size ≤ 100) (ha : a ≤ 9223372036854775807) (hb : b ≤ 9223372036854775807) (hc : c ≤ 9223372036854775807) (hy : y.size ≤ 100) (hd : d.size ≤ 100) (hu : u ≤ 9223372036854775807) (ver : Int) (ht : tail.length ≤ 100) (hv1 : 54372 ≤ ver) (hv2 : ver < 54401) (hz : w.heap[q]? = some (.cells ([Value.string ⟨#[]⟩, Value.int .i64 0, Value.int .i64 0, Value.int .i64 0, Value.string ⟨#[]⟩, Value.string ⟨#[]⟩, Value.int .i64 0] : List Value).toArray 112 (0, 0))) (h : Ready w F D r q 112 7 (mSrv2Bytes m a b c y d u ++ tail)) :
    Calls Try.prog 159 #[.pointer (some ⟨q, 0, none⟩), .pointer (some ⟨r, 0, none⟩), .int .i64 ver] w (DecOk w F D r q 112 tail [Value.string ⟨m.data.toList.toArray⟩, Value.int .i64 (a : Nat), Value.int .i64 (b : Nat), Value.int .i64 (c : Nat), Value.string ⟨y.data.toList.toArray⟩, Value.string ⟨d.data.toList.toArray⟩, Value.int .i64 0]) := by
  have HL := Lib.hid (mSrv2Lens m a b c y d u hm ha hb hc hy hd hu)
  have Ha := Lib.hid ha
  clear ha
  have Hb := Lib.hid hb
  clear hb
  have Hc := Lib.hid hc
  clear hc
  have Hu := Lib.hid hu
  clear hu
  have rs0 := h.rs0 hz
  clear h hz
  unfold mSrv2Bytes at rs0
  simp only [List.append_assoc, List.cons_append, List.nil_append] at rs0
  go_enter Try.func159, Try.ntmps159
  obtain ⟨u0, hr0⟩ := rs0.rd
  go_wp2_with (go_at_call 162; first | (refine (featYes _ _ _ (by omega)).mono ?_; rintro e wq ⟨rfl, rfl⟩) | (refine (featNo _ _ _ (by omega)).mono ?_; rintro e wq ⟨rfl, rfl⟩))
  refine (str _ _ D r m.data.toList _ u0 hr0 (by have := HL.out; (try simp only [List.length_append, List.length_cons, List.length_nil] at this ⊢); omega)).mono ?_
  rintro e w0 ⟨rfl, F0, x0, hx0, hu0⟩
  have rt0 := rs0.read hx0 hu0
  obtain ⟨ce0, cf0⟩ := rt0.cell 0 _ rfl
  have rs1 := rt0.store 0 (.string ⟨m.data.toList.toArray⟩)
  obtain ⟨u1, hr1⟩ := rs1.rd
  go_wp2_with (go_at_call 162; first | (refine (featYes _ _ _ (by omega)).mono ?_; rintro e wq ⟨rfl, rfl⟩) | (refine (featNo _ _ _ (by omega)).mono ?_; rintro e wq ⟨rfl, rfl⟩))
  refine (rdInt _ _ D r a _ u1 Ha.out hr1 (by have := HL.out; (try simp only [List.length_append, List.length_cons, List.length_nil] at this ⊢); omega)).mono ?_
  rintro e w1 ⟨rfl, F1, x1, hx1, hu1⟩
  have rt1 := rs1.read hx1 hu1
  have rs2 := rt1
  obtain ⟨u2, hr2⟩ := rs2.rd
  go_wp2_with (go_at_call 162; first | (refine (featYes _ _ _ (by omega)).mono ?_; rintro e wq ⟨rfl, rfl⟩) | (refine (featNo _ _ _ (by omega)).mono ?_; rintro e wq ⟨rfl, rfl⟩))
  refine (rdInt _ _ D r b _ u2 Hb.out hr2 (by have := HL.out; (try simp only [List.length_append, List.length_cons, List.length_nil] at this ⊢); omega)).mono ?_
  rintro e w2 ⟨rfl, F2, x2, hx2, hu2⟩
  have rt2 := rs2.read hx2 hu2
  have rs3 := rt2
  obtain ⟨u3, hr3⟩ := rs3.rd
  go_wp2_with (go_at_call 162; first | (refine (featYes _ _ _ (by omega)).mono ?_; rintro e wq ⟨rfl, rfl⟩) | (refine (featNo _ _ _ (by omega)).mono ?_; rintro e wq ⟨rfl, rfl⟩))
  refine (rdInt _ _ D r c _ u3 Hc.out hr3 (by have := HL.out; (try simp only [List.length_append, List.length_cons, List.length_nil] at this ⊢); omega)).mono ?_
  rintro e w3 ⟨rfl, F3, x3, hx3, hu3⟩
  have rt3 := rs3.read hx3 hu3
  obtain ⟨ce3_0, cf3_0⟩ := rt3.cell 1 _ rfl
  obtain ⟨ce3_1, cf3_1⟩ := rt3.cell 2 _ rfl
  obtain ⟨ce3_2, cf3_2⟩ := rt3.cell 3 _ rfl
  have rs4 := (((rt3.store 1 (.int .i64 (a : Nat))).store 2 (.int .i64 (b : Nat))).store 3 (.int .i64 (c : Nat)))
  obtain ⟨u4, hr4⟩ := rs4.rd
  go_wp2_with (go_at_call 162; first | (refine (featYes _ _ _ (by omega)).mono ?_; rintro e wq ⟨rfl, rfl⟩) | (refine (featNo _ _ _ (by omega)).mono ?_; rintro e wq ⟨rfl, rfl⟩))
  refine (str _ _ D r y.data.toList _ u4 hr4 (by have := HL.out; (try simp only [List.length_append, List.length_cons, List.length_nil] at this ⊢); omega)).mono ?_
  rintro e w4 ⟨rfl, F4, x4, hx4, hu4⟩
  have rt4 := rs4.read hx4 hu4
  obtain ⟨ce4, cf4⟩ := rt4.cell 4 _ rfl
  have rs5 := rt4.store 4 (.string ⟨y.data.toList.toArray⟩)
  obtain ⟨u5, hr5⟩ := rs5.rd
  go_wp2_with (go_at_call 162; first | (refine (featYes _ _ _ (by omega)).mono ?_; rintro e wq ⟨rfl, rfl⟩) | (refine (featNo _ _ _ (by omega)).mono ?_; rintro e wq ⟨rfl, rfl⟩))
  refine (str _ _ D r d.data.toList _ u5 hr5 (by have := HL.out; (try simp only [List.length_append, List.length_cons, List.length_nil] at this ⊢); omega)).mono ?_
  rintro e w5 ⟨rfl, F5, x5, hx5, hu5⟩
  have rt5 := rs5.read hx5 hu5
  obtain ⟨ce5, cf5⟩ := rt5.cell 5 _ rfl
  have rs6 := rt5.store 5 (.string ⟨d.data.toList.toArray⟩)
  go_wp2_with (go_at_call 162; first | (refine (featYes _ _ _ (by omega)).mono ?_; rintro e wq ⟨rfl, rfl⟩) | (refine (featNo _ _ _ (by omega)).mono ?_; rintro e wq ⟨rfl, rfl⟩))
  go_ret
  exact rs6.ok

set_option maxRecDepth 100000 in
theorem mSrv2Short0 (w : World) (F D : Nat → Prop) (r q : Nat) (bs : List UInt8) (m : ByteArray) (a : Nat) (b : Nat) (c : Nat) (y : ByteArray) (d : ByteArray) (u : Nat) (hm : m.size ≤ 100) (ha : a ≤ 9223372036854775807) (hb : b ≤ 9223372036854775807) (hc : c ≤ 9223372036854775807) (hy : y.size ≤ 100) (hd : d.size ≤ 100) (hu : u ≤ 9223372036854775807) (ver : Int) (hv1 : 54372 ≤ ver) (hv2 : ver < 54401) (hs : Short bs (strBytes m.data.toList)) (h : Ready w F D r q 112 7 (bs)) :
    Calls Try.prog 159 #[.pointer (some ⟨q, 0, none⟩), .pointer (some ⟨r, 0, none⟩), .int .i64 ver] w (DecBad w F q) := by
  have HL := Lib.hid (mSrv2Lens m a b c y d u hm ha hb hc hy hd hu)
  have Ha := Lib.hid ha
  clear ha
  have Hb := Lib.hid hb
  clear hb
  have Hc := Lib.hid hc
  clear hc
  have Hu := Lib.hid hu
  clear hu
  obtain ⟨row, hl, rs0⟩ := h.rs
  obtain ⟨o0, o1, o2, o3, o4, o5, o6, rfl⟩ := list7 hl
  clear h hl
  have hbl := hs.lt
  go_enter Try.func159, Try.ntmps159
  obtain ⟨u0, hr0⟩ := rs0.rd
  go_wp2_with (go_at_call 162; first | (refine (featYes _ _ _ (by omega)).mono ?_; rintro e wq ⟨rfl, rfl⟩) | (refine (featNo _ _ _ (by omega)).mono ?_; rintro e wq ⟨rfl, rfl⟩))
  refine (str_short _ _ D r m.data.toList _ u0 hr0 hs (by have := HL.out; (try simp only [List.length_append, List.length_cons, List.length_nil] at this ⊢); omega)).mono ?_
  rintro e w0 ⟨a0, F0, x0, rfl, hx0, hu0⟩
  go_wp2_with (go_at_call 162; first | (refine (featYes _ _ _ (by omega)).mono ?_; rintro e wq ⟨rfl, rfl⟩) | (refine (featNo _ _ _ (by omega)).mono ?_; rintro e wq ⟨rfl, rfl⟩))
  refine (wrapErr _ _ _ _).mono ?_
  rintro e wz ⟨⟨az, rfl⟩, hbz⟩
  go_wp2_with (go_at_call 162; first | (refine (featYes _ _ _ (by omega)).mono ?_; rintro e wq ⟨rfl, rfl⟩) | (refine (featNo _ _ _ (by omega)).mono ?_; rintro e wq ⟨rfl, rfl⟩))
  go_ret
  exact rs0.bad hx0 hu0 hbz

set_option maxRecDepth 100000 in
theorem mSrv2Short1 (w : World) (F D : Nat → Prop) (r q : Nat) (bs : List UInt8) (m : ByteArray) (a : Nat) (b : Nat) (c : Nat) (y : ByteArray) (d : ByteArray) (u : Nat) (hm : m.size ≤ 100) (ha : a ≤ 9223372036854775807) (hb : b ≤ 9223372036854775807) (hc : c ≤ 9223372036854775807) (hy : y.size ≤ 100) (hd : d.size ≤ 100) (hu : u ≤ 9223372036854775807) (ver : Int) (hv1 : 54372 ≤ ver) (hv2 : ver < 54401) (hs : Short bs (uv a)) (h : Ready w F D r q 112 7 (strBytes m.data.toList ++ (bs))) :
    Calls Try.prog 159 #[.pointer (some ⟨q, 0, none⟩), .pointer (some ⟨r, 0, none⟩), .int .i64 ver] w (DecBad w F q) := by
  have HL := Lib.hid (mSrv2Lens m a b c y d u hm ha hb hc hy hd hu)
  have Ha := Lib.hid ha
  clear ha
  have Hb := Lib.hid hb
  clear hb
  have Hc := Lib.hid hc
  clear hc
  have Hu := Lib.hid hu
  clear hu
  obtain ⟨row, hl, rs0⟩ := h.rs
  obtain ⟨o0, o1, o2, o3, o4, o5, o6, rfl⟩ := list7 hl
  clear h hl
  have hbl := hs.lt
  try simp only [List.append_assoc, List.cons_append, List.nil_append] at rs0
  go_enter Try.func159, Try.ntmps159
  obtain ⟨u0, hr0⟩ := rs0.rd
  go_wp2_with (go_at_call 162; first | (refine (featYes _ _ _ (by omega)).mono ?_; rintro e wq ⟨rfl, rfl⟩) | (refine (featNo _ _ _ (by omega)).mono ?_; rintro e wq ⟨rfl, rfl⟩))
  refine (str _ _ D r m.data.toList _ u0 hr0 (by have := HL.out; (try simp only [List.length_append, List.length_cons, List.length_nil] at this ⊢); omega)).mono ?_
  rintro e w0 ⟨rfl, F0, x0, hx0, hu0⟩
  have rt0 := rs0.read hx0 hu0
  obtain ⟨ce0, cf0⟩ := rt0.cell 0 _ rfl
  have rs1 := rt0.store 0 (.string ⟨m.data.toList.toArray⟩)
  obtain ⟨u1, hr1⟩ := rs1.rd
  go_wp2_with (go_at_call 162; first | (refine (featYes _ _ _ (by omega)).mono ?_; rintro e wq ⟨rfl, rfl⟩) | (refine (featNo _ _ _ (by omega)).mono ?_; rintro e wq ⟨rfl, rfl⟩))
  refine (rdInt_short _ _ D r a _ u1 Ha.out hr1 hs).mono ?_
  rintro e w1 ⟨a1, F1, x1, rfl, hx1, hu1⟩
  go_wp2_with (go_at_call 162; first | (refine (featYes _ _ _ (by omega)).mono ?_; rintro e wq ⟨rfl, rfl⟩) | (refine (featNo _ _ _ (by omega)).mono ?_; rintro e wq ⟨rfl, rfl⟩))
  refine (wrapErr _ _ _ _).mono ?_
  rintro e wz ⟨⟨az, rfl⟩, hbz⟩
  go_wp2_with (go_at_call 162; first | (refine (featYes _ _ _ (by omega)).mono ?_; rintro e wq ⟨rfl, rfl⟩) | (refine (featNo _ _ _ (by omega)).mono ?_; rintro e wq ⟨rfl, rfl⟩))
  go_ret
  exact rs1.bad hx1 hu1 hbz

set_option maxRecDepth 100000 in
theorem mSrv2Short2 (w : World) (F D : Nat → Prop) (r q : Nat) (bs : List UInt8) (m : ByteArray) (a : Nat) (b : Nat) (c : Nat) (y : ByteArray) (d : ByteArray) (u : Nat) (hm : m.size ≤ 100) (ha : a ≤ 9223372036854775807) (hb : b ≤ 9223372036854775807) (hc : c ≤ 9223372036854775807) (hy : y.size ≤ 100) (hd : d.size ≤ 100) (hu : u ≤ 9223372036854775807) (ver : Int) (hv1 : 54372 ≤ ver) (hv2 : ver < 54401) (hs : Short bs (uv b)) (h : Ready w F D r q 112 7 (strBytes m.data.toList ++ (uv a ++ (bs)))) :
    Calls Try.prog 159 #[.pointer (some ⟨q, 0, none⟩), .pointer (some ⟨r, 0, none⟩), .int .i64 ver] w (DecBad w F q) := by
  have HL := Lib.hid (mSrv2Lens m a b c y d u hm ha hb hc hy hd hu)
  have Ha := Lib.hid ha
  clear ha
  have Hb := Lib.hid hb
  clear hb
  have Hc := Lib.hid hc
  clear hc
  have Hu := Lib.hid hu
  clear hu
  obtain ⟨row, hl, rs0⟩ := h.rs
  obtain ⟨o0, o1, o2, o3, o4, o5, o6, rfl⟩ := list7 hl
  clear h hl
  have hbl := hs.lt
  try simp only [List.append_assoc, List.cons_append, List.nil_append] at rs0
  go_enter Try.func159, Try.ntmps159
  obtain ⟨u0, hr0⟩ := rs0.rd
  go_wp2_with (go_at_call 162; first | (refine (featYes _ _ _ (by omega)).mono ?_; rintro e wq ⟨rfl, rfl⟩) | (refine (featNo _ _ _ (by omega)).mono ?_; rintro e wq ⟨rfl, rfl⟩))
  refine (str _ _ D r m.data.toList _ u0 hr0 (by have := HL.out; (try simp only [List.length_append, List.length_cons, List.length_nil] at this ⊢); omega)).mono ?_
  rintro e w0 ⟨rfl, F0, x0, hx0, hu0⟩
  have rt0 := rs0.read hx0 hu0
  obtain ⟨ce0, cf0⟩ := rt0.cell 0 _ rfl
  have rs1 := rt0.store 0 (.string ⟨m.data.toList.toArray⟩)
  obtain ⟨u1, hr1⟩ := rs1.rd
  go_wp2_with (go_at_call 162; first | (refine (featYes _ _ _ (by omega)).mono ?_; rintro e wq ⟨rfl, rfl⟩) | (refine (featNo _ _ _ (by omega)).mono ?_; rintro e wq ⟨rfl, rfl⟩))
  refine (rdInt _ _ D r a _ u1 Ha.out hr1 (by have := HL.out; (try simp only [List.length_append, List.length_cons, List.length_nil] at this ⊢); omega)).mono ?_
  rintro e w1 ⟨rfl, F1, x1, hx1, hu1⟩
  have rt1 := rs1.read hx1 hu1
  have rs2 := rt1
  obtain ⟨u2, hr2⟩ := rs2.rd
  go_wp2_with (go_at_call 162; first | (refine (featYes _ _ _ (by omega)).mono ?_; rintro e wq ⟨rfl, rfl⟩) | (refine (featNo _ _ _ (by omega)).mono ?_; rintro e wq ⟨rfl, rfl⟩))
  refine (rdInt_short _ _ D r b _ u2 Hb.out hr2 hs).mono ?_
  rintro e w2 ⟨a2, F2, x2, rfl, hx2, hu2⟩
  go_wp2_with (go_at_call 162; first | (refine (featYes _ _ _ (by omega)).mono ?_; rintro e wq ⟨rfl, rfl⟩) | (refine (featNo _ _ _ (by omega)).mono ?_; rintro e wq ⟨rfl, rfl⟩))
  refine (wrapErr _ _ _ _).mono ?_
  rintro e wz ⟨⟨az, rfl⟩, hbz⟩
  go_wp2_with (go_at_call 162; first | (refine (featYes _ _ _ (by omega)).mono ?_; rintro e wq ⟨rfl, rfl⟩) | (refine (featNo _ _ _ (by omega)).mono ?_; rintro e wq ⟨rfl, rfl⟩))
  go_ret
  exact rs2.bad hx2 hu2 hbz

set_option maxRecDepth 100000 in
theorem mSrv2Short3 (w : World) (F D : Nat → Prop) (r q : Nat) (bs : List UInt8) (m : ByteArray) (a : Nat) (b : Nat) (c : Nat) (y : ByteArray) (d : ByteArray) (u : Nat) (hm : m.size ≤ 100) (ha : a ≤ 9223372036854775807) (hb : b ≤ 9223372036854775807) (hc : c ≤ 9223372036854775807) (hy : y.size ≤ 100) (hd : d.size ≤ 100) (hu : u ≤ 9223372036854775807) (ver : Int) (hv1 : 54372 ≤ ver) (hv2 : ver < 54401) (hs : Short bs (uv c)) (h : Ready w F D r q 112 7 (strBytes m.data.toList ++ (uv a ++ (uv b ++ (bs))))) :
    Calls Try.prog 159 #[.pointer (some ⟨q, 0, none⟩), .pointer (some ⟨r, 0, none⟩), .int .i64 ver] w (DecBad w F q) := by
  have HL := Lib.hid (mSrv2Lens m a b c y d u hm ha hb hc hy hd hu)
  have Ha := Lib.hid ha
  clear ha
  have Hb := Lib.hid hb
  clear hb
  have Hc := Lib.hid hc
  clear hc
  have Hu := Lib.hid hu
  clear hu
  obtain ⟨row, hl, rs0⟩ := h.rs
  obtain ⟨o0, o1, o2, o3, o4, o5, o6, rfl⟩ := list7 hl
  clear h hl
  have hbl := hs.lt
  try simp only [List.append_assoc, List.cons_append, List.nil_append] at rs0
  go_enter Try.func159, Try.ntmps159
  obtain ⟨u0, hr0⟩ := rs0.rd
  go_wp2_with (go_at_call 162; first | (refine (featYes _ _ _ (by omega)).mono ?_; rintro e wq ⟨rfl, rfl⟩) | (refine (featNo _ _ _ (by omega)).mono ?_; rintro e wq ⟨rfl, rfl⟩))
  refine (str _ _ D r m.data.toList _ u0 hr0 (by have := HL.out; (try simp only [List.length_append, List.length_cons, List.length_nil] at this ⊢); omega)).mono ?_
  rintro e w0 ⟨rfl, F0, x0, hx0, hu0⟩
  have rt0 := rs0.read hx0 hu0
  obtain ⟨ce0, cf0⟩ := rt0.cell 0 _ rfl
  have rs1 := rt0.store 0 (.string ⟨m.data.toList.toArray⟩)
  obtain ⟨u1, hr1⟩ := rs1.rd
  go_wp2_with (go_at_call 162; first | (refine (featYes _ _ _ (by omega)).mono ?_; rintro e wq ⟨rfl, rfl⟩) | (refine (featNo _ _ _ (by omega)).mono ?_; rintro e wq ⟨rfl, rfl⟩))
  refine (rdInt _ _ D r a _ u1 Ha.out hr1 (by have := HL.out; (try simp only [List.length_append, List.length_cons, List.length_nil] at this ⊢); omega)).mono ?_
  rintro e w1 ⟨rfl, F1, x1, hx1, hu1⟩
  have rt1 := rs1.read hx1 hu1
  have rs2 := rt1
  obtain ⟨u2, hr2⟩ := rs2.rd
  go_wp2_with (go_at_call 162; first | (refine (featYes _ _ _ (by omega)).mono ?_; rintro e wq ⟨rfl, rfl⟩) | (refine (featNo _ _ _ (by omega)).mono ?_; rintro e wq ⟨rfl, rfl⟩))
  refine (rdInt _ _ D r b _ u2 Hb.out hr2 (by have := HL.out; (try simp only [List.length_append, List.length_cons, List.length_nil] at this ⊢); omega)).mono ?_
  rintro e w2 ⟨rfl, F2, x2, hx2, hu2⟩
  have rt2 := rs2.read hx2 hu2
  have rs3 := rt2
  obtain ⟨u3, hr3⟩ := rs3.rd
  go_wp2_with (go_at_call 162; first | (refine (featYes _ _ _ (by omega)).mono ?_; rintro e wq ⟨rfl, rfl⟩) | (refine (featNo _ _ _ (by omega)).mono ?_; rintro e wq ⟨rfl, rfl⟩))
  refine (rdInt_short _ _ D r c _ u3 Hc.out hr3 hs).mono ?_
  rintro e w3 ⟨a3, F3, x3, rfl, hx3, hu3⟩
  go_wp2_with (go_at_call 162; first | (refine (featYes _ _ _ (by omega)).mono ?_; rintro e wq ⟨rfl, rfl⟩) | (refine (featNo _ _ _ (by omega)).mono ?_; rintro e wq ⟨rfl, rfl⟩))
  refine (wrapErr _ _ _ _).mono ?_
  rintro e wz ⟨⟨az, rfl⟩, hbz⟩
  go_wp2_with (go_at_call 162; first | (refine (featYes _ _ _ (by omega)).mono ?_; rintro e wq ⟨rfl, rfl⟩) | (refine (featNo _ _ _ (by omega)).mono ?_; rintro e wq ⟨rfl, rfl⟩))
  go_ret
  exact rs3.bad hx3 hu3 hbz

set_option maxRecDepth 100000 in
theorem mSrv2Short4 (w : World) (F D : Nat → Prop) (r q : Nat) (bs : List UInt8) (m : ByteArray) (a : Nat) (b : Nat) (c : Nat) (y : ByteArray) (d : ByteArray) (u : Nat) (hm : m.size ≤ 100) (ha : a ≤ 9223372036854775807) (hb : b ≤ 9223372036854775807) (hc : c ≤ 9223372036854775807) (hy : y.size ≤ 100) (hd : d.size ≤ 100) (hu : u ≤ 9223372036854775807) (ver : Int) (hv1 : 54372 ≤ ver) (hv2 : ver < 54401) (hs : Short bs (strBytes y.data.toList)) (h : Ready w F D r q 112 7 (strBytes m.data.toList ++ (uv a ++ (uv b ++ (uv c ++ (bs)))))) :
    Calls Try.prog 159 #[.pointer (some ⟨q, 0, none⟩), .pointer (some ⟨r, 0, none⟩), .int .i64 ver] w (DecBad w F q) := by
  have HL := Lib.hid (mSrv2Lens m a b c y d u hm ha hb hc hy hd hu)
  have Ha := Lib.hid ha
  clear ha
  have Hb := Lib.hid hb
  clear hb
  have Hc := Lib.hid hc
  clear hc
  have Hu := Lib.hid hu
  clear hu
  obtain ⟨row, hl, rs0⟩ := h.rs
  obtain ⟨o0, o1, o2, o3, o4, o5, o6, rfl⟩ := list7 hl
  clear h hl
  have hbl := hs.lt
  try simp only [List.append_assoc, List.cons_append, List.nil_append] at rs0
  go_enter Try.func159, Try.ntmps159
  obtain ⟨u0, hr0⟩ := rs0.rd
  go_wp2_with (go_at_call 162; first | (refine (featYes _ _ _ (by omega)).mono ?_; rintro e wq ⟨rfl, rfl⟩) | (refine (featNo _ _ _ (by omega)).mono ?_; rintro e wq ⟨rfl, rfl⟩))
  refine (str _ _ D r m.data.toList _ u0 hr0 (by have := HL.out; (try simp only [List.length_append, List.length_cons, List.length_nil] at this ⊢); omega)).mono ?_
  rintro e w0 ⟨rfl, F0, x0, hx0, hu0⟩
  have rt0 := rs0.read hx0 hu0
  obtain ⟨ce0, cf0⟩ := rt0.cell 0 _ rfl
  have rs1 := rt0.store 0 (.string ⟨m.data.toList.toArray⟩)
  obtain ⟨u1, hr1⟩ := rs1.rd
  go_wp2_with (go_at_call 162; first | (refine (featYes _ _ _ (by omega)).mono ?_; rintro e wq ⟨rfl, rfl⟩) | (refine (featNo _ _ _ (by omega)).mono ?_; rintro e wq ⟨rfl, rfl⟩))
  refine (rdInt _ _ D r a _ u1 Ha.out hr1 (by have := HL.out; (try simp only [List.length_append, List.length_cons, List.length_nil] at this ⊢); omega)).mono ?_
  rintro e w1 ⟨rfl, F1, x1, hx1, hu1⟩
  have rt1 := rs1.read hx1 hu1
  have rs2 := rt1
  obtain ⟨u2, hr2⟩ := rs2.rd
  go_wp2_with (go_at_call 162; first | (refine (featYes _ _ _ (by omega)).mono ?_; rintro e wq ⟨rfl, rfl⟩) | (refine (featNo _ _ _ (by omega)).mono ?_; rintro e wq ⟨rfl, rfl⟩))
  refine (rdInt _ _ D r b _ u2 Hb.out hr2 (by have := HL.out; (try simp only [List.length_append, List.length_cons, List.length_nil] at this ⊢); omega)).mono ?_
  rintro e w2 ⟨rfl, F2, x2, hx2, hu2⟩
  have rt2 := rs2.read hx2 hu2
  have rs3 := rt2
  obtain ⟨u3, hr3⟩ := rs3.rd
  go_wp2_with (go_at_call 162; first | (refine (featYes _ _ _ (by omega)).mono ?_; rintro e wq ⟨rfl, rfl⟩) | (refine (featNo _ _ _ (by omega)).mono ?_; rintro e wq ⟨rfl, rfl⟩))
  refine (rdInt _ _ D r c _ u3 Hc.out hr3 (by have := HL.out; (try simp only [List.length_append, List.length_cons, List.length_nil] at this ⊢); omega)).mono ?_
  rintro e w3 ⟨rfl, F3, x3, hx3, hu3⟩
  have rt3 := rs3.read hx3 hu3
  obtain ⟨ce3_0, cf3_0⟩ := rt3.cell 1 _ rfl
  obtain ⟨ce3_1, cf3_1⟩ := rt3.cell 2 _ rfl
  obtain ⟨ce3_2, cf3_2⟩ := rt3.cell 3 _ rfl
  have rs4 := (((rt3.store 1 (.int .i64 (a : Nat))).store 2 (.int .i64 (b : Nat))).store 3 (.int .i64 (c : Nat)))
  obtain ⟨u4, hr4⟩ := rs4.rd
  go_wp2_with (go_at_call 162; first | (refine (featYes _ _ _ (by omega)).mono ?_; rintro e wq ⟨rfl, rfl⟩) | (refine (featNo _ _ _ (by omega)).mono ?_; rintro e wq ⟨rfl, rfl⟩))
  refine (str_short _ _ D r y.data.toList _ u4 hr4 hs (by have := HL.out; (try simp only [List.length_append, List.length_cons, List.length_nil] at this ⊢); omega)).mono ?_
  rintro e w4 ⟨a4, F4, x4, rfl, hx4, hu4⟩
  go_wp2_with (go_at_call 162; first | (refine (featYes _ _ _ (by omega)).mono ?_; rintro e wq ⟨rfl, rfl⟩) | (refine (featNo _ _ _ (by omega)).mono ?_; rintro e wq ⟨rfl, rfl⟩))
  refine (wrapErr _ _ _ _).mono ?_
  rintro e wz ⟨⟨az, rfl⟩, hbz⟩
  go_wp2_with (go_at_call 162; first | (refine (featYes _ _ _ (by omega)).mono ?_; rintro e wq ⟨rfl, rfl⟩) | (refine (featNo _ _ _ (by omega)).mono ?_; rintro e wq ⟨rfl, rfl⟩))
  go_ret
  exact rs4.bad hx4 hu4 hbz

set_option maxRecDepth 100000 in
theorem mSrv2Short5 (w : World) (F D : Nat → Prop) (r q : Nat) (bs : List UInt8) (m : ByteArray) (a : Nat) (b : Nat) (c : Nat) (y : ByteArray) (d : ByteArray) (u : Nat) (hm : m.size ≤ 100) (ha : a ≤ 9223372036854775807) (hb : b ≤ 9223372036854775807) (hc : c ≤ 9223372036854775807) (hy : y.size ≤ 100) (hd : d.size ≤ 100) (hu : u ≤ 9223372036854775807) (ver : Int) (hv1 : 54372 ≤ ver) (hv2 : ver < 54401) (hs : Short bs (strBytes d.data.toList)) (h : Ready w F D r q 112 7 (strBytes m.data.toList ++ (uv a ++ (uv b ++ (uv c ++ (strBytes y.data.toList ++ (bs))))))) :
    Calls Try.prog 159 #[.pointer (some ⟨q, 0, none⟩), .pointer (some ⟨r, 0, none⟩), .int .i64 ver] w (DecBad w F q) := by
  have HL := Lib.hid (mSrv2Lens m a b c y d u hm ha hb hc hy hd hu)
  have Ha := Lib.hid ha
  clear ha
  have Hb := Lib.hid hb
  clear hb
  have Hc := Lib.hid hc
  clear hc
  have Hu := Lib.hid hu
  clear hu
  obtain ⟨row, hl, rs0⟩ := h.rs
  obtain ⟨o0, o1, o2, o3, o4, o5, o6, rfl⟩ := list7 hl
  clear h hl
  have hbl := hs.lt
  try simp only [List.append_assoc, List.cons_append, List.nil_append] at rs0
  go_enter Try.func159, Try.ntmps159
  obtain ⟨u0, hr0⟩ := rs0.rd
  go_wp2_with (go_at_call 162; first | (refine (featYes _ _ _ (by omega)).mono ?_; rintro e wq ⟨rfl, rfl⟩) | (refine (featNo _ _ _ (by omega)).mono ?_; rintro e wq ⟨rfl, rfl⟩))
  refine (str _ _ D r m.data.toList _ u0 hr0 (by have := HL.out; (try simp only [List.length_append, List.length_cons, List.length_nil] at this ⊢); omega)).mono ?_
  rintro e w0 ⟨rfl, F0, x0, hx0, hu0⟩
  have rt0 := rs0.read hx0 hu0
  obtain ⟨ce0, cf0⟩ := rt0.cell 0 _ rfl
  have rs1 := rt0.store 0 (.string ⟨m.data.toList.toArray⟩)
  obtain ⟨u1, hr1⟩ := rs1.rd
  go_wp2_with (go_at_call 162; first | (refine (featYes _ _ _ (by omega)).mono ?_; rintro e wq ⟨rfl, rfl⟩) | (refine (featNo _ _ _ (by omega)).mono ?_; rintro e wq ⟨rfl, rfl⟩))
  refine (rdInt _ _ D r a _ u1 Ha.out hr1 (by have := HL.out; (try simp only [List.length_append, List.length_cons, List.length_nil] at this ⊢); omega)).mono ?_
  rintro e w1 ⟨rfl, F1, x1, hx1, hu1⟩
  have rt1 := rs1.read hx1 hu1
  have rs2 := rt1
  obtain ⟨u2, hr2⟩ := rs2.rd
  go_wp2_with (go_at_call 162; first | (refine (featYes _ _ _ (by omega)).mono ?_; rintro e wq ⟨rfl, rfl⟩) | (refine (featNo _ _ _ (by omega)).mono ?_; rintro e wq ⟨rfl, rfl⟩))
  refine (rdInt _ _ D r b _ u2 Hb.out hr2 (by have := HL.out; (try simp only [List.length_append, List.length_cons, List.length_nil] at this ⊢); omega)).mono ?_
  rintro e w2 ⟨rfl, F2, x2, hx2, hu2⟩
  have rt2 := rs2.read hx2 hu2
  have rs3 := rt2
  obtain ⟨u3, hr3⟩ := rs3.rd
  go_wp2_with (go_at_call 162; first | (refine (featYes _ _ _ (by omega)).mono ?_; rintro e wq ⟨rfl, rfl⟩) | (refine (featNo _ _ _ (by omega)).mono ?_; rintro e wq ⟨rfl, rfl⟩))
  refine (rdInt _ _ D r c _ u3 Hc.out hr3 (by have := HL.out; (try simp only [List.length_append, List.length_cons, List.length_nil] at this ⊢); omega)).mono ?_
  rintro e w3 ⟨rfl, F3, x3, hx3, hu3⟩
  have rt3 := rs3.read hx3 hu3
  obtain ⟨ce3_0, cf3_0⟩ := rt3.cell 1 _ rfl
  obtain ⟨ce3_1, cf3_1⟩ := rt3.cell 2 _ rfl
  obtain ⟨ce3_2, cf3_2⟩ := rt3.cell 3 _ rfl
  have rs4 := (((rt3.store 1 (.int .i64 (a : Nat))).store 2 (.int .i64 (b : Nat))).store 3 (.int .i64 (c : Nat)))
  obtain ⟨u4, hr4⟩ := rs4.rd
  go_wp2_with (go_at_call 162; first | (refine (featYes _ _ _ (by omega)).mono ?_; rintro e wq ⟨rfl, rfl⟩) | (refine (featNo _ _ _ (by omega)).mono ?_; rintro e wq ⟨rfl, rfl⟩))
  refine (str _ _ D r y.data.toList _ u4 hr4 (by have := HL.out; (try simp only [List.length_append, List.length_cons, List.length_nil] at this ⊢); omega)).mono ?_
  rintro e w4 ⟨rfl, F4, x4, hx4, hu4⟩
  have rt4 := rs4.read hx4 hu4
  obtain ⟨ce4, cf4⟩ := rt4.cell 4 _ rfl
  have rs5 := rt4.store 4 (.string ⟨y.data.toList.toArray⟩)
  obtain ⟨u5, hr5⟩ := rs5.rd
  go_wp2_with (go_at_call 162; first | (refine (featYes _ _ _ (by omega)).mono ?_; rintro e wq ⟨rfl, rfl⟩) | (refine (featNo _ _ _ (by omega)).mono ?_; rintro e wq ⟨rfl, rfl⟩))
  refine (str_short _ _ D r d.data.toList _ u5 hr5 hs (by have := HL.out; (try simp only [List.length_append, List.length_cons, List.length_nil] at this ⊢); omega)).mono ?_
  rintro e w5 ⟨a5, F5, x5, rfl, hx5, hu5⟩
  go_wp2_with (go_at_call 162; first | (refine (featYes _ _ _ (by omega)).mono ?_; rintro e wq ⟨rfl, rfl⟩) | (refine (featNo _ _ _ (by omega)).mono ?_; rintro e wq ⟨rfl, rfl⟩))
  refine (wrapErr _ _ _ _).mono ?_
  rintro e wz ⟨⟨az, rfl⟩, hbz⟩
  go_wp2_with (go_at_call 162; first | (refine (featYes _ _ _ (by omega)).mono ?_; rintro e wq ⟨rfl, rfl⟩) | (refine (featNo _ _ _ (by omega)).mono ?_; rintro e wq ⟨rfl, rfl⟩))
  go_ret
  exact rs5.bad hx5 hu5 hbz

theorem mSrv2Short (w : World) (F D : Nat → Prop) (r q : Nat) (bs : List UInt8) (m : ByteArray) (a : Nat) (b : Nat) (c : Nat) (y : ByteArray) (d : ByteArray) (u : Nat) (hm : m.size ≤ 100) (ha : a ≤ 9223372036854775807) (hb : b ≤ 9223372036854775807) (hc : c ≤ 9223372036854775807) (hy : y.size ≤ 100) (hd : d.size ≤ 100) (hu : u ≤ 9223372036854775807) (ver : Int) (hv1 : 54372 ≤ ver) (hv2 : ver < 54401) (hs : Short bs (mSrv2Bytes m a b c y d u)) (h : Ready w F D r q 112 7 bs) :
    Calls Try.prog 159 #[.pointer (some ⟨q, 0, none⟩), .pointer (some ⟨r, 0, none⟩), .int .i64 ver] w (DecBad w F q) := by
  unfold mSrv2Bytes at hs
  rcases hs.split with hs0 | ⟨r0, rfl, ht0⟩
  · exact mSrv2Short0 w F D r q _ m a b c y d u hm ha hb hc hy hd hu ver hv1 hv2 hs0 h
  ·
    rcases ht0.split with hs1 | ⟨r1, rfl, ht1⟩
    · exact mSrv2Short1 w F D r q _ m a b c y d u hm ha hb hc hy hd hu ver hv1 hv2 hs1 h
    ·
      rcases ht1.split with hs2 | ⟨r2, rfl, ht2⟩
      · exact mSrv2Short2 w F D r q _ m a b c y d u hm ha hb hc hy hd hu ver hv1 hv2 hs2 h
      ·
        rcases ht2.split with hs3 | ⟨r3, rfl, ht3⟩
        · exact mSrv2Short3 w F D r q _ m a b c y d u hm ha hb hc hy hd hu ver hv1 hv2 hs3 h
        ·
          rcases ht3.split with hs4 | ⟨r4, rfl, ht4⟩
          · exact mSrv2Short4 w F D r q _ m a b c y d u hm ha hb hc hy hd hu ver hv1 hv2 hs4 h
          ·
            exact mSrv2Short5 w F D r q _ m a b c y d u hm ha hb hc hy hd hu ver hv1 hv2 ht4 h
end Go.Proofs.Ytlohpmncagfecaa
