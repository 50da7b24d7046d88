/- Profile: its bytes, EncodeAware, DecodeAware. -/
import Derived.Test.YtlohpmncagfecaaRow
namespace Go.Proofs.Ytlohpmncagfecaa
open Go.RowKit
set_option linter.unusedSimpArgs false

def mProfBytes (a : Nat) (b : Nat) (c : Nat) (x : Bool) (d : Nat) (y : Bool) : List UInt8 := uv a ++ (uv b ++ (uv c ++ ([bB x] ++ (uv d ++ ([bB y])))))
def mProfVals (a : Nat) (b : Nat) (c : Nat) (x : Bool) (d : Nat) (y : Bool) : List Value := [Value.int .u64 (a : Nat), Value.int .u64 (b : Nat), Value.int .u64 (c : Nat), Value.bool x, Value.int .u64 (d : Nat), Value.bool y]
theorem mProfLens (a : Nat) (b : Nat) (c : Nat) (x : Bool) (d : Nat) (y : Bool) (ha : a < 18446744073709551616) (hb : b < 18446744073709551616) (hc : c < 18446744073709551616) (hd : d < 18446744073709551616) : (uv a).length ≤ 10 ∧ (uv b).length ≤ 10 ∧ (uv c).length ≤ 10 ∧ ([bB x]).length ≤ 1 ∧ (uv d).length ≤ 10 ∧ ([bB y]).length ≤ 1 := by
  exact ⟨uv_length_le 10 a (by omega) (by omega), uv_length_le 10 b (by omega) (by omega), uv_length_le 10 c (by omega) (by omega), Nat.le_refl _, uv_length_le 10 d (by omega) (by omega), Nat.le_refl _⟩
theorem mProfLen (a : Nat) (b : Nat) (c : Nat) (x : Bool) (d : Nat) (y : Bool) (ha : a < 18446744073709551616) (hb : b < 18446744073709551616) (hc : c < 18446744073709551616) (hd : d < 18446744073709551616) : (mProfBytes a b c x d y).length ≤ 1000 := by
  have h := mProfLens a b c x d y ha hb hc hd
  unfold mProfBytes
  simp only [List.length_append, List.length_cons, List.length_nil] at h ⊢
  omega

set_option maxRecDepth 100000 in
theorem mProfEncode (w : World) (F : Nat → Prop) (p : Nat) (a : Nat) (b : Nat) (c : Nat) (x : Bool) (d : Nat) (y : Bool) (ha : a < 18446744073709551616) (hb : b < 18446744073709551616) (hc : c < 18446744073709551616) (hd : d < 18446744073709551616) (ver : Int) (h : BufAt w F 119 p []) (hF : In F w) :
    Calls Try.prog 155 #[.agg (mProfVals a b c x d y).toArray, .pointer (some ⟨p, 0, none⟩), .int .i64 ver] w (Put w F 119 p (6 :: mProfBytes a b c x d y)) := by
  have HL := Lib.hid (mProfLens a b c x d y ha hb hc hd)
  have Ha := Lib.hid ha
  clear ha
  have Hb := Lib.hid hb
  clear hb
  have Hc := Lib.hid hc
  clear hc
  have Hd := Lib.hid hd
  clear hd
  unfold mProfVals
  have es0 : ES w F (w.alloc (.cells #[.int .u64 (a : Nat), .int .u64 (b : Nat), .int .u64 (c : Nat), .bool x, .int .u64 (d : Nat), .bool y] 96)) F p [] w.heap.size (.int .u64 (a : Nat)) [.int .u64 (b : Nat), .int .u64 (c : Nat), .bool x, .int .u64 (d : Nat), .bool y] := ⟨h.alloc _, hF.mono (by simp), (Upd.refl _ _).alloc _, rowIs_new w [.int .u64 (a : Nat), .int .u64 (b : Nat), .int .u64 (c : Nat), .bool x, .int .u64 (d : Nat), .bool y] 96, fun hk => by have := hF _ hk; omega⟩
  clear h hF
  go_enter Try.func155, Try.ntmps155
  go_wp2_with fail
  refine (enc_sc1 _ _ p [] 6 es0.buf).mono ?_
  intro e w1 hp
  obtain ⟨F1, rfl, es1⟩ := es0.step hp
  clear hp
  have c1_0 := es1.row 0 _ rfl
  have c1_1 := es1.row 1 _ rfl
  have c1_2 := es1.row 2 _ rfl
  have c1_3 := es1.row 3 _ rfl
  have c1_4 := es1.row 4 _ rfl
  have c1_5 := es1.row 5 _ rfl
  go_wp2_with fail
  refine (putUVarInt _ _ p _ a Ha.out es1.buf es1.inn (by have := HL.out; simp only [List.length_append, List.length_cons, List.length_nil] at this ⊢; omega)).mono ?_
  intro e w2 hp
  obtain ⟨F2, rfl, es2⟩ := es1.step hp
  clear hp es1 c1_0 c1_1 c1_2 c1_3 c1_4 c1_5
  have c2_0 := es2.row 0 _ rfl
  have c2_1 := es2.row 1 _ rfl
  have c2_2 := es2.row 2 _ rfl
  have c2_3 := es2.row 3 _ rfl
  have c2_4 := es2.row 4 _ rfl
  have c2_5 := es2.row 5 _ rfl
  go_wp2_with fail
  refine (putUVarInt _ _ p _ b Hb.out es2.buf es2.inn (by have := HL.out; simp only [List.length_append, List.length_cons, List.length_nil] at this ⊢; omega)).mono ?_
  intro e w3 hp
  obtain ⟨F3, rfl, es3⟩ := es2.step hp
  clear hp es2 c2_0 c2_1 c2_2 c2_3 c2_4 c2_5
  have c3_0 := es3.row 0 _ rfl
  have c3_1 := es3.row 1 _ rfl
  have c3_2 := es3.row 2 _ rfl
  have c3_3 := es3.row 3 _ rfl
  have c3_4 := es3.row 4 _ rfl
  have c3_5 := es3.row 5 _ rfl
  go_wp2_with fail
  refine (putUVarInt _ _ p _ c Hc.out es3.buf es3.inn (by have := HL.out; simp only [List.length_append, List.length_cons, List.length_nil] at this ⊢; omega)).mono ?_
  intro e w4 hp
  obtain ⟨F4, rfl, es4⟩ := es3.step hp
  clear hp es3 c3_0 c3_1 c3_2 c3_3 c3_4 c3_5
  have c4_0 := es4.row 0 _ rfl
  have c4_1 := es4.row 1 _ rfl
  have c4_2 := es4.row 2 _ rfl
  have c4_3 := es4.row 3 _ rfl
  have c4_4 := es4.row 4 _ rfl
  have c4_5 := es4.row 5 _ rfl
  go_wp2_with fail
  refine (putBool _ _ p _ x es4.buf (by have := HL.out; simp only [List.length_append, List.length_cons, List.length_nil] at this ⊢; omega)).mono ?_
  intro e w5 hp
  obtain ⟨F5, rfl, es5⟩ := es4.step hp
  clear hp es4 c4_0 c4_1 c4_2 c4_3 c4_4 c4_5
  have c5_0 := es5.row 0 _ rfl
  have c5_1 := es5.row 1 _ rfl
  have c5_2 := es5.row 2 _ rfl
  have c5_3 := es5.row 3 _ rfl
  have c5_4 := es5.row 4 _ rfl
  have c5_5 := es5.row 5 _ rfl
  go_wp2_with fail
  refine (putUVarInt _ _ p _ d Hd.out es5.buf es5.inn (by have := HL.out; simp only [List.length_append, List.length_cons, List.length_nil] at this ⊢; omega)).mono ?_
  intro e w6 hp
  obtain ⟨F6, rfl, es6⟩ := es5.step hp
  clear hp es5 c5_0 c5_1 c5_2 c5_3 c5_4 c5_5
  have c6_0 := es6.row 0 _ rfl
  have c6_1 := es6.row 1 _ rfl
  have c6_2 := es6.row 2 _ rfl
  have c6_3 := es6.row 3 _ rfl
  have c6_4 := es6.row 4 _ rfl
  have c6_5 := es6.row 5 _ rfl
  go_wp2_with fail
  refine (putBool _ _ p _ y es6.buf (by have := HL.out; simp only [List.length_append, List.length_cons, List.length_nil] at this ⊢; omega)).mono ?_
  intro e w7 hp
  obtain ⟨F7, rfl, es7⟩ := es6.step hp
  clear hp es6 c6_0 c6_1 c6_2 c6_3 c6_4 c6_5
  have c7_0 := es7.row 0 _ rfl
  have c7_1 := es7.row 1 _ rfl
  have c7_2 := es7.row 2 _ rfl
  have c7_3 := es7.row 3 _ rfl
  have c7_4 := es7.row 4 _ rfl
  have c7_5 := es7.row 5 _ rfl
  go_wp2_with fail
  go_returns
  have h := es7.put
  unfold mProfBytes
  simpa using h

set_option maxRecDepth 100000 in
theorem mProfDecode (w : World) (F D : Nat → Prop) (r q : Nat) (tail : List UInt8) (a : Nat) (b : Nat) (c : Nat) (x : Bool) (d : Nat) (y : Bool) (ha : a < 18446744073709551616) (hb : b < 18446744073709551616) (hc : c < 18446744073709551616) (hd : d < 18446744073709551616) (ver : Int) (ht : tail.length ≤ 100) (h : Ready w F D r q 96 6 (mProfBytes a b c x d y ++ tail)) :
    Calls Try.prog 156 #[.pointer (some ⟨q, 0, none⟩), .pointer (some ⟨r, 0, none⟩), .int .i64 ver] w (DecOk w F D r q 96 tail [Value.int .u64 (a : Nat), Value.int .u64 (b : Nat), Value.int .u64 (c : Nat), Value.bool x, Value.int .u64 (d : Nat), Value.bool y]) := by
  have HL := Lib.hid (mProfLens a b c x d y ha hb hc hd)
  have Ha := Lib.hid ha
  clear ha
  have Hb := Lib.hid hb
  clear hb
  have Hc := Lib.hid hc
  clear hc
  have Hd := Lib.hid hd
  clear hd
  obtain ⟨row, hl, rs0⟩ := h.rs
  obtain ⟨o0, o1, o2, o3, o4, o5, rfl⟩ := list6 hl
  clear h hl
  unfold mProfBytes at rs0
  simp only [List.append_assoc, List.cons_append, List.nil_append] at rs0
  go_enter Try.func156, Try.ntmps156
  obtain ⟨u0, hr0⟩ := rs0.rd
  go_wp2_with fail
  refine (uvarint _ _ D r a _ u0 Ha.out hr0 (by have := HL.out; simp only [List.length_append, List.length_cons, List.length_nil] at this ⊢; omega)).mono ?_
  rintro e w0 ⟨rfl, F0, x0, hx0, hu0⟩
  have rt0 := rs0.read hx0 hu0
  obtain ⟨ce0, cf0⟩ := rt0.cell 0 _ rfl
  have rs1 := rt0.store 0 (.int .u64 (a : Nat))
  obtain ⟨u1, hr1⟩ := rs1.rd
  go_wp2_with fail
  refine (uvarint _ _ D r b _ u1 Hb.out hr1 (by have := HL.out; simp only [List.length_append, List.length_cons, List.length_nil] at this ⊢; omega)).mono ?_
  rintro e w1 ⟨rfl, F1, x1, hx1, hu1⟩
  have rt1 := rs1.read hx1 hu1
  obtain ⟨ce1, cf1⟩ := rt1.cell 1 _ rfl
  have rs2 := rt1.store 1 (.int .u64 (b : Nat))
  obtain ⟨u2, hr2⟩ := rs2.rd
  go_wp2_with fail
  refine (uvarint _ _ D r c _ u2 Hc.out hr2 (by have := HL.out; simp only [List.length_append, List.length_cons, List.length_nil] at this ⊢; omega)).mono ?_
  rintro e w2 ⟨rfl, F2, x2, hx2, hu2⟩
  have rt2 := rs2.read hx2 hu2
  obtain ⟨ce2, cf2⟩ := rt2.cell 2 _ rfl
  have rs3 := rt2.store 2 (.int .u64 (c : Nat))
  obtain ⟨u3, hr3⟩ := rs3.rd
  go_wp2_with fail
  refine (rdBool _ _ D r x _ u3 hr3 (by have := HL.out; simp only [List.length_append, List.length_cons, List.length_nil] at this ⊢; omega)).mono ?_
  rintro e w3 ⟨rfl, F3, x3, hx3, hu3⟩
  have rt3 := rs3.read hx3 hu3
  obtain ⟨ce3, cf3⟩ := rt3.cell 3 _ rfl
  have rs4 := rt3.store 3 (.bool x)
  obtain ⟨u4, hr4⟩ := rs4.rd
  go_wp2_with fail
  refine (uvarint _ _ D r d _ u4 Hd.out hr4 (by have := HL.out; simp only [List.length_append, List.length_cons, List.length_nil] at this ⊢; omega)).mono ?_
  rintro e w4 ⟨rfl, F4, x4, hx4, hu4⟩
  have rt4 := rs4.read hx4 hu4
  obtain ⟨ce4, cf4⟩ := rt4.cell 4 _ rfl
  have rs5 := rt4.store 4 (.int .u64 (d : Nat))
  obtain ⟨u5, hr5⟩ := rs5.rd
  go_wp2_with fail
  refine (rdBool _ _ D r y _ u5 hr5 (by have := HL.out; simp only [List.length_append, List.length_cons, List.length_nil] at this ⊢; omega)).mono ?_
  rintro e w5 ⟨rfl, F5, x5, hx5, hu5⟩
  have rt5 := rs5.read hx5 hu5
  obtain ⟨ce5, cf5⟩ := rt5.cell 5 _ rfl
  have rs6 := rt5.store 5 (.bool y)
  go_wp2_with fail
  go_ret
  exact rs6.ok

set_option maxRecDepth 100000 in
theorem mProfShort0 (w : World) (F D : Nat → Prop) (r q : Nat) (bs : List UInt8) (a : Nat) (b : Nat) (c : Nat) (x : Bool) (d : Nat) (y : Bool) (ha : a < 18446744073709551616) (hb : b < 18446744073709551616) (hc : c < 18446744073709551616) (hd : d < 18446744073709551616) (ver : Int) (hs : Short bs (uv a)) (h : Ready w F D r q 96 6 (bs)) :
    Calls Try.prog 156 #[.pointer (some ⟨q, 0, none⟩), .pointer (some ⟨r, 0, none⟩), .int .i64 ver] w (DecBad w F q) := by
  have HL := Lib.hid (mProfLens a b c x d y ha hb hc hd)
  have Ha := Lib.hid ha
  clear ha
  have Hb := Lib.hid hb
  clear hb
  have Hc := Lib.hid hc
  clear hc
  have Hd := Lib.hid hd
  clear hd
  obtain ⟨row, hl, rs0⟩ := h.rs
  obtain ⟨o0, o1, o2, o3, o4, o5, rfl⟩ := list6 hl
  clear h hl
  have hbl := hs.lt
  go_enter Try.func156, Try.ntmps156
  obtain ⟨u0, hr0⟩ := rs0.rd
  go_wp2_with fail
  refine (uvarint_short _ _ D r a _ u0 Ha.out hr0 hs).mono ?_
  rintro e w0 ⟨a0, F0, x0, rfl, hx0, hu0⟩
  go_wp2_with fail
  refine (wrapErr _ _ _ _).mono ?_
  rintro e wz ⟨⟨az, rfl⟩, hbz⟩
  go_wp2_with fail
  go_ret
  exact rs0.bad hx0 hu0 hbz

set_option maxRecDepth 100000 in
theorem mProfShort1 (w : World) (F D : Nat → Prop) (r q : Nat) (bs : List UInt8) (a : Nat) (b : Nat) (c : Nat) (x : Bool) (d : Nat) (y : Bool) (ha : a < 18446744073709551616) (hb : b < 18446744073709551616) (hc : c < 18446744073709551616) (hd : d < 18446744073709551616) (ver : Int) (hs : Short bs (uv b)) (h : Ready w F D r q 96 6 (uv a ++ (bs))) :
    Calls Try.prog 156 #[.pointer (some ⟨q, 0, none⟩), .pointer (some ⟨r, 0, none⟩), .int .i64 ver] w (DecBad w F q) := by
  have HL := Lib.hid (mProfLens a b c x d y ha hb hc hd)
  have Ha := Lib.hid ha
  clear ha
  have Hb := Lib.hid hb
  clear hb
  have Hc := Lib.hid hc
  clear hc
  have Hd := Lib.hid hd
  clear hd
  obtain ⟨row, hl, rs0⟩ := h.rs
  obtain ⟨o0, o1, o2, o3, o4, o5, rfl⟩ := list6 hl
  clear h hl
  have hbl := hs.lt
  try simp only [List.append_assoc, List.cons_append, List.nil_append] at rs0
  go_enter Try.func156, Try.ntmps156
  obtain ⟨u0, hr0⟩ := rs0.rd
  go_wp2_with fail
  refine (uvarint _ _ D r a _ u0 Ha.out hr0 (by have := HL.out; simp only [List.length_append, List.length_cons, List.length_nil] at this ⊢; omega)).mono ?_
  rintro e w0 ⟨rfl, F0, x0, hx0, hu0⟩
  have rt0 := rs0.read hx0 hu0
  obtain ⟨ce0, cf0⟩ := rt0.cell 0 _ rfl
  have rs1 := rt0.store 0 (.int .u64 (a : Nat))
  obtain ⟨u1, hr1⟩ := rs1.rd
  go_wp2_with fail
  refine (uvarint_short _ _ D r b _ u1 Hb.out hr1 hs).mono ?_
  rintro e w1 ⟨a1, F1, x1, rfl, hx1, hu1⟩
  go_wp2_with fail
  refine (wrapErr _ _ _ _).mono ?_
  rintro e wz ⟨⟨az, rfl⟩, hbz⟩
  go_wp2_with fail
  go_ret
  exact rs1.bad hx1 hu1 hbz

set_option maxRecDepth 100000 in
theorem mProfShort2 (w : World) (F D : Nat → Prop) (r q : Nat) (bs : List UInt8) (a : Nat) (b : Nat) (c : Nat) (x : Bool) (d : Nat) (y : Bool) (ha : a < 18446744073709551616) (hb : b < 18446744073709551616) (hc : c < 18446744073709551616) (hd : d < 18446744073709551616) (ver : Int) (hs : Short bs (uv c)) (h : Ready w F D r q 96 6 (uv a ++ (uv b ++ (bs)))) :
    Calls Try.prog 156 #[.pointer (some ⟨q, 0, none⟩), .pointer (some ⟨r, 0, none⟩), .int .i64 ver] w (DecBad w F q) := by
  have HL := Lib.hid (mProfLens a b c x d y ha hb hc hd)
  have Ha := Lib.hid ha
  clear ha
  have Hb := Lib.hid hb
  clear hb
  have Hc := Lib.hid hc
  clear hc
  have Hd := Lib.hid hd
  clear hd
  obtain ⟨row, hl, rs0⟩ := h.rs
  obtain ⟨o0, o1, o2, o3, o4, o5, rfl⟩ := list6 hl
  clear h hl
  have hbl := hs.lt
  try simp only [List.append_assoc, List.cons_append, List.nil_append] at rs0
  go_enter Try.func156, Try.ntmps156
  obtain ⟨u0, hr0⟩ := rs0.rd
  go_wp2_with fail
  refine (uvarint _ _ D r a _ u0 Ha.out hr0 (by have := HL.out; simp only [List.length_append, List.length_cons, List.length_nil] at this ⊢; omega)).mono ?_
  rintro e w0 ⟨rfl, F0, x0, hx0, hu0⟩
  have rt0 := rs0.read hx0 hu0
  obtain ⟨ce0, cf0⟩ := rt0.cell 0 _ rfl
  have rs1 := rt0.store 0 (.int .u64 (a : Nat))
  obtain ⟨u1, hr1⟩ := rs1.rd
  go_wp2_with fail
  refine (uvarint _ _ D r b _ u1 Hb.out hr1 (by have := HL.out; simp only [List.length_append, List.length_cons, List.length_nil] at this ⊢; omega)).mono ?_
  rintro e w1 ⟨rfl, F1, x1, hx1, hu1⟩
  have rt1 := rs1.read hx1 hu1
  obtain ⟨ce1, cf1⟩ := rt1.cell 1 _ rfl
  have rs2 := rt1.store 1 (.int .u64 (b : Nat))
  obtain ⟨u2, hr2⟩ := rs2.rd
  go_wp2_with fail
  refine (uvarint_short _ _ D r c _ u2 Hc.out hr2 hs).mono ?_
  rintro e w2 ⟨a2, F2, x2, rfl, hx2, hu2⟩
  go_wp2_with fail
  refine (wrapErr _ _ _ _).mono ?_
  rintro e wz ⟨⟨az, rfl⟩, hbz⟩
  go_wp2_with fail
  go_ret
  exact rs2.bad hx2 hu2 hbz

set_option maxRecDepth 100000 in
theorem mProfShort3 (w : World) (F D : Nat → Prop) (r q : Nat) (bs : List UInt8) (a : Nat) (b : Nat) (c : Nat) (x : Bool) (d : Nat) (y : Bool) (ha : a < 18446744073709551616) (hb : b < 18446744073709551616) (hc : c < 18446744073709551616) (hd : d < 18446744073709551616) (ver : Int) (hs : Short bs ([bB x])) (h : Ready w F D r q 96 6 (uv a ++ (uv b ++ (uv c ++ (bs))))) :
    Calls Try.prog 156 #[.pointer (some ⟨q, 0, none⟩), .pointer (some ⟨r, 0, none⟩), .int .i64 ver] w (DecBad w F q) := by
  have HL := Lib.hid (mProfLens a b c x d y ha hb hc hd)
  have Ha := Lib.hid ha
  clear ha
  have Hb := Lib.hid hb
  clear hb
  have Hc := Lib.hid hc
  clear hc
  have Hd := Lib.hid hd
  clear hd
  obtain ⟨row, hl, rs0⟩ := h.rs
  obtain ⟨o0, o1, o2, o3, o4, o5, rfl⟩ := list6 hl
  clear h hl
  have hbl := hs.lt
  try simp only [List.append_assoc, List.cons_append, List.nil_append] at rs0
  obtain rfl := hs.nil_of
  go_enter Try.func156, Try.ntmps156
  obtain ⟨u0, hr0⟩ := rs0.rd
  go_wp2_with fail
  refine (uvarint _ _ D r a _ u0 Ha.out hr0 (by have := HL.out; simp only [List.length_append, List.length_cons, List.length_nil] at this ⊢; omega)).mono ?_
  rintro e w0 ⟨rfl, F0, x0, hx0, hu0⟩
  have rt0 := rs0.read hx0 hu0
  obtain ⟨ce0, cf0⟩ := rt0.cell 0 _ rfl
  have rs1 := rt0.store 0 (.int .u64 (a : Nat))
  obtain ⟨u1, hr1⟩ := rs1.rd
  go_wp2_with fail
  refine (uvarint _ _ D r b _ u1 Hb.out hr1 (by have := HL.out; simp only [List.length_append, List.length_cons, List.length_nil] at this ⊢; omega)).mono ?_
  rintro e w1 ⟨rfl, F1, x1, hx1, hu1⟩
  have rt1 := rs1.read hx1 hu1
  obtain ⟨ce1, cf1⟩ := rt1.cell 1 _ rfl
  have rs2 := rt1.store 1 (.int .u64 (b : Nat))
  obtain ⟨u2, hr2⟩ := rs2.rd
  go_wp2_with fail
  refine (uvarint _ _ D r c _ u2 Hc.out hr2 (by have := HL.out; simp only [List.length_append, List.length_cons, List.length_nil] at this ⊢; omega)).mono ?_
  rintro e w2 ⟨rfl, F2, x2, hx2, hu2⟩
  have rt2 := rs2.read hx2 hu2
  obtain ⟨ce2, cf2⟩ := rt2.cell 2 _ rfl
  have rs3 := rt2.store 2 (.int .u64 (c : Nat))
  obtain ⟨u3, hr3⟩ := rs3.rd
  go_wp2_with fail
  refine (rdBool_short _ _ D r u3 hr3).mono ?_
  rintro e w3 ⟨a3, F3, x3, rfl, hx3, hu3⟩
  go_wp2_with fail
  refine (wrapErr _ _ _ _).mono ?_
  rintro e wz ⟨⟨az, rfl⟩, hbz⟩
  go_wp2_with fail
  go_ret
  exact rs3.bad hx3 hu3 hbz

set_option maxRecDepth 100000 in
theorem mProfShort4 (w : World) (F D : Nat → Prop) (r q : Nat) (bs : List UInt8) (a : Nat) (b : Nat) (c : Nat) (x : Bool) (d : Nat) (y : Bool) (ha : a < 18446744073709551616) (hb : b < 18446744073709551616) (hc : c < 18446744073709551616) (hd : d < 18446744073709551616) (ver : Int) (hs : Short bs (uv d)) (h : Ready w F D r q 96 6 (uv a ++ (uv b ++ (uv c ++ ([bB x] ++ (bs)))))) :
    Calls Try.prog 156 #[.pointer (some ⟨q, 0, none⟩), .pointer (some ⟨r, 0, none⟩), .int .i64 ver] w (DecBad w F q) := by
  have HL := Lib.hid (mProfLens a b c x d y ha hb hc hd)
  have Ha := Lib.hid ha
  clear ha
  have Hb := Lib.hid hb
  clear hb
  have Hc := Lib.hid hc
  clear hc
  have Hd := Lib.hid hd
  clear hd
  obtain ⟨row, hl, rs0⟩ := h.rs
  obtain ⟨o0, o1, o2, o3, o4, o5, rfl⟩ := list6 hl
  clear h hl
  have hbl := hs.lt
  try simp only [List.append_assoc, List.cons_append, List.nil_append] at rs0
  go_enter Try.func156, Try.ntmps156
  obtain ⟨u0, hr0⟩ := rs0.rd
  go_wp2_with fail
  refine (uvarint _ _ D r a _ u0 Ha.out hr0 (by have := HL.out; simp only [List.length_append, List.length_cons, List.length_nil] at this ⊢; omega)).mono ?_
  rintro e w0 ⟨rfl, F0, x0, hx0, hu0⟩
  have rt0 := rs0.read hx0 hu0
  obtain ⟨ce0, cf0⟩ := rt0.cell 0 _ rfl
  have rs1 := rt0.store 0 (.int .u64 (a : Nat))
  obtain ⟨u1, hr1⟩ := rs1.rd
  go_wp2_with fail
  refine (uvarint _ _ D r b _ u1 Hb.out hr1 (by have := HL.out; simp only [List.length_append, List.length_cons, List.length_nil] at this ⊢; omega)).mono ?_
  rintro e w1 ⟨rfl, F1, x1, hx1, hu1⟩
  have rt1 := rs1.read hx1 hu1
  obtain ⟨ce1, cf1⟩ := rt1.cell 1 _ rfl
  have rs2 := rt1.store 1 (.int .u64 (b : Nat))
  obtain ⟨u2, hr2⟩ := rs2.rd
  go_wp2_with fail
  refine (uvarint _ _ D r c _ u2 Hc.out hr2 (by have := HL.out; simp only [List.length_append, List.length_cons, List.length_nil] at this ⊢; omega)).mono ?_
  rintro e w2 ⟨rfl, F2, x2, hx2, hu2⟩
  have rt2 := rs2.read hx2 hu2
  obtain ⟨ce2, cf2⟩ := rt2.cell 2 _ rfl
  have rs3 := rt2.store 2 (.int .u64 (c : Nat))
  obtain ⟨u3, hr3⟩ := rs3.rd
  go_wp2_with fail
  refine (rdBool _ _ D r x _ u3 hr3 (by have := HL.out; simp only [List.length_append, List.length_cons, List.length_nil] at this ⊢; omega)).mono ?_
  rintro e w3 ⟨rfl, F3, x3, hx3, hu3⟩
  have rt3 := rs3.read hx3 hu3
  obtain ⟨ce3, cf3⟩ := rt3.cell 3 _ rfl
  have rs4 := rt3.store 3 (.bool x)
  obtain ⟨u4, hr4⟩ := rs4.rd
  go_wp2_with fail
  refine (uvarint_short _ _ D r d _ u4 Hd.out hr4 hs).mono ?_
  rintro e w4 ⟨a4, F4, x4, rfl, hx4, hu4⟩
  go_wp2_with fail
  refine (wrapErr _ _ _ _).mono ?_
  rintro e wz ⟨⟨az, rfl⟩, hbz⟩
  go_wp2_with fail
  go_ret
  exact rs4.bad hx4 hu4 hbz

set_option maxRecDepth 100000 in
theorem mProfShort5 (w : World) (F D : Nat → Prop) (r q : Nat) (bs : List UInt8) (a : Nat) (b : Nat) (c : Nat) (x : Bool) (d : Nat) (y : Bool) (ha : a < 18446744073709551616) (hb : b < 18446744073709551616) (hc : c < 18446744073709551616) (hd : d < 18446744073709551616) (ver : Int) (hs : Short bs ([bB y])) (h : Ready w F D r q 96 6 (uv a ++ (uv b ++ (uv c ++ ([bB x] ++ (uv d ++ (bs))))))) :
    Calls Try.prog 156 #[.pointer (some ⟨q, 0, none⟩), .pointer (some ⟨r, 0, none⟩), .int .i64 ver] w (DecBad w F q) := by
  have HL := Lib.hid (mProfLens a b c x d y ha hb hc hd)
  have Ha := Lib.hid ha
  clear ha
  have Hb := Lib.hid hb
  clear hb
  have Hc := Lib.hid hc
  clear hc
  have Hd := Lib.hid hd
  clear hd
  obtain ⟨row, hl, rs0⟩ := h.rs
  obtain ⟨o0, o1, o2, o3, o4, o5, rfl⟩ := list6 hl
  clear h hl
  have hbl := hs.lt
  try simp only [List.append_assoc, List.cons_append, List.nil_append] at rs0
  obtain rfl := hs.nil_of
  go_enter Try.func156, Try.ntmps156
  obtain ⟨u0, hr0⟩ := rs0.rd
  go_wp2_with fail
  refine (uvarint _ _ D r a _ u0 Ha.out hr0 (by have := HL.out; simp only [List.length_append, List.length_cons, List.length_nil] at this ⊢; omega)).mono ?_
  rintro e w0 ⟨rfl, F0, x0, hx0, hu0⟩
  have rt0 := rs0.read hx0 hu0
  obtain ⟨ce0, cf0⟩ := rt0.cell 0 _ rfl
  have rs1 := rt0.store 0 (.int .u64 (a : Nat))
  obtain ⟨u1, hr1⟩ := rs1.rd
  go_wp2_with fail
  refine (uvarint _ _ D r b _ u1 Hb.out hr1 (by have := HL.out; simp only [List.length_append, List.length_cons, List.length_nil] at this ⊢; omega)).mono ?_
  rintro e w1 ⟨rfl, F1, x1, hx1, hu1⟩
  have rt1 := rs1.read hx1 hu1
  obtain ⟨ce1, cf1⟩ := rt1.cell 1 _ rfl
  have rs2 := rt1.store 1 (.int .u64 (b : Nat))
  obtain ⟨u2, hr2⟩ := rs2.rd
  go_wp2_with fail
  refine (uvarint _ _ D r c _ u2 Hc.out hr2 (by have := HL.out; simp only [List.length_append, List.length_cons, List.length_nil] at this ⊢; omega)).mono ?_
  rintro e w2 ⟨rfl, F2, x2, hx2, hu2⟩
  have rt2 := rs2.read hx2 hu2
  obtain ⟨ce2, cf2⟩ := rt2.cell 2 _ rfl
  have rs3 := rt2.store 2 (.int .u64 (c : Nat))
  obtain ⟨u3, hr3⟩ := rs3.rd
  go_wp2_with fail
  refine (rdBool _ _ D r x _ u3 hr3 (by have := HL.out; simp only [List.length_append, List.length_cons, List.length_nil] at this ⊢; omega)).mono ?_
  rintro e w3 ⟨rfl, F3, x3, hx3, hu3⟩
  have rt3 := rs3.read hx3 hu3
  obtain ⟨ce3, cf3⟩ := rt3.cell 3 _ rfl
  have rs4 := rt3.store 3 (.bool x)
  obtain ⟨u4, hr4⟩ := rs4.rd
  go_wp2_with fail
  refine (uvarint _ _ D r d _ u4 Hd.out hr4 (by have := HL.out; simp only [List.length_append, List.length_cons, List.length_nil] at this ⊢; omega)).mono ?_
  rintro e w4 ⟨rfl, F4, x4, hx4, hu4⟩
  have rt4 := rs4.read hx4 hu4
  obtain ⟨ce4, cf4⟩ := rt4.cell 4 _ rfl
  have rs5 := rt4.store 4 (.int .u64 (d : Nat))
  obtain ⟨u5, hr5⟩ := rs5.rd
  go_wp2_with fail
  refine (rdBool_short _ _ D r u5 hr5).mono ?_
  rintro e w5 ⟨a5, F5, x5, rfl, hx5, hu5⟩
  go_wp2_with fail
  refine (wrapErr _ _ _ _).mono ?_
  rintro e wz ⟨⟨az, rfl⟩, hbz⟩
  go_wp2_with fail
  go_ret
  exact rs5.bad hx5 hu5 hbz

theorem mProfShort (w : World) (F D : Nat → Prop) (r q : Nat) (bs : List UInt8) (a : Nat) (b : Nat) (c : Nat) (x : Bool) (d : Nat) (y : Bool) (ha : a < 18446744073709551616) (hb : b < 18446744073709551616) (hc : c < 18446744073709551616) (hd : d < 18446744073709551616) (ver : Int) (hs : Short bs (mProfBytes a b c x d y)) (h : Ready w F D r q 96 6 bs) :
    Calls Try.prog 156 #[.pointer (some ⟨q, 0, none⟩), .pointer (some ⟨r, 0, none⟩), .int .i64 ver] w (DecBad w F q) := by
  unfold mProfBytes at hs
  rcases hs.split with hs0 | ⟨r0, rfl, ht0⟩
  · exact mProfShort0 w F D r q _ a b c x d y ha hb hc hd ver hs0 h
  ·
    rcases ht0.split with hs1 | ⟨r1, rfl, ht1⟩
    · exact mProfShort1 w F D r q _ a b c x d y ha hb hc hd ver hs1 h
    ·
      rcases ht1.split with hs2 | ⟨r2, rfl, ht2⟩
      · exact mProfShort2 w F D r q _ a b c x d y ha hb hc hd ver hs2 h
      ·
        rcases ht2.split with hs3 | ⟨r3, rfl, ht3⟩
        · exact mProfShort3 w F D r q _ a b c x d y ha hb hc hd ver hs3 h
        ·
          rcases ht3.split with hs4 | ⟨r4, rfl, ht4⟩
          · exact mProfShort4 w F D r q _ a b c x d y ha hb hc hd ver hs4 h
          ·
            exact mProfShort5 w F D r q _ a b c x d y ha hb hc hd ver ht4 h
end Go.Proofs.Ytlohpmncagfecaa
