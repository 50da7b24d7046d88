/- Exception: its bytes, EncodeAware, DecodeAware. -/
import Derived.Test.YtlohpmncagfecaaLe
namespace Go.Proofs.Ytlohpmncagfecaa
open Go.RowKit
set_option linter.unusedSimpArgs false
set_option linter.unusedVariables false

def mExcBytes (k : Nat) (a : ByteArray) (b : ByteArray) (c : ByteArray) : List UInt8 := le4 k ++ (strBytes a.data.toList ++ (strBytes b.data.toList ++ (strBytes c.data.toList ++ ([bB false]))))
def mExcVals (k : Nat) (a : ByteArray) (b : ByteArray) (c : ByteArray) : List Value := [Value.int .i64 (k : Nat), Value.string a, Value.string b, Value.string c]
theorem mExcLens (k : Nat) (a : ByteArray) (b : ByteArray) (c : ByteArray) (hk : k ≤ 2147483647) (ha : a.size ≤ 100) (hb : b.size ≤ 100) (hc : c.size ≤ 100) : (le4 k).length ≤ 4 ∧ (strBytes a.data.toList).length ≤ 110 ∧ (strBytes b.data.toList).length ≤ 110 ∧ (strBytes c.data.toList).length ≤ 110 := by
  exact ⟨Nat.le_of_eq (le4_length _), strBytes_le a ha, strBytes_le b hb, strBytes_le c hc⟩
theorem mExcLen (k : Nat) (a : ByteArray) (b : ByteArray) (c : ByteArray) (hk : k ≤ 2147483647) (ha : a.size ≤ 100) (hb : b.size ≤ 100) (hc : c.size ≤ 100) : (mExcBytes k a b c).length ≤ 1000 := by
  have h := mExcLens k a b c hk ha hb hc
  unfold mExcBytes
  simp only [List.length_append, List.length_cons, List.length_nil] at h ⊢
  omega

set_option maxRecDepth 100000 in
theorem mExcEncode (w : World) (F : Nat → Prop) (p q : Nat) (k : Nat) (a : ByteArray) (b : ByteArray) (c : ByteArray) (hk : k ≤ 2147483647) (ha : a.size ≤ 100) (hb : b.size ≤ 100) (hc : c.size ≤ 100) (ver : Int) (h : BufAt w F 119 p []) (hF : In F w) (hq : RowIs w q (mExcVals k a b c)) (hn : ¬ F q) :
    Calls Try.prog 158 #[.pointer (some ⟨q, 0, none⟩), .pointer (some ⟨p, 0, none⟩), .int .i64 ver] w (Put w F 119 p (mExcBytes k a b c)) := by
  have HL := Lib.hid (mExcLens k a b c hk ha hb hc)
  have w32k : wrap32 (k : Int) = (k : Int) := wrap32_small hk
  have w64k : wrap64 (k : Int) = (k : Int) := wrap64_small hk
  have Hk := Lib.hid hk
  clear hk
  unfold mExcVals at hq
  have es0 : ES w F w F p [] q (.int .i64 (k : Nat)) [.string a, .string b, .string c] := ⟨h, hF, Upd.refl _ _, hq, hn⟩
  clear h hF hq hn
  go_enter Try.func158, Try.ntmps158
  have c0_0 := es0.row 0 _ rfl
  have c0_1 := es0.row 1 _ rfl
  have c0_2 := es0.row 2 _ rfl
  have c0_3 := es0.row 3 _ rfl
  go_wp2_with fail
  refine (putInt32 _ _ p _ k Hk.out es0.buf es0.inn (by have := HL.out; (try simp only [List.length_append, List.length_cons, List.length_nil] at this ⊢); omega)).mono ?_
  intro e w1 hp
  obtain ⟨F1, rfl, es1⟩ := es0.step hp
  clear hp es0 c0_0 c0_1 c0_2 c0_3
  have c1_0 := es1.row 0 _ rfl
  have c1_1 := es1.row 1 _ rfl
  have c1_2 := es1.row 2 _ rfl
  have c1_3 := es1.row 3 _ rfl
  go_wp2_with fail
  refine (putStr _ _ p _ a es1.buf es1.inn (by omega) (by have := HL.out; (try simp only [List.length_append, List.length_cons, List.length_nil] at this ⊢); omega)).mono ?_
  intro e w2 hp
  obtain ⟨F2, rfl, es2⟩ := es1.step hp
  clear hp es1 c1_0 c1_1 c1_2 c1_3
  have c2_0 := es2.row 0 _ rfl
  have c2_1 := es2.row 1 _ rfl
  have c2_2 := es2.row 2 _ rfl
  have c2_3 := es2.row 3 _ rfl
  go_wp2_with fail
  refine (putStr _ _ p _ b es2.buf es2.inn (by omega) (by have := HL.out; (try simp only [List.length_append, List.length_cons, List.length_nil] at this ⊢); omega)).mono ?_
  intro e w3 hp
  obtain ⟨F3, rfl, es3⟩ := es2.step hp
  clear hp es2 c2_0 c2_1 c2_2 c2_3
  have c3_0 := es3.row 0 _ rfl
  have c3_1 := es3.row 1 _ rfl
  have c3_2 := es3.row 2 _ rfl
  have c3_3 := es3.row 3 _ rfl
  go_wp2_with fail
  refine (putStr _ _ p _ c es3.buf es3.inn (by omega) (by have := HL.out; (try simp only [List.length_append, List.length_cons, List.length_nil] at this ⊢); omega)).mono ?_
  intro e w4 hp
  obtain ⟨F4, rfl, es4⟩ := es3.step hp
  clear hp es3 c3_0 c3_1 c3_2 c3_3
  have c4_0 := es4.row 0 _ rfl
  have c4_1 := es4.row 1 _ rfl
  have c4_2 := es4.row 2 _ rfl
  have c4_3 := es4.row 3 _ rfl
  go_wp2_with fail
  refine (putBool _ _ p _ false es4.buf (by have := HL.out; (try simp only [List.length_append, List.length_cons, List.length_nil] at this ⊢); omega)).mono ?_
  intro e w5 hp
  obtain ⟨F5, rfl, es5⟩ := es4.step hp
  clear hp es4 c4_0 c4_1 c4_2 c4_3
  have c5_0 := es5.row 0 _ rfl
  have c5_1 := es5.row 1 _ rfl
  have c5_2 := es5.row 2 _ rfl
  have c5_3 := es5.row 3 _ rfl
  go_wp2_with fail
  go_returns
  have h := es5.put
  unfold mExcBytes
  simpa using h

set_option maxRecDepth 100000 in
theorem mExcDecode (w : World) (F D : Nat → Prop) (r q : Nat) (tail : List UInt8) (k : Nat) (a : ByteArray) (b : ByteArray) (c : ByteArray) (hk : k ≤ 2147483647) (ha : a.size ≤ 100) (hb : b.size ≤ 100) (hc : c.size ≤ 100) (ver : Int) (ht : tail.length ≤ 100) (h : Ready w F D r q 106 4 (mExcBytes k a b c ++ tail)) :
    Calls Try.prog 157 #[.pointer (some ⟨q, 0, none⟩), .pointer (some ⟨r, 0, none⟩), .int .i64 ver] w (DecOk w F D r q 106 tail [Value.int .i64 (k : Nat), Value.string ⟨a.data.toList.toArray⟩, Value.string ⟨b.data.toList.toArray⟩, Value.string ⟨c.data.toList.toArray⟩]) := by
  have HL := Lib.hid (mExcLens k a b c hk ha hb hc)
  have w32k : wrap32 (k : Int) = (k : Int) := wrap32_small hk
  have w64k : wrap64 (k : Int) = (k : Int) := wrap64_small hk
  have Hk := Lib.hid hk
  clear hk
  obtain ⟨row, hl, rs0⟩ := h.rs
  obtain ⟨o0, o1, o2, o3, rfl⟩ := list4 hl
  clear h hl
  unfold mExcBytes at rs0
  simp only [List.append_assoc, List.cons_append, List.nil_append] at rs0
  go_enter Try.func157, Try.ntmps157
  obtain ⟨u0, hr0⟩ := rs0.rd
  go_wp2_with fail
  refine (rdInt32 _ _ D r k _ u0 Hk.out hr0 (by have := HL.out; (try simp only [List.length_append, List.length_cons, List.length_nil] at this ⊢); omega)).mono ?_
  rintro e w0 ⟨rfl, F0, x0, hx0, hu0⟩
  have rt0 := rs0.read hx0 hu0
  obtain ⟨ce0, cf0⟩ := rt0.cell 0 _ rfl
  have rs1 := rt0.store 0 (.int .i64 (k : Nat))
  obtain ⟨u1, hr1⟩ := rs1.rd
  go_wp2_with fail
  refine (str _ _ D r a.data.toList _ u1 hr1 (by have := HL.out; (try simp only [List.length_append, List.length_cons, List.length_nil] at this ⊢); omega)).mono ?_
  rintro e w1 ⟨rfl, F1, x1, hx1, hu1⟩
  have rt1 := rs1.read hx1 hu1
  obtain ⟨ce1, cf1⟩ := rt1.cell 1 _ rfl
  have rs2 := rt1.store 1 (.string ⟨a.data.toList.toArray⟩)
  obtain ⟨u2, hr2⟩ := rs2.rd
  go_wp2_with fail
  refine (str _ _ D r b.data.toList _ u2 hr2 (by have := HL.out; (try simp only [List.length_append, List.length_cons, List.length_nil] at this ⊢); omega)).mono ?_
  rintro e w2 ⟨rfl, F2, x2, hx2, hu2⟩
  have rt2 := rs2.read hx2 hu2
  obtain ⟨ce2, cf2⟩ := rt2.cell 2 _ rfl
  have rs3 := rt2.store 2 (.string ⟨b.data.toList.toArray⟩)
  obtain ⟨u3, hr3⟩ := rs3.rd
  go_wp2_with fail
  refine (str _ _ D r c.data.toList _ u3 hr3 (by have := HL.out; (try simp only [List.length_append, List.length_cons, List.length_nil] at this ⊢); omega)).mono ?_
  rintro e w3 ⟨rfl, F3, x3, hx3, hu3⟩
  have rt3 := rs3.read hx3 hu3
  obtain ⟨ce3, cf3⟩ := rt3.cell 3 _ rfl
  have rs4 := rt3.store 3 (.string ⟨c.data.toList.toArray⟩)
  obtain ⟨u4, hr4⟩ := rs4.rd
  go_wp2_with fail
  refine (rdBool _ _ D r false _ u4 hr4 (by have := HL.out; (try simp only [List.length_append, List.length_cons, List.length_nil] at this ⊢); omega)).mono ?_
  rintro e w4 ⟨rfl, F4, x4, hx4, hu4⟩
  have rt4 := rs4.read hx4 hu4
  have rs5 := rt4
  go_wp2_with fail
  go_ret
  exact rs5.ok

set_option maxRecDepth 100000 in
theorem mExcShort0 (w : World) (F D : Nat → Prop) (r q : Nat) (bs : List UInt8) (k : Nat) (a : ByteArray) (b : ByteArray) (c : ByteArray) (hk : k ≤ 2147483647) (ha : a.size ≤ 100) (hb : b.size ≤ 100) (hc : c.size ≤ 100) (ver : Int) (hs : Short bs (le4 k)) (h : Ready w F D r q 106 4 (bs)) :
    Calls Try.prog 157 #[.pointer (some ⟨q, 0, none⟩), .pointer (some ⟨r, 0, none⟩), .int .i64 ver] w (DecBad w F q) := by
  have HL := Lib.hid (mExcLens k a b c hk ha hb hc)
  have w32k : wrap32 (k : Int) = (k : Int) := wrap32_small hk
  have w64k : wrap64 (k : Int) = (k : Int) := wrap64_small hk
  have Hk := Lib.hid hk
  clear hk
  obtain ⟨row, hl, rs0⟩ := h.rs
  obtain ⟨o0, o1, o2, o3, rfl⟩ := list4 hl
  clear h hl
  have hbl := hs.lt
  go_enter Try.func157, Try.ntmps157
  obtain ⟨u0, hr0⟩ := rs0.rd
  go_wp2_with fail
  refine (rdInt32_short _ _ D r k _ u0 hr0 hs).mono ?_
  rintro e w0 ⟨a0, F0, x0, rfl, hx0, hu0⟩
  go_wp2_with fail
  refine (wrapErr _ _ _ _).mono ?_
  rintro e wz ⟨⟨az, rfl⟩, hbz⟩
  go_wp2_with fail
  go_ret
  exact rs0.bad hx0 hu0 hbz

set_option maxRecDepth 100000 in
theorem mExcShort1 (w : World) (F D : Nat → Prop) (r q : Nat) (bs : List UInt8) (k : Nat) (a : ByteArray) (b : ByteArray) (c : ByteArray) (hk : k ≤ 2147483647) (ha : a.size ≤ 100) (hb : b.size ≤ 100) (hc : c.size ≤ 100) (ver : Int) (hs : Short bs (strBytes a.data.toList)) (h : Ready w F D r q 106 4 (le4 k ++ (bs))) :
    Calls Try.prog 157 #[.pointer (some ⟨q, 0, none⟩), .pointer (some ⟨r, 0, none⟩), .int .i64 ver] w (DecBad w F q) := by
  have HL := Lib.hid (mExcLens k a b c hk ha hb hc)
  have w32k : wrap32 (k : Int) = (k : Int) := wrap32_small hk
  have w64k : wrap64 (k : Int) = (k : Int) := wrap64_small hk
  have Hk := Lib.hid hk
  clear hk
  obtain ⟨row, hl, rs0⟩ := h.rs
  obtain ⟨o0, o1, o2, o3, rfl⟩ := list4 hl
  clear h hl
  have hbl := hs.lt
  try simp only [List.append_assoc, List.cons_append, List.nil_append] at rs0
  go_enter Try.func157, Try.ntmps157
  obtain ⟨u0, hr0⟩ := rs0.rd
  go_wp2_with fail
  refine (rdInt32 _ _ D r k _ u0 Hk.out hr0 (by have := HL.out; (try simp only [List.length_append, List.length_cons, List.length_nil] at this ⊢); omega)).mono ?_
  rintro e w0 ⟨rfl, F0, x0, hx0, hu0⟩
  have rt0 := rs0.read hx0 hu0
  obtain ⟨ce0, cf0⟩ := rt0.cell 0 _ rfl
  have rs1 := rt0.store 0 (.int .i64 (k : Nat))
  obtain ⟨u1, hr1⟩ := rs1.rd
  go_wp2_with fail
  refine (str_short _ _ D r a.data.toList _ u1 hr1 hs (by have := HL.out; (try simp only [List.length_append, List.length_cons, List.length_nil] at this ⊢); omega)).mono ?_
  rintro e w1 ⟨a1, F1, x1, rfl, hx1, hu1⟩
  go_wp2_with fail
  refine (wrapErr _ _ _ _).mono ?_
  rintro e wz ⟨⟨az, rfl⟩, hbz⟩
  go_wp2_with fail
  go_ret
  exact rs1.bad hx1 hu1 hbz

set_option maxRecDepth 100000 in
theorem mExcShort2 (w : World) (F D : Nat → Prop) (r q : Nat) (bs : List UInt8) (k : Nat) (a : ByteArray) (b : ByteArray) (c : ByteArray) (hk : k ≤ 2147483647) (ha : a.size ≤ 100) (hb : b.size ≤ 100) (hc : c.size ≤ 100) (ver : Int) (hs : Short bs (strBytes b.data.toList)) (h : Ready w F D r q 106 4 (le4 k ++ (strBytes a.data.toList ++ (bs)))) :
    Calls Try.prog 157 #[.pointer (some ⟨q, 0, none⟩), .pointer (some ⟨r, 0, none⟩), .int .i64 ver] w (DecBad w F q) := by
  have HL := Lib.hid (mExcLens k a b c hk ha hb hc)
  have w32k : wrap32 (k : Int) = (k : Int) := wrap32_small hk
  have w64k : wrap64 (k : Int) = (k : Int) := wrap64_small hk
  have Hk := Lib.hid hk
  clear hk
  obtain ⟨row, hl, rs0⟩ := h.rs
  obtain ⟨o0, o1, o2, o3, rfl⟩ := list4 hl
  clear h hl
  have hbl := hs.lt
  try simp only [List.append_assoc, List.cons_append, List.nil_append] at rs0
  go_enter Try.func157, Try.ntmps157
  obtain ⟨u0, hr0⟩ := rs0.rd
  go_wp2_with fail
  refine (rdInt32 _ _ D r k _ u0 Hk.out hr0 (by have := HL.out; (try simp only [List.length_append, List.length_cons, List.length_nil] at this ⊢); omega)).mono ?_
  rintro e w0 ⟨rfl, F0, x0, hx0, hu0⟩
  have rt0 := rs0.read hx0 hu0
  obtain ⟨ce0, cf0⟩ := rt0.cell 0 _ rfl
  have rs1 := rt0.store 0 (.int .i64 (k : Nat))
  obtain ⟨u1, hr1⟩ := rs1.rd
  go_wp2_with fail
  refine (str _ _ D r a.data.toList _ u1 hr1 (by have := HL.out; (try simp only [List.length_append, List.length_cons, List.length_nil] at this ⊢); omega)).mono ?_
  rintro e w1 ⟨rfl, F1, x1, hx1, hu1⟩
  have rt1 := rs1.read hx1 hu1
  obtain ⟨ce1, cf1⟩ := rt1.cell 1 _ rfl
  have rs2 := rt1.store 1 (.string ⟨a.data.toList.toArray⟩)
  obtain ⟨u2, hr2⟩ := rs2.rd
  go_wp2_with fail
  refine (str_short _ _ D r b.data.toList _ u2 hr2 hs (by have := HL.out; (try simp only [List.length_append, List.length_cons, List.length_nil] at this ⊢); omega)).mono ?_
  rintro e w2 ⟨a2, F2, x2, rfl, hx2, hu2⟩
  go_wp2_with fail
  refine (wrapErr _ _ _ _).mono ?_
  rintro e wz ⟨⟨az, rfl⟩, hbz⟩
  go_wp2_with fail
  go_ret
  exact rs2.bad hx2 hu2 hbz

set_option maxRecDepth 100000 in
theorem mExcShort3 (w : World) (F D : Nat → Prop) (r q : Nat) (bs : List UInt8) (k : Nat) (a : ByteArray) (b : ByteArray) (c : ByteArray) (hk : k ≤ 2147483647) (ha : a.size ≤ 100) (hb : b.size ≤ 100) (hc : c.size ≤ 100) (ver : Int) (hs : Short bs (strBytes c.data.toList)) (h : Ready w F D r q 106 4 (le4 k ++ (strBytes a.data.toList ++ (strBytes b.data.toList ++ (bs))))) :
    Calls Try.prog 157 #[.pointer (some ⟨q, 0, none⟩), .pointer (some ⟨r, 0, none⟩), .int .i64 ver] w (DecBad w F q) := by
  have HL := Lib.hid (mExcLens k a b c hk ha hb hc)
  have w32k : wrap32 (k : Int) = (k : Int) := wrap32_small hk
  have w64k : wrap64 (k : Int) = (k : Int) := wrap64_small hk
  have Hk := Lib.hid hk
  clear hk
  obtain ⟨row, hl, rs0⟩ := h.rs
  obtain ⟨o0, o1, o2, o3, rfl⟩ := list4 hl
  clear h hl
  have hbl := hs.lt
  try simp only [List.append_assoc, List.cons_append, List.nil_append] at rs0
  go_enter Try.func157, Try.ntmps157
  obtain ⟨u0, hr0⟩ := rs0.rd
  go_wp2_with fail
  refine (rdInt32 _ _ D r k _ u0 Hk.out hr0 (by have := HL.out; (try simp only [List.length_append, List.length_cons, List.length_nil] at this ⊢); omega)).mono ?_
  rintro e w0 ⟨rfl, F0, x0, hx0, hu0⟩
  have rt0 := rs0.read hx0 hu0
  obtain ⟨ce0, cf0⟩ := rt0.cell 0 _ rfl
  have rs1 := rt0.store 0 (.int .i64 (k : Nat))
  obtain ⟨u1, hr1⟩ := rs1.rd
  go_wp2_with fail
  refine (str _ _ D r a.data.toList _ u1 hr1 (by have := HL.out; (try simp only [List.length_append, List.length_cons, List.length_nil] at this ⊢); omega)).mono ?_
  rintro e w1 ⟨rfl, F1, x1, hx1, hu1⟩
  have rt1 := rs1.read hx1 hu1
  obtain ⟨ce1, cf1⟩ := rt1.cell 1 _ rfl
  have rs2 := rt1.store 1 (.string ⟨a.data.toList.toArray⟩)
  obtain ⟨u2, hr2⟩ := rs2.rd
  go_wp2_with fail
  refine (str _ _ D r b.data.toList _ u2 hr2 (by have := HL.out; (try simp only [List.length_append, List.length_cons, List.length_nil] at this ⊢); omega)).mono ?_
  rintro e w2 ⟨rfl, F2, x2, hx2, hu2⟩
  have rt2 := rs2.read hx2 hu2
  obtain ⟨ce2, cf2⟩ := rt2.cell 2 _ rfl
  have rs3 := rt2.store 2 (.string ⟨b.data.toList.toArray⟩)
  obtain ⟨u3, hr3⟩ := rs3.rd
  go_wp2_with fail
  refine (str_short _ _ D r c.data.toList _ u3 hr3 hs (by have := HL.out; (try simp only [List.length_append, List.length_cons, List.length_nil] at this ⊢); omega)).mono ?_
  rintro e w3 ⟨a3, F3, x3, rfl, hx3, hu3⟩
  go_wp2_with fail
  refine (wrapErr _ _ _ _).mono ?_
  rintro e wz ⟨⟨az, rfl⟩, hbz⟩
  go_wp2_with fail
  go_ret
  exact rs3.bad hx3 hu3 hbz

set_option maxRecDepth 100000 in
theorem mExcShort4 (w : World) (F D : Nat → Prop) (r q : Nat) (bs : List UInt8) (k : Nat) (a : ByteArray) (b : ByteArray) (c : ByteArray) (hk : k ≤ 2147483647) (ha : a.size ≤ 100) (hb : b.size ≤ 100) (hc : c.size ≤ 100) (ver : Int) (hs : Short bs ([bB false])) (h : Ready w F D r q 106 4 (le4 k ++ (strBytes a.data.toList ++ (strBytes b.data.toList ++ (strBytes c.data.toList ++ (bs)))))) :
    Calls Try.prog 157 #[.pointer (some ⟨q, 0, none⟩), .pointer (some ⟨r, 0, none⟩), .int .i64 ver] w (DecBad w F q) := by
  have HL := Lib.hid (mExcLens k a b c hk ha hb hc)
  have w32k : wrap32 (k : Int) = (k : Int) := wrap32_small hk
  have w64k : wrap64 (k : Int) = (k : Int) := wrap64_small hk
  have Hk := Lib.hid hk
  clear hk
  obtain ⟨row, hl, rs0⟩ := h.rs
  obtain ⟨o0, o1, o2, o3, rfl⟩ := list4 hl
  clear h hl
  have hbl := hs.lt
  try simp only [List.append_assoc, List.cons_append, List.nil_append] at rs0
  obtain rfl := hs.nil_of
  go_enter Try.func157, Try.ntmps157
  obtain ⟨u0, hr0⟩ := rs0.rd
  go_wp2_with fail
  refine (rdInt32 _ _ D r k _ u0 Hk.out hr0 (by have := HL.out; (try simp only [List.length_append, List.length_cons, List.length_nil] at this ⊢); omega)).mono ?_
  rintro e w0 ⟨rfl, F0, x0, hx0, hu0⟩
  have rt0 := rs0.read hx0 hu0
  obtain ⟨ce0, cf0⟩ := rt0.cell 0 _ rfl
  have rs1 := rt0.store 0 (.int .i64 (k : Nat))
  obtain ⟨u1, hr1⟩ := rs1.rd
  go_wp2_with fail
  refine (str _ _ D r a.data.toList _ u1 hr1 (by have := HL.out; (try simp only [List.length_append, List.length_cons, List.length_nil] at this ⊢); omega)).mono ?_
  rintro e w1 ⟨rfl, F1, x1, hx1, hu1⟩
  have rt1 := rs1.read hx1 hu1
  obtain ⟨ce1, cf1⟩ := rt1.cell 1 _ rfl
  have rs2 := rt1.store 1 (.string ⟨a.data.toList.toArray⟩)
  obtain ⟨u2, hr2⟩ := rs2.rd
  go_wp2_with fail
  refine (str _ _ D r b.data.toList _ u2 hr2 (by have := HL.out; (try simp only [List.length_append, List.length_cons, List.length_nil] at this ⊢); omega)).mono ?_
  rintro e w2 ⟨rfl, F2, x2, hx2, hu2⟩
  have rt2 := rs2.read hx2 hu2
  obtain ⟨ce2, cf2⟩ := rt2.cell 2 _ rfl
  have rs3 := rt2.store 2 (.string ⟨b.data.toList.toArray⟩)
  obtain ⟨u3, hr3⟩ := rs3.rd
  go_wp2_with fail
  refine (str _ _ D r c.data.toList _ u3 hr3 (by have := HL.out; (try simp only [List.length_append, List.length_cons, List.length_nil] at this ⊢); omega)).mono ?_
  rintro e w3 ⟨rfl, F3, x3, hx3, hu3⟩
  have rt3 := rs3.read hx3 hu3
  obtain ⟨ce3, cf3⟩ := rt3.cell 3 _ rfl
  have rs4 := rt3.store 3 (.string ⟨c.data.toList.toArray⟩)
  obtain ⟨u4, hr4⟩ := rs4.rd
  go_wp2_with fail
  refine (rdBool_short _ _ D r u4 hr4).mono ?_
  rintro e w4 ⟨a4, F4, x4, rfl, hx4, hu4⟩
  go_wp2_with fail
  refine (wrapErr _ _ _ _).mono ?_
  rintro e wz ⟨⟨az, rfl⟩, hbz⟩
  go_wp2_with fail
  go_ret
  exact rs4.bad hx4 hu4 hbz

theorem mExcShort (w : World) (F D : Nat → Prop) (r q : Nat) (bs : List UInt8) (k : Nat) (a : ByteArray) (b : ByteArray) (c : ByteArray) (hk : k ≤ 2147483647) (ha : a.size ≤ 100) (hb : b.size ≤ 100) (hc : c.size ≤ 100) (ver : Int) (hs : Short bs (mExcBytes k a b c)) (h : Ready w F D r q 106 4 bs) :
    Calls Try.prog 157 #[.pointer (some ⟨q, 0, none⟩), .pointer (some ⟨r, 0, none⟩), .int .i64 ver] w (DecBad w F q) := by
  unfold mExcBytes at hs
  rcases hs.split with hs0 | ⟨r0, rfl, ht0⟩
  · exact mExcShort0 w F D r q _ k a b c hk ha hb hc ver hs0 h
  ·
    rcases ht0.split with hs1 | ⟨r1, rfl, ht1⟩
    · exact mExcShort1 w F D r q _ k a b c hk ha hb hc ver hs1 h
    ·
      rcases ht1.split with hs2 | ⟨r2, rfl, ht2⟩
      · exact mExcShort2 w F D r q _ k a b c hk ha hb hc ver hs2 h
      ·
        rcases ht2.split with hs3 | ⟨r3, rfl, ht3⟩
        · exact mExcShort3 w F D r q _ k a b c hk ha hb hc ver hs3 h
        ·
          exact mExcShort4 w F D r q _ k a b c hk ha hb hc ver ht3 h
end Go.Proofs.Ytlohpmncagfecaa
