/- proto.ColArr[string]: Append, AppendArr, RowLen; impl.ARLens. -/
import Derived.Test.YtifnjiimlpjljaaArrD
namespace Go.Proofs.Ytifnjiimlpjljaa
open Go.RowKit
set_option linter.unusedVariables false
set_option linter.unusedSimpArgs false

theorem bytesOf_append (a b : List ByteArray) : bytesOf (a ++ b) = bytesOf a ++ bytesOf b := by simp [bytesOf]

set_option maxRecDepth 100000 in
theorem strAppendArr (w : World) (F : Nat → Prop) (T : TypeId) (q : Nat) (l : List (List UInt8)) (v : Value) (ss : List ByteArray) (hvK : ∀ W, Chg F w W → StrL W v ss) (h : StrCol w F T q l) (hl : (l ++ bytesOf ss).flatten.length ≤ 100000000) (hn : l.length + ss.length ≤ 100000000) :
    Calls Try.prog 111 #[.pointer (some ⟨q, 0, none⟩), v] w (PutS w F T q (l ++ bytesOf ss)) := by
  obtain ⟨p, c, rfl, hc⟩ := (hvK w (Chg.refl _ _)).slice
  have HL := Lib.hid hvK
  have HB : Hid (∀ i s, ss[i]? = some s → (l ++ bytesOf (ss.take i)).flatten.length + s.size ≤ 140737488355328 ∧ (l ++ bytesOf (ss.take i)).length + 1 ≤ 8796093022208) := Lib.hid fun i s hs => by
    have e : ss = ss.take i ++ (s :: ss.drop (i + 1)) := by
      obtain ⟨hi, rfl⟩ := List.getElem?_eq_some_iff.1 hs
      rw [← List.drop_eq_getElem_cons hi, List.take_append_drop]
    have h1 : (l ++ bytesOf ss).flatten.length = (l ++ bytesOf (ss.take i)).flatten.length + s.size + (bytesOf (ss.drop (i + 1))).flatten.length := by
      conv => lhs; rw [e]
      rw [bytesOf_append, ← List.append_assoc, List.flatten_append, List.length_append]
      have : (bytesOf (s :: ss.drop (i + 1))).flatten.length = s.size + (bytesOf (ss.drop (i + 1))).flatten.length := by
        unfold bytesOf
        rw [List.map_cons, List.flatten_cons, List.length_append, Array.length_toList]
        rfl
      omega
    obtain ⟨hi, -⟩ := List.getElem?_eq_some_iff.1 hs
    have h2 : (bytesOf (ss.take i)).length ≤ ss.length := by unfold bytesOf; simp; omega
    rw [List.length_append]
    omega
  have HC := Lib.hid h
  clear hvK h hl
  go_enter Try.func111, Try.ntmps111
  go_wp2_with fail
  go_loopw [8] (fun vi wr => ∃ (i : Nat) (F' : Nat → Prop), i ≤ ss.length ∧ vi = .int .i64 i ∧ StrCol wr F' T q (l ++ bytesOf (ss.take i)) ∧ Upd w wr F F') (fun vi _ => ss.length - (intOf vi).toNat)
  case atStart => exact ⟨0, F, Nat.zero_le _, rfl, by simpa [bytesOf] using HC.out, Upd.refl _ _⟩
  case round =>
    obtain ⟨i, F', hi, rfl, hC, hU⟩ := hrel
    by_cases hlt : i < ss.length
    · obtain ⟨s, hsi⟩ : ∃ s, ss[i]? = some s := ⟨_, List.getElem?_eq_getElem hlt⟩
      obtain ⟨g, o, rfl, -, -, -, hcx⟩ := (HL.out wr hU.chg).row hsi
      obtain ⟨hb1, hb2⟩ := HB.out i s hsi
      have HA := Lib.hid (strAppend wr F' T q _ s hC hb1 hb2)
      have HS : Hid (l ++ bytesOf (ss.take (i + 1)) = l ++ bytesOf (ss.take i) ++ [s.data.toList]) := Lib.hid (by rw [takeSnoc hsi, bytesOf_append, List.append_assoc]; rfl)
      have HU := Lib.hid hU
      clear hsi hC hU hb1 hb2
      go_wp2_with fail
      refine HA.out.mono ?_
      rintro e w2 ⟨rfl, F2, hC2, hU2⟩
      have H2 := Lib.hid (And.intro hC2 hU2)
      clear hC2 hU2
      go_wp2_with fail
      go_roundw
      case rel => exact ⟨i + 1, F2, hlt, by go_num, by rw [HS.out]; exact H2.out.1, HU.out.trans H2.out.2⟩
      case measure => simp [intOf]; omega
    · obtain rfl : i = ss.length := by omega
      have HH := Lib.hid (And.intro hC hU)
      clear hC hU
      go_wp2_with fail
      go_returns
      have h := HH.out.1
      rw [List.take_length] at h
      exact ⟨rfl, F', h, HH.out.2⟩

theorem wp_head {o : Oper} {a : Act} {K : Act → World → Prop} {Q : Exit → Act → World → Prop} {T TA E : TypeId} {size bytes : Nat} (el : Elem TA E size bytes) (w : World) (q : Nat) (v : Value) (ys : List Value) (n : Nat) (xs : List Value) (hX : HeadX w T E size q v ys n xs) (s x : Operand) (tx : TypeId)
    (ho : o.op = .call { callee := .builtin .append, args := #[s, x], argTypes := #[TA, tx] }) (hs : a.eval s = v) (xv : Value) (hx : a.eval x = xv) (k : Nat) (news : List Value) (hsrc : Src Try.prog size tx xv k news w) (hl : n + k ≤ 140737488355328) (hlb : (n + k) * bytes ≤ 140737488355328)
    (h : ∀ p c w1, GrewH w T E size q v (.slice p (n + k) c) ys (n + k) (xs ++ news) w1 → K (a.put o.dst (.slice p (n + k) c)) w1) : o.wp Try.prog a w K Q := by
  refine wp_append_rows el w (fun k => v.ownBlock = some k) n k xs news s x tx ho v hs ⟨hX.own, fun g hg => hg⟩ xv hx hsrc hl hlb ?_
  intro p c w1 F' hown hu
  exact h p c w1 (hX.grew hown hu)
theorem step_head {ops : Array Oper} {o : Oper} {a : Act} {K : Act → World → Prop} {Q : Exit → Act → World → Prop} {Z : Prop} {T TA E : TypeId} {size bytes : Nat} (el : Elem TA E size bytes) (hgd : o.guard = none) (w : World) (q : Nat) (v : Value) (ys : List Value) (n : Nat) (xs : List Value) (hX : HeadX w T E size q v ys n xs) (s x : Operand) (tx : TypeId)
    (ho : o.op = .call { callee := .builtin .append, args := #[s, x], argTypes := #[TA, tx] }) (hs : a.eval s = v) (xv : Value) (hx : a.eval x = xv) (k : Nat) (news : List Value) (hsrc : Src Try.prog size tx xv k news w) (hl : n + k ≤ 140737488355328) (hlb : (n + k) * bytes ≤ 140737488355328)
    (h : ∀ p c w1, GrewH w T E size q v (.slice p (n + k) c) ys (n + k) (xs ++ news) w1 → K (a.put o.dst (.slice p (n + k) c)) w1) : if Region.wanted o (yielded ops a.tmps) = true then Oper.wp Try.prog o a w K Q else Z := by
  rw [if_pos (by simp [Region.wanted, hgd])]
  exact wp_head el w q v ys n xs hX s x tx ho hs xv hx k news hsrc hl hlb h

theorem mStrApp : MRow 80 "AppendArr" [] (some (111, true)) := mRow_of (by kernel_rfl)
theorem mStrRows : MRow 80 "Rows" [] (some (115, false)) := mRow_of (by kernel_rfl)
theorem oStr2 : Own 111 ∧ Own 115 := ⟨fun _ _ => by kernel_rfl, fun _ _ => by kernel_rfl⟩

def PutA (w : World) (Fq Fd : Nat → Prop) (q d : Nat) (offs : List Nat) (l : List (List UInt8)) (e : Ending) (w' : World) : Prop :=
  e = .returned (.tuple #[]) ∧ ∃ Fq' Fd', ArrX w' Fq' Fd' q d offs l ∧ Upd w w' (fun k => Fq k ∨ Fd k) (fun k => Fq' k ∨ Fd' k)
theorem u64s_snoc (l : List Nat) (x : Nat) : u64s (l ++ [x]) = u64s l ++ [.int .u64 (x : Int)] := by simp [u64s]

theorem putA_of {w w2 w3 W : World} {Fq Fd Fd2 : Nat → Prop} {q d : Nat} {offs : List Nat} {l l2 : List (List UInt8)} {x : Nat} {v v' : Value} (hX : ArrX w Fq Fd q d offs l) (hC2 : StrCol w2 Fd2 83 d l2) (hU2 : Upd w w2 Fd Fd2) (hv : ∀ k, FpN q v k → Fq k)
    (h3 : Below w2.heap.size w2 w3) (hg : GrewH w3 140 67 1 q v v' (arrY d) (offs.length + 1) (u64s offs ++ [.int .u64 (x : Int)]) W) : PutA w Fq Fd q d (offs ++ [x]) l2 (.returned (.tuple #[])) (W.setCell ⟨q, 0, none⟩ v') := by
  have s2 := hU2.chg.size
  have s3 := h3.size
  have hu := hg.upd
  have s4 := hu.chg.size
  have i2 : In Fd2 w2 := hU2.inn hX.ind
  have d2 : ∀ k, FpN q v k → ¬ Fd2 k := fun k hk e => by
    rcases hU2.new k e with h | h
    · exact hX.dis k (hv k hk) h
    · have := hX.inq k (hv k hk); omega
  refine ⟨rfl, FpN q v', Fd2, ⟨?_, ?_, ?_, ?_, fun k hk e => ?_⟩, ?_⟩
  · rw [u64s_snoc, List.length_append]
    exact ⟨v', hg.ok, fun k hk => hk⟩
  · exact (hC2.keep h3).chg hu.chg fun k hk e => d2 k e hk
  · exact hg.ok.inn
  · intro k hk
    have := i2 k hk
    omega
  · rcases hu.new k hk with h | h
    · exact d2 k h e
    · have := i2 k e; omega
  · refine ⟨?_, fun k hk => ?_⟩
    · refine ((hU2.chg.mono (G := fun k => Fq k ∨ Fd k) fun k _ h => .inr h).trans (Chg.of_below (F := fun _ => False) h3) fun _ _ h => h.elim).trans hu.chg fun k hk h => .inl (hv k h)
    · rcases hk with h | h
      · rcases hu.new k h with h | h
        · exact .inl (.inl (hv k h))
        · exact .inr ⟨by omega, h.2⟩
      · rcases hU2.new k h with h | h
        · exact .inl (.inr h)
        · exact .inr ⟨h.1, by omega⟩

set_option maxRecDepth 100000 in
set_option maxHeartbeats 1000000 in
theorem arrAppend (w : World) (Fq Fd : Nat → Prop) (q d : Nat) (offs : List Nat) (l : List (List UInt8)) (v : Value) (ss : List ByteArray) (hX : ArrX w Fq Fd q d offs l) (hvK : ∀ W, Chg Fd w W → StrL W v ss) (hl : (l ++ bytesOf ss).flatten.length ≤ 100000000) (hn : l.length + ss.length ≤ 100000000) (ho : offs.length ≤ 1000000) :
    Calls Try.prog 58 #[.pointer (some ⟨q, 0, none⟩), v] w (PutA w Fq Fd q d (offs ++ [l.length + ss.length]) (l ++ bytesOf ss)) := by
  obtain ⟨p, c, rfl, hc⟩ := (hvK w (Chg.refl _ _)).slice
  obtain ⟨v1, hX1, hF1⟩ := id hX.off
  obtain ⟨c0, cs, cf, hq1⟩ := hX1.cell
  have c1 := cs 0 _ rfl
  obtain ⟨p1, k1, rfl⟩ := hX1.slice
  have hmm := fun W => meth_ptr 311 mStrApp Try.underlying80 (.pointer (some ⟨d, 0, none⟩)) W
  have hoo := fun a W => oStr2.1 #[.pointer (some ⟨d, 0, none⟩), a] W
  have HA := Lib.hid (strAppendArr w Fd 83 d l _ ss hvK hX.col hl hn)
  have HX := Lib.hid (And.intro hX (And.intro hX1 hF1))
  clear hvK hX1 hF1 cs hX
  go_enter Try.func58, Try.ntmps58
  go_wp2_with fail
  refine HA.out.mono ?_
  rintro e w2 ⟨rfl, Fd2, hC2, hU2⟩
  obtain ⟨hX, hX1, hF1⟩ := HX.out
  have hX2 : HeadX w2 140 67 1 q (.slice p1 offs.length k1) (arrY d) offs.length (u64s offs) := hX1.chg hU2.chg fun k hk e => hX.dis k (hF1 k hk) e
  obtain ⟨e0, es, ef, hq2⟩ := hX2.cell
  have e1 := es 0 _ rfl
  obtain ⟨vd, ud, hdh, -, -, hdl, hsv, -⟩ := hC2.view
  have hll : (l ++ bytesOf ss).length = l.length + ss.length := by unfold bytesOf; simp
  obtain ⟨m, hm⟩ : ∃ m, m = l.length + ss.length := ⟨_, rfl⟩
  rw [← hm] at hll hn
  have hld : ∀ W, Below w2.heap.size w2 W → (loadVar 83 ⟨d, 0, none⟩).run Try.prog W = .ok (.agg #[vd, ud]) W := fun W hb => load_twoA (T := 83) (by rw [hb.block d hdl]; exact hdh) Try.underlying83 (by kernel_rfl)
  have hmR := meth_val 311 mStrRows Try.underlying80 ⟨d, 0, none⟩ w2.drew _ (hld _ ⟨rfl, rfl, rfl, Nat.le_refl _, fun _ _ => rfl⟩)
  have hoR := fun W => oStr2.2 #[.agg #[vd, ud]] W
  have hRR := strRows w2.drew vd ud _ (hsv.below ⟨rfl, rfl, rfl, Nat.le_refl _, fun _ _ => rfl⟩)
  rw [hll] at hRR
  have HRR := Lib.hid hRR
  have HXA : Hid (∀ W, Below w2.heap.size w2 W → HeadX (W.alloc (.cells #[.int .u64 (m : Int)] 67)) 140 67 1 q (.slice p1 offs.length k1) (arrY d) offs.length (u64s offs)) := Lib.hid fun W hb => (hX2.keep hb).keep ((Below.refl _ W).alloc (Nat.le_refl _) _)
  have HSR : Hid (∀ W : World, Src Try.prog 1 133 (.slice (some ⟨W.heap.size, 0, none⟩) 1 1) 1 [.int .u64 (m : Int)] (W.alloc (.cells #[.int .u64 (m : Int)] 67))) := Lib.hid fun W => src_new elemU64 W.heap.size [.int .u64 (m : Int)] _ (heap_alloc_new W _) rfl (by simp [Value.oneCell']) 1
  have HB : Hid (offs.length + 1 ≤ 140737488355328 ∧ (offs.length + 1) * 8 ≤ 140737488355328) := Lib.hid (by omega)
  have hwm : IntKind.u64.wrap (m : Int) = (m : Int) := by rw [IntKind.wrap_u64]; omega
  have H2 := Lib.hid (And.intro hC2 hU2)
  have HM := Lib.hid hm
  clear hC2 hU2 hX hX1 hF1 hX2 es hdh hsv hld hRR hm hll c0 c1 cf
  go_wp2_with fail
  go_region_law
    (first
      | (refine step_head elemU64 (by rfl) _ q _ _ _ _ (HXA.out w4 hb4r) _ _ _ (by rfl) (by rfl) _ (by rfl) 1 _ (HSR.out w4) HB.out.1 HB.out.2 ?_; intro p5 c5 w5 G5; have x0 := G5.c0; have x1 : w5.cell? ⟨q, 1, none⟩ = some (.iface 80 (.pointer (some ⟨d, 0, none⟩))) := G5.cs 0 _ rfl; have xf := G5.cf)
      | (go_simp; go_at_call 115; refine HRR.out.mono ?_; rintro e w4 ⟨rfl, hb4⟩; have hb4r := drewTrans hb4; have hq4 : q < w4.heap.size := Nat.lt_of_lt_of_le hq2 hb4r.size; have y0 : w4.cell? ⟨q, 0, none⟩ = some (.slice p1 offs.length k1) := (by rw [hb4r.cell hq2]; exact e0); have y1 : w4.cell? ⟨q, 1, none⟩ = some (.iface 80 (.pointer (some ⟨d, 0, none⟩))) := (by rw [hb4r.cell hq2]; exact e1)))
  all_goals
    go_wp2_with fail
    go_returns
    obtain ⟨hX, hX1, hF1⟩ := HX.out
    have h := putA_of hX H2.out.1 H2.out.2 hF1 (below_alloc hb4r (Nat.le_refl _) _) G5
    rw [← HM.out]
    exact h

/-- What ArrX says behind some rows. -/
def ArrL (w : World) (Fq Fd : Nat → Prop) (q d : Nat) (ll : List (List ByteArray)) : Prop := ArrX w Fq Fd q d (offsOf ll) (bytesOf ll.flatten)
theorem offsOf_snoc (ll : List (List ByteArray)) (ss : List ByteArray) : offsOf (ll ++ [ss]) = offsOf ll ++ [(bytesOf ll.flatten).length + ss.length] := by
  have h1 : (bytesOf ll.flatten).length = (lensOf ll).sum := by unfold bytesOf; rw [List.length_map, lensOf_sum]
  rw [h1]
  unfold offsOf
  have e : lensOf (ll ++ [ss]) = lensOf ll ++ [ss.length] := by simp [lensOf]
  rw [e]
  have key : ∀ (l : List Nat) (a n : Nat), sumsOf a (l ++ [n]) = sumsOf a l ++ [a + l.sum + n] := by
    intro l
    induction l with
    | nil => intro a n; simp [sumsOf]
    | cons x l ih => intro a n; simp [sumsOf, ih, Nat.add_assoc]
  rw [key, Nat.zero_add]
theorem bytesOf_snoc (ll : List (List ByteArray)) (ss : List ByteArray) : bytesOf (ll ++ [ss]).flatten = bytesOf ll.flatten ++ bytesOf ss := by
  rw [List.flatten_append, bytesOf_append]
  simp
theorem flat_take_bytes (ll : List (List ByteArray)) (i : Nat) : (bytesOf (ll.take i).flatten).flatten.length ≤ (bytesOf ll.flatten).flatten.length ∧ (ll.take i).flatten.length ≤ ll.flatten.length := by
  have e : ll.flatten = (ll.take i).flatten ++ (ll.drop i).flatten := by rw [← List.flatten_append, List.take_append_drop]
  constructor
  · conv => rhs; rw [e, bytesOf_append, List.flatten_append, List.length_append]
    omega
  · conv => rhs; rw [e, List.length_append]
    omega

set_option maxRecDepth 100000 in
set_option maxHeartbeats 1000000 in
theorem arrAppendArr (w0 w : World) (Fq Fd : Nat → Prop) (q d : Nat) (v : Value) (ll : List (List ByteArray)) (hb0 : Below w0.heap.size w0 w) (hlow : ∀ k, Fq k ∨ Fd k → w0.heap.size ≤ k) (hX : ArrL w Fq Fd q d []) (hv : LstL w0 v ll) (hl : ll.length ≤ 100000) (hf : ll.flatten.length ≤ 100000) (hs : (bytesOf ll.flatten).flatten.length ≤ 100000000) :
    Calls Try.prog 60 #[.pointer (some ⟨q, 0, none⟩), v] w fun e w' => e = .returned (.tuple #[]) ∧ ∃ Fq' Fd', ArrL w' Fq' Fd' q d ll ∧ Upd w w' (fun k => Fq k ∨ Fd k) (fun k => Fq' k ∨ Fd' k) := by
  obtain ⟨p, c, rfl, hc⟩ := hv.slice
  have HV := Lib.hid (And.intro hv (And.intro hb0 hlow))
  have HX0 := Lib.hid hX
  have HTK := Lib.hid (flat_take_bytes ll)
  clear hv hb0 hlow hX
  go_enter Try.func60, Try.ntmps60
  go_wp2_with fail
  go_loopw [8] (fun vi wr => ∃ (i : Nat) (Fq' Fd' : Nat → Prop), i ≤ ll.length ∧ vi = .int .i64 i ∧ ArrL wr Fq' Fd' q d (ll.take i) ∧ Upd w wr (fun k => Fq k ∨ Fd k) (fun k => Fq' k ∨ Fd' k)) (fun vi _ => ll.length - (intOf vi).toNat)
  case atStart => exact ⟨0, Fq, Fd, Nat.zero_le _, rfl, HX0.out, Upd.refl _ _⟩
  case round =>
    obtain ⟨i, Fq1, Fd1, hi, rfl, hX, hU⟩ := hrel
    by_cases hlt : i < ll.length
    · obtain ⟨ss, hsi⟩ : ∃ ss, ll[i]? = some ss := ⟨_, List.getElem?_eq_getElem hlt⟩
      obtain ⟨hv, hb0, hlow⟩ := HV.out
      have hbr : Below w0.heap.size w0 wr := hb0.trans (hU.chg.below hb0.size hlow)
      have hlow1 : ∀ k, Fq1 k ∨ Fd1 k → w0.heap.size ≤ k := fun k hk => by
        rcases hU.new k hk with h | h
        · exact hlow k h
        · have := hb0.size; omega
      obtain ⟨g, o, x, rfl, -, -, -, hcx0, hx⟩ := hv.row hsi
      have hcx : wr.cell? ⟨g, o + i, none⟩ = some x := by rw [hbr.cell (World.block_lt_of_cell? _ _ hcx0)]; exact hcx0
      obtain ⟨px, cx, rfl, -⟩ := hx.slice
      have hvK : ∀ W, Chg Fd1 wr W → StrL W (.slice px ss.length cx) ss := fun W hcW => hx.below (hbr.trans (hcW.below hbr.size fun k hk => hlow1 k (.inr hk)))
      have hTK := HTK.out (i + 1)
      have hsn : ll.take (i + 1) = ll.take i ++ [ss] := takeSnoc hsi
      rw [hsn, bytesOf_snoc] at hTK
      have hlen1 : (bytesOf (ll.take i).flatten).length + ss.length ≤ 100000 := by
        have h := hTK.2
        rw [List.flatten_append, List.length_append] at h
        have h2 : ([ss] : List (List ByteArray)).flatten.length = ss.length := by simp
        unfold bytesOf
        rw [List.length_map]
        omega
      have hX0 : ArrX wr Fq1 Fd1 q d (offsOf (ll.take i)) (bytesOf (ll.take i).flatten) := hX
      have HSN : Hid (offsOf (ll.take (i + 1)) = offsOf (ll.take i) ++ [(bytesOf (ll.take i).flatten).length + ss.length] ∧ bytesOf (ll.take (i + 1)).flatten = bytesOf (ll.take i).flatten ++ bytesOf ss) := Lib.hid (by rw [hsn]; exact ⟨offsOf_snoc _ _, bytesOf_snoc _ _⟩)
      have hol : (offsOf (ll.take i)).length ≤ 100000 := by rw [offsOf_length]; simp; omega
      have hTKb := hTK.1
      have HU := Lib.hid hU
      generalize bytesOf (ll.take i).flatten = l at hX0 HSN hlen1 hTKb
      generalize offsOf (ll.take i) = offs at hX0 HSN hol
      obtain ⟨v1, hX1, hF1⟩ := id hX0.off
      obtain ⟨c0, cs, cf, hq1⟩ := hX1.cell
      have c1 := cs 0 _ rfl
      obtain ⟨p1, k1, rfl⟩ := hX1.slice
      have hmm := fun W => meth_ptr 311 mStrApp Try.underlying80 (.pointer (some ⟨d, 0, none⟩)) W
      have hoo := fun a W => oStr2.1 #[.pointer (some ⟨d, 0, none⟩), a] W
      have HA := Lib.hid (strAppendArr wr Fd1 83 d l _ ss hvK hX0.col (by omega) (by omega))
      have HX := Lib.hid (And.intro hX0 (And.intro hX1 hF1))
      have hn : l.length + ss.length ≤ 100000000 := by omega
      clear hv hb0 hlow hbr hlow1 hcx0 hx hvK hTK hsn hX0 hX hU hsi hX1 hF1 cs hTKb
      go_wp2_with fail
      refine HA.out.mono ?_
      rintro e w2 ⟨rfl, Fd2, hC2, hU2⟩
      obtain ⟨hX, hX1, hF1⟩ := HX.out
      have hX2 : HeadX w2 140 67 1 q (.slice p1 offs.length k1) (arrY d) offs.length (u64s offs) := hX1.chg hU2.chg fun k hk e => hX.dis k (hF1 k hk) e
      obtain ⟨e0, es, ef, hq2⟩ := hX2.cell
      have e1 := es 0 _ rfl
      obtain ⟨vd, ud, hdh, -, -, hdl, hsv, -⟩ := hC2.view
      have hll : (l ++ bytesOf ss).length = l.length + ss.length := by unfold bytesOf; simp
      obtain ⟨m, hm⟩ : ∃ m, m = l.length + ss.length := ⟨_, rfl⟩
      rw [← hm] at hll hn
      have hld : ∀ W, Below w2.heap.size w2 W → (loadVar 83 ⟨d, 0, none⟩).run Try.prog W = .ok (.agg #[vd, ud]) W := fun W hb => load_twoA (T := 83) (by rw [hb.block d hdl]; exact hdh) Try.underlying83 (by kernel_rfl)
      have hmR := meth_val 311 mStrRows Try.underlying80 ⟨d, 0, none⟩ w2.drew _ (hld _ ⟨rfl, rfl, rfl, Nat.le_refl _, fun _ _ => rfl⟩)
      have hoR := fun W => oStr2.2 #[.agg #[vd, ud]] W
      have hRR := strRows w2.drew vd ud _ (hsv.below ⟨rfl, rfl, rfl, Nat.le_refl _, fun _ _ => rfl⟩)
      rw [hll] at hRR
      have HRR := Lib.hid hRR
      have HXA : Hid (∀ W, Below w2.heap.size w2 W → HeadX (W.alloc (.cells #[.int .u64 (m : Int)] 67)) 140 67 1 q (.slice p1 offs.length k1) (arrY d) offs.length (u64s offs)) := Lib.hid fun W hb => (hX2.keep hb).keep ((Below.refl _ W).alloc (Nat.le_refl _) _)
      have HSR : Hid (∀ W : World, Src Try.prog 1 133 (.slice (some ⟨W.heap.size, 0, none⟩) 1 1) 1 [.int .u64 (m : Int)] (W.alloc (.cells #[.int .u64 (m : Int)] 67))) := Lib.hid fun W => src_new elemU64 W.heap.size [.int .u64 (m : Int)] _ (heap_alloc_new W _) rfl (by simp [Value.oneCell']) 1
      have HB : Hid (offs.length + 1 ≤ 140737488355328 ∧ (offs.length + 1) * 8 ≤ 140737488355328) := Lib.hid (by omega)
      have hwm : IntKind.u64.wrap (m : Int) = (m : Int) := by rw [IntKind.wrap_u64]; omega
      have H2 := Lib.hid (And.intro hC2 hU2)
      have HM := Lib.hid hm
      clear hC2 hU2 hX hX1 hF1 hX2 es hdh hsv hld hRR hm hll c0 c1 cf
      go_wp2_with fail
      go_region_law
        (first
          | (refine step_head elemU64 (by rfl) _ q _ _ _ _ (HXA.out w4 hb4r) _ _ _ (by rfl) (by rfl) _ (by rfl) 1 _ (HSR.out w4) HB.out.1 HB.out.2 ?_; intro p5 c5 w5 G5; have x0 := G5.c0; have x1 : w5.cell? ⟨q, 1, none⟩ = some (.iface 80 (.pointer (some ⟨d, 0, none⟩))) := G5.cs 0 _ rfl; have xf := G5.cf)
          | (go_simp; go_at_call 115; refine HRR.out.mono ?_; rintro e w4 ⟨rfl, hb4⟩; have hb4r := drewTrans hb4; have hq4 : q < w4.heap.size := Nat.lt_of_lt_of_le hq2 hb4r.size; have y0 : w4.cell? ⟨q, 0, none⟩ = some (.slice p1 offs.length k1) := (by rw [hb4r.cell hq2]; exact e0); have y1 : w4.cell? ⟨q, 1, none⟩ = some (.iface 80 (.pointer (some ⟨d, 0, none⟩))) := (by rw [hb4r.cell hq2]; exact e1)))
      all_goals
        go_wp2_with fail
        obtain ⟨hX, hX1, hF1⟩ := HX.out
        have h := putA_of hX H2.out.1 H2.out.2 hF1 (below_alloc hb4r (Nat.le_refl _) _) G5
        rw [HM.out] at h
        obtain ⟨-, Fq6, Fd6, hX6, hU6⟩ := h
        have HH := Lib.hid (And.intro hX6 hU6)
        clear hX hX1 hF1 hX6 hU6
        go_roundw
        case rel => exact ⟨i + 1, Fq6, Fd6, hlt, by go_num, by unfold ArrL; rw [HSN.out.1, HSN.out.2]; exact HH.out.1, HU.out.trans HH.out.2⟩
        case measure => simp [intOf]; omega
    · obtain rfl : i = ll.length := by omega
      rw [List.take_length] at hX
      have HH := Lib.hid (And.intro hX hU)
      clear hX hU
      go_wp2_with fail
      go_returns
      exact ⟨rfl, Fq1, Fd1, HH.out.1, HH.out.2⟩
end Go.Proofs.Ytifnjiimlpjljaa
