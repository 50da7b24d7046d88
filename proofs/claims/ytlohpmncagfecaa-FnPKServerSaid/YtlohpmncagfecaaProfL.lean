/- laws.pkEnds; laws.FnPKProfile. -/
import Derived.Test.YtlohpmncagfecaaProfS
import Derived.Test.YtlohpmncagfecaaShort
import Derived.Test.YtlohpmncagfecaaSetL
namespace Go.Proofs.Ytlohpmncagfecaa
open Go.RowKit

theorem Since.new1 (w : World) (n : Int) (b : UInt8) (h : n = b.toNat) : Since w (w.alloc (.cells #[.int .u8 n] 5)) (.slice (some ⟨w.heap.size, 0, none⟩) 1 1) [b] := by
  subst h
  refine ⟨⟨(· = w.heap.size), ⟨⟨rfl, .inr ⟨w.heap.size, 1, #[.int .u8 b.toNat], rfl, Nat.zero_le _, heap_alloc_new _ _, Nat.le_refl _, by unfold maxLen; omega, rfl, rfl⟩⟩, fun g hg => by simp [Value.ownBlock] at hg; omega⟩, fun k hk => by subst hk; simp⟩, (Below.refl _ _).alloc (Nat.le_refl _) _⟩

theorem cons_ne (k : UInt8) (bs : List UInt8) : ((k :: bs) == bs) = false := by
  rw [beq_eq_false_iff_ne]
  intro h
  have := congrArg List.length h
  simp at this

/-- append_since at an operation that stands under a guard, which is met. -/
theorem append_since_g {ops : Array Oper} {rest : List Oper} {o : Oper} {a : Act} {Q : Exit → Act → World → Prop} (w w0 : World) (bs news : List UInt8) (hgd : Region.wanted o (yielded ops a.tmps) = true) (s x : Operand) (tx : TypeId)
    (ho : o.op = .call { callee := .builtin .append, args := #[s, x], argTypes := #[24, tx] }) (v : Value) (hv : a.eval s = v) (h : Since w0 w v bs) (xv : Value) (hx : a.eval x = xv) (hs : SrcB w tx xv news) (hl : bs.length + news.length ≤ 140737488355328)
    (hK : ∀ p c w', Since w0 w' (.slice p (bs.length + news.length) c) (bs ++ news) → wpList Try.prog ops Q rest (a.put o.dst (.slice p (bs.length + news.length) c)) w') : wpList Try.prog ops Q (o :: rest) a w := by
  refine wpList_step fun K hKK => ?_
  rw [if_pos hgd]
  obtain ⟨F, hown, hF⟩ := h.own
  refine wp_append_bytes w F bs news s x tx ho v hv hown xv hx hs hl fun p c w' F' h1 hu => hKK _ _ (hK p c w' ⟨⟨F', h1, ?_⟩, ?_⟩)
  · intro k hk
    have := hu.chg.size
    have := h.below.size
    rcases hu.new k hk with h2 | h2
    · have := hF k h2; omega
    · omega
  · exact h.below.trans (hu.chg.below h.below.size fun k hk => (hF k hk).1)

set_option maxRecDepth 100000 in
theorem pkEnds (w : World) (vb vw : Value) (n : Int) (k : UInt8) (hn : n = (k.toNat : Int)) (all bs : List UInt8) (hall : all = k :: bs) (hb : BytesAt w vb all) (hw : BytesAt w vw bs) (hl : bs.length ≤ 1000000) :
    Calls Try.prog 24 #[vb, vw, .int .u8 n] w fun e w' => e = .returned (.bool true) ∧ Below w.heap.size w w' := by
  have HA := Lib.hid hall
  have HN := Lib.hid hn
  clear hall hn
  have hne : (all == bs) = false := by rw [HA.out]; exact cons_ne _ _
  go_enter Try.func24, Try.ntmps24
  go_wp2_with fail
  refine (bytesEqual _ _ _ all bs hb hw).mono ?_
  rintro e w1 ⟨rfl, rfl⟩
  rw [hne]
  go_wp2_with (at_builtin; refine append_since_g _ _ [k] bs (by rfl) _ _ _ rfl _ rfl (Since.new1 w n k HN.out) _ rfl (hw.alloc _).srcB (by simp; omega) ?_; intro q2 c2 w2 s2)
  refine (bytesEqual _ _ _ all ([k] ++ bs) (hb.below s2.below) s2.bytes).mono ?_
  rintro e w3 ⟨rfl, rfl⟩
  rw [show (all == [k] ++ bs) = true by rw [HA.out]; simp]
  go_wp2_with fail
  go_ret
  exact ⟨rfl, s2.below⟩

set_option maxRecDepth 100000 in
theorem lawProf_no (w : World) (a b c d : Nat) (x y : Bool) (p : Option Addr) (ln cp n : Nat) (hln : ln ≤ 9223372036854775807) (h : 9 < ln) :
    Calls Try.prog 6 #[.agg #[.int .u64 a, .int .u64 b, .int .u64 c, .int .u64 d, .bool x, .bool y], .slice p ln cp, .int .u16 n] w fun e w' => e = .returned (.bool true) ∧ Below w.heap.size w w' := by
  by_cases h1 : 2147483647 < ln
  · go_enter Try.func6, Try.ntmps6
    go_wp2_with fail
    go_ret
    exact ⟨rfl, (Below.refl _ w).alloc (Nat.le_refl _) _⟩
  · go_enter Try.func6, Try.ntmps6
    go_wp2_with fail
    go_ret
    exact ⟨rfl, (Below.refl _ w).alloc (Nat.le_refl _) _⟩

theorem Made.hid {w w' : World} {bs : List UInt8} {e : Ending} (hm : Made w bs e w') : ∃ v, e = .returned v ∧ BytesAt w' v bs ∧ Below w.heap.size w w' ∧ Hid (∀ g, v.ownBlock = some g → g < w'.heap.size) := by
  obtain ⟨hb, v, he, hv, ho⟩ := hm
  exact ⟨v, he, hv, hb, fun g hg => (ho g hg).2⟩

set_option maxRecDepth 100000 in
theorem lawProf_yes (w : World) (a b c d : Nat) (x y : Bool) (ha : a < 18446744073709551616) (hb : b < 18446744073709551616) (hc : c < 18446744073709551616) (hd : d < 18446744073709551616) (v : Value) (behind : List UInt8) (n : Nat) (hx : BytesAt w v behind) (hl : behind.length ≤ 9) (hu : n < 65536) :
    Calls Try.prog 6 #[.agg #[.int .u64 a, .int .u64 b, .int .u64 c, .int .u64 d, .bool x, .bool y], v, .int .u16 n] w fun e w' => e = .returned (.bool true) ∧ Below w.heap.size w w' := by
  obtain ⟨p, cp, rfl⟩ := hx.slice
  have HI := Lib.hid (fun w1 => pkProfile w1 a b c d x y ha hb hc hd)
  have HS := Lib.hid (fun w1 => spProfile w1 a b c d x y ha hb hc hd)
  have HG := Lib.hid (fun w1 v1 all hall hv1 hD1 => pkProfileGet w1 v1 behind a b c d x y ha hb hc hd (by omega) all hall hv1 hD1)
  have HZ := Lib.hid (fun w1 v1 all hs hv1 hD1 => pkProfileGet_bad w1 v1 a b c d x y ha hb hc hd all hs hv1 hD1)
  have hbl := mProfLen a b c x d y ha hb hc hd
  clear ha hb hc hd
  obtain ⟨bs, hbs⟩ : ∃ bs, bs = mProfBytes a b c x d y := ⟨_, rfl⟩
  rw [← hbs] at HI HS HG HZ hbl
  obtain ⟨all, hall⟩ : ∃ all, all = 6 :: bs := ⟨_, rfl⟩
  rw [← hall] at HI HZ
  have hal : all.length ≤ 1001 ∧ 1 ≤ all.length := by rw [hall, List.length_cons]; omega
  have HAll := Lib.hid hall
  clear hbs hall
  unfold iProf at HI HS HG
  have hr := rowIs_new w [.int .u64 a, .int .u64 b, .int .u64 c, .int .u64 d, .bool x, .bool y] 50
  have hB0 := (Below.refl _ w).alloc (Nat.le_refl _) (.cells #[.int .u64 a, .int .u64 b, .int .u64 c, .int .u64 d, .bool x, .bool y] 50)
  go_enter Try.func6, Try.ntmps6
  go_wp2_with fail
  refine (HI.out _).mono ?_
  intro e w1 hm
  obtain ⟨v1, rfl, hv1, hb1, HV1⟩ := Made.hid hm
  clear hm
  have hr1 := hr.below hb1
  have hB1 := hB0.trans (hb1.mono (by simp))
  clear hr hB0 hb1
  have a0 := hr1 0 _ rfl
  have a1 := hr1 1 _ rfl
  have a2 := hr1 2 _ rfl
  have a3 := hr1 3 _ rfl
  have a4 := hr1 4 _ rfl
  have a5 := hr1 5 _ rfl
  go_wp2_with fail
  refine (HS.out _).mono ?_
  intro e w2 hm
  obtain ⟨v2, rfl, hv2, hb2, HV2⟩ := Made.hid hm
  clear hm a0 a1 a2 a3 a4 a5
  have hr2 := hr1.below hb2
  have hB2 := hB1.trans (hb2.mono hB1.size)
  have hv1' := hv1.below hb2
  have HS2 := Lib.hid hb2.size
  clear hr1 hB1 hb2 hv1
  go_wp2_with fail
  refine (pkEnds _ v1 v2 6 6 (by decide) all bs HAll.out hv1' hv2 (by omega)).mono ?_
  rintro e w3 ⟨rfl, hb3⟩
  have hr3 := hr2.below hb3
  have hB3 := hB2.trans (hb3.mono hB2.size)
  have hv3 := hv1'.below hb3
  have HS3 := Lib.hid hb3.size
  have hx3 := hx.below hB3
  clear hr2 hB2 hb3 hv1' hv2 HV2
  go_wp2_with (first | (go_at_call 16; refine (cloneBytes _ v1 all hv3 (by omega)).mono ?_; intro e w5 hm; obtain ⟨p5, c5, rfl, s5, hb5⟩ := hm.since (Below.refl _ _); clear hm) | (at_builtin; refine append_since _ _ all behind rfl _ _ _ rfl _ rfl s5 _ rfl (hx3.below hb5).srcB (by omega) ?_; intro q6 c6 w6 s6))
  have hs6 : BytesAt w6 (.slice q6 (all.length + behind.length) c6) (all ++ behind) := s6.bytes
  refine (HG.out _ _ (all ++ behind) (by rw [HAll.out]; rfl) hs6 (fun g hg => by obtain ⟨F, ho, hF⟩ := s6.own; exact (hF g (ho.2 g hg)).2)).mono ?_
  rintro e w7 ⟨rfl, hb7⟩
  have hB7 := hB3.trans ((s6.below.mono hB3.size).trans (hb7.mono (by have := s6.below.size; have := hB3.size; omega)))
  have hr7 := (hr3.below s6.below).below hb7
  have hv7 := (hv3.below s6.below).below hb7
  have HS7 := Lib.hid (Nat.le_trans s6.below.size hb7.size)
  clear hs6 hb7 s6 s5 hb5 hr3 hB3 hv3 hx3
  go_wp2_with fail
  have hr8 := rowIs_new w7 [.int .u64 a, .int .u64 b, .int .u64 c, .int .u64 d, .bool x, .bool y] 50
  have hA : Below w7.heap.size w7 (w7.alloc (.cells #[.int .u64 a, .int .u64 b, .int .u64 c, .int .u64 d, .bool x, .bool y] 50)) := (Below.refl _ _).alloc (Nat.le_refl _) _
  have hb0 : 0 < all.length := by omega
  refine (pkCut _ v1 all n (hv7.below hA) hb0 (by omega) hu).mono ?_
  rintro e w9 ⟨⟨x9, rfl, hx9, ho9⟩, hw9⟩
  have hr9 : RowIs w9 w7.heap.size [.int .u64 a, .int .u64 b, .int .u64 c, .int .u64 d, .bool x, .bool y] := by rw [← hw9]; exact hr8
  have hr9' : RowIs w9 w.heap.size [.int .u64 a, .int .u64 b, .int .u64 c, .int .u64 d, .bool x, .bool y] := by rw [← hw9]; exact hr7.below hA
  have hB9 : Below w.heap.size w w9 := by rw [← hw9]; exact hB7.trans (hA.mono hB7.size)
  have hS9 : Hid (w7.heap.size < w9.heap.size) := by rw [← hw9]; show _ < _; simp
  rw [hw9] at hx9
  have HO9 := Lib.hid ho9
  have hsh := short_take (Nat.mod_lt n hb0)
  clear ho9 hw9 hr8 hA hr7 hv7 hB7
  go_wp2_with fail
  refine (HZ.out _ x9 _ hsh hx9 (fun g hg => by have h1 := HV1.out g (HO9.out g hg); have h2 := HS2.out; have h3 := HS3.out; have h4 := HS7.out; have h5 := hS9.out; omega)).mono ?_
  rintro e w10 ⟨rfl, hb10⟩
  have hrA := (hr9.below hb10).below ((Below.refl _ _).alloc (Nat.le_refl _) (.cells #[.int .u64 0, .int .u64 0, .int .u64 0, .int .u64 0, .bool false, .bool false] 50))
  have hrB := (hr9'.below hb10).below ((Below.refl _ _).alloc (Nat.le_refl _) (.cells #[.int .u64 0, .int .u64 0, .int .u64 0, .int .u64 0, .bool false, .bool false] 50))
  have hB10 := hB9.trans (hb10.mono hB9.size)
  have a0 := hrA 0 _ rfl
  have a1 := hrA 1 _ rfl
  have a2 := hrA 2 _ rfl
  have a3 := hrA 3 _ rfl
  have a4 := hrA 4 _ rfl
  have a5 := hrA 5 _ rfl
  have b0 := hrB 0 _ rfl
  have b1 := hrB 1 _ rfl
  have b2 := hrB 2 _ rfl
  have b3 := hrB 3 _ rfl
  have b4 := hrB 4 _ rfl
  have b5 := hrB 5 _ rfl
  clear hrA hrB hr9 hr9' hb10 hB9 hsh hx9
  go_wp2_with fail
  go_ret
  exact ⟨rfl, hB10.alloc hB10.size _⟩

theorem lawProf (w : World) (a b c d : Nat) (x y : Bool) (ha : a < 18446744073709551616) (hb : b < 18446744073709551616) (hc : c < 18446744073709551616) (hd : d < 18446744073709551616) (v : Value) (behind : List UInt8) (n : Nat) (hx : BytesAt w v behind) (hlen : behind.length ≤ 9223372036854775807) (hu : n < 65536) :
    Calls Try.prog 6 #[.agg #[.int .u64 a, .int .u64 b, .int .u64 c, .int .u64 d, .bool x, .bool y], v, .int .u16 n] w fun e w' => e = .returned (.bool true) ∧ Below w.heap.size w w' := by
  obtain ⟨p, cp, rfl⟩ := id hx.slice
  by_cases h1 : behind.length ≤ 9
  · exact lawProf_yes w a b c d x y ha hb hc hd _ behind n hx h1 hu
  · exact lawProf_no w a b c d x y p _ cp n hlen (by omega)
end Go.Proofs.Ytlohpmncagfecaa
