/- strconv.AppendQuoteToASCII, QuoteToASCII of small letters. -/
import Derived.Test.YtgnkinhjfcbdbaaDoorTmP
import Derived.Test.YtgnkinhjfcbdbaaDoorZs
import Derived.Test.YtgnkinhjfcbdbaaDoorOwnR
import Derived.Test.YtgnkinhjfcbdbaaDoorLst
namespace Go.Proofs.YtgnkinhjfcbdbaaDoor
open Go.RowKit
set_option linter.unusedVariables false
set_option linter.unusedSimpArgs false

theorem elemQ : Elem 25 5 1 1 := elem_of Tryd.underlying25 infoU8 (by rfl) (by decide)
def Small (x : UInt8) : Prop := 97 ≤ x.toNat ∧ x.toNat ≤ 122

/-- A slice of bytes to which one more can be appended. -/
structure Apd (K : World → Value → List UInt8 → Prop) : Prop where
  slice : ∀ {w v bs}, K w v bs → ∃ p c, v = .slice p bs.length c
  app : ∀ {w v bs}, K w v bs → bs.length ≤ 60 → ∀ (x : UInt8) (ty : TypeId), ∃ v' w', (Builtin.append_ #[25, 25] ty #[v, .slice (some ⟨w.heap.size, 0, none⟩) 1 1]).run Tryd.prog (w.alloc (.cells #[.int .u8 x.toNat] 5)) = .ok v' w' ∧ K w' v' (bs ++ [x])
theorem append_k {K : World → Value → List UInt8 → Prop} (HK : Apd K) {ops : Array Oper} {rest : List Oper} {o : Oper} {a : Act} {Q : Exit → Act → World → Prop} (w : World) (v : Value) (bs : List UInt8) (x : UInt8) (c : Int) (hc : (x.toNat : Int) = c) (hgd : o.guard = none) (s t : Operand)
    (ho : o.op = .call { callee := .builtin .append, args := #[s, t], argTypes := #[25, 25] }) (hv : a.eval s = v) (h : K w v bs) (hx : a.eval t = .slice (some ⟨w.heap.size, 0, none⟩) 1 1) (hl : bs.length ≤ 60)
    (hK : ∀ p c w', K w' (.slice p (bs.length + 1) c) (bs ++ [x]) → wpList Tryd.prog ops Q rest (a.put o.dst (.slice p (bs.length + 1) c)) w') : wpList Tryd.prog ops Q (o :: rest) a (w.alloc (.cells #[.int .u8 c] 5)) := by
  subst hc
  refine wpList_plain hgd fun K2 hK2 => ?_
  obtain ⟨v', w', hr, hk⟩ := HK.app h hl x o.type
  obtain ⟨p, c, rfl⟩ := HK.slice hk
  rw [show (bs ++ [x]).length = bs.length + 1 by simp] at hr hk
  unfold Oper.wp execOp
  simp only [ho, resolve, invoke, builtin, Sem.run_bind, Sem.run_pure, Result.andThen_ok, List.map_toArray, List.map_cons, List.map_nil, hv, hx, hr]
  exact hK2 _ _ (hK p c w' hk)

theorem isPrint (w : World) (n : Nat) (h1 : 97 ≤ n) (h2 : n ≤ 122) : Calls Tryd.prog 51 #[.int .i32 n] w fun e w' => e = .returned (.bool true) ∧ w = w' := by
  go_enter Tryd.func51, Tryd.ntmps51
  go_wp2
  go_ret
  exact ⟨rfl, rfl⟩

set_option maxRecDepth 100000 in
theorem escaped {K : World → Value → List UInt8 → Prop} (HK : Apd K) (w : World) (v : Value) (bs : List UInt8) (h : K w v bs) (hl : bs.length ≤ 60) (x : UInt8) (hx : Small x) :
    Calls Tryd.prog 41 #[v, .int .i32 x.toNat, .int .u8 34, .bool true, .bool false] w fun e w' => ∃ v', e = .returned v' ∧ K w' v' (bs ++ [x]) := by
  obtain ⟨p, c, rfl⟩ := HK.slice h
  obtain ⟨n, hn⟩ : ∃ n, n = x.toNat := ⟨_, rfl⟩
  obtain ⟨h1, h2⟩ := hx
  rw [← hn] at h1 h2 ⊢
  have HX := Lib.hid h
  have HKK := Lib.hid HK
  have HC := Lib.hid (show (x.toNat : Int) = (n : Int) by rw [hn])
  have q1 : ((n : Int) == 34) = false := by simp; omega
  have q2 : ((n : Int) == 92) = false := by simp; omega
  clear h HK hn
  go_enter Tryd.func41, Tryd.ntmps41
  go_wp2_with (first | (go_at_call 51; refine (isPrint _ n h1 h2).mono ?_; rintro e w' ⟨rfl, rfl⟩) | (at_builtin; refine append_k HKK.out _ _ bs x _ HC.out rfl _ _ rfl rfl HX.out rfl hl ?_; intro p5 c5 w5 hk5) | fail)
  go_ret
  exact ⟨_, rfl, hk5⟩

set_option maxRecDepth 100000 in
theorem decodeRune (w : World) (x : UInt8) (rest : List UInt8) (hx : x.toNat < 128) : Calls Tryd.prog 40 #[.string (ba (x :: rest))] w fun e w' => e = .returned (.tuple #[.int .i32 x.toNat, .int .i64 1]) ∧ w = w' := by
  have h0 : 0 < (ba (x :: rest)).size := by rw [ba_size]; simp
  have hne : ((ba (x :: rest)).toList == []) = false := by rw [ba_toList]; rfl
  have hg : (ba (x :: rest))[0]'h0 = x := rfl
  generalize ba (x :: rest) = s at *
  go_enter Tryd.func40, Tryd.ntmps40
  go_wp2
  go_ret2
  exact ⟨rfl, rfl⟩

theorem letter_ne {x : UInt8} (hx : Small x) : x.toNat < 128 := by have := hx.2; omega
theorem drop_one (x : UInt8) (rest : List UInt8) : (ba (x :: rest)).extract 1 (ba (x :: rest)).size = ba rest := by
  rw [ba_extract, ba_size]
  congr 1
  simp

set_option maxRecDepth 100000 in
theorem quoted {K : World → Value → List UInt8 → Prop} (HK : Apd K) (w : World) (p : Option Addr) (c : Nat) (h : K w (.slice p 0 c) []) (l : List UInt8) (hl : l.length ≤ 20) (hc : l.length ≤ c) (hcc : c ≤ 1000) (hx : ∀ x ∈ l, Small x) :
    Calls Tryd.prog 29 #[.slice p 0 c, .string (ba l), .int .u8 34, .bool true, .bool false] w fun e w' => ∃ v', e = .returned v' ∧ K w' v' ([34] ++ l ++ [34]) := by
  have hsz := ba_size l
  have HX := Lib.hid h
  have HKK := Lib.hid HK
  have HL := Lib.hid hx
  clear h HK hx
  go_enter Tryd.func29, Tryd.ntmps29
  go_wp2_with (at_builtin; refine append_k HKK.out _ _ [] 34 _ rfl rfl _ _ rfl rfl HX.out rfl (by simp) ?_; intro p5 c5 w5 hk5)
  have HX5 := Lib.hid hk5
  clear hk5
  go_loopw [0, 1, 12, 13] (fun vb vs vr vw wr => ∃ (done rest : List UInt8) (r n : Nat), vr = .int .i32 r ∧ vw = .int .i64 n ∧ Hid (l = done ++ rest) ∧ done.length + rest.length = l.length ∧ vs = .string (ba rest) ∧ Hid (K wr vb ([34] ++ done))) (fun _ vs _ _ _ => lenOf vs)
  case atStart => exact ⟨[], l, 0, 0, rfl, rfl, Lib.hid rfl, by simp, rfl, HX5⟩
  case round =>
    obtain ⟨done, rest, r, n, rfl, rfl, hdr, hlen, rfl, hk⟩ := hrel
    cases rest with
    | nil =>
      obtain ⟨pb, cb, rfl⟩ := HKK.out.slice hk.out
      have h0 : (ba ([] : List UInt8)).size = 0 := rfl
      have hb : ([34] ++ done).length ≤ 60 := by simp at hlen ⊢; omega
      have HD := Lib.hid (show done = l by rw [hdr.out]; simp)
      clear hdr hlen
      go_wp2_with (at_builtin; refine append_k HKK.out _ _ ([34] ++ done) 34 _ rfl rfl _ _ rfl rfl hk.out rfl hb ?_; intro p6 c6 w6 hk6)
      go_ret
      have e : [34] ++ l ++ [34] = [34] ++ done ++ [34] := by rw [HD.out]
      have hk7 : K w6 (.slice p6 (done.length + 1 + 1) c6) ([34] ++ l ++ [34]) := by rw [e]; exact hk6
      exact ⟨_, rfl, hk7⟩
    | cons x rest =>
      obtain ⟨pb, cb, rfl⟩ := HKK.out.slice hk.out
      have hxs : Small x := HL.out x (by rw [hdr.out]; simp)
      have HDR := Lib.hid (fun w => decodeRune w x rest (letter_ne hxs))
      have hb : ([34] ++ done).length ≤ 60 := by simp at hlen ⊢; omega
      have hk2 := hk.out
      rw [show ([34] ++ done : List UInt8).length = done.length + 1 by simp] at hk2
      have HE := Lib.hid (escaped HKK.out wr _ ([34] ++ done) hk2 hb x hxs)
      have h0 : 0 < (ba (x :: rest)).size := by rw [ba_size]; simp
      have hs := fun W => slice_from (ba (x :: rest)) 0 h0 W
      have hcut := drop_one x rest
      have hsr := ba_size rest
      have hs1 := ba_size (x :: rest)
      have HCUT := Lib.hid (show (ba (x :: rest)).extract 1 (rest.length + 1) = ba rest from by rw [← hcut, hs1]; rfl)
      clear hs hcut
      have HH := Lib.hid (show l = (done ++ [x]) ++ rest by rw [hdr.out]; simp)
      have e1 : ((x.toNat : Int) == 65533) = false := by have := hxs.2; simp; omega
      have hx2 := hxs.2
      obtain ⟨m, hm⟩ : ∃ m, m = x.toNat := ⟨_, rfl⟩
      rw [← hm] at HDR HE e1 hx2
      have hlen2 : (done ++ [x]).length + rest.length = l.length := by simp at hlen ⊢; omega
      clear hdr hk hxs hlen hk2 hm
      generalize ba (x :: rest) = S at *
      go_wp2_with (first | (go_at_call 40; refine (HDR.out _).mono ?_; rintro e w' ⟨rfl, rfl⟩) | (go_at_call 41; with_reducible refine HE.out.mono ?_; rintro e w6 ⟨v6, rfl, hk6⟩; have HK6 := Lib.hid hk6; clear hk6) | fail)
      go_roundw
      case rel => exact ⟨done ++ [x], rest, m, 1, rfl, rfl, HH, hlen2, by rw [HCUT.out], Lib.hid (by rw [← List.append_assoc]; exact HK6.out)⟩
      case measure => rw [HCUT.out]; simp only [lenOf, hsr, hs1, List.length_cons]; omega
end Go.Proofs.YtgnkinhjfcbdbaaDoor
