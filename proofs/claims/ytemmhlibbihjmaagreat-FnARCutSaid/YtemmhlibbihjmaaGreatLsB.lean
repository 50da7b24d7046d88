/- The specification's functions on lists: ARLens, STNumber, AROffsets, ARFlat, STStrings, ARSame. -/
import Derived.Test.YtemmhlibbihjmaaGreatLsA
import Derived.Test.YtemmhlibbihjmaaGreatStF
import Derived.Test.YtemmhlibbihjmaaGreatU64
namespace Go.Proofs.YtemmhlibbihjmaaGreat
open Go.RowKit
set_option linter.unusedVariables false
set_option linter.unusedSimpArgs false

def intsN (l : List Nat) : List Value := l.map fun x : Nat => Value.int .i64 (x : Int)

set_option maxRecDepth 100000 in
theorem arLensV (w : World) (v : Value) (ll : List (List ByteArray)) (h : LstL w v ll) (hl : ll.length ≤ 100000) :
    Calls Tryz.prog 10 #[v] w (MadeF w ll.length (intsN (ll.map (·.length)))) := by
  obtain ⟨p, c, rfl, hc⟩ := h.slice
  have HL := Lib.hid h
  clear h
  go_enter Tryz.func10, Tryz.ntmps10
  go_wp2_with fail
  go_loopw [3, 4] (fun vo vi wr => ∃ (i : Nat) (F : Nat → Prop), i ≤ ll.length ∧ vi = .int .i64 i ∧ Acc w F 3 1 vo i (intsN ((ll.take i).map (·.length))) wr) (fun _ vi _ => ll.length - (intOf vi).toNat)
  case atStart => exact ⟨0, _, Nat.zero_le _, rfl, Acc.start _ _ _⟩
  case round =>
    obtain ⟨i, F, hi, rfl, hA⟩ := hrel
    obtain ⟨po, co, rfl⟩ := hA.slice
    by_cases hlt : i < ll.length
    · obtain ⟨ss, hsi⟩ : ∃ ss, ll[i]? = some ss := ⟨_, List.getElem?_eq_getElem hlt⟩
      obtain ⟨g, o, x, rfl, -, -, -, hcx, hx⟩ := (HL.out.below strL_stable hA.below).row hsi
      obtain ⟨px, cx, rfl, -⟩ := hx.slice
      have HS : Hid (intsN ((ll.take (i + 1)).map (·.length)) = intsN ((ll.take i).map (·.length)) ++ [.int .i64 ss.length]) := Lib.hid (by rw [takeSnoc hsi]; simp [intsN])
      have HA := Lib.hid hA
      clear hA hsi hx
      have HOWN := Lib.hid (HA.out.own.keep ((Below.refl _ wr).alloc (Nat.le_refl _) (.cells #[.int .i64 ss.length] 3)))
      have HSR := Lib.hid (src_new elemInt wr.heap.size [.int .i64 ss.length] _ (heap_alloc_new wr (.cells #[.int .i64 ss.length] 3)) rfl (by simp [Value.oneCell']) 1)
      go_wp2_with (at_builtin; refine append_rows elemInt _ F i 1 _ _ rfl _ _ _ rfl _ rfl HOWN.out _ rfl HSR.out (by omega) (by omega) ?_; intro p5 c5 w5 F5 hown5 hu5)
      go_roundw
      case rel => exact ⟨i + 1, F5, hlt, by go_num, by rw [HS.out]; exact (HA.out.keep ((Below.refl _ wr).alloc (Nat.le_refl _) _)).next hown5 hu5⟩
      case measure => simp [intOf]; omega
    · obtain rfl : i = ll.length := by omega
      have HA := Lib.hid hA
      clear hA
      go_wp2_with fail
      go_ret
      have h := HA.out
      rw [List.take_length] at h
      exact h.made

set_option maxRecDepth 100000 in
theorem stNumber (w : World) (x m : Nat) (hx : x < 18446744073709551616) (hm : m ≤ 8) :
    Calls Tryz.prog 21 #[.int .u64 x, .int .i64 m] w (MadeO w (Lib.leBytes m x)) := by
  have HX := Lib.hid hx
  clear hx
  go_enter Tryz.func21, Tryz.ntmps21
  go_wp2_with fail
  go_loopw [0, 5, 6] (fun vn vo vi wr => ∃ (i xi : Nat) (pre : List UInt8) (p : Option Addr) (c : Nat), i ≤ m ∧ vi = .int .i64 i ∧ vn = .int .u64 xi ∧ xi < 18446744073709551616 ∧ pre.length = i ∧ vo = .slice p i c ∧ Lib.leBytes m x = pre ++ Lib.leBytes (m - i) xi ∧ Since w wr (.slice p i c) pre) (fun _ _ vi _ => m - (intOf vi).toNat)
  case atStart => exact ⟨0, x, [], none, 0, Nat.zero_le _, rfl, rfl, HX.out, rfl, rfl, by simp, ⟨fun _ => False, OwnB.nil _ _, fun _ h => h.elim⟩, Below.refl _ _⟩
  case round =>
    obtain ⟨i, xi, pre, p, c, hi, rfl, rfl, hxi, hpl, rfl, heq, hs⟩ := hrel
    have HPL := Lib.hid hpl
    have HEQ := Lib.hid heq
    clear hpl heq
    by_cases hlt : i < m
    · have hw : IntKind.u8.wrap (xi : Int) = ((xi % 256 : Nat) : Int) := by simp [IntKind.wrap, IntKind.bits, IntKind.signed]
      have HB : Hid (((xi % 256 : Nat) : Int) = ((xi % 256).toUInt8.toNat : Int)) := Lib.hid (by rw [Lib.toUInt8_mod])
      have HE : Hid (Lib.leBytes m x = (pre ++ [(xi % 256).toUInt8]) ++ Lib.leBytes (m - (i + 1)) (xi / 256)) := Lib.hid (by
        rw [HEQ.out, show m - i = (m - (i + 1)) + 1 by omega]
        simp [Lib.leBytes])
      have HL : Hid (pre.length + 1 ≤ 140737488355328) := Lib.hid (by rw [HPL.out]; omega)
      have HSS : Hid (Since w wr (.slice p pre.length c) pre) := Lib.hid (by rw [HPL.out]; exact hs)
      clear hs
      obtain ⟨y, hy⟩ : ∃ y : Nat, y = xi % 256 := ⟨_, rfl⟩
      have hy2 : y < 256 := by omega
      rw [← hy] at hw HB HE
      have HY := Lib.hid hy
      clear hy
      go_wp2_with (at_builtin; refine append_since _ w pre [y.toUInt8] rfl _ _ _ rfl _ (by rw [HPL.out]; rfl) (HSS.out.alloc _) _ rfl (BytesAt.new1 _ _ _ HB.out).srcB HL.out ?_; intro q2 c2 w2 s2; rw [HPL.out] at s2 ⊢)
      go_roundw
      case rel => exact ⟨i + 1, xi / 256, pre ++ [y.toUInt8], q2, c2, hlt, by go_num, by go_num, by omega, by simp [HPL.out], rfl, HE.out, s2⟩
      case measure => simp [intOf]; omega
    · obtain rfl : i = m := by omega
      have HSS := Lib.hid hs
      clear hs
      go_wp2_with fail
      go_ret
      have e : Lib.leBytes i x = pre := by rw [HEQ.out, Nat.sub_self]; simp [Lib.leBytes]
      rw [e]
      have h := HSS.out
      have hp := HPL.out
      subst hp
      exact h.madeO

/-- How many there are up to the end of each. -/
def sumsOf : Nat → List Nat → List Nat
  | _, [] => []
  | a, n :: r => (a + n) :: sumsOf (a + n) r
theorem sumsOf_length : ∀ (a : Nat) (l : List Nat), (sumsOf a l).length = l.length
  | _, [] => rfl
  | a, n :: r => by simp [sumsOf, sumsOf_length]
theorem sumsOf_get : ∀ (a : Nat) (l : List Nat) (i : Nat), i < l.length → (sumsOf a l)[i]? = some (a + (l.take (i + 1)).sum)
  | _, [], i, h => by simp at h
  | a, n :: r, 0, h => by simp [sumsOf]
  | a, n :: r, i + 1, h => by
    simp only [sumsOf, List.getElem?_cons_succ, List.take_succ_cons, List.sum_cons]
    rw [sumsOf_get (a + n) r i (by simpa using h), Nat.add_assoc]
theorem sum_take_le : ∀ (l : List Nat) (i : Nat), (l.take i).sum ≤ l.sum
  | [], i => by simp
  | n :: r, 0 => by simp
  | n :: r, i + 1 => by
    have := sum_take_le r i
    simp only [List.take_succ_cons, List.sum_cons]; omega
theorem sumsOf_le (l : List Nat) : ∀ x ∈ sumsOf 0 l, x ≤ l.sum := by
  intro x hx
  obtain ⟨i, hi, rfl⟩ := List.getElem_of_mem hx
  have h := sumsOf_get 0 l i (by rw [← sumsOf_length 0 l]; exact hi)
  rw [List.getElem?_eq_getElem hi] at h
  have := sum_take_le l (i + 1)
  have := Option.some.inj h
  omega

set_option maxRecDepth 100000 in
theorem arOffsetsV (w : World) (v : Value) (l : List Nat) (h : FlatAt w v l.length (intsN l)) (hl : l.length ≤ 100000) (hs : l.sum ≤ 1000000000) :
    Calls Tryz.prog 9 #[v] w (MadeO w ((sumsOf 0 l).flatMap le8)) := by
  obtain ⟨p, c, rfl, hc⟩ := h.slice
  have HL := Lib.hid h
  have HS := Lib.hid (sum_take_le l)
  clear h
  go_enter Tryz.func9, Tryz.ntmps9
  go_wp2_with fail
  go_loopw [3, 4, 5] (fun vo vn vi wr => ∃ (i : Nat) (q : Option Addr) (d : Nat), i ≤ l.length ∧ vi = .int .i64 i ∧ vn = .int .i64 ((l.take i).sum : Nat) ∧ vo = .slice q (i * 8) d ∧ Since w wr (.slice q (i * 8) d) (((sumsOf 0 l).take i).flatMap le8)) (fun _ _ vi _ => l.length - (intOf vi).toNat)
  case atStart => exact ⟨0, none, 0, Nat.zero_le _, rfl, rfl, rfl, ⟨fun _ => False, OwnB.nil _ _, fun _ h => h.elim⟩, Below.refl _ _⟩
  case round =>
    obtain ⟨i, q, d, hi, rfl, rfl, rfl, hsn⟩ := hrel
    by_cases hlt : i < l.length
    · obtain ⟨n, hn⟩ : ∃ n, l[i]? = some n := ⟨_, List.getElem?_eq_getElem hlt⟩
      obtain ⟨g, o, rfl, -, hcx⟩ := (HL.out.below hsn.below).get (j := i) (x := .int .i64 n) (by unfold intsN; simp [hn])
      have hS1 : (l.take (i + 1)).sum = (l.take i).sum + n := by rw [takeSnoc hn]; simp
      have hb1 := HS.out (i + 1)
      rw [hS1] at hb1
      have HE : Hid (((sumsOf 0 l).take (i + 1)).flatMap le8 = ((sumsOf 0 l).take i).flatMap le8 ++ le8 ((l.take i).sum + n)) := Lib.hid (by
        have h := sumsOf_get 0 l i hlt
        rw [hS1, Nat.zero_add] at h
        rw [takeSnoc h, List.flatMap_append]
        simp)
      have HPL : Hid ((((sumsOf 0 l).take i).flatMap le8).length = i * 8) := Lib.hid (by rw [le8s_length, List.length_take, sumsOf_length]; omega)
      have HS1 := Lib.hid hS1
      obtain ⟨pre, hpre⟩ : ∃ pre, pre = ((sumsOf 0 l).take i).flatMap le8 := ⟨_, rfl⟩
      rw [← hpre] at HE HPL hsn
      have HSN : Hid (Since w wr (.slice q pre.length d) pre) := Lib.hid (by rw [HPL.out]; exact hsn)
      obtain ⟨S, hSd⟩ : ∃ S, S = (l.take i).sum := ⟨_, rfl⟩
      rw [← hSd] at hb1 HE HS1
      rw [← hSd]
      have hb : S + n ≤ 1000000000 := by omega
      have HN := Lib.hid (fun w => stNumber w (S + n) 8 (by omega) (by omega))
      have hw1 : IntKind.i64.wrap ((S : Int) + (n : Int)) = ((S + n : Nat) : Int) := by rw [IntKind.wrap_i64]; omega
      have hw2 : IntKind.u64.wrap ((S : Int) + (n : Int)) = ((S + n : Nat) : Int) := by rw [IntKind.wrap_u64]; omega
      have hw3 : IntKind.u64.wrap ((S + n : Nat) : Int) = ((S + n : Nat) : Int) := by rw [IntKind.wrap_u64]; omega
      have HL8 : Hid (pre.length + (Lib.leBytes 8 (S + n)).length ≤ 140737488355328) := Lib.hid (by rw [HPL.out, Lib.leBytes_length]; omega)
      clear hsn hS1 hb1 hn hpre hSd
      go_wp2_with (first | (go_at_call 21; refine (HN.out _).mono ?_; rintro e w3 hm; obtain ⟨q3, c3, rfl, s3, hb3⟩ := hm.since (Below.refl _ _)) | (at_builtin; refine append_since _ w pre (Lib.leBytes 8 (S + n)) rfl _ _ _ rfl _ (by rw [HPL.out]; rfl) (HSN.out.later hb3) _ rfl s3.bytes.srcB HL8.out ?_; intro q4 c4 w4 s4; rw [HPL.out, Lib.leBytes_length] at s4 ⊢))
      go_roundw
      case rel => exact ⟨i + 1, q4, c4, hlt, by go_num, by rw [HS1.out]; go_num, by rw [Nat.add_mul], by rw [HE.out, Nat.add_mul]; exact s4⟩
      case measure => simp [intOf]; omega
    · obtain rfl : i = l.length := by omega
      have HSN := Lib.hid hsn
      have HPL : Hid (((sumsOf 0 l).flatMap le8).length = l.length * 8) := Lib.hid (by rw [le8s_length, sumsOf_length])
      clear hsn
      go_wp2_with fail
      go_ret
      have h := HSN.out
      rw [List.take_of_length_le (by rw [sumsOf_length]; exact Nat.le_refl _), ← HPL.out] at h
      rw [← HPL.out]
      exact h.madeO

set_option maxRecDepth 100000 in
theorem arFlatV (w : World) (v : Value) (ll : List (List ByteArray)) (h : LstL w v ll) (hl : ll.length ≤ 100000) (hf : ll.flatten.length ≤ 100000000) :
    Calls Tryz.prog 12 #[v] w (MadeS w ll.flatten) := by
  obtain ⟨p, c, rfl, hc⟩ := h.slice
  have HL := Lib.hid h
  have HF : Hid (∀ i, (ll.take i).flatten.length ≤ 100000000) := Lib.hid fun i => by
    rw [← List.take_append_drop i ll, List.flatten_append, List.length_append] at hf
    omega
  clear h hf
  go_enter Tryz.func12, Tryz.ntmps12
  go_wp2_with fail
  go_loopw [3, 4] (fun vo vi wr => ∃ (i : Nat) (F : Nat → Prop), i ≤ ll.length ∧ vi = .int .i64 i ∧ Acc w F 9 1 vo (ll.take i).flatten.length ((ll.take i).flatten.map Value.string) wr) (fun _ vi _ => ll.length - (intOf vi).toNat)
  case atStart => exact ⟨0, _, Nat.zero_le _, rfl, Acc.start _ _ _⟩
  case round =>
    obtain ⟨i, F, hi, rfl, hA⟩ := hrel
    obtain ⟨po, co, rfl⟩ := hA.slice
    by_cases hlt : i < ll.length
    · obtain ⟨ss, hsi⟩ : ∃ ss, ll[i]? = some ss := ⟨_, List.getElem?_eq_getElem hlt⟩
      obtain ⟨g, o, x, rfl, -, -, -, hcx, hx⟩ := (HL.out.below strL_stable hA.below).row hsi
      obtain ⟨px, cx, rfl, -⟩ := hx.slice
      have hS : (ll.take (i + 1)).flatten = (ll.take i).flatten ++ ss := by rw [takeSnoc hsi]; simp
      have hb := HF.out (i + 1)
      rw [hS, List.length_append] at hb
      have HS := Lib.hid hS
      have HA := Lib.hid hA
      have HSR := Lib.hid hx.src
      obtain ⟨pre, hpre⟩ : ∃ pre, pre = (ll.take i).flatten := ⟨_, rfl⟩
      rw [← hpre] at HS HA hb
      rw [← hpre]
      clear hA hsi hx hS hpre
      go_wp2_with (at_builtin; refine append_rows elemStrs _ F pre.length ss.length _ _ rfl _ _ _ rfl _ rfl HA.out.own _ rfl HSR.out (by omega) (by omega) ?_; intro p5 c5 w5 F5 hown5 hu5)
      go_roundw
      case rel => exact ⟨i + 1, F5, hlt, by go_num, by rw [HS.out, List.length_append, List.map_append]; exact HA.out.next hown5 hu5⟩
      case measure => simp [intOf]; omega
    · obtain rfl : i = ll.length := by omega
      have HA := Lib.hid hA
      clear hA
      go_wp2_with fail
      go_ret
      have h := HA.out
      rw [List.take_length] at h
      simp only [List.take_length]
      exact h.made

theorem bytesX_stable : Stable (fun w x (s : List UInt8) => BytesX w x s) := fun w w' G x s h hc hG => h.keep' fun hn g hg => by
  refine hc.block g ?_ (hG g hg)
  rcases h with (⟨-, h⟩ | ⟨b, off, cap, rfl, hl, h⟩) | ⟨h, -⟩
  · exact absurd h hn
  · obtain rfl : b = g := by simpa [Value.ownBlock] using hg
    exact World.block_lt_of_cell? _ _ (h 0 (List.length_pos_iff.2 hn))
  · exact absurd h hn
theorem EachAt.list {w : World} {v : Value} {l : List (List UInt8)} (h : EachAt (fun w x (s : List UInt8) => BytesX w x s) w v l) : ListAt w v l := by
  obtain ⟨xs, h1, ⟨p, c, rfl, hn, hx⟩, h3⟩ := h
  exact ⟨p, c, xs, rfl, hn, ⟨h1, h3⟩, fun h0 => hx (by rintro rfl; exact h0 (List.length_eq_zero_iff.1 h1.symm))⟩

def bytesOf (ss : List ByteArray) : List (List UInt8) := ss.map fun s => s.data.toList
theorem elemBs : Elem 55 29 1 24 := elem_of (z := .slice none 0 0) Tryz.underlying55 (by kernel_rfl) rfl (by decide)

set_option maxRecDepth 100000 in
theorem stOfV (w : World) (v : Value) (ss : List ByteArray) (h : StrL w v ss) (hl : ss.length ≤ 100000) :
    Calls Tryz.prog 23 #[v] w fun e w' => ∃ x, e = .returned x ∧ ListAt w' x (bytesOf ss) ∧ Below w.heap.size w w' := by
  obtain ⟨p, c, rfl, hc⟩ := h.slice
  have HL := Lib.hid h
  have hk := fun (w : World) (s : ByteArray) => Lib.run_convert_string_bytes (P := Tryz.prog) w 9 29 5 s Tryz.underlying9 Tryz.underlying29 Tryz.underlying5
  clear h
  go_enter Tryz.func23, Tryz.ntmps23
  go_wp2_with fail
  go_loopw [3, 4] (fun vo vi wr => ∃ (i : Nat) (F : Nat → Prop), i ≤ ss.length ∧ vi = .int .i64 i ∧ AccL (fun w x (s : List UInt8) => BytesX w x s) w F 29 vo (bytesOf (ss.take i)) wr) (fun _ vi _ => ss.length - (intOf vi).toNat)
  case atStart => exact ⟨0, _, Nat.zero_le _, rfl, AccL.start _ w _⟩
  case round =>
    obtain ⟨i, F, hi, rfl, hA⟩ := hrel
    have hlen : (bytesOf (ss.take i)).length = i := by unfold bytesOf; simp; omega
    obtain ⟨po, co, rfl⟩ := hA.slice
    rw [hlen] at hA ⊢
    have HLEN := Lib.hid hlen
    clear hlen
    by_cases hlt : i < ss.length
    · obtain ⟨s, hsi⟩ : ∃ s, ss[i]? = some s := ⟨_, List.getElem?_eq_getElem hlt⟩
      obtain ⟨g, o, rfl, -, -, -, hcx⟩ := (HL.out.below hA.below).row hsi
      have HS : Hid (bytesOf (ss.take (i + 1)) = bytesOf (ss.take i) ++ [s.data.toList]) := Lib.hid (by rw [takeSnoc hsi]; simp [bytesOf])
      obtain ⟨W, hW⟩ : ∃ W, W = Lib.bytesWorld wr 5 s := ⟨_, rfl⟩
      have hbx := bytesWorld_bytes wr s
      have hbb := bytesWorld_below wr 5 s
      have hsz := Lib.bytesWorld_size wr 5 s
      rw [← hW] at hbx hbb hsz
      have hk1 := hk wr s
      rw [← hW] at hk1
      obtain ⟨xs, hown, hmore⟩ := hA.more bytesX_stable hbb (x := .slice (some ⟨wr.heap.size, 0, none⟩) s.size (grownCap wr s.size 0 5)) (a := s.data.toList) (.inl hbx) (fun g hg => ⟨by have := own_new hg; omega, fun e => by have h1 := own_new hg; have h2 := hA.inn.1 g e; omega⟩) (.cells #[.slice (some ⟨wr.heap.size, 0, none⟩) s.size (grownCap wr s.size 0 5)] 29)
      rw [HLEN.out] at hown hmore
      have HOWN := Lib.hid hown
      have HMORE := Lib.hid hmore
      have HSR := Lib.hid (src_new elemBs W.heap.size [.slice (some ⟨wr.heap.size, 0, none⟩) s.size (grownCap wr s.size 0 5)] _ (heap_alloc_new W (.cells #[.slice (some ⟨wr.heap.size, 0, none⟩) s.size (grownCap wr s.size 0 5)] 29)) rfl (by simp [Value.oneCell']) 1)
      rw [hsz] at HSR
      clear hA hsi hown hmore hbx hbb hW hk
      go_wp2_with (at_builtin; refine append_rows elemBs _ F i 1 xs _ rfl _ _ _ rfl _ rfl HOWN.out _ rfl HSR.out (by omega) (by omega) ?_; intro p5 c5 w5 F5 hown5 hu5)
      go_roundw
      case rel => exact ⟨i + 1, F5, hlt, by go_num, by rw [HS.out]; exact HMORE.out p5 c5 w5 F5 hown5 hu5⟩
      case measure => simp [intOf]; omega
    · obtain rfl : i = ss.length := by omega
      have HA := Lib.hid hA
      clear hA
      go_wp2_with fail
      go_ret
      have h := HA.out
      rw [List.take_length] at h
      have hb : Below w.heap.size w wr := h.below
      exact ⟨_, rfl, by have := h.each.list; rw [List.take_length] at HLEN; rw [← HLEN.out] at *; exact this, hb⟩

set_option maxRecDepth 100000 in
theorem stStringsV (w : World) (v : Value) (ss : List ByteArray) (h : StrL w v ss) (hs : Small (bytesOf ss)) :
    Calls Tryz.prog 11 #[v] w (MadeO w (encS (bytesOf ss))) := by
  have HO := Lib.hid (stOfV w v ss h (by have := hs.2; unfold bytesOf at this; simpa using this))
  have HS := Lib.hid hs
  clear h hs
  go_enter Tryz.func11, Tryz.ntmps11
  go_wp2_with fail
  refine HO.out.mono ?_
  rintro e w1 ⟨x, rfl, hx, hb⟩
  have HB := Lib.hid (stBytesV w1 0 0 (by omega) x (bytesOf ss) hx HS.out)
  obtain ⟨px, cx, rfl, -⟩ := hx.slice
  have HBB := Lib.hid hb
  clear hx hb
  go_wp2_with fail
  refine HB.out.mono ?_
  intro e w2 hm
  have hm2 := MadeO.of_below HBB.out hm
  obtain ⟨p2, c2, F2, rfl, h1, h2, h3⟩ := hm2
  have HM : Hid (MadeO w (encS (bytesOf ss)) (.returned (.slice p2 (encS (bytesOf ss)).length c2)) w2) := Lib.hid ⟨p2, c2, F2, rfl, h1, h2, h3⟩
  clear h1 h2 h3 hm
  go_wp2_with fail
  go_ret
  exact HM.out

end Go.Proofs.YtemmhlibbihjmaaGreat
