/- zzIndex, zzCut, zzSplit by a separator of one byte. -/
import Derived.Test.YtgnkinhjfcbdbaaDoorCt2
import Derived.Test.YtgnkinhjfcbdbaaDoorLst
import Derived.Test.YtgnkinhjfcbdbaaDoorTmP
namespace Go.Proofs.YtgnkinhjfcbdbaaDoor
open Go.RowKit
set_option linter.unusedVariables false
set_option linter.unusedSimpArgs false

/-- The parts between separators. -/
def splitB (c : Nat) : List UInt8 → List (List UInt8)
  | [] => [[]]
  | x :: l => if x.toNat = c then [] :: splitB c l else match splitB c l with
    | [] => [[x]]
    | a :: r => (x :: a) :: r
theorem splitB_none (c : Nat) : ∀ l : List UInt8, (∀ x ∈ l, x.toNat ≠ c) → splitB c l = [l]
  | [], _ => rfl
  | x :: l, h => by
    rw [splitB, if_neg (h x (by simp)), splitB_none c l fun y hy => h y (by simp [hy])]
theorem splitB_at (c : Nat) (x : UInt8) (r : List UInt8) (hx : x.toNat = c) : ∀ a : List UInt8, (∀ x ∈ a, x.toNat ≠ c) → splitB c (a ++ x :: r) = a :: splitB c r
  | [], _ => by rw [List.nil_append, splitB, if_pos hx]
  | y :: a, h => by
    rw [List.cons_append, splitB, if_neg (h y (by simp)), splitB_at c x r hx a fun z hz => h z (by simp [hz])]
theorem idx_cases (l : List UInt8) (c : Nat) : (idxB l c = -1 ∧ ∀ x ∈ l, x.toNat ≠ c) ∨ ∃ k : Nat, k < l.length ∧ idxB l c = (k : Int) ∧ (∀ x ∈ l.take k, x.toNat ≠ c) ∧ ∃ x, l[k]? = some x ∧ x.toNat = c := by
  by_cases h : ∃ x ∈ l, x.toNat = c
  · refine .inr ?_
    obtain ⟨x, hx, hxc⟩ := h
    have hlt : l.findIdx (fun x => x.toNat == c) < l.length := List.findIdx_lt_length_of_exists ⟨x, hx, by simpa using hxc⟩
    refine ⟨_, hlt, by unfold idxB; rw [if_pos hlt], fun y hy => ?_, _, List.getElem?_eq_getElem hlt, by simpa using List.findIdx_getElem (w := hlt)⟩
    obtain ⟨j, hj, rfl⟩ := List.mem_iff_getElem.1 hy
    rw [List.getElem_take]
    have := List.not_of_lt_findIdx (p := fun x : UInt8 => x.toNat == c) (xs := l) (i := j) (by simp at hj; omega)
    simpa using this
  · refine .inl ⟨idxB_none fun j hj hc => h ⟨_, List.getElem_mem hj, hc⟩, fun x hx hc => h ⟨x, hx, hc⟩⟩

def splitL (c : UInt8) (l : List UInt8) : List ByteArray := (splitB c.toNat l).map ba
theorem ba_extract (l : List UInt8) (a b : Nat) : (ba l).extract a b = ba ((l.drop a).take (b - a)) := ByteArray.extract_mk l a b
theorem one_at (l : List UInt8) (k : Nat) (h : k < l.length) : (l.drop k).take (k + 1 - k) = [l[k]] := by
  rw [show k + 1 - k = 1 by omega, List.drop_eq_getElem_cons h]
  rfl
theorem slice_at (s : ByteArray) (k : Nat) (h : k < s.size) (w : World) : (Instr.slice 9 (.string s) (some (.int .i64 (k : Int))) (some (.int .i64 ((k : Int) + 1))) none).run Tryd.prog w = .ok (.string (s.extract k (k + 1))) w := by
  have := run_slice_string w 9 s .i64 .i64 (k : Int) ((k : Int) + 1) Tryd.underlying9 (by omega) (by omega) (by omega)
  rw [this]
  rfl
theorem slice_to (s : ByteArray) (k : Nat) (h : k ≤ s.size) (w : World) : (Instr.slice 9 (.string s) none (some (.int .i64 (k : Int))) none).run Tryd.prog w = .ok (.string (s.extract 0 k)) w := by
  have := run_slice_string_to_if w 9 s .i64 (k : Int) Tryd.underlying9
  rw [this, if_pos ⟨by omega, by omega⟩]
  rfl
theorem slice_from (s : ByteArray) (k : Nat) (h : k < s.size) (w : World) : (Instr.slice 9 (.string s) (some (.int .i64 ((k : Int) + 1))) none none).run Tryd.prog w = .ok (.string (s.extract (k + 1) s.size)) w := by
  have := run_slice_string_from_if w 9 s .i64 ((k : Int) + 1) Tryd.underlying9
  rw [this, if_pos ⟨by omega, by omega⟩]
  rfl

set_option maxRecDepth 100000 in
theorem zzIndexL (w : World) (l : List UInt8) (c : UInt8) (hs : l.length ≤ 1000000) :
    Calls Tryd.prog 42 #[.string (ba l), .string ⟨#[c]⟩] w fun e w' => e = .returned (.int .i64 (idxB l c.toNat)) ∧ w = w' := by
  have h1 : ((⟨#[c]⟩ : ByteArray).size : Int) = 1 := rfl
  have hsz := ba_size l
  obtain ⟨s, hS⟩ : ∃ s, s = ba l := ⟨_, rfl⟩
  have hcut := fun (k : Nat) (h : k < l.length) => show (s.extract k (k + 1)).toList = [l[k]] from by rw [hS, ba_extract, one_at l k h, ba_toList]
  rw [← hS] at hsz ⊢
  have HS := Lib.hid hcut
  clear hS hcut
  go_enter Tryd.func42, Tryd.ntmps42
  go_wp2
  go_loop [5] (fun i => ∃ k : Nat, k ≤ s.size ∧ i = .int .i64 k ∧ Hid (∀ (j : Nat) (hj : j < k) (hl : j < l.length), (l[j]).toNat ≠ c.toNat)) (fun i => s.size - (intOf i).toNat)
  case atStart => exact ⟨0, Nat.zero_le _, rfl, Lib.hid fun j hj => by omega⟩
  case round =>
    obtain ⟨k, hk, rfl, hb⟩ := hrel
    by_cases hlt : k < s.size
    · have hkl : k < l.length := by omega
      have hsl := fun W => slice_at s k hlt W
      by_cases he : l[k].toNat = c.toNat
      · have HR := Lib.hid (show idxB l c.toNat = k from idxB_at hkl he fun j hj => hb.out j hj (by omega))
        have he' : ((s.extract k (k + 1)).toList == [c]) = true := by
          rw [HS.out k hkl, UInt8.toNat_inj.1 he]
          simp
        clear he hb
        go_wp2
        go_ret
        exact ⟨congrArg (fun x => Ending.returned (.int .i64 x)) HR.out.symm, rfl⟩
      · have he' : ((s.extract k (k + 1)).toList == [c]) = false := by
          rw [HS.out k hkl]
          simp
          intro h
          exact he (by rw [h])
        have HB := Lib.hid (show ∀ (j : Nat) (hj : j < k + 1) (hl : j < l.length), (l[j]).toNat ≠ c.toNat from fun j hj hl => by
          by_cases hjk : j = k
          · subst hjk; exact he
          · exact hb.out j (by omega) hl)
        clear he hb
        go_wp2
        go_round
        case rel => exact ⟨k + 1, by omega, by go_num, HB⟩
        case measure => simp [intOf]; omega
    · have HR := Lib.hid (show idxB l c.toNat = -1 from idxB_none fun j hj => hb.out j (by omega) hj)
      clear hb
      go_wp2
      go_ret
      exact ⟨congrArg (fun x => Ending.returned (.int .i64 x)) HR.out.symm, rfl⟩

set_option maxRecDepth 100000 in
theorem zzSplitL (w : World) (l : List UInt8) (c : UInt8) (hs : l.length ≤ 1000000) :
    Calls Tryd.prog 36 #[.string (ba l), .string ⟨#[c]⟩] w (MadeS w (splitL c l)) := by
  have h1 : ((⟨#[c]⟩ : ByteArray).size : Int) = 1 := rfl
  have HI := Lib.hid (fun w (r : List UInt8) (hr : r.length ≤ 1000000) => zzIndexL w r c hr)
  go_enter Tryd.func36, Tryd.ntmps36
  go_wp2
  go_loopw [5, 0] (fun vo vs wr => ∃ (ps : List ByteArray) (r : List UInt8) (F : Nat → Prop), vs = .string (ba r) ∧ ps.length + r.length ≤ l.length ∧ Hid (splitL c l = ps ++ splitL c r) ∧ Acc w F 9 1 vo ps.length (ps.map Value.string) wr) (fun _ vs _ => lenOf vs)
  case atStart => exact ⟨[], l, _, rfl, by simp, Lib.hid rfl, Acc.start _ _ _⟩
  case round =>
    obtain ⟨ps, r, F, rfl, hl, hsp, hA⟩ := hrel
    obtain ⟨po, co, rfl⟩ := hA.slice
    have hsz := ba_size r
    rcases idx_cases r c.toNat with ⟨hi, hn⟩ | ⟨k, hk, hi, hn, x, hx, hxc⟩
    · have HX := Lib.hid (fun w => HI.out w r (by omega))
      rw [hi] at HX
      have HOWN := Lib.hid (hA.own.keep ((Below.refl _ wr).alloc (Nat.le_refl _) (.cells #[.string (ba r)] 9)))
      have HSR := Lib.hid (src_new elemStrs wr.heap.size [.string (ba r)] _ (heap_alloc_new wr (.cells #[.string (ba r)] 9)) rfl (by simp [Value.oneCell']) 1)
      have HR := Lib.hid (show splitL c l = ps ++ [ba r] by rw [hsp.out]; unfold splitL; rw [splitB_none c.toNat r hn]; rfl)
      have HA := Lib.hid hA
      clear hA hsp hn hi
      go_wp2_with (first | (go_at_call 42; refine (HX.out _).mono ?_; rintro e w' ⟨rfl, rfl⟩) | (at_builtin; refine append_rows elemStrs _ F ps.length 1 _ _ rfl _ _ _ rfl _ rfl HOWN.out _ rfl HSR.out (by omega) (by omega) ?_; intro p5 c5 w5 F5 hown5 hu5) | fail)
      go_ret
      have hm := ((HA.out.keep ((Below.refl _ wr).alloc (Nat.le_refl _) _)).next hown5 hu5).made
      obtain ⟨y, h1, h2, h3, h4⟩ := hm
      refine ⟨y, h1, ?_, h3, h4⟩
      rw [HR.out]
      unfold StrL
      simpa using h2
    · have HX := Lib.hid (fun w => HI.out w r (by omega))
      rw [hi] at HX
      have E1 : (ba r).extract 0 k = ba (r.take k) := by rw [ba_extract]; simp
      have E2 : (ba r).extract (k + 1) (ba r).size = ba (r.drop (k + 1)) := by rw [ba_extract, hsz]; congr 1; exact List.take_of_length_le (by simp)
      have s1 := fun W => slice_to (ba r) k (by omega) W
      have s2 := fun W => slice_from (ba r) k (by omega) W
      rw [E1] at s1
      rw [E2] at s2
      have HOWN := Lib.hid (hA.own.keep ((Below.refl _ wr).alloc (Nat.le_refl _) (.cells #[.string (ba (r.take k))] 9)))
      have HSR := Lib.hid (src_new elemStrs wr.heap.size [.string (ba (r.take k))] _ (heap_alloc_new wr (.cells #[.string (ba (r.take k))] 9)) rfl (by simp [Value.oneCell']) 1)
      have HR := Lib.hid (show splitL c l = (ps ++ [ba (r.take k)]) ++ splitL c (r.drop (k + 1)) by
        rw [hsp.out]
        have hr : r = r.take k ++ x :: r.drop (k + 1) := by
          obtain ⟨hk2, rfl⟩ := List.getElem?_eq_some_iff.1 hx
          rw [← List.drop_eq_getElem_cons hk2, List.take_append_drop]
        unfold splitL
        conv => lhs; rw [hr]
        rw [splitB_at c.toNat x _ hxc _ hn]
        simp)
      have HA := Lib.hid hA
      have hlen : (r.drop (k + 1)).length + (k + 1) = r.length := by simp; omega
      clear hA hsp hn hi hx
      go_wp2_with (first | (go_at_call 42; refine (HX.out _).mono ?_; rintro e w' ⟨rfl, rfl⟩) | (at_builtin; refine append_rows elemStrs _ F ps.length 1 _ _ rfl _ _ _ rfl _ rfl HOWN.out _ rfl HSR.out (by omega) (by omega) ?_; intro p5 c5 w5 F5 hown5 hu5) | fail)
      go_roundw
      case rel => exact ⟨ps ++ [ba (r.take k)], r.drop (k + 1), F5, rfl, by simp only [List.length_append, List.length_cons, List.length_nil]; omega, HR, by simpa using (HA.out.keep ((Below.refl _ wr).alloc (Nat.le_refl _) _)).next hown5 hu5⟩
      case measure => simp only [lenOf, ba_size]; omega
end Go.Proofs.YtgnkinhjfcbdbaaDoor
