/- Types by bytes; the place of a byte in a text; elements and bases of types. -/
import Derived.Test.YtgnkinhjfcbdbaaDoorCt
import Derived.Test.YtgnkinhjfcbdbaaDoorOwnR
import Derived.Deep.AppendSrc
namespace Go.Proofs.YtgnkinhjfcbdbaaDoor
open Go.RowKit
set_option linter.unusedVariables false
set_option linter.unusedSimpArgs false
set_option linter.unnecessarySimpa false

/-- Types without parameters. -/
def plainL : List ByteArray := [⟨#[73, 110, 116, 56]⟩, ⟨#[73, 110, 116, 49, 54]⟩, ⟨#[73, 110, 116, 51, 50]⟩, ⟨#[73, 110, 116, 54, 52]⟩, ⟨#[73, 110, 116, 49, 50, 56]⟩, ⟨#[73, 110, 116, 50, 53, 54]⟩, ⟨#[85, 73, 110, 116, 56]⟩, ⟨#[85, 73, 110, 116, 49, 54]⟩, ⟨#[85, 73, 110, 116, 51, 50]⟩, ⟨#[85, 73, 110, 116, 54, 52]⟩, ⟨#[85, 73, 110, 116, 49, 50, 56]⟩, ⟨#[85, 73, 110, 116, 50, 53, 54]⟩, ⟨#[70, 108, 111, 97, 116, 51, 50]⟩, ⟨#[70, 108, 111, 97, 116, 54, 52]⟩, ⟨#[83, 116, 114, 105, 110, 103]⟩, ⟨#[66, 111, 111, 108]⟩, ⟨#[73, 80, 118, 52]⟩, ⟨#[73, 80, 118, 54]⟩, ⟨#[85, 85, 73, 68]⟩, ⟨#[68, 97, 116, 101]⟩, ⟨#[68, 97, 116, 101, 51, 50]⟩, ⟨#[68, 97, 116, 101, 84, 105, 109, 101]⟩]
theorem plain_size : ∀ (j : Nat) (s : ByteArray), plainL[j]? = some s → s.size ≤ 8
  | j, s, h => by
    have hj : j < 22 := (List.getElem?_eq_some_iff.1 h).1
    have key : ∀ j, j < 22 → (plainL.getD j ⟨#[]⟩).size ≤ 8 := by decide +kernel
    have h2 := key j hj
    rw [List.getD_eq_getElem?_getD, h] at h2
    exact h2
def plainAt (n : Nat) : ByteArray := plainL.getD (n % 22) ⟨#[]⟩
theorem plainAt_get (n : Nat) : plainL[n % 22]? = some (plainAt n) := by
  have h : n % 22 < plainL.length := Nat.mod_lt _ (by decide)
  unfold plainAt
  rw [List.getD_eq_getElem?_getD, List.getElem?_eq_getElem h]
  rfl
theorem plainAt_size (n : Nat) : (plainAt n).size ≤ 8 := plain_size _ _ (plainAt_get n)

/-- A type by bytes. -/
def ctT : List UInt8 → Nat → ByteArray
  | code, 0 => plainAt (code.headD 0).toNat
  | [], _ + 1 => plainAt 0
  | [c], _ + 1 => plainAt c.toNat
  | c :: c2 :: rest, d + 1 =>
    if c.toNat % 5 = 0 then ofS sArray [ctT (c2 :: rest) d]
    else if c.toNat % 5 = 1 then ofS sMap [sString, ctT (c2 :: rest) d]
    else if c.toNat % 5 = 2 then ofS sTuple [ctT (c2 :: rest) d, ctT rest d]
    else plainAt c2.toNat
def ctMost : Nat → Nat
  | 0 => 8
  | d + 1 => 17 + 2 * ctMost d
theorem ctT_size : ∀ (d : Nat) (code : List UInt8), (ctT code d).size ≤ ctMost d
  | 0, code => by unfold ctT; exact plainAt_size _
  | d + 1, [] => by unfold ctT ctMost; have := plainAt_size 0; omega
  | d + 1, [c] => by unfold ctT ctMost; have := plainAt_size c.toNat; omega
  | d + 1, c :: c2 :: rest => by
    have h1 := ctT_size d (c2 :: rest)
    have h2 := ctT_size d rest
    have a1 : sArray.size = 5 := rfl
    have a2 : sMap.size = 3 := rfl
    have a3 : sTuple.size = 5 := rfl
    have a4 : sString.size = 6 := rfl
    unfold ctT ctMost
    split
    · have := ofS_size sArray [ctT (c2 :: rest) d]; simp only [sumS] at this; omega
    · split
      · have := ofS_size sMap [sString, ctT (c2 :: rest) d]; simp only [sumS] at this; omega
      · split
        · have := ofS_size sTuple [ctT (c2 :: rest) d, ctT rest d]; simp only [sumS] at this; omega
        · have := plainAt_size c2.toNat; omega
theorem ctMost_le : ∀ d, d ≤ 3 → ctMost d ≤ 200 := by decide

theorem ctPlain (w : World) : Calls Tryd.prog 15 #[] w fun e w' => e = .returned (.slice (some ⟨w.heap.size, 0, none⟩) 22 22) ∧ StrsAt w' (.slice (some ⟨w.heap.size, 0, none⟩) 22 22) plainL ∧ Below w.heap.size w w' := by
  go_enter Tryd.func15, Tryd.ntmps15
  go_wp2
  go_ret
  exact ⟨rfl, strs_new w plainL 9, (Below.refl _ w).alloc (Nat.le_refl _) _⟩

/-- What reads as bytes, without the first one. -/
theorem BytesAt.tail {w : World} {b off n cap : Nat} {c : UInt8} {rest : List UInt8} (h : BytesAt w (.slice (some ⟨b, off, none⟩) n cap) (c :: rest)) :
    n = rest.length + 1 ∧ rest.length + 1 ≤ cap ∧ w.cell? ⟨b, off, none⟩ = some (.int .u8 c.toNat) ∧ BytesAt w (.slice (some ⟨b, off + 1, none⟩) rest.length (cap - 1)) rest := by
  rcases h with ⟨h1, h2⟩ | ⟨b', off', cap', h1, h2, h3⟩
  · simp at h2
  · simp at h1
    obtain ⟨⟨rfl, rfl⟩, rfl, rfl⟩ := h1
    simp at h2
    refine ⟨rfl, h2, h3 0 (by simp), .inr ⟨b, off + 1, cap - 1, rfl, by omega, fun j hj => ?_⟩⟩
    have := h3 (j + 1) (by simp; omega)
    rw [Nat.add_assoc, Nat.add_comm 1 j]
    simpa using this

/-- Where a byte stands first; -1: nowhere. -/
def idxB (l : List UInt8) (c : Nat) : Int := if l.findIdx (fun x => x.toNat == c) < l.length then (l.findIdx (fun x => x.toNat == c) : Nat) else -1
def lastB (l : List UInt8) (c : Nat) : Int := if l.reverse.findIdx (fun x => x.toNat == c) < l.length then (l.length - 1 - l.reverse.findIdx (fun x => x.toNat == c) : Nat) else -1

theorem idxB_at {l : List UInt8} {c i : Nat} (h : i < l.length) (hc : l[i].toNat = c) (hb : ∀ (j : Nat) (hj : j < i), l[j].toNat ≠ c) : idxB l c = i := by
  have : l.findIdx (fun x => x.toNat == c) = i := (List.findIdx_eq h).2 ⟨by simpa using hc, fun j hj => by simpa using hb j hj⟩
  unfold idxB
  rw [this, if_pos h]
theorem idxB_none {l : List UInt8} {c : Nat} (hb : ∀ (j : Nat) (hj : j < l.length), l[j].toNat ≠ c) : idxB l c = -1 := by
  have : l.findIdx (fun x => x.toNat == c) = l.length := List.findIdx_eq_length.2 fun x hx => by
    obtain ⟨j, hj, rfl⟩ := List.mem_iff_getElem.1 hx
    simpa using hb j hj
  unfold idxB
  rw [this, if_neg (Nat.lt_irrefl _)]
theorem lastB_at {l : List UInt8} {c i : Nat} (h : i < l.length) (hc : l[i].toNat = c) (hb : ∀ (j : Nat) (hj : j < l.length), i < j → l[j].toNat ≠ c) : lastB l c = i := by
  have hl : l.length - 1 - i < l.reverse.length := by simp; omega
  have : l.reverse.findIdx (fun x => x.toNat == c) = l.length - 1 - i := (List.findIdx_eq hl).2 ⟨by
    rw [List.getElem_reverse]
    simp only [beq_iff_eq, ← hc]
    congr 2
    omega, fun j hj => by
    rw [List.getElem_reverse]
    simpa using hb _ (by omega) (by omega)⟩
  unfold lastB
  rw [this, if_pos (by omega)]
  congr 1
  omega
theorem lastB_none {l : List UInt8} {c : Nat} (hb : ∀ (j : Nat) (hj : j < l.length), l[j].toNat ≠ c) : lastB l c = -1 := by
  have : l.reverse.findIdx (fun x => x.toNat == c) = l.reverse.length := List.findIdx_eq_length.2 fun x hx => by
    obtain ⟨j, hj, rfl⟩ := List.mem_iff_getElem.1 (List.mem_reverse.1 hx)
    simpa using hb j hj
  unfold lastB
  rw [this, List.length_reverse, if_neg (Nat.lt_irrefl _)]

theorem zzIdx (w : World) (s : ByteArray) (c : Nat) (hs : s.size ≤ 1000000) (hc : c < 256) :
    Calls Tryd.prog 31 #[.string s, .int .u8 c] w fun e w' => e = .returned (.int .i64 (idxB s.data.toList c)) ∧ w = w' := by
  go_enter Tryd.func31, Tryd.ntmps31
  go_wp2
  go_loop [5] (fun i => ∃ k : Nat, k ≤ s.size ∧ i = .int .i64 k ∧ Hid (∀ (j : Nat) (hj : j < k) (hl : j < s.data.toList.length), (s.data.toList[j]).toNat ≠ c)) (fun i => s.size - (intOf i).toNat)
  case atStart => exact ⟨0, Nat.zero_le _, rfl, Lib.hid fun j hj => by omega⟩
  case round =>
    obtain ⟨k, hk, rfl, hb⟩ := hrel
    by_cases hlt : k < s.size
    · have hkl : k < s.data.toList.length := by simpa using hlt
      by_cases he : s[k].toNat = c
      · have HR := Lib.hid (show idxB s.data.toList c = k from idxB_at hkl he fun j hj => hb.out j hj (by omega))
        have he' : ((s[k].toNat : Int) == (c : Int)) = true := by simp [he]
        clear he hb
        go_wp2
        go_ret
        exact ⟨congrArg (fun x => Ending.returned (.int .i64 x)) HR.out.symm, rfl⟩
      · have he' : ((s[k].toNat : Int) == (c : Int)) = false := by simp; omega
        have HB := Lib.hid (show ∀ (j : Nat) (hj : j < k + 1) (hl : j < s.data.toList.length), (s.data.toList[j]).toNat ≠ c from fun j hj hl => by
          by_cases hjk : j = k
          · subst hjk; exact he
          · exact hb.out j (by omega) hl)
        clear he hb
        go_wp2
        go_round
        case rel => exact ⟨k + 1, by omega, by go_num, HB⟩
        case measure => simp [intOf]; omega
    · have HR := Lib.hid (show idxB s.data.toList c = -1 from idxB_none fun j hj => hb.out j (by simp at hj; omega) hj)
      clear hb
      go_wp2
      go_ret
      exact ⟨congrArg (fun x => Ending.returned (.int .i64 x)) HR.out.symm, rfl⟩

theorem zzLast (w : World) (s : ByteArray) (c : Nat) (hs : s.size ≤ 1000000) (hc : c < 256) :
    Calls Tryd.prog 32 #[.string s, .int .u8 c] w fun e w' => e = .returned (.int .i64 (lastB s.data.toList c)) ∧ w = w' := by
  go_enter Tryd.func32, Tryd.ntmps32
  go_wp2
  go_loop [5] (fun i => ∃ k : Nat, k ≤ s.size ∧ i = .int .i64 ((k : Int) - 1) ∧ Hid (∀ (j : Nat) (hl : j < s.data.toList.length), k ≤ j → (s.data.toList[j]).toNat ≠ c)) (fun i => (intOf i + 1).toNat)
  case atStart => exact ⟨s.size, Nat.le_refl _, rfl, Lib.hid fun j hl hj => by simp at hl; omega⟩
  case round =>
    obtain ⟨k, hk, rfl, hb⟩ := hrel
    by_cases h0 : k = 0
    · have HR := Lib.hid (show lastB s.data.toList c = -1 from lastB_none fun j hj => hb.out j hj (by omega))
      clear hb
      subst h0
      go_wp2
      go_ret
      exact ⟨congrArg (fun x => Ending.returned (.int .i64 x)) HR.out.symm, rfl⟩
    · obtain ⟨i, rfl⟩ : ∃ i, k = i + 1 := ⟨k - 1, by omega⟩
      have hlt : i < s.size := by omega
      have hkl : i < s.data.toList.length := by simpa using hlt
      have hi1 : ((i + 1 : Nat) : Int) - 1 = (i : Int) := by omega
      rw [hi1]
      by_cases he : s[i].toNat = c
      · have HR := Lib.hid (show lastB s.data.toList c = i from lastB_at hkl he fun j hj hij => hb.out j hj (by omega))
        have he' : ((s[i].toNat : Int) == (c : Int)) = true := by simp [he]
        clear he hb hi1
        go_wp2
        go_ret
        exact ⟨congrArg (fun x => Ending.returned (.int .i64 x)) HR.out.symm, rfl⟩
      · have he' : ((s[i].toNat : Int) == (c : Int)) = false := by simp; omega
        have HB := Lib.hid (show ∀ (j : Nat) (hl : j < s.data.toList.length), i ≤ j → (s.data.toList[j]).toNat ≠ c from fun j hl hj => by
          by_cases hjk : j = i
          · subst hjk; exact he
          · exact hb.out j hl (by omega))
        clear he hb hi1
        go_wp2
        go_round
        case rel => exact ⟨i, by omega, rfl, HB⟩
        case measure => simp [intOf]
end Go.Proofs.YtgnkinhjfcbdbaaDoor
