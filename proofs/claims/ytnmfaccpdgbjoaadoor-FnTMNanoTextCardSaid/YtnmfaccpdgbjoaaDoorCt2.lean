/- Types by bytes; the place of a byte in a text; elements and bases of types. -/
import Derived.Test.YtnmfaccpdgbjoaaDoorCt
import Derived.Test.YtnmfaccpdgbjoaaDoorOwnR
import Derived.Deep.AppendSrc
namespace Go.Proofs.YtnmfaccpdgbjoaaDoor
open Go.RowKit
set_option linter.unusedVariables false
set_option linter.unusedSimpArgs false
set_option linter.unnecessarySimpa false

/-- Types without parameters. -/
def plainL : List ByteArray := [⟨#[73, 110, 116, 56]⟩, ⟨#[73, 110, 116, 49, 54]⟩, ⟨#[73, 110, 116, 51, 50]⟩, ⟨#[73, 110, 116, 54, 52]⟩, ⟨#[73, 110, 116, 49, 50, 56]⟩, ⟨#[73, 110, 116, 50, 53, 54]⟩, ⟨#[85, 73, 110, 116, 56]⟩, ⟨#[85, 73, 110, 116, 49, 54]⟩, ⟨#[85, 73, 110, 116, 51, 50]⟩, ⟨#[85, 73, 110, 116, 54, 52]⟩, ⟨#[85, 73, 110, 116, 49, 50, 56]⟩, ⟨#[85, 73, 110, 116, 50, 53, 54]⟩, ⟨#[70, 108, 111, 97, 116, 51, 50]⟩, ⟨#[70, 108, 111, 97, 116, 54, 52]⟩, ⟨#[83, 116, 114, 105, 110, 103]⟩, ⟨#[66, 111, 111, 108]⟩, ⟨#[73, 80, 118, 52]⟩, ⟨#[73, 80, 118, 54]⟩, ⟨#[85, 85, 73, 68]⟩, ⟨#[68, 97, 116, 101]⟩, ⟨#[68, 97, 116, 101, 51, 50]⟩, ⟨#[68, 97, 116, 101, 84, 105, 109, 101]⟩]
theorem plain_size : ∀ (j : Nat) (s : ByteArray), plainL[j]? = some s → s.size ≤ 8
  | j, s, h => by
    have hj : j < 22 := (List.getElem?_eq_some_iff.1 h).1
    have key : ∀ j, j < 22 → (plainL.getD j ⟨#[]⟩).size ≤ 8 := by decide +kernel
    have h2 := key j hj
    rw [List.getD_eq_getElem?_getD, h] at h2
    exact h2
def plainAt (n : Nat) : ByteArray := plainL.getD (n % 22) ⟨#[]⟩
theorem plainAt_get (n : Nat) : plainL[n % 22]? = some (plainAt n) := by
  have h : n % 22 < plainL.length := Nat.mod_lt _ (by decide)
  unfold plainAt
  rw [List.getD_eq_getElem?_getD, List.getElem?_eq_getElem h]
  rfl
theorem plainAt_size (n : Nat) : (plainAt n).size ≤ 8 := plain_size _ _ (plainAt_get n)

/-- A type by bytes. -/
def ctT : List UInt8 → Nat → ByteArray
  | code, 0 => plainAt (code.headD 0).toNat
  | [], _ + 1 => plainAt 0
  | [c], _ + 1 => plainAt c.toNat
  | c :: c2 :: rest, d + 1 =>
    if c.toNat % 5 = 0 then ofS sArray [ctT (c2 :: rest) d]
    else if c.toNat % 5 = 1 then ofS sMap [sString, ctT (c2 :: rest) d]
    else if c.toNat % 5 = 2 then ofS sTuple [ctT (c2 :: rest) d, ctT rest d]
    else plainAt c2.toNat
def ctMost : Nat → Nat
  | 0 => 8
  | d + 1 => 17 + 2 * ctMost d
theorem ctT_size : ∀ (d : Nat) (code : List UInt8), (ctT code d).size ≤ ctMost d
  | 0, code => by unfold ctT; exact plainAt_size _
  | d + 1, [] => by unfold ctT ctMost; have := plainAt_size 0; omega
  | d + 1, [c] => by unfold ctT ctMost; have := plainAt_size c.toNat; omega
  | d + 1, c :: c2 :: rest => by
    have h1 := ctT_size d (c2 :: rest)
    have h2 := ctT_size d rest
    have a1 : sArray.size = 5 := rfl
    have a2 : sMap.size = 3 := rfl
    have a3 : sTuple.size = 5 := rfl
    have a4 : sString.size = 6 := rfl
    unfold ctT ctMost
    split
    · have := ofS_size sArray [ctT (c2 :: rest) d]; simp only [sumS] at this; omega
    · split
      · have := ofS_size sMap [sString, ctT (c2 :: rest) d]; simp only [sumS] at this; omega
      · split
        · have := ofS_size sTuple [ctT (c2 :: rest) d, ctT rest d]; simp only [sumS] at this; omega
        · have := plainAt_size c2.toNat; omega
theorem ctMost_le : ∀ d, d ≤ 3 → ctMost d ≤ 200 := by decide

/-- What reads as bytes, without the first one. -/
theorem BytesAt.tail {w : World} {b off n cap : Nat} {c : UInt8} {rest : List UInt8} (h : BytesAt w (.slice (some ⟨b, off, none⟩) n cap) (c :: rest)) :
    n = rest.length + 1 ∧ rest.length + 1 ≤ cap ∧ w.cell? ⟨b, off, none⟩ = some (.int .u8 c.toNat) ∧ BytesAt w (.slice (some ⟨b, off + 1, none⟩) rest.length (cap - 1)) rest := by
  rcases h with ⟨h1, h2⟩ | ⟨b', off', cap', h1, h2, h3⟩
  · simp at h2
  · simp at h1
    obtain ⟨⟨rfl, rfl⟩, rfl, rfl⟩ := h1
    simp at h2
    refine ⟨rfl, h2, h3 0 (by simp), .inr ⟨b, off + 1, cap - 1, rfl, by omega, fun j hj => ?_⟩⟩
    have := h3 (j + 1) (by simp; omega)
    rw [Nat.add_assoc, Nat.add_comm 1 j]
    simpa using this

/-- Where a byte stands first; -1: nowhere. -/
def idxB (l : List UInt8) (c : Nat) : Int := if l.findIdx (fun x => x.toNat == c) < l.length then (l.findIdx (fun x => x.toNat == c) : Nat) else -1
def lastB (l : List UInt8) (c : Nat) : Int := if l.reverse.findIdx (fun x => x.toNat == c) < l.length then (l.length - 1 - l.reverse.findIdx (fun x => x.toNat == c) : Nat) else -1

theorem idxB_at {l : List UInt8} {c i : Nat} (h : i < l.length) (hc : l[i].toNat = c) (hb : ∀ (j : Nat) (hj : j < i), l[j].toNat ≠ c) : idxB l c = i := by
  have : l.findIdx (fun x => x.toNat == c) = i := (List.findIdx_eq h).2 ⟨by simpa using hc, fun j hj => by simpa using hb j hj⟩
  unfold idxB
  rw [this, if_pos h]
theorem idxB_none {l : List UInt8} {c : Nat} (hb : ∀ (j : Nat) (hj : j < l.length), l[j].toNat ≠ c) : idxB l c = -1 := by
  have : l.findIdx (fun x => x.toNat == c) = l.length := List.findIdx_eq_length.2 fun x hx => by
    obtain ⟨j, hj, rfl⟩ := List.mem_iff_getElem.1 hx
    simpa using hb j hj
  unfold idxB
  rw [this, if_neg (Nat.lt_irrefl _)]
theorem lastB_at {l : List UInt8} {c i : Nat} (h : i < l.length) (hc : l[i].toNat = c) (hb : ∀ (j : Nat) (hj : j < l.length), i < j → l[j].toNat ≠ c) : lastB l c = i := by
  have hl : l.length - 1 - i < l.reverse.length := by simp; omega
  have : l.reverse.findIdx (fun x => x.toNat == c) = l.length - 1 - i := (List.findIdx_eq hl).2 ⟨by
    rw [List.getElem_reverse]
    simp only [beq_iff_eq, ← hc]
    congr 2
    omega, fun j hj => by
    rw [List.getElem_reverse]
    simpa using hb _ (by omega) (by omega)⟩
  unfold lastB
  rw [this, if_pos (by omega)]
  congr 1
  omega
theorem lastB_none {l : List UInt8} {c : Nat} (hb : ∀ (j : Nat) (hj : j < l.length), l[j].toNat ≠ c) : lastB l c = -1 := by
  have : l.reverse.findIdx (fun x => x.toNat == c) = l.reverse.length := List.findIdx_eq_length.2 fun x hx => by
    obtain ⟨j, hj, rfl⟩ := List.mem_iff_getElem.1 (List.mem_reverse.1 hx)
    simpa using hb j hj
  unfold lastB
  rw [this, List.length_reverse, if_neg (Nat.lt_irrefl _)]

end Go.Proofs.YtnmfaccpdgbjoaaDoor
