/- encoding/binary.PutUvarint, and Buffer.PutUVarInt. -/
import Derived.Test.YtgnkinhjfcbdbaaDoorBuf
import Derived.Lib.Hide
import Derived.Deep.RegionLaw
namespace Go.Proofs.YtgnkinhjfcbdbaaDoor
open Go.RowKit

/-- The bytes of a number as a uvarint. -/
def uv (x : Nat) : List UInt8 := if h : x < 128 then [UInt8.ofNat x] else UInt8.ofNat (x % 128 + 128) :: uv (x / 128)
  termination_by x
  decreasing_by omega

theorem uv_small {x : Nat} (h : x < 128) : uv x = [UInt8.ofNat x] := by rw [uv, dif_pos h]
theorem uv_big {x : Nat} (h : ¬ x < 128) : uv x = UInt8.ofNat (x % 128 + 128) :: uv (x / 128) := by rw [uv, dif_neg h]
theorem uv_length_pos (x : Nat) : 0 < (uv x).length := by
  by_cases h : x < 128
  · rw [uv_small h]; simp
  · rw [uv_big h]; simp
theorem uv_length_le : ∀ (n x : Nat), x < 128 ^ n → 0 < n → (uv x).length ≤ n
  | 0, _, _, h => by omega
  | n + 1, x, h, _ => by
    by_cases hx : x < 128
    · rw [uv_small hx]; simp
    · rw [uv_big hx]
      have : n ≠ 0 := by rintro rfl; simp at h; omega
      have := uv_length_le n (x / 128) (by rw [Nat.div_lt_iff_lt_mul (by omega)]; rw [Nat.pow_succ] at h; exact h) (by omega)
      simp; omega

def UvInv (x r : Nat) (T : TypeId) (w : World) (k xk : Nat) (wr : World) : Prop :=
  ∃ (C : Array Value) (pre : List UInt8), pre.length = k ∧ uv x = pre ++ uv xk ∧ wr.heap[r]? = some (.cells C T (0, 0)) ∧ C.size = 10 ∧ C.toList.take k = u8s pre ∧ Chg (· = r) w wr ∧ wr.heap.size = w.heap.size

theorem cells_at {w : World} {r : Nat} {C : Array Value} {T : TypeId} (h : w.heap[r]? = some (.cells C T (0, 0))) {i : Nat} (hi : i < C.size) : w.cell? ⟨r, i, none⟩ = some C[i] ∧ w.frozen? ⟨r, i, none⟩ = false := by
  constructor
  · simp [World.cell?, h, hi]
  · simp [World.frozen?, h]

theorem setCell_cells {w : World} {r : Nat} {C : Array Value} {T : TypeId} (h : w.heap[r]? = some (.cells C T (0, 0))) (i : Nat) (v : Value) : (w.setCell ⟨r, i, none⟩ v).heap[r]? = some (.cells (C.setIfInBounds i v) T (0, 0)) := by
  simp [World.setCell, Array.getElem?_modify, h]

theorem UvInv.at {x r : Nat} {T : TypeId} {w wr : World} {k xk : Nat} (h : UvInv x r T w k xk wr) (hk : k < 10) : ∃ u, wr.cell? ⟨r, k, none⟩ = some u ∧ wr.frozen? ⟨r, k, none⟩ = false := by
  obtain ⟨C, pre, _, _, hh, hs, _⟩ := h
  exact ⟨_, cells_at hh (by omega)⟩

theorem take_set_succ (C : Array Value) (k : Nat) (v : Value) (hk : k < C.size) : (C.setIfInBounds k v).toList.take (k + 1) = C.toList.take k ++ [v] := by
  rw [Array.toList_setIfInBounds, List.take_succ_eq_append_getElem (by simpa using hk), List.take_set_of_le (by omega)]
  simp

theorem UvInv.step {x r : Nat} {T : TypeId} {w wr : World} {k xk : Nat} (h : UvInv x r T w k xk wr) (hk : k < 10) (hx : ¬ xk < 128) :
    UvInv x r T w (k + 1) (xk / 128) (wr.setCell ⟨r, k, none⟩ (.int .u8 ((xk % 128 + 128 : Nat) : Int))) := by
  obtain ⟨C, pre, h1, h2, hh, hs, h3, h4, h5⟩ := h
  refine ⟨_, pre ++ [UInt8.ofNat (xk % 128 + 128)], by simp [h1], by rw [h2, uv_big hx]; simp, setCell_cells hh _ _, by simp [hs], ?_, h4.setCell (.inl rfl) _, by simpa [World.setCell] using h5⟩
  rw [take_set_succ _ _ _ (by omega), h3, u8s_append]
  have : (xk % 128 + 128) % 256 = xk % 128 + 128 := by omega
  simp [u8s, this]

def UvDone (x r : Nat) (T : TypeId) (w wr : World) : Prop :=
  ∃ C : Array Value, wr.heap[r]? = some (.cells C T (0, 0)) ∧ C.size = 10 ∧ C.toList.take (uv x).length = u8s (uv x) ∧ Chg (· = r) w wr ∧ wr.heap.size = w.heap.size

theorem UvInv.last {x r : Nat} {T : TypeId} {w wr : World} {k xk : Nat} (h : UvInv x r T w k xk wr) (hk : k < 10) (hx : xk < 128) :
    k + 1 = (uv x).length ∧ UvDone x r T w (wr.setCell ⟨r, k, none⟩ (.int .u8 (xk : Int))) := by
  obtain ⟨C, pre, h1, h2, hh, hs, h3, h4, h5⟩ := h
  have hl : (uv x).length = k + 1 := by rw [h2, uv_small hx]; simp [h1]
  refine ⟨hl.symm, _, setCell_cells hh _ _, by simp [hs], ?_, h4.setCell (.inl rfl) _, by simpa [World.setCell] using h5⟩
  rw [hl, take_set_succ _ _ _ (by omega), h3, h2, uv_small hx, u8s_append]
  have : xk % 256 = xk := by omega
  simp [u8s, this]

theorem UvInv.room {x r : Nat} {T : TypeId} {w wr : World} {k xk : Nat} (h : UvInv x r T w k xk wr) (hx : x < 18446744073709551616) : k < 10 := by
  obtain ⟨C, pre, h1, h2, _⟩ := h
  have := uv_length_le 10 x (by omega) (by omega)
  have := uv_length_pos xk
  rw [h2] at *
  simp at *
  omega

set_option maxHeartbeats 400000 in
theorem or128_nat : ∀ n : Nat, n < 256 → bits .or .u8 (n : Int) 128 = ((n % 128 + 128 : Nat) : Int) := by decide +kernel
theorem or128 (n : Nat) : bits .or .u8 ((n : Int) % 256) 128 = ((n % 128 + 128 : Nat) : Int) := by
  have := or128_nat (n % 256) (by omega)
  rw [show ((n : Int) % 256) = ((n % 256 : Nat) : Int) by omega, this]
  omega

theorem UvDone.news {x r : Nat} {T : TypeId} {w wr : World} (h : UvDone x r T w wr) : ∀ j u, (u8s (uv x))[j]? = some u → wr.cell? ((⟨r, 0, none⟩ : Addr).add j) = some u := by
  obtain ⟨C, hh, hs, ht, _⟩ := h
  intro j u hj
  rw [← ht] at hj
  have h1 := (List.getElem?_eq_some_iff.1 hj).1
  simp at h1
  have hj' : C[j]? = some u := by
    rw [List.getElem?_take] at hj
    split at hj
    · simpa using hj
    · simp at hj
  have hadd : (⟨r, 0, none⟩ : Addr).add j = ⟨r, j, none⟩ := by unfold Addr.add; split <;> simp_all
  rw [hadd]
  simp [World.cell?, hh, hj']

theorem UvDone.chg {x r : Nat} {T : TypeId} {w wr : World} (h : UvDone x r T w wr) : Chg (· = r) w wr := by
  obtain ⟨C, hh, hs, ht, h, _⟩ := h
  exact h

theorem BufAt.upd {w w' : World} {F G : Nat → Prop} {T : TypeId} {p : Nat} {bs : List UInt8} (h : BufAt w F T p bs) (hc : Chg G w w') (hd : Disj F G) : BufAt w' F T p bs := by
  obtain ⟨hF, v, hp, hown, hv⟩ := h
  have hlt := hown.lt
  exact ⟨hF, v, by rw [hc.block p (Array.getElem?_eq_some_iff.1 hp).1 (hd p hF)]; exact hp, ownsRow_block hown fun g hg => hc.block g (hlt g hg).2 (hd g (hv g hg).1), hv⟩

end Go.Proofs.YtgnkinhjfcbdbaaDoor
