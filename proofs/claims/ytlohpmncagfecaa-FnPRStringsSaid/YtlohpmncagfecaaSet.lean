/- proto.Setting: Encode, Decode; impl.PKSetting, spec.PKSetting. -/
import Derived.Test.YtlohpmncagfecaaSq
import Derived.Deep.RegionHeld3
import Derived.Deep.QuietTactic
import Derived.BigQuiet
namespace Go.Proofs.Ytlohpmncagfecaa
open Go.RowKit

def bN (b : Bool) : Nat := if b then 1 else 0
def flagsOf (i c o : Bool) : Nat := bN i + 2 * bN c + 4 * bN o
def setBytes (k v : List UInt8) (i c o : Bool) : List UInt8 := strBytes k ++ (uv (flagsOf i c o) ++ strBytes v)
def setVal (k v : ByteArray) (i c o : Bool) : Value := .agg #[.string k, .string v, .bool i, .bool c, .bool o]

theorem setBytes_le (k v : List UInt8) (i c o : Bool) (hk : k.length ≤ 100) (hv : v.length ≤ 100) : (strBytes k).length ≤ 110 ∧ (uv (flagsOf i c o)).length ≤ 1 ∧ (strBytes v).length ≤ 110 ∧ (setBytes k v i c o).length ≤ 221 := by
  have h1 := uv_length_le 10 k.length (by omega) (by omega)
  have h2 := uv_length_le 10 v.length (by omega) (by omega)
  have h3 := uv_length_le 1 (flagsOf i c o) (by unfold flagsOf bN; split <;> split <;> split <;> omega) (by omega)
  unfold setBytes strBytes
  simp
  omega

theorem lenSize (s : ByteArray) : s.data.toList.length = s.size := by rw [Array.length_toList]; rfl

set_option maxRecDepth 100000 in
theorem setEncode (w : World) (F : Nat → Prop) (p : Nat) (k v : ByteArray) (i c o : Bool) (hk : k.size ≤ 100) (hv : v.size ≤ 100) (h : BufAt w F 119 p []) (hF : In F w) :
    Calls Try.prog 43 #[setVal k v i c o, .pointer (some ⟨p, 0, none⟩)] w (Put w F 119 p (setBytes k.data.toList v.data.toList i c o)) := by
  have hl := setBytes_le k.data.toList v.data.toList i c o (by rw [lenSize]; exact hk) (by rw [lenSize]; exact hv)
  have hl1 : (uv k.size).length ≤ 10 := uv_length_le 10 _ (by omega) (by omega)
  have hl2 : (uv v.size).length ≤ 10 := uv_length_le 10 _ (by omega) (by omega)
  have hl3 := hl.2.1
  clear hl
  unfold setVal
  have hn : ¬ F w.heap.size := fun hk => by have := hF _ hk; omega
  have hfl : flagsOf i c o < 18446744073709551616 := by unfold flagsOf bN; split <;> split <;> split <;> omega
  have HFL := Lib.hid hfl
  clear hfl
  have hr0 := rowIs_new w [.string k, .string v, .bool i, .bool c, .bool o] 80
  have hF0 := Lib.hid (hF.mono (w' := w.alloc (.cells #[.string k, .string v, .bool i, .bool c, .bool o] 80)) (by simp))
  have hh : ∀ (w1 : World) (F1 : Nat → Prop), Upd (w.alloc (.cells #[.string k, .string v, .bool i, .bool c, .bool o] 80)) w1 F F1 → ¬ F1 w.heap.size := fun w1 F1 hu hk => by
    rcases hu.new _ hk with h1 | h1
    · exact hn h1
    · simp at h1; omega
  have HH := Lib.hid hh
  clear hh
  have HF := Lib.hid hF
  clear hF
  cases i <;> cases c <;> cases o
  all_goals
    go_enter Try.func43, Try.ntmps43
    go_wp2_with fail
    refine (putString _ F p [] k (h.alloc _) hF0.out (by omega) (by simp; omega)).mono ?_
    rintro e w1 ⟨rfl, F1, h1, hu1⟩
    have hr1 := hr0.chg hu1.chg hn
    have c1 := hr1 1 _ rfl
    have c2 := hr1 2 _ rfl
    have c3 := hr1 3 _ rfl
    have c4 := hr1 4 _ rfl
    have hl4 : ([] ++ (uv k.size ++ k.data.toList)).length ≤ 110 := by simp; have := lenSize k; simp at this; omega
    go_wp2_with fail
    refine (putUVarInt _ F1 p _ _ HFL.out h1 (hu1.inn hF0.out) (by omega)).mono ?_
    rintro e w2 ⟨rfl, F2, h2, hu2⟩
    have hr2 := hr1.chg hu2.chg (HH.out w1 F1 hu1)
    have d1 := hr2 1 _ rfl
    go_wp2_with fail
    refine (putString _ F2 p _ v h2 (hu2.inn (hu1.inn hF0.out)) (by omega) (by simp at hl4 ⊢; omega)).mono ?_
    rintro e w3 ⟨rfl, F3, h3, hu3⟩
    go_wp2_with fail
    go_returns
    refine ⟨rfl, F3, ?_, ((Upd.refl F w).alloc _).trans (hu1.trans (hu2.trans hu3))⟩
    unfold setBytes strBytes
    rw [lenSize, lenSize]
    simpa using h3
theorem own_setEncode : Own 43 := fun _ _ => by kernel_rfl

set_option maxRecDepth 100000 in
theorem pkSetting (w : World) (k v : ByteArray) (i c o : Bool) (hk : k.size ≤ 100) (hv : v.size ≤ 100) :
    Calls Try.prog 12 #[setVal k v i c o] w (Made w (setBytes k.data.toList v.data.toList i c o)) := by
  have hE := fun w1 F p h hF => setEncode w1 F p k v i c o hk hv h hF
  have HE := Lib.hid hE
  clear hE
  unfold setVal at HE ⊢
  go_enter Try.func12, Try.ntmps12
  go_wp2_with (first | (go_at_call 41; refine (encoded _ _ _ (setBytes k.data.toList v.data.toList i c o) own_setEncode HE.out).mono ?_; rintro e w1 ⟨hb, v1, rfl, hv1, ho⟩; have HO := Lib.hid ho; clear ho) | (go_at_call 42; go_in))
  go_ret
  exact Made.of_below ((((Below.refl _ w).alloc (Nat.le_refl _) _).alloc (by simp) _).alloc (by simp; omega) _) ⟨hb, v1, rfl, hv1, HO.out⟩

theorem pkBool (w : World) (b : Bool) : Calls Try.prog 44 #[.bool b] w fun e w' => e = .returned (.int .u8 (bN b)) ∧ w' = w := by
  cases b
  all_goals
    go_enter Try.func44, Try.ntmps44
    go_wp2
    go_ret
    exact ⟨rfl, rfl⟩

set_option maxRecDepth 100000 in
theorem spSetting (w : World) (k v : ByteArray) (i c o : Bool) (hk : k.size ≤ 100) (hv : v.size ≤ 100) :
    Calls Try.prog 14 #[setVal k v i c o] w (Made w (setBytes k.data.toList v.data.toList i c o)) := by
  have hr0 := rowIs_new w [.string k, .string v, .bool i, .bool c, .bool o] 23
  have a0 := hr0 0 _ rfl
  have a1 := hr0 1 _ rfl
  have a2 := hr0 2 _ rfl
  have a3 := hr0 3 _ rfl
  have a4 := hr0 4 _ rfl
  have g1 : 0 ≤ bN i ∧ bN i ≤ 1 := by unfold bN; split <;> omega
  have g2 : 0 ≤ bN c ∧ bN c ≤ 1 := by unfold bN; split <;> omega
  have g3 : 0 ≤ bN o ∧ bN o ≤ 1 := by unfold bN; split <;> omega
  have hl := setBytes_le k.data.toList v.data.toList i c o (by rw [lenSize]; exact hk) (by rw [lenSize]; exact hv)
  have HL := Lib.hid hl
  clear hl hr0
  unfold setVal
  go_enter Try.func14, Try.ntmps14
  go_wp2_with fail
  go_quiet ((go_at_call 44; exact Calls.quiet_of_same (pkBool _ _)))
  have hfl : (bN i : Int) + 2 * (bN c : Int) + 4 * (bN o : Int) = ((flagsOf i c o : Nat) : Int) := by unfold flagsOf; omega
  rw [hfl]
  clear hfl
  have hfb : flagsOf i c o ≤ 9223372036854775807 := by unfold flagsOf; omega
  have HFB := Lib.hid hfb
  clear hfb
  have hb0 : ∀ n, Below (w.alloc (.cells #[.string k, .string v, .bool i, .bool c, .bool o] 23)).heap.size (w.alloc (.cells #[.string k, .string v, .bool i, .bool c, .bool o] 23)) ((w.alloc (.cells #[.string k, .string v, .bool i, .bool c, .bool o] 23)).drewN n) := fun n => ⟨rfl, rfl, rfl, Nat.le_refl _, fun _ _ => rfl⟩
  have HB0 := Lib.hid hb0
  clear hb0
  go_wp2_with fail
  go_region_held3 (fun w' => w'.cell? ⟨w.heap.size, 0, none⟩ = some (.string k) ∧ w'.cell? ⟨w.heap.size, 1, none⟩ = some (.string v)) (first | go_keep | (go_split_ands; refine ⟨?_, ?_⟩ <;> assumption))
    (first
      | (go_at_call 45; refine (pkText _ k (by have := HL.out; omega)).mono ?_; intro e w1 hm; obtain ⟨p1, c1, rfl, s1, hb1⟩ := hm.since (w0 := (w.alloc (.cells #[.string k, .string v, .bool i, .bool c, .bool o] 23))) (by first | exact HB0.out _ | exact (HB0.out _).alloc (by simp [World.drewN]) _); clear hm; (try (have hrow : RowIs w1 (w.heap.size + 1) (ints [flagsOf i c o]) := (by have h := (rowIs_new ((w.alloc (.cells #[.string k, .string v, .bool i, .bool c, .bool o] 23)).drewN _) (ints [flagsOf i c o]) 3).below hb1; simpa using h))); have q0 : w1.cell? ⟨w.heap.size, 0, none⟩ = some (.string k) := (by rw [s1.below.cell (by simp)]; go_simp); have q1 : w1.cell? ⟨w.heap.size, 1, none⟩ = some (.string v) := (by rw [s1.below.cell (by simp)]; go_simp))
      | (go_at_call 46; refine (pkInts _ _ 1 [flagsOf i c o] (by first | exact rowIs_new _ _ _ | exact hrow) (by simpa using HFB.out) (by simp)).mono ?_; intro e w2 hm; obtain ⟨p2, c2, rfl, s2, hb2⟩ := hm.since (w0 := (w.alloc (.cells #[.string k, .string v, .bool i, .bool c, .bool o] 23))) (by first | exact s1.below | exact (s1.alloc _).below); clear hm; have s1' := (by first | exact s1.later hb2 | exact (s1.alloc _).later hb2 : Since (w.alloc (.cells #[.string k, .string v, .bool i, .bool c, .bool o] 23)) w2 _ _); have r0 : w2.cell? ⟨w.heap.size, 0, none⟩ = some (.string k) := (by rw [s2.below.cell (by simp)]; go_simp); have r1 : w2.cell? ⟨w.heap.size, 1, none⟩ = some (.string v) := (by rw [s2.below.cell (by simp)]; go_simp))
      | (refine step_append_since _ _ (strBytes k.data.toList) (uvs [flagsOf i c o]) (by rfl) _ _ _ (by rfl) _ (by rfl) s1' _ (by rfl) s2.bytes.srcB (by have := HL.out; simp [uvs]; omega) ?_; intro p3 c3 w3 s3; have t0 : w3.cell? ⟨w.heap.size, 0, none⟩ = some (.string k) := (by rw [s3.below.cell (by simp)]; go_simp); have t1 : w3.cell? ⟨w.heap.size, 1, none⟩ = some (.string v) := (by rw [s3.below.cell (by simp)]; go_simp))
      | (go_at_call 45; refine (pkText _ v (by have := HL.out; omega)).mono ?_; intro e w4 hm; obtain ⟨p4, c4, rfl, s4, hb4⟩ := hm.since (w0 := (w.alloc (.cells #[.string k, .string v, .bool i, .bool c, .bool o] 23))) s3.below; clear hm; have s3' := s3.later hb4; have u0 : w4.cell? ⟨w.heap.size, 0, none⟩ = some (.string k) := (by rw [s4.below.cell (by simp)]; go_simp); have u1 : w4.cell? ⟨w.heap.size, 1, none⟩ = some (.string v) := (by rw [s4.below.cell (by simp)]; go_simp))
      | (refine step_append_since _ _ (strBytes k.data.toList ++ uvs [flagsOf i c o]) (strBytes v.data.toList) (by rfl) _ _ _ (by rfl) _ (by rfl) s3' _ (by rfl) s4.bytes.srcB (by have := HL.out; simp [uvs]; omega) ?_; intro p5 c5 w5 s5; have x0 : w5.cell? ⟨w.heap.size, 0, none⟩ = some (.string k) := (by rw [s5.below.cell (by simp)]; go_simp); have x1 : w5.cell? ⟨w.heap.size, 1, none⟩ = some (.string v) := (by rw [s5.below.cell (by simp)]; go_simp))
      | fail)
  all_goals
    go_wp2_with fail
    go_ret
    have e : setBytes k.data.toList v.data.toList i c o = strBytes k.data.toList ++ uvs [flagsOf i c o] ++ strBytes v.data.toList := by simp [setBytes, uvs]
    rw [e]
    have h := s5.made ((Below.refl _ w).alloc (Nat.le_refl _) _)
    simpa using h
end Go.Proofs.Ytlohpmncagfecaa
