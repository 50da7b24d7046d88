/- The specification's functions on columns of strings; what the laws make of their arguments. -/
import Derived.Test.YtemmhlibbihjmaaGreatTxR
import Derived.Test.YtemmhlibbihjmaaGreatStLen
import Derived.Handy
import Derived.Deep.QuietTactic
import Derived.BigQuiet
namespace Go.Proofs.YtemmhlibbihjmaaGreat
open Go.RowKit
set_option linter.unusedVariables false
set_option linter.unusedSimpArgs false

/-- The length that stKind sets. -/
def stS (k s : Nat) : Nat := if k % 12 = 4 then 1 + s % 40 else 0

/-- The length of a kind's rows. -/
def kN (K S : Nat) : Option Nat := if K < 4 then none else if K = 4 then some S else some (8 * 2 ^ (K - 5))
def encK : Option Nat → List (List UInt8) → List UInt8
  | none => encS
  | some _ => List.flatten
def goodK : Option Nat → List UInt8 → Prop
  | none => fun _ => True
  | some n => fun s => s.length = n
def sizeK : Option Nat → Int
  | none => -1
  | some n => n
theorem sizeK_none : sizeK none = -1 := rfl
theorem sizeK_some (n : Nat) : sizeK (some n) = n := rfl

set_option maxRecDepth 100000 in
theorem stSizeV (w : World) (K S : Nat) (hK : K < 12) : Calls Tryz.prog 43 #[.agg #[.int .i64 K, .int .i64 S]] w fun e w' => e = .returned (.int .i64 (sizeK (kN K S))) ∧ Below w.heap.size w w' := by
  by_cases h4 : K < 4
  · have h4I : (K : Int) < 4 := by omega
    unfold kN
    rw [if_pos h4]
    clear h4
    go_enter Tryz.func43, Tryz.ntmps43
    go_wp2_with fail
    go_ret
    exact ⟨rfl, (Below.refl _ w).alloc (Nat.le_refl _) _⟩
  · by_cases h5 : K = 4
    · subst h5
      go_enter Tryz.func43, Tryz.ntmps43
      go_wp2_with fail
      go_ret
      exact ⟨rfl, (Below.refl _ w).alloc (Nat.le_refl _) _⟩
    · have h : K = 5 ∨ K = 6 ∨ K = 7 ∨ K = 8 ∨ K = 9 ∨ K = 10 ∨ K = 11 := by omega
      clear hK h4 h5
      rcases h with rfl | rfl | rfl | rfl | rfl | rfl | rfl
      all_goals
        go_enter Tryz.func43, Tryz.ntmps43
        go_wp2_with fail
        go_ret
        exact ⟨rfl, (Below.refl _ w).alloc (Nat.le_refl _) _⟩

theorem encK_snoc (N : Option Nat) (l : List (List UInt8)) (s : List UInt8) : encK N (l ++ [s]) = encK N l ++ ((if N = none then uv s.length else []) ++ s) := by
  cases N with
  | none => simp [encK, encS, strBytes]
  | some n => simp [encK]
theorem encK_le (N : Option Nat) (l : List (List UInt8)) : (encK N l).length ≤ 2 * l.flatten.length + l.length := by
  cases N with
  | none =>
    induction l with
    | nil => simp [encK, encS]
    | cons s l ih =>
      have h : (uv s.length).length ≤ s.length + 1 := by
        generalize s.length = n
        induction n using Nat.strongRecOn with
        | ind n ih =>
          unfold uv
          split
          · simp
          · simp only [List.length_cons]
            have := ih (n / 128) (by omega)
            omega
      have e : encK none (s :: l) = (uv s.length ++ s) ++ encK none l := rfl
      rw [e, List.length_append, List.length_append, List.flatten_cons, List.length_append, List.length_cons]
      omega
  | some n => simp [encK]; omega

set_option maxRecDepth 100000 in
theorem stBytesV (w : World) (K S : Nat) (hK : K < 12) (lv : Value) (l : List (List UInt8)) (hl : ListAt w lv l) (hs : Small l) :
    Calls Tryz.prog 22 #[.agg #[.int .i64 K, .int .i64 S], lv] w (MadeO w (encK (kN K S) l)) := by
  obtain ⟨p, c, rfl, hlc⟩ := hl.slice
  obtain ⟨N, hN⟩ : ∃ N, N = kN K S := ⟨_, rfl⟩
  have HN := Lib.hid hN
  rw [← hN]
  have HL := Lib.hid hl
  have HS := Lib.hid hs
  have hlen := hs.2
  clear hl hs hN
  go_enter Tryz.func22, Tryz.ntmps22
  go_wp2_with fail
  obtain ⟨W1, hW1⟩ : ∃ W1, W1 = w.alloc (.cells #[.int .i64 K, .int .i64 S] 60) := ⟨_, rfl⟩
  have HB1 : Hid (Below w.heap.size w W1 ∧ W1.cell? ⟨w.heap.size, 0, none⟩ = some (.int .i64 K) ∧ W1.cell? ⟨w.heap.size, 1, none⟩ = some (.int .i64 S) ∧ w.heap.size < W1.heap.size) := Lib.hid (by
    rw [hW1]; exact ⟨(Below.refl _ w).alloc (Nat.le_refl _) _, by go_simp, by go_simp, by simp⟩)
  rw [← hW1]
  clear hW1
  go_loopw [5, 6] (fun vo vi wr => ∃ (i : Nat) (q : Option Addr) (d : Nat), i ≤ l.length ∧ vi = .int .i64 i ∧ vo = .slice q (encK N (l.take i)).length d ∧ Since W1 wr (.slice q (encK N (l.take i)).length d) (encK N (l.take i))) (fun _ vi _ => l.length - (intOf vi).toNat)
  case atStart =>
    have h0 : encK N (l.take 0) = [] := by cases N <;> rfl
    exact ⟨0, none, 0, Nat.zero_le _, rfl, by rw [h0]; rfl, by rw [h0]; exact ⟨⟨fun _ => False, OwnB.nil _ _, fun _ h => h.elim⟩, Below.refl _ _⟩⟩
  case round =>
    obtain ⟨i, q, d, hi, rfl, rfl, hsn⟩ := hrel
    obtain ⟨pre, hpre⟩ : ∃ pre, pre = encK N (l.take i) := ⟨_, rfl⟩
    rw [← hpre] at hsn ⊢
    by_cases hlt : i < l.length
    · obtain ⟨s, hsi⟩ : ∃ s, l[i]? = some s := ⟨_, List.getElem?_eq_getElem hlt⟩
      obtain ⟨hb1, k0, k1, hk⟩ := HB1.out
      obtain ⟨g, o, x, rfl, -, -, -, hcx1, hbx1⟩ := (HL.out.below hb1).row hsi
      obtain ⟨px, cx, rfl⟩ := hbx1.slice
      have hg1 : g < W1.heap.size := World.block_lt_of_cell? _ _ hcx1
      have hcx : wr.cell? ⟨g, o + i, none⟩ = some (.slice px s.length cx) := by rw [hsn.below.cell hg1]; exact hcx1
      have z0 : wr.cell? ⟨w.heap.size, 0, none⟩ = some (.int .i64 K) := by rw [hsn.below.cell hk]; exact k0
      have z1 : wr.cell? ⟨w.heap.size, 1, none⟩ = some (.int .i64 S) := by rw [hsn.below.cell hk]; exact k1
      have hts := take_snoc hsi
      have hle := encK_le N (l.take (i + 1))
      have hsm := HS.out.take (i + 1)
      have hen := encK_snoc N (l.take i) s
      rw [← hts, ← hpre] at hen
      obtain ⟨m1, m2⟩ := hsm
      have hlen2 : (encK N (l.take (i + 1))).length ≤ 1000000000 := by omega
      rw [hen] at hlen2
      simp only [List.length_append] at hlen2
      have HEN := Lib.hid hen
      have HBX1 := Lib.hid hbx1
      have HCX1 := Lib.hid hcx1
      have HSN := Lib.hid hsn
      have hgl : g < wr.heap.size := World.block_lt_of_cell? _ _ hcx
      have hkr : w.heap.size < wr.heap.size := by have := hsn.below.size; omega
      clear hbx1 hcx1 hsn hb1 k0 k1 hk hsi hts hle m1 m2 hen hpre
      cases N with
      | none =>
        simp only [if_true] at hlen2 HEN
        have HLN := Lib.hid (fun w => stLength w s.length (by omega))
        obtain ⟨n, hn⟩ : ∃ n, n = s.length := ⟨_, rfl⟩
        obtain ⟨U, hU⟩ : ∃ U, U = uv n := ⟨_, rfl⟩
        have hw64 : IntKind.u64.wrap (n : Int) = (n : Int) := by rw [IntKind.wrap_u64]; omega
        rw [← hn] at hcx HBX1 HCX1 hlen2 HLN
        rw [← hU] at hlen2 HLN
        have HEN2 : Hid (encK none (l.take (i + 1)) = pre ++ (U ++ s)) := Lib.hid (by rw [HEN.out, hU, hn])
        have HNS := Lib.hid hn
        clear hU hn HEN
        have hst := stSizeV wr K S hK
        rw [← HN.out, sizeK_none] at hst
        have HST := Lib.hid hst
        clear hst
        go_wp2_with fail
        refine HST.out.mono ?_
        rintro e w2 ⟨rfl, hb2⟩
        have hcx2 : w2.cell? ⟨g, o + i, none⟩ = some (.slice px n cx) := by rw [hb2.cell hgl]; exact hcx
        have HSN2 := Lib.hid (HSN.out.later hb2)
        have hgl2 : g < w2.heap.size := by have := hb2.size; omega
        clear hcx z0 z1
        have HL1 : Hid (pre.length + U.length ≤ 140737488355328 ∧ (pre ++ U).length + s.length ≤ 140737488355328) := Lib.hid (by rw [List.length_append]; have := HNS.out; omega)
        go_wp2_with (first | (go_at_call 44; refine (HLN.out _).mono ?_; rintro e w3 hm; obtain ⟨q3, c3, rfl, s3, hb3⟩ := hm.since (Below.refl _ _); have hcx3 : w3.cell? ⟨g, o + i, none⟩ = some (.slice px n cx) := (by rw [hb3.cell hgl2]; exact hcx2)) | (at_builtin; refine append_since _ _ pre U rfl _ _ _ rfl _ rfl (HSN2.out.later hb3) _ rfl s3.bytes.srcB HL1.out.1 ?_; intro q4 c4 w4 s4; have hcx4 : w4.cell? ⟨g, o + i, none⟩ = some (.slice px n cx) := (by rw [s4.below.cell hg1]; exact HCX1.out)) | (at_builtin; refine append_since _ _ (pre ++ U) s rfl _ _ _ rfl _ rfl s4 _ rfl (HNS.out ▸ (HBX1.out.below s4.below).srcB) HL1.out.2 ?_; intro q5 c5 w5 s5))
        go_roundw
        case rel =>
          refine ⟨i + 1, q5, c5, hlt, by go_num, ?_, ?_⟩
          · rw [HEN2.out]; simp [Nat.add_assoc]
          · rw [HEN2.out]; simpa [Nat.add_assoc] using s5
        case measure => simp [intOf]; omega
      | some n =>
        have hst := stSizeV wr K S hK
        rw [← HN.out, sizeK_some] at hst
        have HST := Lib.hid hst
        have hneg : ¬ (n : Int) < 0 := by omega
        clear hst
        simp only [reduceCtorEq, if_false, List.nil_append] at hlen2 HEN
        have HL1 : Hid (pre.length + s.length ≤ 140737488355328) := Lib.hid (by simp at hlen2; omega)
        go_wp2_with fail
        refine HST.out.mono ?_
        rintro e w2 ⟨rfl, hb2⟩
        have hcx2 : w2.cell? ⟨g, o + i, none⟩ = some (.slice px s.length cx) := by rw [hb2.cell hgl]; exact hcx
        have HSN2 := Lib.hid (HSN.out.later hb2)
        clear hcx z0 z1 hb2
        go_wp2_with (at_builtin; refine append_since _ _ pre s rfl _ _ _ rfl _ rfl HSN2.out _ rfl (HBX1.out.below HSN2.out.below).srcB HL1.out ?_; intro q5 c5 w5 s5)
        go_roundw
        case rel =>
          refine ⟨i + 1, q5, c5, hlt, by go_num, ?_, ?_⟩
          · rw [HEN.out]; simp
          · rw [HEN.out]; simpa using s5
        case measure => simp [intOf]; omega
    · obtain rfl : i = l.length := by omega
      have HSN := Lib.hid hsn
      have HP := Lib.hid hpre
      clear hsn hpre
      go_wp2_with fail
      go_ret
      have h := HSN.out
      have hp := HP.out
      rw [List.take_length] at hp
      subst hp
      exact MadeO.of_below HB1.out.1 h.madeO

theorem drewN_below (w : World) (m : Nat) : Below w.heap.size w (w.drewN m) := ⟨rfl, rfl, rfl, Nat.le_refl _, fun _ _ => rfl⟩
end Go.Proofs.YtemmhlibbihjmaaGreat
