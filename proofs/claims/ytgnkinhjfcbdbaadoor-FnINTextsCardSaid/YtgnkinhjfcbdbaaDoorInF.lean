/- impl.INColumns, INInto; spec.INColumns; slices.Clone of strings. -/
import Derived.Test.YtgnkinhjfcbdbaaDoorInE
import Derived.Test.YtgnkinhjfcbdbaaDoorLsA
namespace Go.Proofs.YtgnkinhjfcbdbaaDoor
open Go.RowKit
set_option linter.unusedVariables false
set_option linter.unusedSimpArgs false

def sIns : List UInt8 := [73, 78, 83, 69, 82, 84, 32, 73, 78, 84, 79, 32]
def sVal : List UInt8 := [32, 86, 65, 76, 85, 69, 83]
structure Names (ls : List (List UInt8)) : Prop where
  one : 1 ≤ ls.length
  most : ls.length ≤ 8
  each : ∀ l ∈ ls, 1 ≤ l.length ∧ l.length ≤ 20 ∧ ∀ x ∈ l, Small x

set_option maxRecDepth 100000 in
theorem implColumns (w : World) (v : Value) (ls : List (List UInt8)) (h : StrL w v (ls.map ba)) (hn : Names ls) :
    Calls Tryd.prog 7 #[v] w fun e w' => e = .returned (.string (ba (cols ls ++ [41]))) ∧ Below w.heap.size w w' := by
  have HI := Lib.hid (implInput w v (ls.map ba) h (by rw [List.length_map]; have := hn.most; omega))
  have HN := Lib.hid hn
  obtain ⟨p, c, rfl, hc⟩ := h.slice
  rw [List.length_map] at HI ⊢
  clear h hn
  go_enter Tryd.func7, Tryd.ntmps7
  go_wp2_with fail
  refine HI.out.mono ?_
  rintro e w1 ⟨x, rfl, hf, hb, -⟩
  have HC := Lib.hid (columns w1 x ls hf HN.out.one HN.out.most fun l hl => (HN.out.each l hl).2)
  have HB := Lib.hid hb
  clear hf hb
  go_wp2_with (go_at_call 13; refine HC.out.mono ?_; rintro e w2 ⟨rfl, hb2⟩)
  go_ret
  exact ⟨rfl, HB.out.trans (hb2.mono HB.out.size)⟩

def intoB (t : List UInt8) (ls : List (List UInt8)) : List UInt8 := sIns ++ (quo t ++ ([32] ++ ((cols ls ++ [41]) ++ sVal)))
set_option maxRecDepth 100000 in
theorem into (w : World) (v : Value) (ls : List (List UInt8)) (h : FlatAt w v ls.length (icells (ls.map ba))) (hn : Names ls) (t : List UInt8) (h1 : 1 ≤ t.length) (h20 : t.length ≤ 20) (hx : ∀ x ∈ t, Small x) :
    Calls Tryd.prog 14 #[v, .string (ba t)] w fun e w' => e = .returned (.string (ba (intoB t ls))) ∧ Below w.heap.size w w' := by
  have HQ := Lib.hid (quoteASCII w t h1 h20 hx)
  have HC := Lib.hid (fun w' (hb : Below w.heap.size w w') => columns w' v ls (h.below hb) hn.one hn.most fun l hl => (hn.each l hl).2)
  have hcl := cols_len ls fun l hl => (hn.each l hl).2.1
  have hm := hn.most
  obtain ⟨p, c, rfl, hc⟩ := h.slice
  have E := Lib.hid (show (⟨#[73, 78, 83, 69, 82, 84, 32, 73, 78, 84, 79, 32]⟩ : ByteArray) ++ ba ([34] ++ t ++ [34]) ++ (⟨#[32]⟩ : ByteArray) ++ ba (cols ls ++ [41]) ++ (⟨#[32, 86, 65, 76, 85, 69, 83]⟩ : ByteArray) = ba (intoB t ls) from by
    show ba sIns ++ _ ++ ba [32] ++ _ ++ ba sVal = _
    rw [ba_app, ba_app, ba_app, ba_app]
    simp [intoB, quo])
  have z1 : (ba ([34] ++ t ++ [34])).size = t.length + 2 := by rw [ba_size]; simp
  have z2 : (ba (cols ls ++ [41])).size ≤ 300 := by rw [ba_size, List.length_append]; simp only [List.length_cons, List.length_nil]; omega
  clear h hx hn hcl
  generalize ba ([34] ++ t ++ [34]) = Q at *
  generalize ba (cols ls ++ [41]) = C at *
  have f0 : (⟨#[73, 78, 83, 69, 82, 84, 32, 73, 78, 84, 79, 32]⟩ : ByteArray).size = 12 := rfl
  have f32 : (⟨#[32]⟩ : ByteArray).size = 1 := rfl
  have fv : (⟨#[32, 86, 65, 76, 85, 69, 83]⟩ : ByteArray).size = 7 := rfl
  have g1 : ((⟨#[73, 78, 83, 69, 82, 84, 32, 73, 78, 84, 79, 32]⟩ : ByteArray) ++ Q).size ≤ 40 := by rw [ByteArray.size_append, f0, z1]; omega
  have g2 : ((⟨#[73, 78, 83, 69, 82, 84, 32, 73, 78, 84, 79, 32]⟩ : ByteArray) ++ Q ++ (⟨#[32]⟩ : ByteArray)).size ≤ 41 := by rw [ByteArray.size_append, f32]; omega
  have g3 : ((⟨#[73, 78, 83, 69, 82, 84, 32, 73, 78, 84, 79, 32]⟩ : ByteArray) ++ Q ++ (⟨#[32]⟩ : ByteArray) ++ C).size ≤ 400 := by rw [ByteArray.size_append]; omega
  go_enter Tryd.func14, Tryd.ntmps14
  go_wp2_with fail
  refine HQ.out.mono ?_
  rintro e w1 ⟨rfl, hb1⟩
  have H1 := Lib.hid hb1
  have HC1 := Lib.hid (HC.out w1 hb1)
  clear hb1
  go_wp2_with fail
  refine HC1.out.mono ?_
  rintro e w2 ⟨rfl, hb2⟩
  go_wp2_with fail
  go_ret
  exact ⟨by rw [← E.out]; rfl, H1.out.trans (hb2.mono H1.out.size)⟩

set_option maxRecDepth 100000 in
theorem implInto (w : World) (v : Value) (ls : List (List UInt8)) (h : StrL w v (ls.map ba)) (hn : Names ls) (t : List UInt8) (h1 : 1 ≤ t.length) (h20 : t.length ≤ 20) (hx : ∀ x ∈ t, Small x) :
    Calls Tryd.prog 9 #[v, .string (ba t)] w fun e w' => e = .returned (.string (ba (intoB t ls))) ∧ Below w.heap.size w w' := by
  have HI := Lib.hid (implInput w v (ls.map ba) h (by rw [List.length_map]; have := hn.most; omega))
  have HN := Lib.hid (And.intro hn hx)
  obtain ⟨p, c, rfl, hc⟩ := h.slice
  rw [List.length_map] at HI ⊢
  clear h hn hx
  go_enter Tryd.func9, Tryd.ntmps9
  go_wp2_with fail
  refine HI.out.mono ?_
  rintro e w1 ⟨x, rfl, hf, hb, -⟩
  have HC := Lib.hid (into w1 x ls hf HN.out.1 t h1 h20 HN.out.2)
  have HB := Lib.hid hb
  clear hf hb
  go_wp2_with (go_at_call 14; refine HC.out.mono ?_; rintro e w2 ⟨rfl, hb2⟩)
  go_ret
  exact ⟨rfl, HB.out.trans (hb2.mono HB.out.size)⟩

set_option maxRecDepth 100000 in
theorem specCols (w : World) (v : Value) (ls : List (List UInt8)) (h : StrL w v (ls.map ba)) (hn : Names ls) :
    Calls Tryd.prog 8 #[v] w fun e w' => e = .returned (.string (ba (cols ls ++ [41]))) ∧ w = w' := by
  obtain ⟨p, c, rfl, hc⟩ := h.slice
  rw [List.length_map] at *
  have HL := Lib.hid h
  have HN := Lib.hid hn
  have hm := hn.most
  clear h hn
  go_enter Tryd.func8, Tryd.ntmps8
  go_wp2_with fail
  go_loop [3, 8] (fun vo vi => ∃ i : Nat, i ≤ ls.length ∧ vi = .int .i64 i ∧ vo = .string (ba (cols (ls.take i)))) (fun _ vi => ls.length - (intOf vi).toNat)
  case atStart => exact ⟨0, Nat.zero_le _, rfl, rfl⟩
  case round =>
    obtain ⟨i, hi, rfl, rfl⟩ := hrel
    have hcl := cols_len (ls.take i) fun l hl => (HN.out.each l (List.mem_of_mem_take hl)).2.1
    have htl : (ls.take i).length ≤ 8 := by simp; omega
    have hz : (ba (cols (ls.take i))).size ≤ 200 := by rw [ba_size]; omega
    by_cases hlt : i < ls.length
    · have hltI : (i : Int) < (ls.length : Int) := by omega
      obtain ⟨l, hl⟩ : ∃ l, ls[i]? = some l := ⟨_, List.getElem?_eq_getElem hlt⟩
      have hl20 := (HN.out.each l (List.mem_of_getElem? hl)).2.1
      obtain ⟨g, o, rfl, -, -, -, hcx⟩ := HL.out.row (i := i) (s := ba l) (by rw [List.getElem?_map, hl]; rfl)
      have hzl : (ba l).size ≤ 20 := by rw [ba_size]; exact hl20
      have E := Lib.hid (show (if ls.take i = [] then ba (cols (ls.take i)) else ba (cols (ls.take i)) ++ (⟨#[44]⟩ : ByteArray)) ++ ((⟨#[34]⟩ : ByteArray) ++ ba l ++ (⟨#[34]⟩ : ByteArray)) = ba (cols (ls.take (i + 1))) from by
        rw [takeSnoc hl, cols_snoc]
        show (if ls.take i = [] then ba (cols (ls.take i)) else ba (cols (ls.take i)) ++ ba [44]) ++ (ba [34] ++ ba l ++ ba [34]) = _
        rw [ba_app, ba_app]
        split
        · rw [ba_app]; rfl
        · rw [ba_app, ba_app]; rfl)
      have f34 : (⟨#[34]⟩ : ByteArray).size = 1 := rfl
      have f44 : (⟨#[44]⟩ : ByteArray).size = 1 := rfl
      obtain ⟨A, hA⟩ : ∃ A, A = ba (cols (ls.take i)) := ⟨_, rfl⟩
      obtain ⟨L, hL⟩ : ∃ L, L = ba l := ⟨_, rfl⟩
      rw [← hA, ← hL] at E
      rw [← hA] at hz ⊢
      rw [← hL] at hzl hcx
      have k1 : ((⟨#[34]⟩ : ByteArray) ++ L).size ≤ 21 := by rw [ByteArray.size_append, f34]; omega
      have k2 : ((⟨#[34]⟩ : ByteArray) ++ L ++ (⟨#[34]⟩ : ByteArray)).size ≤ 22 := by rw [ByteArray.size_append, f34]; omega
      have k3 : (A ++ (⟨#[44]⟩ : ByteArray)).size ≤ 201 := by rw [ByteArray.size_append, f44]; omega
      by_cases h0 : i = 0
      · subst h0
        rw [if_pos (by simp)] at E
        rw [Nat.add_zero] at hcx
        clear hA hL hl
        go_wp2_with fail
        go_round
        case rel => exact ⟨1, by omega, rfl, by rw [E.out]⟩
        case measure => simp [intOf]; omega
      · have h0I : (0 : Int) < (i : Int) := by omega
        rw [if_neg (by intro e; have := congrArg List.length e; simp only [List.length_take, List.length_nil] at this; omega)] at E
        clear hA hL hl
        go_wp2_with fail
        go_round
        case rel => exact ⟨i + 1, by omega, by go_num, by rw [E.out]⟩
        case measure => simp [intOf]; omega
    · obtain rfl : i = ls.length := by omega
      have hltI : ¬ (ls.length : Int) < (ls.length : Int) := by omega
      have E := Lib.hid (show ba (cols (ls.take ls.length)) ++ (⟨#[41]⟩ : ByteArray) = ba (cols ls ++ [41]) from by
        rw [List.take_length]
        exact ba_app _ [41])
      have f41 : (⟨#[41]⟩ : ByteArray).size = 1 := rfl
      generalize ba (cols (ls.take ls.length)) = A at *
      go_wp2_with fail
      go_ret
      exact ⟨by rw [← E.out]; rfl, rfl⟩
end Go.Proofs.YtgnkinhjfcbdbaaDoor
