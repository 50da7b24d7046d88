/- proto.ColumnType.normalizeCommas, Conflicts; FnCTConflicts: the walks. -/
import Derived.Test.YtgnkinhjfcbdbaaDoorCtP
import Derived.Shelf.Strings.TrimSpace
import Derived.Lib.LaidTab
namespace Go.Proofs.YtgnkinhjfcbdbaaDoor
open Go.RowKit Go.Shelf
set_option linter.unusedVariables false
set_option linter.unusedSimpArgs false

/-- The table of white space, where it stands. -/
def Tab (w : World) : Prop := Lib.TabIs Tryd.prog w "strings.asciiSpace" .u8 Lib.asciiSpaceTab
theorem Tab.below {w w' : World} (h : Tab w) (hb : Below w.heap.size w w') : Tab w' := by
  have hg : Tryd.prog.globalNamed "strings.asciiSpace" = some (0) := by kernel_rfl
  unfold Tab Lib.TabIs World.var? at h ⊢
  rw [hg] at h ⊢
  simp only [Option.bind_some] at h ⊢
  have hlt : 0 < w.heap.size := by
    rcases Nat.lt_or_ge 0 w.heap.size with h' | h'
    · exact h'
    · rw [Array.getElem?_eq_none h'] at h; cases h
  rw [hb.block _ hlt]
  exact h
theorem below_bytes (w : World) (e : TypeId) (s : ByteArray) : Below w.heap.size w (Lib.bytesWorld w e s) :=
  ⟨rfl, rfl, rfl, by rw [Lib.bytesWorld_size]; omega, fun j hj => Lib.bytesWorld_at_old w e s j hj⟩

def lays163_ren : Go.Shelf.Ren := ⟨fun | 163 => 34 | 237 => 43 | 199 => 44 | 238 => 45 | 272 => 54 | 261 => 55 | 273 => 56 | 197 => 40 | 315 => 65 | 311 => 66 | 312 => 67 | 271 => 68 | 260 => 50 | 120 => 74 | n => n, fun | 9 => 9 | 37 => 25 | 3 => 3 | 0 => 0 | 5 => 5 | 4 => 4 | 40 => 74 | 119 => 75 | 21 => 21 | 51 => 67 | 141 => 79 | 105 => 68 | 196 => 99 | 193 => 96 | 198 => 101 | 49 => 90 | 194 => 97 | 201 => 104 | 226 => 114 | 46 => 70 | 227 => 115 | 139 => 89 | 138 => 88 | n => n, fun | 0 => 0 | 6 => 1 | 3 => 2 | 4 => 3 | n => n⟩
theorem lays163 : Go.Proofs.Lays.n163 Tryd.prog lays163_ren := {
  mixed := by kernel_rfl
  f120 := Tryd.func74.trans (congrArg some (by kernel_rfl))
  f163 := Tryd.func34.trans (congrArg some (by kernel_rfl))
  f197 := Tryd.func40.trans (congrArg some (by kernel_rfl))
  f199 := Tryd.func44.trans (congrArg some (by kernel_rfl))
  f237 := Tryd.func43.trans (congrArg some (by kernel_rfl))
  f238 := Tryd.func45.trans (congrArg some (by kernel_rfl))
  f260 := Tryd.func50.trans (congrArg some (by kernel_rfl))
  f261 := Tryd.func55.trans (congrArg some (by kernel_rfl))
  f271 := Tryd.func68.trans (congrArg some (by kernel_rfl))
  f272 := Tryd.func54.trans (congrArg some (by kernel_rfl))
  f273 := Tryd.func56.trans (congrArg some (by kernel_rfl))
  f311 := Tryd.func66.trans (congrArg some (by kernel_rfl))
  f312 := Tryd.func67.trans (congrArg some (by kernel_rfl))
  f315 := Tryd.func65.trans (congrArg some (by kernel_rfl))
  t0 := Tryd.underlying0
  a0 := Tryd.isAgg0
  z0 := Tryd.sizeOf0
  v0 := Tryd.zeroValue0
  t3 := Tryd.underlying3
  a3 := Tryd.isAgg3
  z3 := Tryd.sizeOf3
  v3 := Tryd.zeroValue3
  t4 := Tryd.underlying4
  a4 := Tryd.isAgg4
  z4 := Tryd.sizeOf4
  v4 := Tryd.zeroValue4
  t5 := Tryd.underlying5
  a5 := Tryd.isAgg5
  z5 := Tryd.sizeOf5
  v5 := Tryd.zeroValue5
  t9 := Tryd.underlying9
  a9 := Tryd.isAgg9
  z9 := Tryd.sizeOf9
  v9 := Tryd.zeroValue9
  t21 := Tryd.underlying21
  a21 := Tryd.isAgg21
  z21 := Tryd.sizeOf21
  v21 := Tryd.zeroValue21
  t37 := Tryd.underlying25
  a37 := Tryd.isAgg25
  z37 := Tryd.sizeOf25
  v37 := Tryd.zeroValue25
  t40 := Tryd.underlying74
  a40 := Tryd.isAgg74
  z40 := Tryd.sizeOf74
  v40 := Tryd.zeroValue74
  t46 := Tryd.underlying70
  a46 := Tryd.isAgg70
  z46 := Tryd.sizeOf70
  v46 := Tryd.zeroValue70
  t49 := Tryd.underlying90
  a49 := Tryd.isAgg90
  z49 := Tryd.sizeOf90
  v49 := Tryd.zeroValue90
  t51 := Tryd.underlying67
  a51 := Tryd.isAgg67
  z51 := Tryd.sizeOf67
  v51 := Tryd.zeroValue67
  t105 := Tryd.underlying68
  a105 := Tryd.isAgg68
  z105 := Tryd.sizeOf68
  v105 := Tryd.zeroValue68
  t119 := Tryd.underlying75
  a119 := Tryd.isAgg75
  z119 := Tryd.sizeOf75
  t138 := Tryd.underlying88
  a138 := Tryd.isAgg88
  z138 := Tryd.sizeOf88
  v138 := Tryd.zeroValue88
  t139 := Tryd.underlying89
  a139 := Tryd.isAgg89
  z139 := Tryd.sizeOf89
  v139 := Tryd.zeroValue89
  t141 := Tryd.underlying79
  a141 := Tryd.isAgg79
  z141 := Tryd.sizeOf79
  v141 := Tryd.zeroValue79
  t193 := Tryd.underlying96
  a193 := Tryd.isAgg96
  z193 := Tryd.sizeOf96
  v193 := Tryd.zeroValue96
  t194 := Tryd.underlying97
  a194 := Tryd.isAgg97
  z194 := Tryd.sizeOf97
  v194 := Tryd.zeroValue97
  t196 := Tryd.underlying99
  a196 := Tryd.isAgg99
  z196 := Tryd.sizeOf99
  v196 := Tryd.zeroValue99
  t198 := Tryd.underlying101
  a198 := Tryd.isAgg101
  z198 := Tryd.sizeOf101
  v198 := Tryd.zeroValue101
  t201 := Tryd.underlying104
  a201 := Tryd.isAgg104
  z201 := Tryd.sizeOf104
  v201 := Tryd.zeroValue104
  t226 := Tryd.underlying114
  a226 := Tryd.isAgg114
  z226 := Tryd.sizeOf114
  v226 := Tryd.zeroValue114
  t227 := Tryd.underlying115
  a227 := Tryd.isAgg115
  z227 := Tryd.sizeOf115
  v227 := Tryd.zeroValue115
  g0 := by kernel_rfl
  g3 := by kernel_rfl
  g4 := by kernel_rfl
  g6 := by kernel_rfl }
theorem trim (w : World) (l : List UInt8) (hl : l.length ≤ 1000) (ha : Asc l) (ht : Tab w) :
    Calls Tryd.prog 34 #[.string (ba l)] w fun e w' => e = .returned (.string (ba (Lib.trimSpace l))) ∧ Below w.heap.size w w' := by
  have h := Any.strings_TrimSpace lays163 ⟨by kernel_rfl⟩ (ba l) w (by rw [ba_size]; omega) (fun j b hb => by rw [ba_list] at hb; exact ha b (List.mem_of_getElem? hb)) ht
  rw [ba_list] at h
  exact h.mono fun e w' h => ⟨h.1, by rw [h.2]; exact below_bytes w _ _⟩

theorem join_comma (w : World) (v : Value) (ps : List (List UInt8)) (h : StrsAt w v (ps.map ba)) (hl : (Lib.join ps [44]).length ≤ 140737488355328) (hn : ps.length ≤ 140737488355328) :
    Calls Tryd.prog 37 #[v, .string ⟨#[44]⟩] w fun e w' => e = .returned (.string (ba (Lib.join ps [44]))) ∧ Below w.heap.size w w' := by
  obtain ⟨b, off, cap, rfl, hc, hlt, hx⟩ := h
  have e : ((ps.map ba).map (·.data.toList)) = ps := by rw [List.map_map]; exact (List.map_congr_left fun p _ => ba_list p).trans (List.map_id ps)
  have := Any.strings_Join lays156 extra156 b off cap (ps.map ba) ⟨#[44]⟩ w hx hlt (by simpa using hn) hc (by rw [e]; exact hl)
  rw [e] at this
  exact this

def NormInv (w wr : World) (ps : List (List UInt8)) (k : Nat) (v : Value) : Prop :=
  ∃ F : Nat → Prop, Acc w F 9 1 v k ((ps.take k).map fun p => Value.string (ba (Lib.trimSpace p))) wr

set_option maxRecDepth 100000 in
theorem norm (w : World) (s : ByteArray) (hs : s.size ≤ 1000) (ha : Asc s.data.toList) (ht : Tab w) :
    Calls Tryd.prog 25 #[.string s] w fun e w' => e = .returned (.string (normS s)) ∧ Below w.heap.size w w' := by
  have hls : s.data.toList.length = s.size := by simp
  have hS := fun w => zzSplitL w s.data.toList 44 (by omega)
  rw [ba_self] at hS
  have hpn := split_len 44 s.data.toList
  have hne := (split_sum 44 s.data.toList).2
  have hpa := split_asc 44 s.data.toList ha
  have hjl : (Lib.join ((splitB 44 s.data.toList).map Lib.trimSpace) [44]).length ≤ 2000 := by have := norm_size s hs; rwa [normS, ba_size] at this
  have hN : normS s = ba (Lib.join ((splitB 44 s.data.toList).map Lib.trimSpace) [44]) := rfl
  rw [hN]
  unfold splitL at hS
  rw [show ((44 : UInt8).toNat) = 44 from rfl] at hS
  generalize splitB 44 s.data.toList = ps at *
  have HS := Lib.hid hS
  have HA := Lib.hid hpa
  have HNE := Lib.hid hne
  have HJ := Lib.hid hjl
  clear hS hpa hne hjl ha hN
  go_enter Tryd.func25, Tryd.ntmps25
  go_wp2_with fail
  refine (HS.out _).mono ?_
  rintro e w1 ⟨v, rfl, hsv, h1, -⟩
  obtain ⟨p, c, rfl, hc⟩ := hsv.slice
  simp only [List.length_map] at hc
  rw [List.length_map]
  have HV := Lib.hid hsv
  have H1 := Lib.hid h1
  clear hsv h1
  have HT := Lib.hid (ht.below H1.out)
  go_wp2_with fail
  go_loopw [3, 9] (fun vo vi wr => ∃ i : Nat, i ≤ ps.length ∧ vi = .int .i64 i ∧ NormInv w1 wr ps i vo) (fun _ vi _ => ps.length - (intOf vi).toNat)
  case atStart => exact ⟨0, Nat.zero_le _, rfl, _, Acc.start _ _ _⟩
  case round =>
    obtain ⟨i, hi, rfl, F, hA⟩ := hrel
    obtain ⟨po, co, rfl⟩ := hA.slice
    by_cases hlt : i < ps.length
    · obtain ⟨q, hq⟩ : ∃ q, ps[i]? = some q := ⟨_, List.getElem?_eq_getElem hlt⟩
      have hq2 : (ps.map ba)[i]? = some (ba q) := by rw [List.getElem?_map, hq]; rfl
      have HV2 := HV.out.below hA.below
      rw [List.length_map] at HV2
      obtain ⟨g, o, rfl, -, -, -, hcx⟩ := HV2.row hq2
      have hqa := HA.out q (List.mem_of_getElem? hq)
      have HX := Lib.hid (trim wr q (by omega) hqa.1 (HT.out.below hA.below))
      have HW : Hid ((ps.take (i + 1)).map (fun p => Value.string (ba (Lib.trimSpace p))) = (ps.take i).map (fun p => Value.string (ba (Lib.trimSpace p))) ++ [.string (ba (Lib.trimSpace q))]) := Lib.hid (by rw [takeSnoc hq]; simp)
      have HAC := Lib.hid hA
      clear hA hq hq2 hqa
      generalize ba (Lib.trimSpace q) = T at *
      go_wp2_with fail
      refine HX.out.mono ?_
      rintro e w2 ⟨rfl, h2⟩
      have hA2 := HAC.out.keep h2
      have HOWN := Lib.hid (hA2.own.keep ((Below.refl _ w2).alloc (Nat.le_refl _) (.cells #[.string T] 9)))
      have HSR := Lib.hid (src_new elemStrs w2.heap.size [.string T] _ (heap_alloc_new w2 (.cells #[.string T] 9)) rfl (by simp [Value.oneCell']) 1)
      have HA2 := Lib.hid hA2
      clear h2 hA2
      go_wp2_with (at_builtin; refine append_rows elemStrs _ F i 1 _ _ rfl _ _ _ rfl _ rfl HOWN.out _ rfl HSR.out (by omega) (by omega) ?_; intro p5 c5 w5 F5 hown5 hu5)
      go_roundw
      case rel => exact ⟨i + 1, hlt, by go_num, F5, by rw [HW.out]; exact (HA2.out.keep ((Below.refl _ w2).alloc (Nat.le_refl _) _)).next hown5 hu5⟩
      case measure => simp [intOf]; omega
    · obtain rfl : i = ps.length := by omega
      have hst : StrsAt wr (.slice po ps.length co) ((ps.map Lib.trimSpace).map ba) := by
        have h := hA.own
        rw [List.take_length] at h
        have h2 : OwnR wr F 9 1 (.slice po ps.length co) ((ps.map Lib.trimSpace).map ba).length (((ps.map Lib.trimSpace).map ba).map Value.string) := by
          simp only [List.map_map, List.length_map]
          exact h
        exact h2.strs (by simpa using HNE.out)
      have HJN := Lib.hid (join_comma wr _ _ hst (by have := HJ.out; omega) (by simp; omega))
      have HAC := Lib.hid hA
      clear hA hst
      go_wp2_with (go_at_call 37; refine HJN.out.mono ?_; rintro e w3 ⟨rfl, h3⟩)
      go_ret
      have h4 := H1.out.trans (HAC.out.below.mono H1.out.size)
      exact ⟨rfl, h4.trans (h3.mono h4.size)⟩

theorem eqB (a b : ByteArray) : (a.toList == b.toList) = decide (a = b) := by
  rw [Bool.eq_iff_iff, beq_iff_eq, decide_eq_true_eq, ByteArray.toList_eq, ByteArray.toList_eq]
  exact ⟨fun h => Go.WideShapes.bytes_inj h, fun h => by rw [h]⟩
theorem eqL (a : ByteArray) (k : List UInt8) : (a.toList == k) = decide (a.data.toList = k) := by
  rw [Bool.eq_iff_iff, beq_iff_eq, decide_eq_true_eq, ByteArray.toList_eq]

set_option maxRecDepth 100000 in
theorem conflicts (w : World) (a b : ByteArray) (hT : Tab w) (ha : Good a) (hb : Good b) (r : Bool)
    (IH : baseS a = sArray → baseS b = sArray → ∀ w', Tab w' → Calls Tryd.prog 17 #[.string (elemS a), .string (elemS b)] w' fun e w2 => e = .returned (.bool r) ∧ Below w'.heap.size w' w2) :
    Calls Tryd.prog 17 #[.string a, .string b] w fun e w' => e = .returned (.bool (confStep r a b)) ∧ Below w.heap.size w w' := by
  have hE := eqB a b
  have B1 := Lib.hid (fun w => ctBase w a (by have := ha.size; omega) ha.pos)
  have B2 := Lib.hid (fun w => ctBase w b (by have := hb.size; omega) hb.pos)
  have E1 := Lib.hid (fun w => ctElem w a (by have := ha.size; omega) ha.pos)
  have E2 := Lib.hid (fun w => ctElem w b (by have := hb.size; omega) hb.pos)
  have N1 := Lib.hid (fun w hw => norm w a ha.size ha.asc hw)
  have N2 := Lib.hid (fun w hw => norm w b hb.size hb.asc hw)
  have X := fun (s : ByteArray) (hs : Good s) (k : List UInt8) (hk : k ∈ special) => show ((baseS s).toList == k) = false by rw [eqL, decide_eq_false (hs.base k hk)]
  have x1 := X a ha [69, 110, 117, 109, 56] (by decide)
  have x2 := X b hb [69, 110, 117, 109, 56] (by decide)
  have x3 := X a ha [69, 110, 117, 109, 49, 54] (by decide)
  have x4 := X b hb [69, 110, 117, 109, 49, 54] (by decide)
  have x5 := X a ha [68, 101, 99, 105, 109, 97, 108] (by decide)
  have x6 := X b hb [68, 101, 99, 105, 109, 97, 108] (by decide)
  have x7 := X a ha [78, 117, 108, 108, 97, 98, 108, 101] (by decide)
  have x8 := X a ha [76, 111, 119, 67, 97, 114, 100, 105, 110, 97, 108, 105, 116, 121] (by decide)
  have x9 := X a ha [68, 97, 116, 101, 84, 105, 109, 101, 54, 52] (by decide)
  have hBB := eqB (baseS a) (baseS b)
  have hNN := eqB (normS a) (normS b)
  have hAA : ((baseS a).toList == [65, 114, 114, 97, 121]) = decide (baseS a = sArray) := by rw [← eqB, show sArray.toList = [65, 114, 114, 97, 121] from by rw [ByteArray.toList_eq]; rfl]
  have hDD : ((baseS a).toList == [68, 97, 116, 101, 84, 105, 109, 101]) = decide (baseS a = sDateTime) := by rw [← eqB, show sDateTime.toList = [68, 97, 116, 101, 84, 105, 109, 101] from by rw [ByteArray.toList_eq]; rfl]
  have HI := Lib.hid IH
  have HC := Lib.hid (show confStep r a b = if a = b then false else if baseS a ≠ baseS b then true else if normS a = normS b then false else if baseS a = sArray then r else if baseS a = sDateTime then false else true from rfl)
  have HT := Lib.hid hT
  clear X ha hb IH hT
  rw [HC.out]
  clear HC
  generalize baseS a = A at *
  generalize baseS b = B at *
  generalize normS a = NA at *
  generalize normS b = NB at *
  generalize elemS a = EA at *
  generalize elemS b = EB at *
  by_cases h1 : a = b
  · rw [if_pos h1]
    rw [decide_eq_true h1] at hE
    clear h1
    go_enter Tryd.func17, Tryd.ntmps17
    go_wp2_with fail
    go_ret
    exact ⟨rfl, Below.refl _ _⟩
  · rw [if_neg h1]
    rw [decide_eq_false h1] at hE
    by_cases h2 : A = B
    · rw [if_neg (fun e => e h2)]
      rw [decide_eq_true h2] at hBB
      clear h1
      have H2 := Lib.hid h2
      clear h2
      by_cases h3 : NA = NB
      · rw [if_pos h3]
        rw [decide_eq_true h3] at hNN
        clear h3
        go_enter Tryd.func17, Tryd.ntmps17
        go_wp2_with (first | (go_at_call 23; first | (with_reducible refine (B1.out _).mono ?_; rintro e w' ⟨rfl, rfl⟩) | (with_reducible refine (B2.out _).mono ?_; rintro e w' ⟨rfl, rfl⟩) | fail) | fail)
        refine (N1.out _ HT.out).mono ?_
        rintro e w1 ⟨rfl, k1⟩
        have K1 := Lib.hid k1
        clear k1
        go_wp2_with fail
        refine (N2.out _ (HT.out.below K1.out)).mono ?_
        rintro e w2 ⟨rfl, k2⟩
        have K2 := Lib.hid (K1.out.trans (k2.mono K1.out.size))
        clear k2
        go_wp2_with fail
        go_ret
        exact ⟨rfl, K2.out⟩
      · rw [if_neg h3]
        rw [decide_eq_false h3] at hNN
        clear h3
        by_cases h4 : A = sArray
        · rw [if_pos h4]
          rw [decide_eq_true h4] at hAA
          have HII := Lib.hid (HI.out h4 (H2.out.symm.trans h4))
          clear h4 HI hDD
          go_enter Tryd.func17, Tryd.ntmps17
          go_wp2_with (first | (go_at_call 23; first | (with_reducible refine (B1.out _).mono ?_; rintro e w' ⟨rfl, rfl⟩) | (with_reducible refine (B2.out _).mono ?_; rintro e w' ⟨rfl, rfl⟩) | fail) | fail)
          refine (N1.out _ HT.out).mono ?_
          rintro e w1 ⟨rfl, k1⟩
          have K1 := Lib.hid k1
          clear k1
          go_wp2_with fail
          refine (N2.out _ (HT.out.below K1.out)).mono ?_
          rintro e w2 ⟨rfl, k2⟩
          have K2 := Lib.hid (K1.out.trans (k2.mono K1.out.size))
          clear k2
          go_wp2_with (first | (go_at_call 26; first | (with_reducible refine (E1.out _).mono ?_; rintro e w' ⟨rfl, rfl⟩) | (with_reducible refine (E2.out _).mono ?_; rintro e w' ⟨rfl, rfl⟩) | fail) | fail)
          refine (HII.out _ (HT.out.below K2.out)).mono ?_
          rintro e w3 ⟨rfl, k3⟩
          have K3 := Lib.hid (K2.out.trans (k3.mono K2.out.size))
          clear k3
          go_wp2_with fail
          go_ret
          exact ⟨rfl, K3.out⟩
        · rw [if_neg h4]
          rw [decide_eq_false h4] at hAA
          clear h4 HI
          have key : ∀ z : Bool, decide (A = sDateTime) = z → (if A = sDateTime then false else true) = !z := fun z hz => by subst hz; by_cases h : A = sDateTime <;> simp [h]
          obtain ⟨z, hz⟩ : ∃ z, decide (A = sDateTime) = z := ⟨_, rfl⟩
          rw [key z hz]
          rw [hz] at hDD
          clear key hz
          cases z
          all_goals
            go_enter Tryd.func17, Tryd.ntmps17
            go_wp2_with (first | (go_at_call 23; first | (with_reducible refine (B1.out _).mono ?_; rintro e w' ⟨rfl, rfl⟩) | (with_reducible refine (B2.out _).mono ?_; rintro e w' ⟨rfl, rfl⟩) | fail) | fail)
            refine (N1.out _ HT.out).mono ?_
            rintro e w1 ⟨rfl, k1⟩
            have K1 := Lib.hid k1
            clear k1
            go_wp2_with fail
            refine (N2.out _ (HT.out.below K1.out)).mono ?_
            rintro e w2 ⟨rfl, k2⟩
            have K2 := Lib.hid (K1.out.trans (k2.mono K1.out.size))
            clear k2
            go_wp2_with fail
            go_ret
            exact ⟨rfl, K2.out⟩
    · rw [if_pos h2]
      rw [decide_eq_false h2] at hBB
      clear h1 h2
      go_enter Tryd.func17, Tryd.ntmps17
      go_wp2_with (first | (go_at_call 23; first | (with_reducible refine (B1.out _).mono ?_; rintro e w' ⟨rfl, rfl⟩) | (with_reducible refine (B2.out _).mono ?_; rintro e w' ⟨rfl, rfl⟩) | fail) | fail)
      go_ret
      exact ⟨rfl, Below.refl _ _⟩

theorem confW : ∀ (d : Nat), d ≤ 3 → ∀ (w : World) (c1 c2 : List UInt8), Tab w → Calls Tryd.prog 17 #[.string (ctT c1 d), .string (ctT c2 d)] w fun e w' => e = .returned (.bool (conf d (ctT c1 d) (ctT c2 d))) ∧ Below w.heap.size w w'
  | 0, hd, w, c1, c2, hT => conflicts w _ _ hT (ct_shape 0 hd c1).1 (ct_shape 0 hd c2).1 true fun h => by
    rcases (ct_shape 0 hd c1).2 with h2 | ⟨d', code', h3, -⟩
    · exact absurd h h2
    · omega
  | d + 1, hd, w, c1, c2, hT => conflicts w _ _ hT (ct_shape (d + 1) hd c1).1 (ct_shape (d + 1) hd c2).1 (conf d (elemS (ctT c1 (d + 1))) (elemS (ctT c2 (d + 1)))) fun h1 h2 w' hT' => by
    rcases (ct_shape (d + 1) hd c1).2 with g1 | ⟨d1, k1, e1, f1⟩
    · exact absurd h1 g1
    · rcases (ct_shape (d + 1) hd c2).2 with g2 | ⟨d2, k2, e2, f2⟩
      · exact absurd h2 g2
      · obtain rfl : d1 = d := by omega
        obtain rfl : d2 = d1 := by omega
        rw [f1, f2]
        exact confW d2 (by omega) w' k1 k2 hT'

set_option maxRecDepth 100000 in
theorem implConf (w : World) (c1 c2 : List UInt8) (hT : Tab w) (a b : ByteArray) (ha : a = ctT c1 3) (hb : b = ctT c2 3) : Calls Tryd.prog 11 #[.string a, .string b] w fun e w' => e = .returned (.bool (conf 3 a b)) ∧ Below w.heap.size w w' := by
  subst ha hb
  have HF := Lib.hid (confW 3 (by decide) w c1 c2 hT)
  clear hT
  go_enter Tryd.func11, Tryd.ntmps11
  go_wp2_with (go_at_call 17; refine HF.out.mono ?_; rintro e w1 ⟨rfl, h1⟩)
  go_ret
  exact ⟨rfl, h1⟩
theorem apart : conf 3 (⟨#[83, 116, 114, 105, 110, 103]⟩ : ByteArray) (⟨#[73, 110, 116, 54, 52]⟩ : ByteArray) = true := by
  have e1 : (⟨#[83, 116, 114, 105, 110, 103]⟩ : ByteArray) = plainAt 14 := rfl
  have e2 : (⟨#[73, 110, 116, 54, 52]⟩ : ByteArray) = plainAt 3 := rfl
  unfold conf confStep
  rw [e1, e2, (plain_good 14).2.1, (plain_good 3).2.1, if_neg (by decide), if_pos (by decide)]

set_option maxRecDepth 100000 in
theorem conflictsRow (w : World) (v1 v2 : Value) (c1 c2 : List UInt8) (h1 : BytesAt w v1 c1) (h2 : BytesAt w v2 c2) (hT : Tab w) (hl1 : c1.length ≤ 9223372036854775807) (hl2 : c2.length ≤ 9223372036854775807) :
    Calls Tryd.prog 4 #[v1, v2] w fun e w' => e = .returned (.bool true) ∧ Below w.heap.size w w' := by
  obtain ⟨p1, k1, rfl⟩ := h1.slice
  obtain ⟨p2, k2, rfl⟩ := h2.slice
  have H1 := Lib.hid h1
  have H2 := Lib.hid h2
  have HT := Lib.hid hT
  clear h1 h2 hT
  by_cases s1 : 2147483647 < c1.length
  · have s1' : (2147483647 : Int) < (c1.length : Int) := by omega
    go_enter Tryd.func4, Tryd.ntmps4
    go_wp2_with fail
    go_ret
    exact ⟨rfl, Below.refl _ _⟩
  · have s1' : ¬ (2147483647 : Int) < (c1.length : Int) := by omega
    by_cases s2 : 2147483647 < c2.length
    · have s2' : (2147483647 : Int) < (c2.length : Int) := by omega
      go_enter Tryd.func4, Tryd.ntmps4
      go_wp2_with fail
      go_ret
      exact ⟨rfl, Below.refl _ _⟩
    · have s2' : ¬ (2147483647 : Int) < (c2.length : Int) := by omega
      obtain ⟨a, ha⟩ : ∃ a, a = ctT c1 3 := ⟨_, rfl⟩
      obtain ⟨b, hb⟩ : ∃ b, b = ctT c2 3 := ⟨_, rfl⟩
      have HA := Lib.hid (ctType 3 (by decide) w _ c1 H1.out (by omega))
      have HB := Lib.hid (fun w' (hb : Below w.heap.size w w') => ctType 3 (by decide) w' _ c2 (H2.out.below hb) (by omega))
      rw [← ha] at HA
      rw [← hb] at HB
      have Z1 := Lib.hid (fun w' (h : Below w.heap.size w w') => implConf w' c1 c1 (HT.out.below h) a a ha ha)
      have Z2 := Lib.hid (fun w' (h : Below w.heap.size w w') => implConf w' c1 c2 (HT.out.below h) a b ha hb)
      have Z3 := Lib.hid (fun w' (h : Below w.heap.size w w') => implConf w' c2 c1 (HT.out.below h) b a hb ha)
      have Z4 := Lib.hid (fun w' (h : Below w.heap.size w w') => implConf w' [14] [3] (HT.out.below h) ⟨#[83, 116, 114, 105, 110, 103]⟩ ⟨#[73, 110, 116, 54, 52]⟩ rfl rfl)
      rw [conf_self'] at Z1
      rw [conf_symm 3 b a] at Z3
      rw [apart] at Z4
      generalize conf 3 a b = z at *
      clear ha hb
      go_enter Tryd.func4, Tryd.ntmps4
      go_wp2_with fail
      refine HA.out.mono ?_
      rintro e w1 ⟨rfl, b1⟩
      have B1 := Lib.hid b1
      clear b1
      go_wp2_with fail
      refine (HB.out _ B1.out).mono ?_
      rintro e w2 ⟨rfl, b2⟩
      have B2 := Lib.hid (B1.out.trans (b2.mono B1.out.size))
      clear b2
      go_wp2_with fail
      refine (Z1.out _ B2.out).mono ?_
      rintro e w3 ⟨rfl, b3⟩
      have B3 := Lib.hid (B2.out.trans (b3.mono B2.out.size))
      clear b3
      go_wp2_with fail
      refine (Z2.out _ B3.out).mono ?_
      rintro e w4 ⟨rfl, b4⟩
      have B4 := Lib.hid (B3.out.trans (b4.mono B3.out.size))
      clear b4
      go_wp2_with fail
      refine (Z3.out _ B4.out).mono ?_
      rintro e w5 ⟨rfl, b5⟩
      have B5 := Lib.hid (B4.out.trans (b5.mono B4.out.size))
      clear b5
      have hzz : (z == z) = true := by simp
      go_wp2_with fail
      refine (Z4.out _ B5.out).mono ?_
      rintro e w6 ⟨rfl, b6⟩
      have B6 := Lib.hid (B5.out.trans (b6.mono B5.out.size))
      clear b6
      go_wp2_with fail
      go_ret
      exact ⟨rfl, B6.out⟩
end Go.Proofs.YtgnkinhjfcbdbaaDoor
