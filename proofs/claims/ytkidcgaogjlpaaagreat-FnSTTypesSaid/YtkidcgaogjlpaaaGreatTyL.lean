/- impl.STType; FnSTTypes: the walk. -/
import Derived.Test.YtkidcgaogjlpaaaGreatTy
import Derived.Shelf.Strconv.Itoa3
namespace Go.Proofs.YtkidcgaogjlpaaaGreat
open Go.RowKit Go.Shelf
set_option linter.unusedVariables false
set_option linter.unusedSimpArgs false

def lays171_ren : Go.Shelf.Ren := ⟨fun | 171 => 141 | 243 => 142 | 246 => 143 | 283 => 144 | 284 => 145 | 285 => 146 | 286 => 147 | 129 => 149 | 317 => 148 | 318 => 150 | 319 => 151 | 320 => 152 | 337 => 153 | 338 => 154 | n => n, fun | 3 => 3 | 9 => 9 | 2 => 2 | 4 => 4 | 171 => 235 | 0 => 0 | 53 => 68 | 37 => 34 | 5 => 5 | 173 => 238 | 212 => 242 | 51 => 204 | 20 => 20 | 213 => 243 | 46 => 63 | 232 => 130 | 233 => 140 | n => n, fun | 17 => 1 | 18 => 2 | 19 => 3 | n => n⟩
theorem lays171 : Go.Proofs.Lays.n171 Tryz.prog lays171_ren := {
  mixed := by kernel_rfl
  f129 := Tryz.func149.trans (congrArg some (by kernel_rfl))
  f171 := Tryz.func141.trans (congrArg some (by kernel_rfl))
  f243 := Tryz.func142.trans (congrArg some (by kernel_rfl))
  f246 := Tryz.func143.trans (congrArg some (by kernel_rfl))
  f283 := Tryz.func144.trans (congrArg some (by kernel_rfl))
  f284 := Tryz.func145.trans (congrArg some (by kernel_rfl))
  f285 := Tryz.func146.trans (congrArg some (by kernel_rfl))
  f286 := Tryz.func147.trans (congrArg some (by kernel_rfl))
  f317 := Tryz.func148.trans (congrArg some (by kernel_rfl))
  f318 := Tryz.func150.trans (congrArg some (by kernel_rfl))
  f319 := Tryz.func151.trans (congrArg some (by kernel_rfl))
  f320 := Tryz.func152.trans (congrArg some (by kernel_rfl))
  f337 := Tryz.func153.trans (congrArg some (by kernel_rfl))
  f338 := Tryz.func154.trans (congrArg some (by kernel_rfl))
  t0 := Tryz.underlying0
  a0 := Tryz.isAgg0
  z0 := Tryz.sizeOf0
  v0 := Tryz.zeroValue0
  t2 := Tryz.underlying2
  a2 := Tryz.isAgg2
  z2 := Tryz.sizeOf2
  v2 := Tryz.zeroValue2
  t3 := Tryz.underlying3
  a3 := Tryz.isAgg3
  z3 := Tryz.sizeOf3
  v3 := Tryz.zeroValue3
  t4 := Tryz.underlying4
  a4 := Tryz.isAgg4
  z4 := Tryz.sizeOf4
  v4 := Tryz.zeroValue4
  t5 := Tryz.underlying5
  a5 := Tryz.isAgg5
  z5 := Tryz.sizeOf5
  v5 := Tryz.zeroValue5
  t9 := Tryz.underlying9
  a9 := Tryz.isAgg9
  z9 := Tryz.sizeOf9
  v9 := Tryz.zeroValue9
  t20 := Tryz.underlying20
  a20 := Tryz.isAgg20
  z20 := Tryz.sizeOf20
  v20 := Tryz.zeroValue20
  t37 := Tryz.underlying34
  a37 := Tryz.isAgg34
  z37 := Tryz.sizeOf34
  v37 := Tryz.zeroValue34
  t46 := Tryz.underlying63
  a46 := Tryz.isAgg63
  z46 := Tryz.sizeOf63
  v46 := Tryz.zeroValue63
  t51 := Tryz.underlying204
  a51 := Tryz.isAgg204
  z51 := Tryz.sizeOf204
  v51 := Tryz.zeroValue204
  t53 := Tryz.underlying68
  a53 := Tryz.isAgg68
  z53 := Tryz.sizeOf68
  v53 := Tryz.zeroValue68
  t171 := Tryz.underlying235
  a171 := Tryz.isAgg235
  z171 := Tryz.sizeOf235
  v171 := Tryz.zeroValue235
  t173 := Tryz.underlying238
  a173 := Tryz.isAgg238
  z173 := Tryz.sizeOf238
  v173 := Tryz.zeroValue238
  t212 := Tryz.underlying242
  a212 := Tryz.isAgg242
  z212 := Tryz.sizeOf242
  v212 := Tryz.zeroValue242
  t213 := Tryz.underlying243
  a213 := Tryz.isAgg243
  z213 := Tryz.sizeOf243
  t232 := Tryz.underlying130
  a232 := Tryz.isAgg130
  z232 := Tryz.sizeOf130
  v232 := Tryz.zeroValue130
  t233 := Tryz.underlying140
  a233 := Tryz.isAgg140
  z233 := Tryz.sizeOf140
  v233 := Tryz.zeroValue140
  g17 := by kernel_rfl
  g18 := by kernel_rfl
  g19 := by kernel_rfl }
theorem itoa (w : World) (n : Nat) (h : n < 100) : Calls Tryz.prog 141 #[.int .i64 n] w fun e w' => e = .returned (.string (decS n)) ∧ w = w' :=
  (Any.strconv_Itoa_small lays171 n h w).mono fun e w' h => ⟨h.1, h.2.symm⟩

def sFixed : ByteArray := ⟨#[70, 105, 120, 101, 100, 83, 116, 114, 105, 110, 103]⟩

theorem strs_one (w : World) (s : ByteArray) : StrsAt (w.alloc (.cells #[.string s] 9)) (.slice (some ⟨w.heap.size, 0, none⟩) 1 1) [s] := by
  simpa using strs_new w [s] 9

theorem fixed (w : World) (d : ByteArray) (hd : d.size ≤ 1000) : Calls Tryz.prog 27 #[.string sFixed, .slice (some ⟨w.heap.size, 0, none⟩) 1 1] (w.alloc (.cells #[.string d] 9)) fun e w' => e = .returned (.string (ofS sFixed [d])) ∧ Below w.heap.size w w' :=
  (ctWith _ sFixed _ [d] (strs_one w d) (by simp) (by simp only [sumS]; have : sFixed.size = 11 := rfl; omega) (by simp)).mono fun e w' h => ⟨h.1, ((Below.refl _ w).alloc (Nat.le_refl _) _).trans (h.2.mono (by simp))⟩

set_option maxRecDepth 100000 in
theorem typeStr (w : World) (v u : Value) : Calls Tryz.prog 87 #[.agg #[v, u]] w fun e w' => e = .returned (.string ⟨#[83, 116, 114, 105, 110, 103]⟩) ∧ Below w.heap.size w w' := by
  go_enter Tryz.func87, Tryz.ntmps87
  go_wp2
  go_ret
  exact ⟨rfl, (Below.refl _ w).alloc (Nat.le_refl _) _⟩
set_option maxRecDepth 100000 in
theorem typeJSON (w : World) (v u : Value) : Calls Tryz.prog 123 #[.agg #[v, u]] w fun e w' => e = .returned (.string ⟨#[74, 83, 79, 78]⟩) ∧ Below w.heap.size w w' := by
  go_enter Tryz.func123, Tryz.ntmps123
  go_wp2
  go_ret
  exact ⟨rfl, (Below.refl _ w).alloc (Nat.le_refl _) _⟩
set_option maxRecDepth 100000 in
theorem typeFixed (w : World) (s : Nat) (h : s < 100) : Calls Tryz.prog 139 #[.agg #[.slice none 0 0, .int .i64 s]] w fun e w' => e = .returned (.string (ofS sFixed [decS s])) ∧ Below w.heap.size w w' := by
  have hd : (decS s).size ≤ 1000 := by have := decS_size s; omega
  have HI := Lib.hid (fun w => itoa w s h)
  obtain ⟨d, hdd⟩ : ∃ d, d = decS s := ⟨_, rfl⟩
  rw [← hdd] at HI hd ⊢
  have hF := fixed (w.alloc (.cells #[.slice none 0 0, .int .i64 s] 106)) d hd
  simp only [World.size_alloc] at hF
  have HF := Lib.hid hF
  clear hdd hF
  go_enter Tryz.func139, Tryz.ntmps139
  go_wp2_with (first | (go_at_call 141; refine (HI.out _).mono ?_; rintro e w' ⟨rfl, rfl⟩) | (go_at_call 27; refine HF.out.mono ?_; rintro e w' ⟨rfl, hb⟩))
  go_ret
  exact ⟨rfl, ((Below.refl _ w).alloc (Nat.le_refl _) _).trans (hb.mono (by simp))⟩
set_option maxRecDepth 100000 in
theorem typeFixed8 (w : World) : Calls Tryz.prog 162 #[.slice none 0 0] w fun e w' => e = .returned (.string (ofS sFixed [⟨#[56]⟩])) ∧ Below w.heap.size w w' := by
  have HF := Lib.hid (fun w => fixed w ⟨#[56]⟩ (by decide))
  go_enter Tryz.func162, Tryz.ntmps162
  go_wp2_with (go_at_call 27; refine (HF.out _).mono ?_; rintro e w' ⟨rfl, hb⟩)
  go_ret
  exact ⟨rfl, hb⟩
set_option maxRecDepth 100000 in
theorem typeFixed16 (w : World) : Calls Tryz.prog 176 #[.slice none 0 0] w fun e w' => e = .returned (.string (ofS sFixed [⟨#[49, 54]⟩])) ∧ Below w.heap.size w w' := by
  have HF := Lib.hid (fun w => fixed w ⟨#[49, 54]⟩ (by decide))
  go_enter Tryz.func176, Tryz.ntmps176
  go_wp2_with (go_at_call 27; refine (HF.out _).mono ?_; rintro e w' ⟨rfl, hb⟩)
  go_ret
  exact ⟨rfl, hb⟩
set_option maxRecDepth 100000 in
theorem typeFixed32 (w : World) : Calls Tryz.prog 189 #[.slice none 0 0] w fun e w' => e = .returned (.string (ofS sFixed [⟨#[51, 50]⟩])) ∧ Below w.heap.size w w' := by
  have HF := Lib.hid (fun w => fixed w ⟨#[51, 50]⟩ (by decide))
  go_enter Tryz.func189, Tryz.ntmps189
  go_wp2_with (go_at_call 27; refine (HF.out _).mono ?_; rintro e w' ⟨rfl, hb⟩)
  go_ret
  exact ⟨rfl, hb⟩
set_option maxRecDepth 100000 in
theorem typeFixed64 (w : World) : Calls Tryz.prog 202 #[.slice none 0 0] w fun e w' => e = .returned (.string (ofS sFixed [⟨#[54, 52]⟩])) ∧ Below w.heap.size w w' := by
  have HF := Lib.hid (fun w => fixed w ⟨#[54, 52]⟩ (by decide))
  go_enter Tryz.func202, Tryz.ntmps202
  go_wp2_with (go_at_call 27; refine (HF.out _).mono ?_; rintro e w' ⟨rfl, hb⟩)
  go_ret
  exact ⟨rfl, hb⟩
set_option maxRecDepth 100000 in
theorem typeFixed128 (w : World) : Calls Tryz.prog 215 #[.slice none 0 0] w fun e w' => e = .returned (.string (ofS sFixed [⟨#[49, 50, 56]⟩])) ∧ Below w.heap.size w w' := by
  have HF := Lib.hid (fun w => fixed w ⟨#[49, 50, 56]⟩ (by decide))
  go_enter Tryz.func215, Tryz.ntmps215
  go_wp2_with (go_at_call 27; refine (HF.out _).mono ?_; rintro e w' ⟨rfl, hb⟩)
  go_ret
  exact ⟨rfl, hb⟩
set_option maxRecDepth 100000 in
theorem typeFixed256 (w : World) : Calls Tryz.prog 228 #[.slice none 0 0] w fun e w' => e = .returned (.string (ofS sFixed [⟨#[50, 53, 54]⟩])) ∧ Below w.heap.size w w' := by
  have HF := Lib.hid (fun w => fixed w ⟨#[50, 53, 54]⟩ (by decide))
  go_enter Tryz.func228, Tryz.ntmps228
  go_wp2_with (go_at_call 27; refine (HF.out _).mono ?_; rintro e w' ⟨rfl, hb⟩)
  go_ret
  exact ⟨rfl, hb⟩
set_option maxRecDepth 100000 in
theorem typeFixed512 (w : World) : Calls Tryz.prog 241 #[.slice none 0 0] w fun e w' => e = .returned (.string (ofS sFixed [⟨#[53, 49, 50]⟩])) ∧ Below w.heap.size w w' := by
  have HF := Lib.hid (fun w => fixed w ⟨#[53, 49, 50]⟩ (by decide))
  go_enter Tryz.func241, Tryz.ntmps241
  go_wp2_with (go_at_call 27; refine (HF.out _).mono ?_; rintro e w' ⟨rfl, hb⟩)
  go_ret
  exact ⟨rfl, hb⟩
set_option maxRecDepth 100000 in
theorem stType0 (w : World) (s : Nat) : Calls Tryz.prog 11 #[.agg #[.int .i64 0, .int .i64 s]] w fun e w' => e = .returned (.string ⟨#[83, 116, 114, 105, 110, 103]⟩) ∧ Below w.heap.size w w' := by
  have HC := Lib.hid (fun w => column0 w s)
  have HM := typ0 (w.alloc (.cells #[.int .i64 0, .int .i64 s] 23)) s
  have HB : Hid (Below w.heap.size w (colW0 (w.alloc (.cells #[.int .i64 0, .int .i64 s] 23)) s)) := Lib.hid ((((Below.refl _ w).alloc (Nat.le_refl _) _).alloc (by simp) _).alloc (by simp; omega) _)
  go_enter Tryz.func11, Tryz.ntmps11
  go_wp2_with (first | (go_at_call 26; refine (HC.out _).mono ?_; rintro e w' ⟨rfl, rfl⟩) | (go_at_call 87; refine (typeStr _ _ _).mono ?_; rintro e w1 ⟨rfl, hb⟩))
  go_ret
  exact ⟨rfl, HB.out.trans (hb.mono HB.out.size)⟩
set_option maxRecDepth 100000 in
theorem stType1 (w : World) (s : Nat) : Calls Tryz.prog 11 #[.agg #[.int .i64 1, .int .i64 s]] w fun e w' => e = .returned (.string ⟨#[83, 116, 114, 105, 110, 103]⟩) ∧ Below w.heap.size w w' := by
  have HC := Lib.hid (fun w => column1 w s)
  have HM := typ1 (w.alloc (.cells #[.int .i64 1, .int .i64 s] 23)) s
  have HB : Hid (Below w.heap.size w (colW1 (w.alloc (.cells #[.int .i64 1, .int .i64 s] 23)) s)) := Lib.hid ((((Below.refl _ w).alloc (Nat.le_refl _) _).alloc (by simp) _).alloc (by simp; omega) _)
  go_enter Tryz.func11, Tryz.ntmps11
  go_wp2_with (first | (go_at_call 26; refine (HC.out _).mono ?_; rintro e w' ⟨rfl, rfl⟩) | (go_at_call 87; refine (typeStr _ _ _).mono ?_; rintro e w1 ⟨rfl, hb⟩))
  go_ret
  exact ⟨rfl, HB.out.trans (hb.mono HB.out.size)⟩
set_option maxRecDepth 100000 in
theorem stType2 (w : World) (s : Nat) : Calls Tryz.prog 11 #[.agg #[.int .i64 2, .int .i64 s]] w fun e w' => e = .returned (.string ⟨#[74, 83, 79, 78]⟩) ∧ Below w.heap.size w w' := by
  have HC := Lib.hid (fun w => column2 w s)
  have HM := typ2 (w.alloc (.cells #[.int .i64 2, .int .i64 s] 23)) s
  have HB : Hid (Below w.heap.size w (colW2 (w.alloc (.cells #[.int .i64 2, .int .i64 s] 23)) s)) := Lib.hid ((((Below.refl _ w).alloc (Nat.le_refl _) _).alloc (by simp) _).alloc (by simp; omega) _)
  go_enter Tryz.func11, Tryz.ntmps11
  go_wp2_with (first | (go_at_call 26; refine (HC.out _).mono ?_; rintro e w' ⟨rfl, rfl⟩) | (go_at_call 123; refine (typeJSON _ _ _).mono ?_; rintro e w1 ⟨rfl, hb⟩))
  go_ret
  exact ⟨rfl, HB.out.trans (hb.mono HB.out.size)⟩
set_option maxRecDepth 100000 in
theorem stType3 (w : World) (s : Nat) : Calls Tryz.prog 11 #[.agg #[.int .i64 3, .int .i64 s]] w fun e w' => e = .returned (.string ⟨#[74, 83, 79, 78]⟩) ∧ Below w.heap.size w w' := by
  have HC := Lib.hid (fun w => column3 w s)
  have HM := typ3 (w.alloc (.cells #[.int .i64 3, .int .i64 s] 23)) s
  have HB : Hid (Below w.heap.size w (colW3 (w.alloc (.cells #[.int .i64 3, .int .i64 s] 23)) s)) := Lib.hid ((((Below.refl _ w).alloc (Nat.le_refl _) _).alloc (by simp) _).alloc (by simp; omega) _)
  go_enter Tryz.func11, Tryz.ntmps11
  go_wp2_with (first | (go_at_call 26; refine (HC.out _).mono ?_; rintro e w' ⟨rfl, rfl⟩) | (go_at_call 123; refine (typeJSON _ _ _).mono ?_; rintro e w1 ⟨rfl, hb⟩))
  go_ret
  exact ⟨rfl, HB.out.trans (hb.mono HB.out.size)⟩
set_option maxRecDepth 100000 in
theorem stType4 (w : World) (s : Nat) (hs : s < 100) : Calls Tryz.prog 11 #[.agg #[.int .i64 4, .int .i64 s]] w fun e w' => e = .returned (.string (ofS sFixed [decS s])) ∧ Below w.heap.size w w' := by
  have HC := Lib.hid (fun w => column4 w s)
  have HT := Lib.hid (fun w => typeFixed w s hs)
  generalize ofS sFixed [decS s] = R at *
  clear hs
  have HM := typ4 (w.alloc (.cells #[.int .i64 4, .int .i64 s] 23)) s
  have HB : Hid (Below w.heap.size w (colW4 (w.alloc (.cells #[.int .i64 4, .int .i64 s] 23)) s)) := Lib.hid ((((Below.refl _ w).alloc (Nat.le_refl _) _).alloc (by simp) _).alloc (by simp; omega) _)
  go_enter Tryz.func11, Tryz.ntmps11
  go_wp2_with (first | (go_at_call 26; refine (HC.out _).mono ?_; rintro e w' ⟨rfl, rfl⟩) | (go_at_call 139; refine (HT.out _).mono ?_; rintro e w1 ⟨rfl, hb⟩))
  go_ret
  exact ⟨rfl, HB.out.trans (hb.mono HB.out.size)⟩
set_option maxRecDepth 100000 in
theorem stType5 (w : World) (s : Nat) : Calls Tryz.prog 11 #[.agg #[.int .i64 5, .int .i64 s]] w fun e w' => e = .returned (.string (ofS sFixed [⟨#[56]⟩])) ∧ Below w.heap.size w w' := by
  have HC := Lib.hid (fun w => column5 w s)
  have HM := typ5 (w.alloc (.cells #[.int .i64 5, .int .i64 s] 23)) s
  have HB : Hid (Below w.heap.size w (colW5 (w.alloc (.cells #[.int .i64 5, .int .i64 s] 23)) s)) := Lib.hid ((((Below.refl _ w).alloc (Nat.le_refl _) _).alloc (by simp) _).alloc (by simp; omega) _)
  go_enter Tryz.func11, Tryz.ntmps11
  go_wp2_with (first | (go_at_call 26; refine (HC.out _).mono ?_; rintro e w' ⟨rfl, rfl⟩) | (go_at_call 162; refine (typeFixed8 _).mono ?_; rintro e w1 ⟨rfl, hb⟩))
  go_ret
  exact ⟨rfl, HB.out.trans (hb.mono HB.out.size)⟩
set_option maxRecDepth 100000 in
theorem stType6 (w : World) (s : Nat) : Calls Tryz.prog 11 #[.agg #[.int .i64 6, .int .i64 s]] w fun e w' => e = .returned (.string (ofS sFixed [⟨#[49, 54]⟩])) ∧ Below w.heap.size w w' := by
  have HC := Lib.hid (fun w => column6 w s)
  have HM := typ6 (w.alloc (.cells #[.int .i64 6, .int .i64 s] 23)) s
  have HB : Hid (Below w.heap.size w (colW6 (w.alloc (.cells #[.int .i64 6, .int .i64 s] 23)) s)) := Lib.hid ((((Below.refl _ w).alloc (Nat.le_refl _) _).alloc (by simp) _).alloc (by simp; omega) _)
  go_enter Tryz.func11, Tryz.ntmps11
  go_wp2_with (first | (go_at_call 26; refine (HC.out _).mono ?_; rintro e w' ⟨rfl, rfl⟩) | (go_at_call 176; refine (typeFixed16 _).mono ?_; rintro e w1 ⟨rfl, hb⟩))
  go_ret
  exact ⟨rfl, HB.out.trans (hb.mono HB.out.size)⟩
set_option maxRecDepth 100000 in
theorem stType7 (w : World) (s : Nat) : Calls Tryz.prog 11 #[.agg #[.int .i64 7, .int .i64 s]] w fun e w' => e = .returned (.string (ofS sFixed [⟨#[51, 50]⟩])) ∧ Below w.heap.size w w' := by
  have HC := Lib.hid (fun w => column7 w s)
  have HM := typ7 (w.alloc (.cells #[.int .i64 7, .int .i64 s] 23)) s
  have HB : Hid (Below w.heap.size w (colW7 (w.alloc (.cells #[.int .i64 7, .int .i64 s] 23)) s)) := Lib.hid ((((Below.refl _ w).alloc (Nat.le_refl _) _).alloc (by simp) _).alloc (by simp; omega) _)
  go_enter Tryz.func11, Tryz.ntmps11
  go_wp2_with (first | (go_at_call 26; refine (HC.out _).mono ?_; rintro e w' ⟨rfl, rfl⟩) | (go_at_call 189; refine (typeFixed32 _).mono ?_; rintro e w1 ⟨rfl, hb⟩))
  go_ret
  exact ⟨rfl, HB.out.trans (hb.mono HB.out.size)⟩
set_option maxRecDepth 100000 in
theorem stType8 (w : World) (s : Nat) : Calls Tryz.prog 11 #[.agg #[.int .i64 8, .int .i64 s]] w fun e w' => e = .returned (.string (ofS sFixed [⟨#[54, 52]⟩])) ∧ Below w.heap.size w w' := by
  have HC := Lib.hid (fun w => column8 w s)
  have HM := typ8 (w.alloc (.cells #[.int .i64 8, .int .i64 s] 23)) s
  have HB : Hid (Below w.heap.size w (colW8 (w.alloc (.cells #[.int .i64 8, .int .i64 s] 23)) s)) := Lib.hid ((((Below.refl _ w).alloc (Nat.le_refl _) _).alloc (by simp) _).alloc (by simp; omega) _)
  go_enter Tryz.func11, Tryz.ntmps11
  go_wp2_with (first | (go_at_call 26; refine (HC.out _).mono ?_; rintro e w' ⟨rfl, rfl⟩) | (go_at_call 202; refine (typeFixed64 _).mono ?_; rintro e w1 ⟨rfl, hb⟩))
  go_ret
  exact ⟨rfl, HB.out.trans (hb.mono HB.out.size)⟩
set_option maxRecDepth 100000 in
theorem stType9 (w : World) (s : Nat) : Calls Tryz.prog 11 #[.agg #[.int .i64 9, .int .i64 s]] w fun e w' => e = .returned (.string (ofS sFixed [⟨#[49, 50, 56]⟩])) ∧ Below w.heap.size w w' := by
  have HC := Lib.hid (fun w => column9 w s)
  have HM := typ9 (w.alloc (.cells #[.int .i64 9, .int .i64 s] 23)) s
  have HB : Hid (Below w.heap.size w (colW9 (w.alloc (.cells #[.int .i64 9, .int .i64 s] 23)) s)) := Lib.hid ((((Below.refl _ w).alloc (Nat.le_refl _) _).alloc (by simp) _).alloc (by simp; omega) _)
  go_enter Tryz.func11, Tryz.ntmps11
  go_wp2_with (first | (go_at_call 26; refine (HC.out _).mono ?_; rintro e w' ⟨rfl, rfl⟩) | (go_at_call 215; refine (typeFixed128 _).mono ?_; rintro e w1 ⟨rfl, hb⟩))
  go_ret
  exact ⟨rfl, HB.out.trans (hb.mono HB.out.size)⟩
set_option maxRecDepth 100000 in
theorem stType10 (w : World) (s : Nat) : Calls Tryz.prog 11 #[.agg #[.int .i64 10, .int .i64 s]] w fun e w' => e = .returned (.string (ofS sFixed [⟨#[50, 53, 54]⟩])) ∧ Below w.heap.size w w' := by
  have HC := Lib.hid (fun w => column10 w s)
  have HM := typ10 (w.alloc (.cells #[.int .i64 10, .int .i64 s] 23)) s
  have HB : Hid (Below w.heap.size w (colW10 (w.alloc (.cells #[.int .i64 10, .int .i64 s] 23)) s)) := Lib.hid ((((Below.refl _ w).alloc (Nat.le_refl _) _).alloc (by simp) _).alloc (by simp; omega) _)
  go_enter Tryz.func11, Tryz.ntmps11
  go_wp2_with (first | (go_at_call 26; refine (HC.out _).mono ?_; rintro e w' ⟨rfl, rfl⟩) | (go_at_call 228; refine (typeFixed256 _).mono ?_; rintro e w1 ⟨rfl, hb⟩))
  go_ret
  exact ⟨rfl, HB.out.trans (hb.mono HB.out.size)⟩
set_option maxRecDepth 100000 in
theorem stType11 (w : World) (s : Nat) : Calls Tryz.prog 11 #[.agg #[.int .i64 11, .int .i64 s]] w fun e w' => e = .returned (.string (ofS sFixed [⟨#[53, 49, 50]⟩])) ∧ Below w.heap.size w w' := by
  have HC := Lib.hid (fun w => column11 w s)
  have HM := typ11 (w.alloc (.cells #[.int .i64 11, .int .i64 s] 23)) s
  have HB : Hid (Below w.heap.size w (colW11 (w.alloc (.cells #[.int .i64 11, .int .i64 s] 23)) s)) := Lib.hid ((((Below.refl _ w).alloc (Nat.le_refl _) _).alloc (by simp) _).alloc (by simp; omega) _)
  go_enter Tryz.func11, Tryz.ntmps11
  go_wp2_with (first | (go_at_call 26; refine (HC.out _).mono ?_; rintro e w' ⟨rfl, rfl⟩) | (go_at_call 241; refine (typeFixed512 _).mono ?_; rintro e w1 ⟨rfl, hb⟩))
  go_ret
  exact ⟨rfl, HB.out.trans (hb.mono HB.out.size)⟩
end Go.Proofs.YtkidcgaogjlpaaaGreat
