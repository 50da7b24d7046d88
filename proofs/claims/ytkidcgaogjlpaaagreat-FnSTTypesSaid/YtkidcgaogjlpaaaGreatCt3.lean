/- Elements and bases of types; arrays of types. -/
import Derived.Test.YtkidcgaogjlpaaaGreatCt2
import Derived.WalkSpells
import Derived.Shelf.Strings.OnBuilder
import Derived.Lib.Bytealg
namespace Go.Proofs.YtkidcgaogjlpaaaGreat
open Go.RowKit Go.Shelf
set_option linter.unusedVariables false
set_option linter.unusedSimpArgs false
set_option linter.unnecessarySimpa false

/-- What stands between the first opening parenthesis and the last closing one. -/
def elemS (s : ByteArray) : ByteArray :=
  if idxB s.data.toList 40 ≤ 0 ∨ lastB s.data.toList 41 ≤ 0 ∨ lastB s.data.toList 41 < idxB s.data.toList 40 then ⟨#[]⟩
  else s.extract ((idxB s.data.toList 40).toNat + 1) (lastB s.data.toList 41).toNat
def baseS (s : ByteArray) : ByteArray :=
  if idxB s.data.toList 40 ≤ 0 ∨ lastB s.data.toList 41 ≤ 0 ∨ lastB s.data.toList 41 < idxB s.data.toList 40 then s
  else s.extract 0 (idxB s.data.toList 40).toNat

theorem idxB_lt (l : List UInt8) (c : Nat) : idxB l c < l.length := by
  unfold idxB; split <;> omega
theorem lastB_lt (l : List UInt8) (c : Nat) : lastB l c < l.length := by
  unfold lastB; split <;> omega
theorem idxB_spec {l : List UInt8} {c a : Nat} (h : idxB l c = a) : ∃ hl : a < l.length, l[a].toNat = c := by
  unfold idxB at h
  split at h
  · rename_i hl
    obtain rfl : l.findIdx (fun x => x.toNat == c) = a := by omega
    exact ⟨hl, by simpa using List.findIdx_getElem (w := hl)⟩
  · omega
theorem lastB_spec {l : List UInt8} {c a : Nat} (h : lastB l c = a) : ∃ hl : a < l.length, l[a].toNat = c := by
  unfold lastB at h
  split at h
  · rename_i hl
    have hl2 : l.reverse.findIdx (fun x => x.toNat == c) < l.reverse.length := by simpa using hl
    have h2 := List.findIdx_getElem (w := hl2)
    rw [List.getElem_reverse] at h2
    refine ⟨by omega, ?_⟩
    have e : l.length - 1 - l.reverse.findIdx (fun x => x.toNat == c) = a := by omega
    simp only [e] at h2
    simpa using h2
  · omega
theorem idx_ne_last (l : List UInt8) (a b : Nat) (h : idxB l 40 = a) (h2 : lastB l 41 = b) : a ≠ b := by
  rintro rfl
  obtain ⟨_, h3⟩ := idxB_spec h
  obtain ⟨_, h4⟩ := lastB_spec h2
  omega
theorem toList_ne {s : ByteArray} (h : 0 < s.size) : s.toList.isEmpty = false := by
  have : s.toList.length = s.size := by rw [ByteArray.toList_eq]; simp
  cases hx : s.toList with
  | nil => rw [hx] at this; simp at this; omega
  | cons a l => rfl

theorem ctBase_none (w : World) (s : ByteArray) (h : idxB s.data.toList 40 ≤ 0) : baseS s = s := by unfold baseS; rw [if_pos (.inl h)]

def lays156_ren : Go.Shelf.Ren := ⟨fun | 156 => 55 | 165 => 59 | 166 => 60 | 169 => 61 | 240 => 62 | 241 => 63 | 276 => 64 | 277 => 65 | n => n, fun | 31 => 29 | 9 => 9 | 3 => 3 | 4 => 4 | 0 => 0 | 20 => 20 | 72 => 191 | 76 => 193 | 70 => 189 | 37 => 34 | 75 => 74 | 127 => 196 | 164 => 197 | 5 => 5 | 80 => 195 | n => n, fun | n => n⟩
theorem lays156 : Go.Proofs.Lays.n156 Tryz.prog lays156_ren := {
  mixed := by kernel_rfl
  f156 := Tryz.func55.trans (congrArg some (by kernel_rfl))
  f165 := Tryz.func59.trans (congrArg some (by kernel_rfl))
  f166 := Tryz.func60.trans (congrArg some (by kernel_rfl))
  f169 := Tryz.func61.trans (congrArg some (by kernel_rfl))
  f240 := Tryz.func62.trans (congrArg some (by kernel_rfl))
  f241 := Tryz.func63.trans (congrArg some (by kernel_rfl))
  f276 := Tryz.func64.trans (congrArg some (by kernel_rfl))
  f277 := Tryz.func65.trans (congrArg some (by kernel_rfl))
  t0 := Tryz.underlying0
  a0 := Tryz.isAgg0
  z0 := Tryz.sizeOf0
  v0 := Tryz.zeroValue0
  t3 := Tryz.underlying3
  a3 := Tryz.isAgg3
  z3 := Tryz.sizeOf3
  v3 := Tryz.zeroValue3
  t4 := Tryz.underlying4
  a4 := Tryz.isAgg4
  z4 := Tryz.sizeOf4
  v4 := Tryz.zeroValue4
  t9 := Tryz.underlying9
  a9 := Tryz.isAgg9
  z9 := Tryz.sizeOf9
  v9 := Tryz.zeroValue9
  t20 := Tryz.underlying20
  a20 := Tryz.isAgg20
  z20 := Tryz.sizeOf20
  v20 := Tryz.zeroValue20
  t31 := Tryz.underlying29
  a31 := Tryz.isAgg29
  z31 := Tryz.sizeOf29
  v31 := Tryz.zeroValue29
  t37 := Tryz.underlying34
  a37 := Tryz.isAgg34
  z37 := Tryz.sizeOf34
  v37 := Tryz.zeroValue34
  t70 := Tryz.underlying189
  a70 := Tryz.isAgg189
  z70 := Tryz.sizeOf189
  v70 := Tryz.zeroValue189
  t72 := Tryz.underlying191
  a72 := Tryz.isAgg191
  z72 := Tryz.sizeOf191
  v72 := Tryz.zeroValue191
  t75 := Tryz.underlying74
  a75 := Tryz.isAgg74
  z75 := Tryz.sizeOf74
  v75 := Tryz.zeroValue74
  t76 := Tryz.underlying193
  a76 := Tryz.isAgg193
  z76 := Tryz.sizeOf193
  v76 := Tryz.zeroValue193
  t127 := Tryz.underlying196
  a127 := Tryz.isAgg196
  z127 := Tryz.sizeOf196
  v127 := Tryz.zeroValue196
  t164 := Tryz.underlying197
  a164 := Tryz.isAgg197
  z164 := Tryz.sizeOf197
  v164 := Tryz.zeroValue197 }
theorem extra156 : Builder.Extra Tryz.prog lays156_ren := {
  sizeBuilder := by kernel_rfl
  liesBuilder := by kernel_rfl
  t5 := Tryz.underlying5
  a5 := Tryz.isAgg5
  z5 := Tryz.sizeOf5
  v5 := Tryz.zeroValue5
  infoByte := by kernel_rfl
  cellsByte := by kernel_rfl
  sizeByte := by kernel_rfl
  neB5 := by decide }

def joinB (ps : List ByteArray) : ByteArray := ⟨(Lib.join (ps.map (·.data.toList)) [44, 32]).toArray⟩

theorem joinTail_snoc (sep : List UInt8) (a : List (List UInt8)) (y : List UInt8) : Lib.joinTail sep (a ++ [y]) = Lib.joinTail sep a ++ (sep ++ y) := by simp [Lib.joinTail]
theorem ofAcc_list (t x : ByteArray) (r : List ByteArray) : ∀ k, k ≤ r.length → (ofAcc t (x :: r) (k + 1)).data.toList = t.data.toList ++ [40] ++ x.data.toList ++ Lib.joinTail [44, 32] ((r.take k).map (·.data.toList))
  | 0, _ => by simp [ofAcc, Lib.joinTail, sOpen, ByteArray.data_append]
  | k + 1, h => by
    have ih := ofAcc_list t x r k (by omega)
    unfold ofAcc
    rw [if_neg (by omega), ByteArray.data_append, ByteArray.data_append]
    simp only [Array.toList_append]
    rw [ih, List.getD_cons_succ, List.getD_eq_getElem?_getD, List.getElem?_eq_getElem (show k < r.length by omega), List.take_succ_eq_append_getElem (by omega)]
    rw [List.map_append, List.map_cons, List.map_nil, joinTail_snoc]
    simp [sComma]
theorem ofS_join (t : ByteArray) (ps : List ByteArray) (h : ps ≠ []) : ofS t ps = t ++ (((⟨#[40]⟩ : ByteArray) ++ joinB ps) ++ (⟨#[41]⟩ : ByteArray)) := by
  cases ps with
  | nil => exact absurd rfl h
  | cons x r =>
    refine Go.WideShapes.bytes_inj ?_
    unfold ofS
    rw [ByteArray.data_append]
    simp only [Array.toList_append, List.length_cons]
    rw [ofAcc_list t x r r.length (Nat.le_refl _), List.take_length]
    simp [joinB, Lib.join_cons, sShut, ByteArray.data_append]

theorem join_any (w : World) (v : Value) (ps : List ByteArray) (h : StrsAt w v ps) (hl : (joinB ps).size ≤ 140737488355328) (hn : ps.length ≤ 140737488355328) :
    Calls Tryz.prog 55 #[v, .string ⟨#[44, 32]⟩] w fun e w' => e = .returned (.string (joinB ps)) ∧ Below w.heap.size w w' := by
  obtain ⟨b, off, cap, rfl, hc, hlt, hx⟩ := h
  exact Any.strings_Join lays156 extra156 b off cap ps ⟨#[44, 32]⟩ w hx hlt hn hc (by simpa [joinB, ByteArray.size] using hl)

theorem ctWith (w : World) (t : ByteArray) (v : Value) (ps : List ByteArray) (h : StrsAt w v ps) (h0 : ps ≠ []) (hl : t.size + 2 + sumS ps ≤ 1000000) (hn : ps.length ≤ 1000000) :
    Calls Tryz.prog 27 #[.string t, v] w fun e w' => e = .returned (.string (ofS t ps)) ∧ Below w.heap.size w w' := by
  have hs := ofS_size t ps
  have hj := ofS_join t ps h0
  have hz : (ofS t ps).size = t.size + ((1 + (joinB ps).size) + 1) := by rw [hj]; simp only [ByteArray.size_append]; rfl
  have HJ := Lib.hid (join_any w v ps h (by omega) (by omega))
  have hp : 0 < ps.length := List.length_pos_iff.2 h0
  obtain ⟨b, off, cap, rfl, hc, hlt, -⟩ := h
  rw [hj]
  generalize joinB ps = J at *
  have j1 : J.size ≤ 1000000 := by omega
  have j2 : ((⟨#[40]⟩ : ByteArray) ++ J).size ≤ 1000001 := by rw [ByteArray.size_append]; show 1 + _ ≤ _; omega
  have j3 : (((⟨#[40]⟩ : ByteArray) ++ J) ++ (⟨#[41]⟩ : ByteArray)).size ≤ 1000002 := by rw [ByteArray.size_append]; show _ + 1 ≤ _; omega
  have j4 : t.size ≤ 1000000 := by omega
  have hp2 : ((ps.length : Int) == 0) = false := by simp; omega
  clear hs hj hz hl h0
  go_enter Tryz.func27, Tryz.ntmps27
  go_wp2_with (go_at_call 55; refine HJ.out.mono ?_; rintro e w1 ⟨rfl, hb1⟩)
  go_ret
  exact ⟨rfl, hb1⟩

theorem elemStr : Elem 29 9 1 16 := elem_of (z := .string ⟨#[]⟩) Tryz.underlying29 (by kernel_rfl) rfl (by decide)

/-- Strings of the call's own read as strings. -/
theorem OwnR.strs {w : World} {F : Nat → Prop} {v : Value} {ss : List ByteArray} (h : OwnR w F 9 1 v ss.length (ss.map Value.string)) (h0 : ss ≠ []) : StrsAt w v ss := by
  rcases h.cells with ⟨rfl, h1⟩ | ⟨g, cap, rfl, hc, hF, hlt, hx⟩
  · exact absurd (List.map_eq_nil_iff.1 h1) h0
  · exact ⟨g, 0, cap, rfl, hc, hlt, fun j s hs => by rw [Nat.zero_add]; exact (hx j _ (by rw [List.getElem?_map, hs]; rfl)).1⟩

def SubInv (w wr : World) (ss : List ByteArray) (k : Nat) (v : Value) : Prop :=
  ∃ F : Nat → Prop, OwnR wr F 9 1 v k ((ss.take k).map Value.string) ∧ (∀ j, F j → w.heap.size ≤ j) ∧ Below w.heap.size w wr

end Go.Proofs.YtkidcgaogjlpaaaGreat
