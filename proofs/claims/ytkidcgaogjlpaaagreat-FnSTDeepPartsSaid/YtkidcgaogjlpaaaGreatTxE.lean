/- impl.STEncode and impl.rowsOf over a column behind the interface. -/
import Derived.Test.YtkidcgaogjlpaaaGreatTx
namespace Go.Proofs.YtkidcgaogjlpaaaGreat
open Go.RowKit
set_option linter.unusedVariables false
set_option linter.unusedSimpArgs false

/-- impl.STKind.column makes this column. -/
def Makes (kv : Value) (t : TypeId) (v : World → Value) (C : World → Rep) : Prop :=
  ∀ w, Calls Tryz.prog 26 #[kv] w fun e w' => e = .returned (.iface t (v w)) ∧ Below w.heap.size w w' ∧ ∃ F, C w w' F [] ∧ ∀ k, F k → w.heap.size ≤ k

/-- A bound method of the column, handed to impl.encoded. -/
theorem encodedT (w : World) (t : TypeId) (v : Value) (bs : List UInt8)
    (H : ∀ w1 F p, BufAt w1 F 179 p [] → In F w1 → (∀ k, F k → w.heap.size ≤ k) → Below w.heap.size w w1 → ∃ f y, Meths w1 t v "EncodeColumn" f y ∧ Calls Tryz.prog f #[y, .pointer (some ⟨p, 0, none⟩)] w1 (Put w1 F 179 p bs)) :
    Calls Tryz.prog 28 #[.func (.method "EncodeColumn") #[.iface t v] #[]] w (Made w bs) := by
  obtain ⟨f, y, ⟨ho, hm⟩, hc⟩ := H (w.alloc (Obj.cells #[Value.slice none 0 0] 179)) _ _ (bufAt_new _ _) (fun k hk => by simp [hk]) (fun k hk => by omega) ((Below.refl _ _).alloc (Nat.le_refl _) _)
  have HC := Lib.hid hc
  have hof := ho #[y, Value.pointer (some { block := w.heap.size, off := 0 })] (w.alloc (Obj.cells #[Value.slice none 0 0] 179))
  clear H hc ho
  go_enter Tryz.func28, Tryz.ntmps28
  go_wp2_with fail
  refine HC.out.mono ?_
  rintro e w1 ⟨rfl, F', hb, hu⟩
  obtain ⟨v, hc, hbv, hown⟩ := hb.bytes
  have HO := Lib.hid hown
  have hbl := hu.chg
  clear hown
  go_wp2
  go_ret
  refine ⟨?_, v, rfl, hbv, fun k hk => ⟨?_, (HO.out k hk).2⟩⟩
  · exact (((Chg.refl (· = w.heap.size) w).alloc _).trans hbl (fun _ _ h => h)).below (Nat.le_refl _) (fun k hk => by omega)
  · rcases hu.new k (HO.out k hk).1 with h | h
    · omega
    · simp at h; omega

set_option maxRecDepth 100000 in
theorem stEncode (w : World) (kd sz : Int) (t : TypeId) (v : World → Value) (enc : List (List UInt8) → List UInt8) (good : List UInt8 → Prop) (C : World → Rep) (hm : Makes (.agg #[.int .i64 kd, .int .i64 sz]) t v C) (hT : ∀ w, Texts t (v w) enc good (C w)) (lv : Value) (l : List (List UInt8)) (hl : ListAt w lv l) (hg : ∀ s ∈ l, good s) (hs : Small l) :
    Calls Tryz.prog 17 #[.agg #[.int .i64 kd, .int .i64 sz], lv] w (Made w (enc l)) := by
  obtain ⟨p, c, rfl, hlc⟩ := hl.slice
  have HL := Lib.hid hl
  have HG := Lib.hid hg
  have HS := Lib.hid hs
  have HM := Lib.hid hm
  have HT := Lib.hid hT
  clear hl hg hs hm hT
  obtain ⟨W0, hW0⟩ : ∃ W0, W0 = w.alloc (.cells #[.int .i64 kd, .int .i64 sz] 23) := ⟨_, rfl⟩
  have hb0 : Below w.heap.size w W0 := by rw [hW0]; exact (Below.refl _ w).alloc (Nat.le_refl _) _
  obtain ⟨vv, hvv⟩ : ∃ vv, vv = v W0 := ⟨_, rfl⟩
  have hTT := HT.out W0
  rw [← hvv] at hTT
  have HTT := Lib.hid hTT
  obtain ⟨fa, ha, hadd⟩ := hTT.add
  have HADD := Lib.hid hadd
  have hmA := fun W => (ha W).2
  have hoA := fun x W => (ha w).1 #[vv, x] W
  have HMM := Lib.hid (HM.out W0)
  rw [← hvv] at HMM
  rw [hW0] at HMM
  have HW0 := Lib.hid (And.intro hW0 hb0)
  clear ha hadd HT HM hTT hvv hb0
  go_enter Tryz.func17, Tryz.ntmps17
  go_wp2_with fail
  refine HMM.out.mono ?_
  rintro e w1 ⟨rfl, hb1, F1, hC1, hF1⟩
  rw [← hW0] at hC1 hb1 hF1
  have HC1 := Lib.hid (And.intro hb1 (And.intro hC1 hF1))
  clear hb1 hC1 hF1 hW0
  go_wp2_with fail
  go_loopw [14] (fun vi wr => ∃ (i : Nat) (F : Nat → Prop), i ≤ l.length ∧ vi = .int .i64 i ∧ C W0 wr F (l.take i) ∧ Below w.heap.size w wr ∧ ∀ k, F k → w.heap.size ≤ k) (fun vi _ => l.length - (intOf vi).toNat)
  case atStart =>
    obtain ⟨hb1, hC1, hF1⟩ := HC1.out
    obtain ⟨hW0, hb0⟩ := HW0.out
    exact ⟨0, F1, Nat.zero_le _, rfl, hC1, hb0.trans (hb1.mono hb0.size), fun k hk => Nat.le_trans hb0.size (hF1 k hk)⟩
  case round =>
    obtain ⟨i, F, hi, rfl, hC, hb, hFk⟩ := hrel
    have hlen := HS.out.2
    by_cases hlt : i < l.length
    · obtain ⟨s, hsi⟩ : ∃ s, l[i]? = some s := ⟨_, List.getElem?_eq_getElem hlt⟩
      obtain ⟨g, o, x, rfl, -, -, -, hcx, hbx⟩ := (HL.out.below hb).row hsi
      have hsm : Small (l.take i ++ [s]) := by rw [← take_snoc hsi]; exact HS.out.take _
      have HA := Lib.hid (HADD.out wr F (l.take i) x s hC hbx (HG.out s (List.mem_of_getElem? hsi)) hsm)
      have HB := Lib.hid (And.intro hb (And.intro hFk hsi))
      clear hC hb hbx hsm hFk hsi
      go_wp2_with fail
      refine HA.out.mono ?_
      rintro e w2 ⟨rfl, F2, hC2, hu2⟩
      go_wp2_with fail
      go_roundw
      case rel =>
        obtain ⟨hb, hFk, hsi⟩ := HB.out
        refine ⟨i + 1, F2, hlt, by go_num, by rw [take_snoc hsi]; exact hC2, hb.trans (hu2.chg.below hb.size hFk), fun k hk => ?_⟩
        rcases hu2.new k hk with h | h
        · exact hFk k h
        · have := hb.size; omega
      case measure => simp [intOf]; omega
    · obtain rfl : i = l.length := by omega
      rw [List.take_length] at hC
      have HE := Lib.hid (encodedT wr t vv (enc l) fun w2 Fb p hB hI hFb hb2 => by
        have hd : Disj F Fb := fun k hk e => by
          have := HTT.out.inn hC k hk
          have := hFb k e
          omega
        have h := HTT.out.encode w2 F l Fb p [] (HTT.out.chg hC (Chg.of_below (F := fun _ => False) hb2) fun _ _ h => h) HS.out hB hI hd (by simp)
        simpa using h)
      have HB := Lib.hid hb
      clear hC hb hFk
      go_wp2_with (go_at_call 28; refine HE.out.mono ?_; rintro e w2 hmade; obtain ⟨x, rfl, -⟩ := id hmade.2)
      go_ret
      exact Made.of_below HB.out hmade
end Go.Proofs.YtkidcgaogjlpaaaGreat
