/- impl.textsOf[[]byte].add and at, over ColFixedStr. -/
import Derived.Test.YtkidcgaogjlpaaaGreatFixD
namespace Go.Proofs.YtkidcgaogjlpaaaGreat
open Go.RowKit
set_option linter.unusedVariables false
set_option linter.unusedSimpArgs false

theorem rowAdd4 : MRow 104 "Append" [] (some (132, true)) := mRow_of (by kernel_rfl)
theorem rowAt4 : MRow 104 "Row" [] (some (137, false)) := mRow_of (by kernel_rfl)

set_option maxRecDepth 100000 in
theorem add4 (w : World) (F : Nat → Prop) (q N : Nat) (flat : List UInt8) (x : Value) (s : List UInt8) (f2 f3 : Value) (hx : BytesX w x s) (hs : s.length = N) (hN : 0 < N) (h : FixCol w F q N flat) (hF : In F w) (hl : flat.length + s.length ≤ 1000000000) :
    Calls Tryz.prog 112 #[.agg #[.iface 104 (.pointer (some ⟨q, 0, none⟩)), .func (.func 39) #[] #[], f2, f3], x] w (PutF w F q N (flat ++ s)) := by
  have hm : ∀ W, (method 383 104 (.pointer (some ⟨q, 0, none⟩)) "Append").run Tryz.prog W = .ok (132, .pointer (some ⟨q, 0, none⟩)) W := fun W => meth_ptr 382 rowAdd4 Tryz.underlying104 (.pointer (some ⟨q, 0, none⟩)) W
  obtain ⟨px, cx, rfl⟩ := hx.slice
  obtain ⟨x, hxe⟩ : ∃ x, x = Value.slice px s.length cx := ⟨_, rfl⟩
  rw [← hxe] at hx ⊢
  clear hxe
  have HX := Lib.hid hx
  have HS := Lib.hid h
  have HL := Lib.hid hs
  have HF : Hid (¬ F w.heap.size) := Lib.hid fun h => by have := hF _ h; omega
  clear hx h hF hs
  go_enter Tryz.func112, Tryz.ntmps112
  go_wp2_with fail
  go_region_held3 (fun w' => w'.cell? ⟨w.heap.size, 0, none⟩ = some (.iface 104 (.pointer (some ⟨q, 0, none⟩))) ∧ w'.cell? ⟨w.heap.size, 1, none⟩ = some (.func (.func 39) #[] #[])) (first | exact ⟨s0, s1⟩ | go_keep)
    (first | (go_at_call 39; refine (sameV _ x s (HX.out.below (((Below.refl _ w).alloc (Nat.le_refl _) _).drew))).mono ?_; rintro e w' ⟨rfl, rfl⟩) | (go_at_call 132; refine (fixAppendS _ F q N flat x s (HX.out.below (((Below.refl _ w).alloc (Nat.le_refl _) _).drew)) HL.out hN (HS.out.keep (((Below.refl _ w).alloc (Nat.le_refl _) _).drew)) hl).mono ?_; rintro e w' ⟨rfl, F1, h1, hu1⟩; have s0 : w'.cell? ⟨w.heap.size, 0, none⟩ = some (.iface 104 (.pointer (some ⟨q, 0, none⟩))) := (by rw [hu1.chg.cell (p := ⟨w.heap.size, 0, none⟩) (by simp) HF.out]; go_simp); have s1 : w'.cell? ⟨w.heap.size, 1, none⟩ = some (.func (.func 39) #[] #[]) := (by rw [hu1.chg.cell (p := ⟨w.heap.size, 1, none⟩) (by simp) HF.out]; go_simp)))
  go_returns
  exact ⟨rfl, F1, h1, (((Upd.refl F w).alloc _).drew).trans hu1⟩

set_option maxRecDepth 100000 in
theorem at4 (w : World) (F : Nat → Prop) (q N n i : Nat) (flat s : List UInt8) (f1 f3 : Value) (h : FixCol w F q N flat) (hN : 0 < N) (hn : flat.length = n * N) (hl : flat.length ≤ 1000000000) (hi : i < n) (hs : s = (flat.drop (i * N)).take N) :
    Calls Tryz.prog 115 #[.agg #[.iface 104 (.pointer (some ⟨q, 0, none⟩)), f1, .func (.func 39) #[] #[], f3], .int .i64 i] w (Made w s) := by
  obtain ⟨v, hat, hlt, hV, -⟩ := h.view
  obtain ⟨B, hB⟩ : ∃ B, B = (Obj.cells #[.iface 104 (.pointer (some ⟨q, 0, none⟩)), f1, .func (.func 39) #[] #[], f3] 97) := ⟨_, rfl⟩
  have hbw : Below w.heap.size w (w.alloc B).drew := ((Below.refl _ w).alloc (Nat.le_refl _) _).drew
  have hld := load_two (w := (w.alloc B).drew) (by rw [hbw.block q hlt]; exact hat) Tryz.underlying106 (by kernel_rfl)
  have hmm := meth_val 382 rowAt4 Tryz.underlying104 ⟨q, 0, none⟩ (w.alloc B).drew (.agg #[v, .int .i64 N]) hld
  have HR := Lib.hid (fixRowS (w.alloc B).drew v N n i flat s (hV.below hbw) hN hn hl hi hs)
  have HB := Lib.hid hbw
  have hsl : s.length ≤ 1000000000 := by rw [hs, List.length_take, List.length_drop]; omega
  have HL : Hid (([] : List UInt8).length + s.length ≤ 140737488355328) := Lib.hid (by simp; omega)
  subst hB
  clear h hat hV hbw hld hs hn
  go_enter Tryz.func115, Tryz.ntmps115
  go_wp2_with fail
  go_region_held3 (fun w' => w'.cell? ⟨w.heap.size, 0, none⟩ = some (.iface 104 (.pointer (some ⟨q, 0, none⟩))) ∧ w'.cell? ⟨w.heap.size, 2, none⟩ = some (.func (.func 39) #[] #[])) (first | exact ⟨s0, s2⟩ | go_keep)
    (first | (go_at_call 137; refine HR.out.mono ?_; rintro e w1 ⟨hb1, x, rfl, hx, ho⟩; obtain ⟨px, cx, rfl⟩ := hx.slice; have s0 : w1.cell? ⟨w.heap.size, 0, none⟩ = some (.iface 104 (.pointer (some ⟨q, 0, none⟩))) := (by rw [hb1.cell (by simp)]; go_simp); have s2 : w1.cell? ⟨w.heap.size, 2, none⟩ = some (.func (.func 39) #[] #[]) := (by rw [hb1.cell (by simp)]; go_simp)) | (go_at_call 39; refine (sameV _ _ s hx.x).mono ?_; rintro e w2 ⟨rfl, rfl⟩; have hb2 := Below.refl w1.heap.size w1) | (refine step_append_since _ w1 [] s (by rfl) _ _ _ (by rfl) _ (by rfl) ⟨⟨fun _ => False, OwnB.nil _ _, fun _ h => h.elim⟩, Below.refl _ _⟩ _ (by rfl) hx.srcB HL.out ?_; intro q1 c1 w3 hs3; have s0 : w3.cell? ⟨w.heap.size, 0, none⟩ = some (.iface 104 (.pointer (some ⟨q, 0, none⟩))) := (by rw [hs3.below.cell (by have := hb2.size; have := hb1.size; simp at this ⊢; omega)]; exact s0); have s2 : w3.cell? ⟨w.heap.size, 2, none⟩ = some (.func (.func 39) #[] #[]) := (by rw [hs3.below.cell (by have := hb2.size; have := hb1.size; simp at this ⊢; omega)]; exact s2)))
  go_wp2_with fail
  go_ret
  exact made_at HB.out hb1 hb2 hs3
end Go.Proofs.YtkidcgaogjlpaaaGreat
