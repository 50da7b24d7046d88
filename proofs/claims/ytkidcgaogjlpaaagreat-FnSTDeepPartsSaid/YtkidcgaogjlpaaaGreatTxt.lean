/- impl.textsOf[..].add and at, over a column of strings. -/
import Derived.Test.YtkidcgaogjlpaaaGreatStrW
import Derived.Test.YtkidcgaogjlpaaaGreatMeth
import Derived.Deep.RegionHeld3
import Derived.StillTailTactics
namespace Go.Proofs.YtkidcgaogjlpaaaGreat
open Go.RowKit
set_option linter.unusedVariables false

theorem textV (w : World) (x : Value) (s : List UInt8) (hx : BytesX w x s) : Calls Tryz.prog 36 #[x] w fun e w' => e = .returned (.string ⟨s.toArray⟩) ∧ w = w' := by
  have h1 := run_convert_x hx
  clear hx
  go_enter Tryz.func36, Tryz.ntmps36
  go_wp2
  go_ret
  exact ⟨rfl, rfl⟩
theorem sameV (w : World) (x : Value) (s : List UInt8) (hx : BytesX w x s) : Calls Tryz.prog 39 #[x] w fun e w' => e = .returned x ∧ w = w' := by
  obtain ⟨p, c, rfl⟩ := hx.slice
  clear hx
  go_enter Tryz.func39, Tryz.ntmps39
  go_wp2
  go_ret
  exact ⟨rfl, rfl⟩
theorem rowAdd0 : MRow 81 "Append" [] (some (125, true)) := mRow_of (by kernel_rfl)

set_option maxRecDepth 100000 in
theorem add0 (w : World) (F : Nat → Prop) (q : Nat) (l : List (List UInt8)) (x : Value) (s : List UInt8) (f2 f3 : Value) (hx : BytesX w x s) (h : StrCol w F 84 q l) (hF : In F w) (hl : l.flatten.length + s.length ≤ 140737488355328) (hn : l.length + 1 ≤ 8796093022208) :
    Calls Tryz.prog 103 #[.agg #[.iface 81 (.pointer (some ⟨q, 0, none⟩)), .func (.func 36) #[] #[], f2, f3], x] w (PutS w F 84 q (l ++ [s])) := by
  have hm : ∀ W, (method 383 81 (.pointer (some ⟨q, 0, none⟩)) "Append").run Tryz.prog W = .ok (125, .pointer (some ⟨q, 0, none⟩)) W := fun W => meth_ptr 382 rowAdd0 Tryz.underlying81 (.pointer (some ⟨q, 0, none⟩)) W
  obtain ⟨px, cx, rfl⟩ := hx.slice
  obtain ⟨x, hxe⟩ : ∃ x, x = Value.slice px s.length cx := ⟨_, rfl⟩
  rw [← hxe] at hx ⊢
  clear hxe
  have HX := Lib.hid hx
  have HS := Lib.hid h
  have HF : Hid (¬ F w.heap.size) := Lib.hid fun h => by have := hF _ h; omega
  clear hx h hF
  go_enter Tryz.func103, Tryz.ntmps103
  go_wp2_with fail
  go_region_held3 (fun w' => w'.cell? ⟨w.heap.size, 0, none⟩ = some (.iface 81 (.pointer (some ⟨q, 0, none⟩))) ∧ w'.cell? ⟨w.heap.size, 1, none⟩ = some (.func (.func 36) #[] #[])) (first | exact ⟨s0, s1⟩ | go_keep)
    (first | (go_at_call 36; refine (textV _ x s (HX.out.below (((Below.refl _ w).alloc (Nat.le_refl _) _).drew))).mono ?_; rintro e w' ⟨rfl, rfl⟩) | (go_at_call 125; refine (strAppend _ F _ q l ⟨s.toArray⟩ (HS.out.keep (((Below.refl _ w).alloc (Nat.le_refl _) _).drew)) (by simpa [ByteArray.size] using hl) hn).mono ?_; rintro e w' ⟨rfl, F1, h1, hu1⟩; have s0 : w'.cell? ⟨w.heap.size, 0, none⟩ = some (.iface 81 (.pointer (some ⟨q, 0, none⟩))) := (by rw [hu1.chg.cell (p := ⟨w.heap.size, 0, none⟩) (by simp) HF.out]; go_simp); have s1 : w'.cell? ⟨w.heap.size, 1, none⟩ = some (.func (.func 36) #[] #[]) := (by rw [hu1.chg.cell (p := ⟨w.heap.size, 1, none⟩) (by simp) HF.out]; go_simp)))
  go_returns
  exact ⟨rfl, F1, h1, (((Upd.refl F w).alloc _).drew).trans hu1⟩

theorem rowAdd1 : MRow 91 "Append" [] (some (107, true)) := mRow_of (by kernel_rfl)

set_option maxRecDepth 100000 in
theorem add1 (w : World) (F : Nat → Prop) (q : Nat) (l : List (List UInt8)) (x : Value) (s : List UInt8) (f2 f3 : Value) (hx : BytesX w x s) (h : StrCol w F 93 q l) (hF : In F w) (hl : l.flatten.length + s.length ≤ 140737488355328) (hn : l.length + 1 ≤ 8796093022208) :
    Calls Tryz.prog 112 #[.agg #[.iface 91 (.pointer (some ⟨q, 0, none⟩)), .func (.func 39) #[] #[], f2, f3], x] w (PutS w F 93 q (l ++ [s])) := by
  have hm : ∀ W, (method 383 91 (.pointer (some ⟨q, 0, none⟩)) "Append").run Tryz.prog W = .ok (107, .pointer (some ⟨q, 0, none⟩)) W := fun W => meth_ptr 382 rowAdd1 Tryz.underlying91 (.pointer (some ⟨q, 0, none⟩)) W
  obtain ⟨px, cx, rfl⟩ := hx.slice
  obtain ⟨x, hxe⟩ : ∃ x, x = Value.slice px s.length cx := ⟨_, rfl⟩
  rw [← hxe] at hx ⊢
  clear hxe
  have HX := Lib.hid hx
  have HS := Lib.hid h
  have HF : Hid (¬ F w.heap.size) := Lib.hid fun h => by have := hF _ h; omega
  clear hx h hF
  go_enter Tryz.func112, Tryz.ntmps112
  go_wp2_with fail
  go_region_held3 (fun w' => w'.cell? ⟨w.heap.size, 0, none⟩ = some (.iface 91 (.pointer (some ⟨q, 0, none⟩))) ∧ w'.cell? ⟨w.heap.size, 1, none⟩ = some (.func (.func 39) #[] #[])) (first | exact ⟨s0, s1⟩ | go_keep)
    (first | (go_at_call 39; refine (sameV _ x s (HX.out.below (((Below.refl _ w).alloc (Nat.le_refl _) _).drew))).mono ?_; rintro e w' ⟨rfl, rfl⟩) | (go_at_call 107; refine (bytesAppend _ F _ q l x s (HX.out.below (((Below.refl _ w).alloc (Nat.le_refl _) _).drew)) (HS.out.keep (((Below.refl _ w).alloc (Nat.le_refl _) _).drew)) hl hn).mono ?_; rintro e w' ⟨rfl, F1, h1, hu1⟩; have s0 : w'.cell? ⟨w.heap.size, 0, none⟩ = some (.iface 91 (.pointer (some ⟨q, 0, none⟩))) := (by rw [hu1.chg.cell (p := ⟨w.heap.size, 0, none⟩) (by simp) HF.out]; go_simp); have s1 : w'.cell? ⟨w.heap.size, 1, none⟩ = some (.func (.func 39) #[] #[]) := (by rw [hu1.chg.cell (p := ⟨w.heap.size, 1, none⟩) (by simp) HF.out]; go_simp)))
  go_returns
  exact ⟨rfl, F1, h1, (((Upd.refl F w).alloc _).drew).trans hu1⟩

theorem rowAdd2 : MRow 98 "Append" [] (some (116, true)) := mRow_of (by kernel_rfl)

set_option maxRecDepth 100000 in
theorem add2 (w : World) (F : Nat → Prop) (q : Nat) (l : List (List UInt8)) (x : Value) (s : List UInt8) (f2 f3 : Value) (hx : BytesX w x s) (h : StrCol w F 100 q l) (hF : In F w) (hl : l.flatten.length + s.length ≤ 140737488355328) (hn : l.length + 1 ≤ 8796093022208) :
    Calls Tryz.prog 103 #[.agg #[.iface 98 (.pointer (some ⟨q, 0, none⟩)), .func (.func 36) #[] #[], f2, f3], x] w (PutS w F 100 q (l ++ [s])) := by
  have hm : ∀ W, (method 383 98 (.pointer (some ⟨q, 0, none⟩)) "Append").run Tryz.prog W = .ok (116, .pointer (some ⟨q, 0, none⟩)) W := fun W => meth_ptr 382 rowAdd2 Tryz.underlying98 (.pointer (some ⟨q, 0, none⟩)) W
  obtain ⟨px, cx, rfl⟩ := hx.slice
  obtain ⟨x, hxe⟩ : ∃ x, x = Value.slice px s.length cx := ⟨_, rfl⟩
  rw [← hxe] at hx ⊢
  clear hxe
  have HX := Lib.hid hx
  have HS := Lib.hid h
  have HF : Hid (¬ F w.heap.size) := Lib.hid fun h => by have := hF _ h; omega
  clear hx h hF
  go_enter Tryz.func103, Tryz.ntmps103
  go_wp2_with fail
  go_region_held3 (fun w' => w'.cell? ⟨w.heap.size, 0, none⟩ = some (.iface 98 (.pointer (some ⟨q, 0, none⟩))) ∧ w'.cell? ⟨w.heap.size, 1, none⟩ = some (.func (.func 36) #[] #[])) (first | exact ⟨s0, s1⟩ | go_keep)
    (first | (go_at_call 36; refine (textV _ x s (HX.out.below (((Below.refl _ w).alloc (Nat.le_refl _) _).drew))).mono ?_; rintro e w' ⟨rfl, rfl⟩) | (go_at_call 116; refine (jsonAppend _ F _ q l ⟨s.toArray⟩ (HS.out.keep (((Below.refl _ w).alloc (Nat.le_refl _) _).drew)) (by simpa [ByteArray.size] using hl) hn).mono ?_; rintro e w' ⟨rfl, F1, h1, hu1⟩; have s0 : w'.cell? ⟨w.heap.size, 0, none⟩ = some (.iface 98 (.pointer (some ⟨q, 0, none⟩))) := (by rw [hu1.chg.cell (p := ⟨w.heap.size, 0, none⟩) (by simp) HF.out]; go_simp); have s1 : w'.cell? ⟨w.heap.size, 1, none⟩ = some (.func (.func 36) #[] #[]) := (by rw [hu1.chg.cell (p := ⟨w.heap.size, 1, none⟩) (by simp) HF.out]; go_simp)))
  go_returns
  exact ⟨rfl, F1, h1, (((Upd.refl F w).alloc _).drew).trans hu1⟩

theorem rowAdd3 : MRow 101 "Append" [] (some (128, true)) := mRow_of (by kernel_rfl)

set_option maxRecDepth 100000 in
theorem add3 (w : World) (F : Nat → Prop) (q : Nat) (l : List (List UInt8)) (x : Value) (s : List UInt8) (f2 f3 : Value) (hx : BytesX w x s) (h : StrCol w F 103 q l) (hF : In F w) (hl : l.flatten.length + s.length ≤ 140737488355328) (hn : l.length + 1 ≤ 8796093022208) :
    Calls Tryz.prog 112 #[.agg #[.iface 101 (.pointer (some ⟨q, 0, none⟩)), .func (.func 39) #[] #[], f2, f3], x] w (PutS w F 103 q (l ++ [s])) := by
  have hm : ∀ W, (method 383 101 (.pointer (some ⟨q, 0, none⟩)) "Append").run Tryz.prog W = .ok (128, .pointer (some ⟨q, 0, none⟩)) W := fun W => meth_ptr 382 rowAdd3 Tryz.underlying101 (.pointer (some ⟨q, 0, none⟩)) W
  obtain ⟨px, cx, rfl⟩ := hx.slice
  obtain ⟨x, hxe⟩ : ∃ x, x = Value.slice px s.length cx := ⟨_, rfl⟩
  rw [← hxe] at hx ⊢
  clear hxe
  have HX := Lib.hid hx
  have HS := Lib.hid h
  have HF : Hid (¬ F w.heap.size) := Lib.hid fun h => by have := hF _ h; omega
  clear hx h hF
  go_enter Tryz.func112, Tryz.ntmps112
  go_wp2_with fail
  go_region_held3 (fun w' => w'.cell? ⟨w.heap.size, 0, none⟩ = some (.iface 101 (.pointer (some ⟨q, 0, none⟩))) ∧ w'.cell? ⟨w.heap.size, 1, none⟩ = some (.func (.func 39) #[] #[])) (first | exact ⟨s0, s1⟩ | go_keep)
    (first | (go_at_call 39; refine (sameV _ x s (HX.out.below (((Below.refl _ w).alloc (Nat.le_refl _) _).drew))).mono ?_; rintro e w' ⟨rfl, rfl⟩) | (go_at_call 128; refine (jbytesAppend _ F _ q l x s (HX.out.below (((Below.refl _ w).alloc (Nat.le_refl _) _).drew)) (HS.out.keep (((Below.refl _ w).alloc (Nat.le_refl _) _).drew)) hl hn).mono ?_; rintro e w' ⟨rfl, F1, h1, hu1⟩; have s0 : w'.cell? ⟨w.heap.size, 0, none⟩ = some (.iface 101 (.pointer (some ⟨q, 0, none⟩))) := (by rw [hu1.chg.cell (p := ⟨w.heap.size, 0, none⟩) (by simp) HF.out]; go_simp); have s1 : w'.cell? ⟨w.heap.size, 1, none⟩ = some (.func (.func 39) #[] #[]) := (by rw [hu1.chg.cell (p := ⟨w.heap.size, 1, none⟩) (by simp) HF.out]; go_simp)))
  go_returns
  exact ⟨rfl, F1, h1, (((Upd.refl F w).alloc _).drew).trans hu1⟩

end Go.Proofs.YtkidcgaogjlpaaaGreat
