/- impl.textsOf[..].at over the columns of strings. Written by gen_at.py. -/
import Derived.Test.YtkidcgaogjlpaaaGreatStrW
import Derived.Test.YtkidcgaogjlpaaaGreatMeth
import Derived.Test.YtkidcgaogjlpaaaGreatTxt
namespace Go.Proofs.YtkidcgaogjlpaaaGreat
open Go.RowKit
set_option linter.unusedVariables false
set_option linter.unusedSimpArgs false

theorem bytesOfV (w : World) (s : ByteArray) : Calls Tryz.prog 37 #[.string s] w fun e w' => ∃ x, e = .returned x ∧ BytesAt w' x s.data.toList ∧ Below w.heap.size w w' := by
  have hk := fun (w : World) (s : ByteArray) => Lib.run_convert_string_bytes (P := Tryz.prog) w 9 34 5 s Tryz.underlying9 Tryz.underlying34 Tryz.underlying5
  go_enter Tryz.func37, Tryz.ntmps37
  go_wp2
  go_wp2_with fail
  go_ret
  exact ⟨_, rfl, bytesWorld_bytes _ _, bytesWorld_below _ _ _⟩

theorem load_two {w : World} {q : Nat} {v u : Value} {T : TypeId} {fs : Array Field} (h : w.heap[q]? = some (.cells #[v, u] T (0, 0))) (hu : Tryz.prog.underlying T = some (.struct fs)) (hi : (Tryz.prog.info? T).map (·.size) = some 2) : (loadVar T ⟨q, 0, none⟩).run Tryz.prog w = .ok (.agg #[v, u]) w :=
  run_loadVar_row w q T T #[v, u] (0, 0) _ h hu rfl hi
theorem made_at {w W w1 w2 w3 : World} {q : Option Addr} {c : Nat} {s : List UInt8} (hb : Below w.heap.size w W) (hb1 : Below W.heap.size W w1) (hb2 : Below w1.heap.size w1 w2) (h : Since w2 w3 (.slice q (([] : List UInt8).length + s.length) c) ([] ++ s)) : Made w s (.returned (.slice q s.length c)) w3 := by
  have h' : Since w2 w3 (.slice q s.length c) s := by simpa using h
  exact h'.made (hb.trans ((hb1.mono hb.size).trans (hb2.mono (Nat.le_trans hb.size hb1.size))))

theorem rowAt0 : MRow 81 "Row" [] (some (111, false)) := mRow_of (by kernel_rfl)
set_option maxRecDepth 100000 in
theorem at0 (w : World) (F : Nat → Prop) (q : Nat) (l : List (List UInt8)) (i : Nat) (s : List UInt8) (f1 f3 : Value) (h : StrCol w F 84 q l) (hi : l[i]? = some s) (hm : l.length ≤ 8796093022208) (hs : s.length ≤ 1000000000) :
    Calls Tryz.prog 106 #[.agg #[.iface 81 (.pointer (some ⟨q, 0, none⟩)), f1, .func (.func 37) #[] #[], f3], .int .i64 i] w (Made w s) := by
  obtain ⟨v, u, hat, c0, c1, hlt, hV, -⟩ := h.view
  obtain ⟨B, hB⟩ : ∃ B, B = (Obj.cells #[.iface 81 (.pointer (some ⟨q, 0, none⟩)), f1, .func (.func 37) #[] #[], f3] 90) := ⟨_, rfl⟩
  have hbw : Below w.heap.size w (w.alloc B).drew := ((Below.refl _ w).alloc (Nat.le_refl _) _).drew
  have hld := load_two (w := (w.alloc B).drew) (by rw [hbw.block q hlt]; exact hat) Tryz.underlying84 (by kernel_rfl)
  have hmm := meth_val 382 rowAt0 Tryz.underlying81 ⟨q, 0, none⟩ (w.alloc B).drew (.agg #[v, u]) hld
  have HR := Lib.hid (strRow (w.alloc B).drew v u l (hV.below hbw) i s hi hm)
  have HB := Lib.hid hbw
  have HS := Lib.hid (And.intro hi hs)
  have HL : Hid (([] : List UInt8).length + s.length ≤ 140737488355328) := Lib.hid (by simp; omega)
  subst hB
  clear h hat hV hbw hld
  go_enter Tryz.func106, Tryz.ntmps106
  go_wp2_with fail
  go_region_held3 (fun w' => w'.cell? ⟨w.heap.size, 0, none⟩ = some (.iface 81 (.pointer (some ⟨q, 0, none⟩))) ∧ w'.cell? ⟨w.heap.size, 2, none⟩ = some (.func (.func 37) #[] #[])) (first | exact ⟨s0, s2⟩ | go_keep)
    (first | (go_at_call 111; refine HR.out.mono ?_; rintro e w1 ⟨rfl, hb1⟩; have s0 : w1.cell? ⟨w.heap.size, 0, none⟩ = some (.iface 81 (.pointer (some ⟨q, 0, none⟩))) := (by rw [hb1.cell (by simp)]; go_simp); have s2 : w1.cell? ⟨w.heap.size, 2, none⟩ = some (.func (.func 37) #[] #[]) := (by rw [hb1.cell (by simp)]; go_simp)) | (go_at_call 37; refine (bytesOfV _ _).mono ?_; rintro e w2 ⟨x, rfl, hx, hb2⟩; obtain ⟨px, cx, rfl⟩ := hx.slice; have s0 : w2.cell? ⟨w.heap.size, 0, none⟩ = some (.iface 81 (.pointer (some ⟨q, 0, none⟩))) := (by rw [hb2.cell (by have := hb1.size; simp at this ⊢; omega)]; exact s0); have s2 : w2.cell? ⟨w.heap.size, 2, none⟩ = some (.func (.func 37) #[] #[]) := (by rw [hb2.cell (by have := hb1.size; simp at this ⊢; omega)]; exact s2)) | (refine step_append_since _ w2 [] s (by rfl) _ _ _ (by rfl) _ (by rfl) ⟨⟨fun _ => False, OwnB.nil _ _, fun _ h => h.elim⟩, Below.refl _ _⟩ _ (by rfl) hx.srcB HL.out ?_; intro q1 c1 w3 hs3; have s0 : w3.cell? ⟨w.heap.size, 0, none⟩ = some (.iface 81 (.pointer (some ⟨q, 0, none⟩))) := (by rw [hs3.below.cell (by have := hb2.size; have := hb1.size; simp at this ⊢; omega)]; exact s0); have s2 : w3.cell? ⟨w.heap.size, 2, none⟩ = some (.func (.func 37) #[] #[]) := (by rw [hs3.below.cell (by have := hb2.size; have := hb1.size; simp at this ⊢; omega)]; exact s2)))
  go_wp2_with fail
  go_ret
  exact made_at HB.out hb1 hb2 hs3

theorem rowAt1 : MRow 91 "Row" [] (some (109, false)) := mRow_of (by kernel_rfl)
set_option maxRecDepth 100000 in
theorem at1 (w : World) (F : Nat → Prop) (q : Nat) (l : List (List UInt8)) (i : Nat) (s : List UInt8) (f1 f3 : Value) (h : StrCol w F 93 q l) (hi : l[i]? = some s) (hm : l.length ≤ 8796093022208) (hs : s.length ≤ 1000000000) :
    Calls Tryz.prog 115 #[.agg #[.iface 91 (.pointer (some ⟨q, 0, none⟩)), f1, .func (.func 39) #[] #[], f3], .int .i64 i] w (Made w s) := by
  obtain ⟨v, u, hat, c0, c1, hlt, hV, -⟩ := h.view
  obtain ⟨B, hB⟩ : ∃ B, B = (Obj.cells #[.iface 91 (.pointer (some ⟨q, 0, none⟩)), f1, .func (.func 39) #[] #[], f3] 97) := ⟨_, rfl⟩
  have hbw : Below w.heap.size w (w.alloc B).drew := ((Below.refl _ w).alloc (Nat.le_refl _) _).drew
  have hld := load_two (w := (w.alloc B).drew) (by rw [hbw.block q hlt]; exact hat) Tryz.underlying93 (by kernel_rfl)
  have hmm := meth_val 382 rowAt1 Tryz.underlying91 ⟨q, 0, none⟩ (w.alloc B).drew (.agg #[v, u]) hld
  have HR := Lib.hid (bytesRow (w.alloc B).drew v u l (hV.below hbw) i s hi hm)
  have HB := Lib.hid hbw
  have HS := Lib.hid (And.intro hi hs)
  have HL : Hid (([] : List UInt8).length + s.length ≤ 140737488355328) := Lib.hid (by simp; omega)
  subst hB
  clear h hat hV hbw hld
  go_enter Tryz.func115, Tryz.ntmps115
  go_wp2_with fail
  go_region_held3 (fun w' => w'.cell? ⟨w.heap.size, 0, none⟩ = some (.iface 91 (.pointer (some ⟨q, 0, none⟩))) ∧ w'.cell? ⟨w.heap.size, 2, none⟩ = some (.func (.func 39) #[] #[])) (first | exact ⟨s0, s2⟩ | go_keep)
    (first | (go_at_call 109; refine HR.out.mono ?_; rintro e w1 ⟨hb1, x, rfl, hx, ho⟩; obtain ⟨px, cx, rfl⟩ := hx.slice; have s0 : w1.cell? ⟨w.heap.size, 0, none⟩ = some (.iface 91 (.pointer (some ⟨q, 0, none⟩))) := (by rw [hb1.cell (by simp)]; go_simp); have s2 : w1.cell? ⟨w.heap.size, 2, none⟩ = some (.func (.func 39) #[] #[]) := (by rw [hb1.cell (by simp)]; go_simp)) | (go_at_call 39; refine (sameV _ _ s hx.x).mono ?_; rintro e w2 ⟨rfl, rfl⟩; have hb2 := Below.refl w1.heap.size w1) | (refine step_append_since _ w1 [] s (by rfl) _ _ _ (by rfl) _ (by rfl) ⟨⟨fun _ => False, OwnB.nil _ _, fun _ h => h.elim⟩, Below.refl _ _⟩ _ (by rfl) hx.srcB HL.out ?_; intro q1 c1 w3 hs3; have s0 : w3.cell? ⟨w.heap.size, 0, none⟩ = some (.iface 91 (.pointer (some ⟨q, 0, none⟩))) := (by rw [hs3.below.cell (by have := hb2.size; have := hb1.size; simp at this ⊢; omega)]; exact s0); have s2 : w3.cell? ⟨w.heap.size, 2, none⟩ = some (.func (.func 39) #[] #[]) := (by rw [hs3.below.cell (by have := hb2.size; have := hb1.size; simp at this ⊢; omega)]; exact s2)))
  go_wp2_with fail
  go_ret
  exact made_at HB.out hb1 hb2 hs3

theorem rowAt2 : MRow 98 "Row" [] (some (121, false)) := mRow_of (by kernel_rfl)
set_option maxRecDepth 100000 in
theorem at2 (w : World) (F : Nat → Prop) (q : Nat) (l : List (List UInt8)) (i : Nat) (s : List UInt8) (f1 f3 : Value) (h : StrCol w F 100 q l) (hi : l[i]? = some s) (hm : l.length ≤ 8796093022208) (hs : s.length ≤ 1000000000) :
    Calls Tryz.prog 106 #[.agg #[.iface 98 (.pointer (some ⟨q, 0, none⟩)), f1, .func (.func 37) #[] #[], f3], .int .i64 i] w (Made w s) := by
  obtain ⟨v, u, hat, c0, c1, hlt, hV, -⟩ := h.view
  obtain ⟨B, hB⟩ : ∃ B, B = (Obj.cells #[.iface 98 (.pointer (some ⟨q, 0, none⟩)), f1, .func (.func 37) #[] #[], f3] 90) := ⟨_, rfl⟩
  have hbw : Below w.heap.size w (w.alloc B).drew := ((Below.refl _ w).alloc (Nat.le_refl _) _).drew
  have hld := load_two (w := (w.alloc B).drew) (by rw [hbw.block q hlt]; exact hat) Tryz.underlying100 (by kernel_rfl)
  have hmm := meth_val 382 rowAt2 Tryz.underlying98 ⟨q, 0, none⟩ (w.alloc B).drew (.agg #[v, u]) hld
  have HR := Lib.hid (jsonRow (w.alloc B).drew v u l (hV.below hbw) i s hi hm)
  have HB := Lib.hid hbw
  have HS := Lib.hid (And.intro hi hs)
  have HL : Hid (([] : List UInt8).length + s.length ≤ 140737488355328) := Lib.hid (by simp; omega)
  subst hB
  clear h hat hV hbw hld
  go_enter Tryz.func106, Tryz.ntmps106
  go_wp2_with fail
  go_region_held3 (fun w' => w'.cell? ⟨w.heap.size, 0, none⟩ = some (.iface 98 (.pointer (some ⟨q, 0, none⟩))) ∧ w'.cell? ⟨w.heap.size, 2, none⟩ = some (.func (.func 37) #[] #[])) (first | exact ⟨s0, s2⟩ | go_keep)
    (first | (go_at_call 121; refine HR.out.mono ?_; rintro e w1 ⟨rfl, hb1⟩; have s0 : w1.cell? ⟨w.heap.size, 0, none⟩ = some (.iface 98 (.pointer (some ⟨q, 0, none⟩))) := (by rw [hb1.cell (by simp)]; go_simp); have s2 : w1.cell? ⟨w.heap.size, 2, none⟩ = some (.func (.func 37) #[] #[]) := (by rw [hb1.cell (by simp)]; go_simp)) | (go_at_call 37; refine (bytesOfV _ _).mono ?_; rintro e w2 ⟨x, rfl, hx, hb2⟩; obtain ⟨px, cx, rfl⟩ := hx.slice; have s0 : w2.cell? ⟨w.heap.size, 0, none⟩ = some (.iface 98 (.pointer (some ⟨q, 0, none⟩))) := (by rw [hb2.cell (by have := hb1.size; simp at this ⊢; omega)]; exact s0); have s2 : w2.cell? ⟨w.heap.size, 2, none⟩ = some (.func (.func 37) #[] #[]) := (by rw [hb2.cell (by have := hb1.size; simp at this ⊢; omega)]; exact s2)) | (refine step_append_since _ w2 [] s (by rfl) _ _ _ (by rfl) _ (by rfl) ⟨⟨fun _ => False, OwnB.nil _ _, fun _ h => h.elim⟩, Below.refl _ _⟩ _ (by rfl) hx.srcB HL.out ?_; intro q1 c1 w3 hs3; have s0 : w3.cell? ⟨w.heap.size, 0, none⟩ = some (.iface 98 (.pointer (some ⟨q, 0, none⟩))) := (by rw [hs3.below.cell (by have := hb2.size; have := hb1.size; simp at this ⊢; omega)]; exact s0); have s2 : w3.cell? ⟨w.heap.size, 2, none⟩ = some (.func (.func 37) #[] #[]) := (by rw [hs3.below.cell (by have := hb2.size; have := hb1.size; simp at this ⊢; omega)]; exact s2)))
  go_wp2_with fail
  go_ret
  exact made_at HB.out hb1 hb2 hs3

theorem rowAt3 : MRow 101 "Row" [] (some (130, false)) := mRow_of (by kernel_rfl)
set_option maxRecDepth 100000 in
theorem at3 (w : World) (F : Nat → Prop) (q : Nat) (l : List (List UInt8)) (i : Nat) (s : List UInt8) (f1 f3 : Value) (h : StrCol w F 103 q l) (hi : l[i]? = some s) (hm : l.length ≤ 8796093022208) (hs : s.length ≤ 1000000000) :
    Calls Tryz.prog 115 #[.agg #[.iface 101 (.pointer (some ⟨q, 0, none⟩)), f1, .func (.func 39) #[] #[], f3], .int .i64 i] w (Made w s) := by
  obtain ⟨v, u, hat, c0, c1, hlt, hV, -⟩ := h.view
  obtain ⟨B, hB⟩ : ∃ B, B = (Obj.cells #[.iface 101 (.pointer (some ⟨q, 0, none⟩)), f1, .func (.func 39) #[] #[], f3] 97) := ⟨_, rfl⟩
  have hbw : Below w.heap.size w (w.alloc B).drew := ((Below.refl _ w).alloc (Nat.le_refl _) _).drew
  have hld := load_two (w := (w.alloc B).drew) (by rw [hbw.block q hlt]; exact hat) Tryz.underlying103 (by kernel_rfl)
  have hmm := meth_val 382 rowAt3 Tryz.underlying101 ⟨q, 0, none⟩ (w.alloc B).drew (.agg #[v, u]) hld
  have HR := Lib.hid (jbytesRow (w.alloc B).drew v u l (hV.below hbw) i s hi hm)
  have HB := Lib.hid hbw
  have HS := Lib.hid (And.intro hi hs)
  have HL : Hid (([] : List UInt8).length + s.length ≤ 140737488355328) := Lib.hid (by simp; omega)
  subst hB
  clear h hat hV hbw hld
  go_enter Tryz.func115, Tryz.ntmps115
  go_wp2_with fail
  go_region_held3 (fun w' => w'.cell? ⟨w.heap.size, 0, none⟩ = some (.iface 101 (.pointer (some ⟨q, 0, none⟩))) ∧ w'.cell? ⟨w.heap.size, 2, none⟩ = some (.func (.func 39) #[] #[])) (first | exact ⟨s0, s2⟩ | go_keep)
    (first | (go_at_call 130; refine HR.out.mono ?_; rintro e w1 ⟨hb1, x, rfl, hx, ho⟩; obtain ⟨px, cx, rfl⟩ := hx.slice; have s0 : w1.cell? ⟨w.heap.size, 0, none⟩ = some (.iface 101 (.pointer (some ⟨q, 0, none⟩))) := (by rw [hb1.cell (by simp)]; go_simp); have s2 : w1.cell? ⟨w.heap.size, 2, none⟩ = some (.func (.func 39) #[] #[]) := (by rw [hb1.cell (by simp)]; go_simp)) | (go_at_call 39; refine (sameV _ _ s hx.x).mono ?_; rintro e w2 ⟨rfl, rfl⟩; have hb2 := Below.refl w1.heap.size w1) | (refine step_append_since _ w1 [] s (by rfl) _ _ _ (by rfl) _ (by rfl) ⟨⟨fun _ => False, OwnB.nil _ _, fun _ h => h.elim⟩, Below.refl _ _⟩ _ (by rfl) hx.srcB HL.out ?_; intro q1 c1 w3 hs3; have s0 : w3.cell? ⟨w.heap.size, 0, none⟩ = some (.iface 101 (.pointer (some ⟨q, 0, none⟩))) := (by rw [hs3.below.cell (by have := hb2.size; have := hb1.size; simp at this ⊢; omega)]; exact s0); have s2 : w3.cell? ⟨w.heap.size, 2, none⟩ = some (.func (.func 39) #[] #[]) := (by rw [hs3.below.cell (by have := hb2.size; have := hb1.size; simp at this ⊢; omega)]; exact s2)))
  go_wp2_with fail
  go_ret
  exact made_at HB.out hb1 hb2 hs3
end Go.Proofs.YtkidcgaogjlpaaaGreat
