/- impl.STType; FnSTTypes. -/
import Derived.Test.YtkidcgaogjlpaaaGreatTyA
import Derived.Test.YtkidcgaogjlpaaaGreatDec
import Derived.Test.YtkidcgaogjlpaaaGreatCt3
import Derived.Shelf.Strconv.Itoa3
namespace Go.Proofs.YtkidcgaogjlpaaaGreat
open Go.RowKit Go.Shelf
set_option linter.unusedVariables false
set_option linter.unusedSimpArgs false

theorem notAgg_iface : True := trivial
theorem rowE0 : MRow 90 "Type" [⟨90, 0, false⟩] none := mRow_of (by kernel_rfl)
theorem rowI0 : MRow 81 "Type" [] (some (87, false)) := mRow_of (by kernel_rfl)
theorem typ0 (w : World) (s : Int) : (method 383 90 (colV0 w) "Type").run Tryz.prog (colW0 w s) = .ok (87, .agg #[.slice none 0 0, .slice none 0 0]) (colW0 w s) := by
  unfold colV0
  rw [meth_emb 382 rowE0 Tryz.underlying90 rfl rfl (fun _ => by kernel_rfl) _ _ _ rfl]
  exact meth_val 381 rowI0 Tryz.underlying81 _ _ _ (by unfold colW0; go_simp)

theorem rowE1 : MRow 97 "Type" [⟨97, 0, false⟩] none := mRow_of (by kernel_rfl)
theorem rowI1 : MRow 91 "Type" [⟨93, 0, true⟩] (some (87, false)) := mRow_of (by kernel_rfl)
theorem typ1 (w : World) (s : Int) : (method 383 97 (colV1 w) "Type").run Tryz.prog (colW1 w s) = .ok (87, .agg #[.slice none 0 0, .slice none 0 0]) (colW1 w s) := by
  unfold colV1
  rw [meth_emb 382 rowE1 Tryz.underlying97 rfl rfl (fun _ => by kernel_rfl) _ _ _ rfl]
  exact meth_in_val 381 rowI1 Tryz.underlying93 rfl Tryz.underlying84 (by intro e h; cases h) _ (fun _ => by kernel_rfl) _ _ (by unfold colW1; go_simp)

theorem rowE2 : MRow 90 "Type" [⟨90, 0, false⟩] none := mRow_of (by kernel_rfl)
theorem rowI2 : MRow 98 "Type" [] (some (123, false)) := mRow_of (by kernel_rfl)
theorem typ2 (w : World) (s : Int) : (method 383 90 (colV2 w) "Type").run Tryz.prog (colW2 w s) = .ok (123, .agg #[.slice none 0 0, .slice none 0 0]) (colW2 w s) := by
  unfold colV2
  rw [meth_emb 382 rowE2 Tryz.underlying90 rfl rfl (fun _ => by kernel_rfl) _ _ _ rfl]
  exact meth_val 381 rowI2 Tryz.underlying98 _ _ _ (by unfold colW2; go_simp)

theorem rowE3 : MRow 97 "Type" [⟨97, 0, false⟩] none := mRow_of (by kernel_rfl)
theorem rowI3 : MRow 101 "Type" [⟨103, 0, true⟩] (some (123, false)) := mRow_of (by kernel_rfl)
theorem typ3 (w : World) (s : Int) : (method 383 97 (colV3 w) "Type").run Tryz.prog (colW3 w s) = .ok (123, .agg #[.slice none 0 0, .slice none 0 0]) (colW3 w s) := by
  unfold colV3
  rw [meth_emb 382 rowE3 Tryz.underlying97 rfl rfl (fun _ => by kernel_rfl) _ _ _ rfl]
  exact meth_in_val 381 rowI3 Tryz.underlying103 rfl Tryz.underlying100 (by intro e h; cases h) _ (fun _ => by kernel_rfl) _ _ (by unfold colW3; go_simp)

theorem rowE4 : MRow 97 "Type" [⟨97, 0, false⟩] none := mRow_of (by kernel_rfl)
theorem rowI4 : MRow 104 "Type" [] (some (139, false)) := mRow_of (by kernel_rfl)
theorem typ4 (w : World) (s : Int) : (method 383 97 (colV4 w) "Type").run Tryz.prog (colW4 w s) = .ok (139, .agg #[.slice none 0 0, .int .i64 s]) (colW4 w s) := by
  unfold colV4
  rw [meth_emb 382 rowE4 Tryz.underlying97 rfl rfl (fun _ => by kernel_rfl) _ _ _ rfl]
  exact meth_val 381 rowI4 Tryz.underlying104 _ _ _ (by unfold colW4; go_simp)

theorem rowE5 : MRow 116 "Type" [⟨116, 0, false⟩] none := mRow_of (by kernel_rfl)
theorem rowI5 : MRow 107 "Type" [] (some (162, false)) := mRow_of (by kernel_rfl)
theorem typ5 (w : World) (s : Int) : (method 383 116 (colV5 w) "Type").run Tryz.prog (colW5 w s) = .ok (162, .slice none 0 0) (colW5 w s) := by
  unfold colV5
  rw [meth_emb 382 rowE5 Tryz.underlying116 rfl rfl (fun _ => by kernel_rfl) _ _ _ rfl]
  exact meth_val 381 rowI5 Tryz.underlying107 _ _ _ (by unfold colW5; go_simp)

theorem rowE6 : MRow 126 "Type" [⟨126, 0, false⟩] none := mRow_of (by kernel_rfl)
theorem rowI6 : MRow 117 "Type" [] (some (176, false)) := mRow_of (by kernel_rfl)
theorem typ6 (w : World) (s : Int) : (method 383 126 (colV6 w) "Type").run Tryz.prog (colW6 w s) = .ok (176, .slice none 0 0) (colW6 w s) := by
  unfold colV6
  rw [meth_emb 382 rowE6 Tryz.underlying126 rfl rfl (fun _ => by kernel_rfl) _ _ _ rfl]
  exact meth_val 381 rowI6 Tryz.underlying117 _ _ _ (by unfold colW6; go_simp)

theorem rowE7 : MRow 136 "Type" [⟨136, 0, false⟩] none := mRow_of (by kernel_rfl)
theorem rowI7 : MRow 127 "Type" [] (some (189, false)) := mRow_of (by kernel_rfl)
theorem typ7 (w : World) (s : Int) : (method 383 136 (colV7 w) "Type").run Tryz.prog (colW7 w s) = .ok (189, .slice none 0 0) (colW7 w s) := by
  unfold colV7
  rw [meth_emb 382 rowE7 Tryz.underlying136 rfl rfl (fun _ => by kernel_rfl) _ _ _ rfl]
  exact meth_val 381 rowI7 Tryz.underlying127 _ _ _ (by unfold colW7; go_simp)

theorem rowE8 : MRow 146 "Type" [⟨146, 0, false⟩] none := mRow_of (by kernel_rfl)
theorem rowI8 : MRow 137 "Type" [] (some (202, false)) := mRow_of (by kernel_rfl)
theorem typ8 (w : World) (s : Int) : (method 383 146 (colV8 w) "Type").run Tryz.prog (colW8 w s) = .ok (202, .slice none 0 0) (colW8 w s) := by
  unfold colV8
  rw [meth_emb 382 rowE8 Tryz.underlying146 rfl rfl (fun _ => by kernel_rfl) _ _ _ rfl]
  exact meth_val 381 rowI8 Tryz.underlying137 _ _ _ (by unfold colW8; go_simp)

theorem rowE9 : MRow 156 "Type" [⟨156, 0, false⟩] none := mRow_of (by kernel_rfl)
theorem rowI9 : MRow 147 "Type" [] (some (215, false)) := mRow_of (by kernel_rfl)
theorem typ9 (w : World) (s : Int) : (method 383 156 (colV9 w) "Type").run Tryz.prog (colW9 w s) = .ok (215, .slice none 0 0) (colW9 w s) := by
  unfold colV9
  rw [meth_emb 382 rowE9 Tryz.underlying156 rfl rfl (fun _ => by kernel_rfl) _ _ _ rfl]
  exact meth_val 381 rowI9 Tryz.underlying147 _ _ _ (by unfold colW9; go_simp)

theorem rowE10 : MRow 166 "Type" [⟨166, 0, false⟩] none := mRow_of (by kernel_rfl)
theorem rowI10 : MRow 157 "Type" [] (some (228, false)) := mRow_of (by kernel_rfl)
theorem typ10 (w : World) (s : Int) : (method 383 166 (colV10 w) "Type").run Tryz.prog (colW10 w s) = .ok (228, .slice none 0 0) (colW10 w s) := by
  unfold colV10
  rw [meth_emb 382 rowE10 Tryz.underlying166 rfl rfl (fun _ => by kernel_rfl) _ _ _ rfl]
  exact meth_val 381 rowI10 Tryz.underlying157 _ _ _ (by unfold colW10; go_simp)

theorem rowE11 : MRow 176 "Type" [⟨176, 0, false⟩] none := mRow_of (by kernel_rfl)
theorem rowI11 : MRow 167 "Type" [] (some (241, false)) := mRow_of (by kernel_rfl)
theorem typ11 (w : World) (s : Int) : (method 383 176 (colV11 w) "Type").run Tryz.prog (colW11 w s) = .ok (241, .slice none 0 0) (colW11 w s) := by
  unfold colV11
  rw [meth_emb 382 rowE11 Tryz.underlying176 rfl rfl (fun _ => by kernel_rfl) _ _ _ rfl]
  exact meth_val 381 rowI11 Tryz.underlying167 _ _ _ (by unfold colW11; go_simp)

end Go.Proofs.YtkidcgaogjlpaaaGreat
