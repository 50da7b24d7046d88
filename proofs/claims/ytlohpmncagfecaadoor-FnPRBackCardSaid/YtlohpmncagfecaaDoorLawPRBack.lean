/- FnPRBack: what was put is read again; for every list of values (other kinds of values, longer strings, more than 30 values, lengths below 0: nothing is claimed, as the law itself says); the table of widths holds what the program lays. -/
import Derived.Test.YtlohpmncagfecaaDoorRows
import Derived.Test.YtlohpmncagfecaaDoorOpen
import Derived.Test.YtlohpmncagfecaaDoorBackL
import Derived.Test.YtlohpmncagfecaaDoorOpenPr
import Derived.WalkKit
import Derived.LaidMore
import Derived.Stop.Joined
import Derived.Lib.LaidTab
import Derived.ChangeVars
import Derived.OpenVars
import Derived.SevenTiedAt
import Derived.Test.YtlohpmncagfecaaDoorCards
import Derived.Test.YtlohpmncagfecaaDoorTie
namespace Go.Proofs.YtlohpmncagfecaaDoor.fnPRBack
open Go.ChangeShapes Go.WideShapes Go.ChangeAt Go.RowKit
open Go.ChangeMaps (open_string shut_string)
theorem own : ownKnob Tryd.prog.godebug = none := by kernel_rfl
theorem gVar : Tryd.prog.globalNamed "given.example/pub-clapboard/spec.prWidths" = some (0) := by kernel_rfl
theorem gType : (Tryd.prog.globals[0]?).map (·.type) = some 54 := by kernel_rfl
theorem door_met (os : Os) (args : Array Value) : laidMetH Tryd.prog [("given.example/pub-clapboard/spec.prWidths", Rows.laid_given_example_pub_clapboard_spec_prWidths)] ((World.doorLaid Tryd.prog 14 os).forCall (fun _ _ => 0) ⟨#[], args, []⟩).memory :=
  laidMetH_of_parts3 (fuel := 8) (laidMet_of_run' 8 (by kernel_rfl) (by kernel_rfl)) (by kernel_rfl) (by kernel_rfl)
theorem tab_of {W : World} (h : laidMetH Tryd.prog [("given.example/pub-clapboard/spec.prWidths", Rows.laid_given_example_pub_clapboard_spec_prWidths)] W) : Lib.TabIs Tryd.prog W "given.example/pub-clapboard/spec.prWidths" .i64 [0, 1, 1, 1, 2, 4, 8, 1, 2, 4, 8, 4, 8, 16, 16, 0, 0, 0, 0, 0] := by
  rw [MakeChecks.laidMetH_plain _ _ _ (by kernel_rfl)] at h
  exact Lib.tabIs_of_head gVar gType Tryd.underlying54 Tryd.underlying3 (by kernel_rfl) (by kernel_rfl) h
theorem laidOut : laidOutB Tryd.prog = true := by kernel_rfl
set_option maxRecDepth 100000 in
theorem lifted (os : Os) (started : os.Started) (H : Type) (enc : TypeId × Value → H) :
    ReturnsInHanded {} Tryd.checked os 4 .any (fun w args => (Rows.fnPRBackSpec.pre enc Tryd.prog Tryd.f4 [] false w args ∧ laidMetH Tryd.prog [("given.example/pub-clapboard/spec.prWidths", Rows.laid_given_example_pub_clapboard_spec_prWidths)] w) ∧ sizedMet enc Tryd.prog Tryd.f4 (OpenSpec.ofChange Rows.fnPRBackSpec) false w args) (Rows.fnPRBackSpec.post enc Tryd.prog Tryd.f4 false true false false) := by
  refine returnsInHanded_of_change_and (C := Tryd.checked) (X := fun w _ => laidMetH Tryd.prog [("given.example/pub-clapboard/spec.prWidths", Rows.laid_given_example_pub_clapboard_spec_prWidths)] w) (fun _ _ _ hh h => h.of_heap hh) own started (by kernel_rfl) Tryd.func4
    (ChangeSpec.witness_shaped (enc := enc) (C := Tryd.checked) (os := os) (X := fun w _ => laidMetH Tryd.prog [("given.example/pub-clapboard/spec.prWidths", Rows.laid_given_example_pub_clapboard_spec_prWidths)] w) false (World.doorLaid Tryd.prog 14 os) #[.slice none 0 0] 8 rfl (World.shaped_of_RefB (by kernel_rfl) (by kernel_rfl)) (by kernel_rfl) (by kernel_rfl) (by kernel_rfl) (door_met os _)) ?_
  intro W base args ds gs before hval0 hW hcnd hsz0 hL _
  have hT := tab_of hL
  have hsz : (DataW.weightsEach Tryd.prog (Tryd.f4.params.toList ++ Rows.fnPRBackSpec.plain.varTypes Tryd.prog) (ds ++ gs)).all (· ≤ reachBytes) = true := hsz0
  have hval : ∀ (j : Nat) t v, Tryd.f4.params[j]? = some t → args[j]? = some v → Value.okWide Tryd.prog W .any base t v := hval0
  have hW' := hW
  obtain ⟨p, q, hA0, hV, rfl, hfz, hnd⟩ := hW
  have hA : DataW.TrodAll enc Tryd.prog W 0 (fun _ => true) true Tryd.f4.params.toList args.toList ds p := hA0
  rw [Tryd.params4] at hA hval hsz
  obtain ⟨v0, vs0, d0, ds0, p0, q0, hargs, rfl, rfl, h0, r0⟩ := trodAll_cons hA
  obtain ⟨rfl, rfl, rfl⟩ := trodAll_nil r0
  obtain rfl : args = #[v0] := by cases args; simp_all
  have hbv := fun (W' : World) (hb : Below W.heap.size W W') => hb.trodVars laidOut (by kernel_rfl) hV
  obtain ⟨g9, t9, cs9, f9, dv9, p9, rfl, -, -, -, -, rfl⟩ := trodVars_one hV
  have k0 := h0
  have lt0 : ∀ x ∈ p0, x.block < W.heap.size := by obtain ⟨m, hm⟩ := k0; exact DataW.trod_lt m _ _ _ hm
  obtain ⟨l0, hp0, hl0, hc0⟩ := open_prims (fun _ => rfl) (hval 0 22 v0 rfl rfl) h0
  clear hA0 hval0 hsz0 hsz
  refine (back W (wid_of hT) W.heap.size v0 l0 hp0 (Nat.le_refl _) (by unfold maxLen at hl0; omega)).mono fun e W' ⟨he, bel⟩ => ?_
  subst he
  exact ⟨_, rfl, _, _, _, [], _, _, hW', trodAll_mk1 (shut_bool Tryd.underlying4 _), (trodAll_cons_mk (Below.trod laidOut (by kernel_rfl) (of_decide_eq_true (by kernel_rfl)) k0 bel lt0) trodAll_mk0), hbv _ bel, bel.frame _, fun h => by cases h⟩
theorem over : Rows.fnPRBackRow.holds Tryd.pinned (OpenSpec.ofChange Rows.fnPRBackSpec) :=
  OpenClaim.holds_of_wide 4 Tryd.f4 rfl rfl rfl rfl rfl rfl rfl ⟨rfl, rfl, rfl, rfl, rfl⟩ rfl rfl rfl rfl rfl (by kernel_rfl) Tryd.func4 (by kernel_rfl)
    (of_decide_eq_true (by kernel_rfl)) (by unfold Func.isWrapper; first | (rw [if_pos (by decide +kernel)]; kernel_rfl) | (rw [if_neg (by decide +kernel)]; exact ⟨rfl, rfl⟩))
    (fun os started H enc _ => lifted os started H enc)
end Go.Proofs.YtlohpmncagfecaaDoor.fnPRBack
namespace Go.Proofs.YtlohpmncagfecaaDoor
theorem fnPRBack_row : Rows.FnPRBackSaid := fnPRBack.over
theorem fnPRBack_holds : Rows.FnPRBackCardSaid :=
  Claim7.holds_tied_plain_at .later [] [.data] true (true, "1d8e9f6cef17e5e59f5a7407096b2e3af4a3e9e368a9a8745f92c1cb1b1dee82") false
    fnPRBack_row (fun _ h => by cases h) (by kernel_rfl) (fun _ h => by cases h) fnPRBack_row_tie rfl ⟨rfl, rfl⟩ (by kernel_rfl) rfl
    (fun f fn hf hfn => by
      obtain rfl : f = 4 := Option.some.inj ((show Tryd.prog.funcNamed "given.example/pub-clapboard/laws.FnPRBack" = some 4 by kernel_rfl).symm.trans hf) |>.symm
      obtain rfl : fn = Tryd.f4 := (Option.some.inj (Tryd.func4.symm.trans hfn)).symm
      exact ⟨by kernel_rfl, fun j t ht => by
        rw [Tryd.params4] at ht
        have hm : t ∈ [22] := by have := Array.mem_of_getElem? ht; simpa using this
        have hall : ([22].all fun u => !Tryd.prog.wantsStandIn u) = true := by kernel_rfl
        exact (show Tryd.prog.wantsStandIn t = false by simpa using List.all_eq_true.1 hall t hm)⟩)
    (by kernel_rfl)
end Go.Proofs.YtlohpmncagfecaaDoor
