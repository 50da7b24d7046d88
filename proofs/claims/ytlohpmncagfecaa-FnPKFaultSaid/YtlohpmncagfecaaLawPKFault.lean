/- FnPKFault: an exception has the bytes of the protocol, is read again whatever stands behind it, and is not read if something is missing; for every exception, every bytes behind it and every place of the cut (strings longer than 100 bytes, a code below 0 or from 2^31 on, more than 9 bytes behind: nothing is claimed, as the law itself says). -/
import Derived.Test.YtlohpmncagfecaaRows
import Derived.Test.YtlohpmncagfecaaOpen
import Derived.Test.YtlohpmncagfecaaFaultL
import Derived.WalkKit
namespace Go.Proofs.Ytlohpmncagfecaa.fnPKFault
open Go.ChangeShapes Go.WideShapes Go.ChangeAt Go.RowKit
open Go.ChangeMaps (open_string shut_string)
theorem own : ownKnob Try.prog.godebug = none := by kernel_rfl
theorem laidOut : laidOutB Try.prog = true := by kernel_rfl
set_option maxRecDepth 100000 in
theorem lifted (os : Os) (started : os.Started) (H : Type) (enc : TypeId × Value → H) :
    ReturnsInHanded {} Try.checked os 7 .any (Rows.fnPKFaultSpec.pre6 enc Try.prog Try.f7 Rows.fnPKFaultRow.domain false) (Rows.fnPKFaultSpec.post enc Try.prog Try.f7 false true false false) := by
  refine returnsInHanded_of_change_sized (C := Try.checked) own started (by kernel_rfl) Try.func7
    (ChangeSpec.witness6 (enc := enc) (C := Try.checked) false ⟨#[], #[.agg #[.int .i64 0, .string ByteArray.empty, .string ByteArray.empty, .string ByteArray.empty], .slice none 0 0, .int .u16 0], []⟩ 8 (by kernel_rfl) (by kernel_rfl) (by kernel_rfl) (by kernel_rfl)) ?_
  intro W base args ds gs before hval0 hW hcnd hsz0 _
  have hsz : (DataW.weightsEach Try.prog (Try.f7.params.toList ++ Rows.fnPKFaultSpec.plain.varTypes Try.prog) (ds ++ gs)).all (· ≤ reachBytes) = true := hsz0
  have hval : ∀ (j : Nat) t v, Try.f7.params[j]? = some t → args[j]? = some v → Value.okWide Try.prog W .any base t v := hval0
  have hW' := hW
  obtain ⟨p, q, hA0, hV, rfl, hfz, hnd⟩ := hW
  have hA : DataW.TrodAll enc Try.prog W 0 (fun _ => true) true Try.f7.params.toList args.toList ds p := hA0
  rw [Try.params7] at hA hval hsz
  obtain ⟨v0, vs0, d0, ds0, p0, q0, hargs, rfl, rfl, h0, r0⟩ := trodAll_cons hA
  obtain ⟨v1, vs1, d1, ds1, p1, q1, rfl, rfl, rfl, h1, r1⟩ := trodAll_cons r0
  obtain ⟨v2, vs2, d2, ds2, p2, q2, rfl, rfl, rfl, h2, r2⟩ := trodAll_cons r1
  obtain ⟨rfl, rfl, rfl⟩ := trodAll_nil r2
  obtain rfl : args = #[v0, v1, v2] := by cases args; simp_all
  obtain ⟨rfl, rfl⟩ := trodVars_none hV
  have k0 := h0
  have lt0 : ∀ x ∈ p0, x.block < W.heap.size := by obtain ⟨m, hm⟩ := k0; exact DataW.trod_lt m _ _ _ hm
  obtain ⟨cs0, m0, rfl, hc0, hf0⟩ := open_agg Try.underlying57 (by kernel_rfl) (by kernel_rfl) (hval 0 57 v0 rfl rfl) h0
  obtain ⟨e0_0, e0_1, e0_2, e0_3, rfl⟩ : ∃ e0_0 e0_1 e0_2 e0_3, cs0 = [e0_0, e0_1, e0_2, e0_3] := by
    exact list4 (by rw [hc0]; kernel_rfl)
  obtain ⟨y0_0, t0_0⟩ := hf0 0 _ e0_0 rfl rfl
  obtain ⟨c0_0, s0_0, -, z0_0⟩ := DataW.trod_int Try.underlying3 t0_0
  have b0_0 : -9223372036854775808 ≤ c0_0 ∧ c0_0 ≤ 9223372036854775807 := by have h := z0_0; simp [Lit.wf, IntKind.min, IntKind.max, IntKind.signed, IntKind.bits] at h; omega
  obtain rfl := List.head_eq_of_cons_eq s0_0
  obtain ⟨y0_1, t0_1⟩ := hf0 1 _ e0_1 rfl rfl
  obtain ⟨c0_1, s0_1, -, z0_1⟩ := DataW.trod_string Try.underlying9 t0_1
  obtain rfl := List.head_eq_of_cons_eq s0_1
  obtain ⟨y0_2, t0_2⟩ := hf0 2 _ e0_2 rfl rfl
  obtain ⟨c0_2, s0_2, -, z0_2⟩ := DataW.trod_string Try.underlying9 t0_2
  obtain rfl := List.head_eq_of_cons_eq s0_2
  obtain ⟨y0_3, t0_3⟩ := hf0 3 _ e0_3 rfl rfl
  obtain ⟨c0_3, s0_3, -, z0_3⟩ := DataW.trod_string Try.underlying9 t0_3
  obtain rfl := List.head_eq_of_cons_eq s0_3
  have k1 := h1
  have lt1 : ∀ x ∈ p1, x.block < W.heap.size := by obtain ⟨m, hm⟩ := k1; exact DataW.trod_lt m _ _ _ hm
  obtain ⟨l1, hb1, hg1, hl1⟩ := open_bytes (hval 1 24 v1 rfl rfl) h1
  obtain ⟨a2, rfl, rfl, rfl, w2⟩ := open_int Try.underlying25 (hval 2 25 v2 rfl rfl) h2
  have b2 : 0 ≤ a2 ∧ a2 ≤ 65535 := by have h := w2; simp [Lit.wf, IntKind.min, IntKind.max, IntKind.signed, IntKind.bits] at h; omega
  obtain ⟨n2, rfl⟩ := Int.eq_ofNat_of_zero_le b2.1
  clear hA0 hval0 hsz0 hsz
  refine (lawFault W c0_0 c0_1 c0_2 c0_3 v1 l1 n2 hb1 (by unfold maxLen at hl1; omega) (by omega)).mono fun e W' ⟨he, bel⟩ => ?_
  subst he
  exact ⟨_, rfl, _, _, _, [], _, [], hW', trodAll_mk1 (shut_bool Try.underlying4 _), (trodAll_cons_mk (Below.trod laidOut (by kernel_rfl) (of_decide_eq_true (by kernel_rfl)) k0 bel lt0) (trodAll_cons_mk (Below.trod laidOut (by kernel_rfl) (of_decide_eq_true (by kernel_rfl)) k1 bel lt1) (trodAll_cons_mk (shut_int Try.underlying25 w2) trodAll_mk0))), rfl, bel.frame _, fun h => by cases h⟩
theorem over : Rows.fnPKFaultRow.holds Try.pinned (OpenSpec.ofChange Rows.fnPKFaultSpec) :=
  OpenClaim.holds_of_wide 7 Try.f7 rfl rfl rfl rfl rfl rfl rfl ⟨rfl, rfl, rfl, rfl, rfl⟩ rfl rfl rfl rfl rfl (by kernel_rfl) Try.func7 (by kernel_rfl)
    (of_decide_eq_true (by kernel_rfl)) (by unfold Func.isWrapper; first | (rw [if_pos (by decide +kernel)]; kernel_rfl) | (rw [if_neg (by decide +kernel)]; exact ⟨rfl, rfl⟩))
    (fun os started H enc _ => lifted os started H enc)
end Go.Proofs.Ytlohpmncagfecaa.fnPKFault
namespace Go.Proofs.Ytlohpmncagfecaa
theorem fnPKFault_holds : Rows.FnPKFaultSaid := fnPKFault.over
end Go.Proofs.Ytlohpmncagfecaa
