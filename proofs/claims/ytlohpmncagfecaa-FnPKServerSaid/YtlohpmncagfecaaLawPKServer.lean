/- FnPKServer: a server's first message has the bytes of a version of the protocol, and what this version knows of it is read again, whatever stands behind it; it is not read if something is missing; for every message, every version, every bytes behind it and every place of the cut (longer strings, greater numbers, more than 9 bytes behind: nothing is claimed, as the law itself says). -/
import Derived.Test.YtlohpmncagfecaaRows
import Derived.Test.YtlohpmncagfecaaOpen
import Derived.Test.YtlohpmncagfecaaSrvL
import Derived.WalkKit
namespace Go.Proofs.Ytlohpmncagfecaa.fnPKServer
open Go.ChangeShapes Go.WideShapes Go.ChangeAt Go.RowKit
open Go.ChangeMaps (open_string shut_string)
theorem own : ownKnob Try.prog.godebug = none := by kernel_rfl
theorem laidOut : laidOutB Try.prog = true := by kernel_rfl
set_option maxRecDepth 100000 in
theorem lifted (os : Os) (started : os.Started) (H : Type) (enc : TypeId × Value → H) :
    ReturnsInHanded {} Try.checked os 8 .any (Rows.fnPKServerSpec.pre6 enc Try.prog Try.f8 Rows.fnPKServerRow.domain false) (Rows.fnPKServerSpec.post enc Try.prog Try.f8 false true false false) := by
  refine returnsInHanded_of_change_sized (C := Try.checked) own started (by kernel_rfl) Try.func8
    (ChangeSpec.witness6 (enc := enc) (C := Try.checked) false ⟨#[], #[.agg #[.string ByteArray.empty, .int .i64 0, .int .i64 0, .int .i64 0, .string ByteArray.empty, .string ByteArray.empty, .int .i64 0], .int .u16 0, .slice none 0 0, .int .u16 0], []⟩ 8 (by kernel_rfl) (by kernel_rfl) (by kernel_rfl) (by kernel_rfl)) ?_
  intro W base args ds gs before hval0 hW hcnd hsz0 _
  have hsz : (DataW.weightsEach Try.prog (Try.f8.params.toList ++ Rows.fnPKServerSpec.plain.varTypes Try.prog) (ds ++ gs)).all (· ≤ reachBytes) = true := hsz0
  have hval : ∀ (j : Nat) t v, Try.f8.params[j]? = some t → args[j]? = some v → Value.okWide Try.prog W .any base t v := hval0
  have hW' := hW
  obtain ⟨p, q, hA0, hV, rfl, hfz, hnd⟩ := hW
  have hA : DataW.TrodAll enc Try.prog W 0 (fun _ => true) true Try.f8.params.toList args.toList ds p := hA0
  rw [Try.params8] at hA hval hsz
  obtain ⟨v0, vs0, d0, ds0, p0, q0, hargs, rfl, rfl, h0, r0⟩ := trodAll_cons hA
  obtain ⟨v1, vs1, d1, ds1, p1, q1, rfl, rfl, rfl, h1, r1⟩ := trodAll_cons r0
  obtain ⟨v2, vs2, d2, ds2, p2, q2, rfl, rfl, rfl, h2, r2⟩ := trodAll_cons r1
  obtain ⟨v3, vs3, d3, ds3, p3, q3, rfl, rfl, rfl, h3, r3⟩ := trodAll_cons r2
  obtain ⟨rfl, rfl, rfl⟩ := trodAll_nil r3
  obtain rfl : args = #[v0, v1, v2, v3] := by cases args; simp_all
  obtain ⟨rfl, rfl⟩ := trodVars_none hV
  have k0 := h0
  have lt0 : ∀ x ∈ p0, x.block < W.heap.size := by obtain ⟨m, hm⟩ := k0; exact DataW.trod_lt m _ _ _ hm
  obtain ⟨cs0, m0, rfl, hc0, hf0⟩ := open_agg Try.underlying65 (by kernel_rfl) (by kernel_rfl) (hval 0 65 v0 rfl rfl) h0
  obtain ⟨e0_0, e0_1, e0_2, e0_3, e0_4, e0_5, e0_6, rfl⟩ : ∃ e0_0 e0_1 e0_2 e0_3 e0_4 e0_5 e0_6, cs0 = [e0_0, e0_1, e0_2, e0_3, e0_4, e0_5, e0_6] := by
    exact list7 (by rw [hc0]; kernel_rfl)
  obtain ⟨y0_0, t0_0⟩ := hf0 0 _ e0_0 rfl rfl
  obtain ⟨c0_0, s0_0, -, z0_0⟩ := DataW.trod_string Try.underlying9 t0_0
  obtain rfl := List.head_eq_of_cons_eq s0_0
  obtain ⟨y0_1, t0_1⟩ := hf0 1 _ e0_1 rfl rfl
  obtain ⟨c0_1, s0_1, -, z0_1⟩ := DataW.trod_int Try.underlying3 t0_1
  have b0_1 : -9223372036854775808 ≤ c0_1 ∧ c0_1 ≤ 9223372036854775807 := by have h := z0_1; simp [Lit.wf, IntKind.min, IntKind.max, IntKind.signed, IntKind.bits] at h; omega
  obtain rfl := List.head_eq_of_cons_eq s0_1
  obtain ⟨y0_2, t0_2⟩ := hf0 2 _ e0_2 rfl rfl
  obtain ⟨c0_2, s0_2, -, z0_2⟩ := DataW.trod_int Try.underlying3 t0_2
  have b0_2 : -9223372036854775808 ≤ c0_2 ∧ c0_2 ≤ 9223372036854775807 := by have h := z0_2; simp [Lit.wf, IntKind.min, IntKind.max, IntKind.signed, IntKind.bits] at h; omega
  obtain rfl := List.head_eq_of_cons_eq s0_2
  obtain ⟨y0_3, t0_3⟩ := hf0 3 _ e0_3 rfl rfl
  obtain ⟨c0_3, s0_3, -, z0_3⟩ := DataW.trod_int Try.underlying3 t0_3
  have b0_3 : -9223372036854775808 ≤ c0_3 ∧ c0_3 ≤ 9223372036854775807 := by have h := z0_3; simp [Lit.wf, IntKind.min, IntKind.max, IntKind.signed, IntKind.bits] at h; omega
  obtain rfl := List.head_eq_of_cons_eq s0_3
  obtain ⟨y0_4, t0_4⟩ := hf0 4 _ e0_4 rfl rfl
  obtain ⟨c0_4, s0_4, -, z0_4⟩ := DataW.trod_string Try.underlying9 t0_4
  obtain rfl := List.head_eq_of_cons_eq s0_4
  obtain ⟨y0_5, t0_5⟩ := hf0 5 _ e0_5 rfl rfl
  obtain ⟨c0_5, s0_5, -, z0_5⟩ := DataW.trod_string Try.underlying9 t0_5
  obtain rfl := List.head_eq_of_cons_eq s0_5
  obtain ⟨y0_6, t0_6⟩ := hf0 6 _ e0_6 rfl rfl
  obtain ⟨c0_6, s0_6, -, z0_6⟩ := DataW.trod_int Try.underlying3 t0_6
  have b0_6 : -9223372036854775808 ≤ c0_6 ∧ c0_6 ≤ 9223372036854775807 := by have h := z0_6; simp [Lit.wf, IntKind.min, IntKind.max, IntKind.signed, IntKind.bits] at h; omega
  obtain rfl := List.head_eq_of_cons_eq s0_6
  obtain ⟨a1, rfl, rfl, rfl, w1⟩ := open_int Try.underlying25 (hval 1 25 v1 rfl rfl) h1
  have b1 : 0 ≤ a1 ∧ a1 ≤ 65535 := by have h := w1; simp [Lit.wf, IntKind.min, IntKind.max, IntKind.signed, IntKind.bits] at h; omega
  obtain ⟨n1, rfl⟩ := Int.eq_ofNat_of_zero_le b1.1
  have k2 := h2
  have lt2 : ∀ x ∈ p2, x.block < W.heap.size := by obtain ⟨m, hm⟩ := k2; exact DataW.trod_lt m _ _ _ hm
  obtain ⟨l2, hb2, hg2, hl2⟩ := open_bytes (hval 2 24 v2 rfl rfl) h2
  obtain ⟨a3, rfl, rfl, rfl, w3⟩ := open_int Try.underlying25 (hval 3 25 v3 rfl rfl) h3
  have b3 : 0 ≤ a3 ∧ a3 ≤ 65535 := by have h := w3; simp [Lit.wf, IntKind.min, IntKind.max, IntKind.signed, IntKind.bits] at h; omega
  obtain ⟨n3, rfl⟩ := Int.eq_ofNat_of_zero_le b3.1
  clear hA0 hval0 hsz0 hsz
  refine (lawServer W c0_0 c0_4 c0_5 c0_1 c0_2 c0_3 c0_6 v2 l2 n1 n3 hb2 (by unfold maxLen at hl2; omega) (by omega) (by omega)).mono fun e W' ⟨he, bel⟩ => ?_
  subst he
  exact ⟨_, rfl, _, _, _, [], _, [], hW', trodAll_mk1 (shut_bool Try.underlying4 _), (trodAll_cons_mk (Below.trod laidOut (by kernel_rfl) (of_decide_eq_true (by kernel_rfl)) k0 bel lt0) (trodAll_cons_mk (shut_int Try.underlying25 w1) (trodAll_cons_mk (Below.trod laidOut (by kernel_rfl) (of_decide_eq_true (by kernel_rfl)) k2 bel lt2) (trodAll_cons_mk (shut_int Try.underlying25 w3) trodAll_mk0)))), rfl, bel.frame _, fun h => by cases h⟩
theorem over : Rows.fnPKServerRow.holds Try.pinned (OpenSpec.ofChange Rows.fnPKServerSpec) :=
  OpenClaim.holds_of_wide 8 Try.f8 rfl rfl rfl rfl rfl rfl rfl ⟨rfl, rfl, rfl, rfl, rfl⟩ rfl rfl rfl rfl rfl (by kernel_rfl) Try.func8 (by kernel_rfl)
    (of_decide_eq_true (by kernel_rfl)) (by unfold Func.isWrapper; first | (rw [if_pos (by decide +kernel)]; kernel_rfl) | (rw [if_neg (by decide +kernel)]; exact ⟨rfl, rfl⟩))
    (fun os started H enc _ => lifted os started H enc)
end Go.Proofs.Ytlohpmncagfecaa.fnPKServer
namespace Go.Proofs.Ytlohpmncagfecaa
theorem fnPKServer_holds : Rows.FnPKServerSaid := fnPKServer.over
end Go.Proofs.Ytlohpmncagfecaa
