/- proto.ColFixedStr.DecodeColumn. -/
import Derived.Test.YtkidcgaogjlpaaaGreatFix
import Derived.Test.YtkidcgaogjlpaaaGreatInto
import Derived.Deep.QuietTactic
import Derived.BigQuiet
namespace Go.Proofs.YtkidcgaogjlpaaaGreat
open Go.RowKit
set_option linter.unusedVariables false
set_option linter.unusedSimpArgs false

def DecF (w : World) (Fr D F : Nat → Prop) (r q N : Nat) (ok : Bool) (flat : List UInt8) (tail : List UInt8) (e : Ending) (w' : World) : Prop :=
  (ok = true → e = .returned .nilIface ∧ ∃ Fr' cur F', RdAt w' Fr' D r tail cur ∧ FixCol w' F' q N flat ∧ Upd w w' (fun k => Fr k ∨ F k) (fun k => Fr' k ∨ F' k) ∧ ∀ k, F' k → ¬ Fr' k ∧ ¬ D k) ∧
  (ok = false → (∃ a, e = .returned (.iface 221 (.pointer (some a)))) ∧ Chg (fun k => Fr k ∨ F k) w w')

theorem step_zerosF {ops : Array Oper} {o : Oper} {a : Act} {K : Act → World → Prop} {Q : Exit → Act → World → Prop} {Z : Prop} (hgd : o.guard = none) (w : World) (q : Nat) (v : Value) (N m : Nat) (xs : List Value) (hX : FixS w q v N m xs) (s x : Operand)
    (ho : o.op = .call { callee := .builtin .append, args := #[s, x], argTypes := #[34, 3] }) (hs : a.eval s = v) (k : Nat) (hx : a.eval x = .int .i64 k) (hl : m + k ≤ 140737488355328)
    (h : ∀ p c w1, GrewF w 106 5 1 q v (.slice p (m + k) c) (.int .i64 N) (m + k) (xs ++ u8s (List.replicate k 0)) w1 → K (a.put o.dst (.slice p (m + k) c)) w1) : if Region.wanted o (yielded ops a.tmps) = true then Oper.wp Tryz.prog o a w K Q else Z := by
  rw [if_pos (by simp [Region.wanted, hgd])]
  obtain ⟨p, c, w', F', hr, hown, hu⟩ := run_append_zeros elemB w (fun k => v.ownBlock = some k) v m xs ⟨hX.own, fun g hg => hg⟩ 3 o.type Tryz.underlying3 (.int .u8 0) zeroB2 (by simp [Value.cells, Value.oneCell']) k hl (by omega)
  rw [zeroCells_u8] at hown
  unfold Oper.wp execOp
  simp only [ho, resolve, invoke, builtin, Sem.run_bind, Sem.run_pure, Result.andThen_ok, List.map_toArray, List.map_cons, List.map_nil, hs, hx, hr]
  exact h p c w' (hX.grew hown hu)

theorem FixX.drewN {w : World} {T E : TypeId} {size q : Nat} {v y : Value} {n : Nat} {xs : List Value} (h : FixX w T E size q v y n xs) (k : Nat) : FixX (w.drewN k) T E size q v y n xs := ⟨h.at_, h.own, h.ne⟩

theorem decF_done {w W w6 : World} {Fr D F : Nat → Prop} {r q N : Nat} {v0 v1 : Value} {flat tail cur : List UInt8} (hX : FixS w q v0 N 0 []) (hFX : ∀ k, FpF q v0 k → F k) (hF : ∀ k, F k → ¬ Fr k ∧ ¬ D k) (hR : In Fr w ∧ In D w ∧ Fr r) (hU : Upd w W (FpF q v0) (FpF q v1))
    (hC : Chg (fun k => k = r ∨ v1.ownBlock = some k) W w6) (hR6 : RdAt w6 Fr D r tail cur) (hX6 : FixS w6 q v1 N flat.length (u8s flat)) : DecF w Fr D F r q N true flat tail (.returned .nilIface) w6 := by
  have hs := hU.chg.size
  have hs6 := hC.size
  refine ⟨fun _ => ⟨rfl, Fr, cur, FpF q v1, hR6, ⟨v1, hX6, fun k hk => hk⟩, ⟨?_, fun k hk => ?_⟩, fun k hk => ?_⟩, fun h => by simp at h⟩
  · refine (hU.chg.mono (G := fun k => Fr k ∨ F k) fun k _ h => .inr (hFX k h)).trans hC fun k hk h => ?_
    rcases h with rfl | h
    · exact .inl hR.2.2
    · rcases hU.new k (.inr h) with h | h
      · exact .inr (hFX k h)
      · omega
  · rcases hk with h | h
    · exact .inl (.inl h)
    · rcases hU.new k h with h | h
      · exact .inl (.inr (hFX k h))
      · exact .inr ⟨h.1, by omega⟩
  · rcases hU.new k hk with h | h
    · exact hF k (hFX k h)
    · exact ⟨fun e => by have := hR.1 k e; omega, fun e => by have := hR.2.1 k e; omega⟩

set_option maxRecDepth 100000 in
theorem fixDecodeS (w : World) (Fr D F : Nat → Prop) (r q N n : Nat) (flat tail rest cur : List UInt8) (ok : Bool) (hR : RdAt w Fr D r rest cur) (hX : FixCol w F q N []) (hF : ∀ k, F k → ¬ Fr k ∧ ¬ D k)
    (hrest : (ok = true ∧ rest = flat ++ tail) ∨ (ok = false ∧ rest.length < flat.length)) (hN : 0 < N) (hn : flat.length = n * N) (hbig : rest.length ≤ 1000000000) (hfl : flat.length ≤ 1000000000) :
    Calls Tryz.prog 134 #[.pointer (some ⟨q, 0, none⟩), .pointer (some ⟨r, 0, none⟩), .int .i64 n] w (DecF w Fr D F r q N ok flat tail) := by
  obtain ⟨v0, hX, hFX⟩ := hX
  obtain ⟨c0, c1, cf, hlt⟩ := hX.cell
  obtain ⟨p0, k0, rfl⟩ := hX.slice
  simp only [List.length_nil] at hX c0 hFX
  obtain ⟨t, ht⟩ : ∃ t, t = n * N := ⟨_, rfl⟩
  have hmI : (n : Int) * (N : Int) = (t : Int) := by rw [ht]; simp
  have hmw : IntKind.i64.wrap (t : Int) = (t : Int) := by rw [IntKind.wrap_i64]; omega
  rw [← ht] at hn
  have hL := Lib.hid (fun n => rdLeft (w.drewN n) Fr D r rest cur (hR.below ⟨rfl, rfl, rfl, Nat.le_refl _, fun _ _ => rfl⟩))
  rcases hrest with ⟨rfl, hre⟩ | ⟨rfl, hsh⟩
  · have hltI : ¬ ((rest.length : Int) < (t : Int)) := by rw [hre]; simp; omega
    have HR := Lib.hid hR
    have HX := Lib.hid (And.intro hX (And.intro hFX hF))
    have HN := Lib.hid (And.intro hn hre)
    have HXD := Lib.hid (fun k => hX.drewN k)
    have HRL : Hid (t ≤ rest.length) := Lib.hid (by omega)
    clear hR hX hFX hF ht hre
    go_enter Tryz.func134, Tryz.ntmps134
    go_wp2_with fail
    go_quiet ((go_at_call 33; exact Calls.quiet_of_same ((hL.out _).mono fun _ _ h => ⟨h.1, h.2.symm⟩)))
    go_wp2_with fail
    go_region_law ((refine step_zerosF (by rfl) _ q _ N 0 [] (HXD.out nq).drew _ _ (by rfl) (by rfl) t (by rfl) (by omega) ?_; intro p5 k5 w5 G5; have g0 := G5.c0; have g1 := G5.c1; have gf0 := G5.cf))
    all_goals
      have hX5 := G5.ok
      have hU5 : Upd w (w5.setCell ⟨q, 0, none⟩ (.slice p5 t k5)) (FpF q (.slice p0 0 k0)) (FpF q (.slice p5 t k5)) := by
        have h := G5.upd
        rw [Nat.zero_add] at h
        exact h.ofDrewN
      rw [Nat.zero_add] at hX5
      obtain ⟨z0, -, -, -⟩ := hX5.cell
      have hinn : In Fr w ∧ In D w ∧ Fr r := by obtain ⟨_, _, _, h⟩ := HR.out; exact ⟨h.inF, h.inD, h.own⟩
      have hdis : ∀ k, FpF q (.slice p0 0 k0) k → ¬ Fr k ∧ ¬ D k := fun k hk => HX.out.2.2 k (HX.out.2.1 k hk)
      have hR5 : RdAt (w5.setCell ⟨q, 0, none⟩ (.slice p5 t k5)) Fr D r rest cur := HR.out.upd hU5.chg (fun k hk e => (hdis k e).1 hk) fun k hk e => (hdis k e).2 hk
      by_cases ht0 : t = 0
      · subst ht0
        have HZ := Lib.hid (And.intro hX5 (And.intro hU5 (And.intro hinn hR5)))
        clear hX5 hU5 hinn hR5 hdis G5
        go_wp2_with (go_at_call 93; refine (readZero _ Fr D r _ _ rest cur HZ.out.2.2.2 (by omega)).mono ?_; rintro e6 w6 ⟨rfl, h6, hc6⟩)
        go_ret
        obtain ⟨hX5, hU5, hinn, hR5⟩ := HZ.out
        obtain ⟨hfl0, hre⟩ := HN.out
        obtain rfl : flat = [] := List.length_eq_zero_iff.1 hfl0
        rw [List.nil_append] at hre
        rw [hre] at h6
        exact decF_done (by simpa [u8s] using HX.out.1) HX.out.2.1 HX.out.2.2 hinn hU5 (hc6.mono fun _ _ h => .inl h) h6 (hX5.chg hc6 fun k hk e => by
          subst e
          rcases hU5.new _ hk with h | h
          · exact (HX.out.2.2 _ (HX.out.2.1 _ h)).1 hinn.2.2
          · have := hinn.1 _ hinn.2.2; omega)
      · rcases hX5.own.2 with ⟨h1, h2⟩ | ⟨g, cap, cur2, h1, -, hg, hnc, hmm, hcs, -⟩
        · exact absurd h2 ht0
        obtain ⟨rfl, -, rfl⟩ : p5 = some ⟨g, 0, none⟩ ∧ t = t ∧ k5 = cap := by simpa using h1
        have hgf : ¬ Fr g ∧ ¬ D g := by
          rcases hU5.new g (.inr rfl) with h | h
          · exact hdis g h
          · exact ⟨fun e => by have := hinn.1 g e; omega, fun e => by have := hinn.2.1 g e; omega⟩
        have hgq : g ≠ q := hX5.bq rfl
        have HZ := Lib.hid (And.intro hX5 (And.intro hU5 hinn))
        have HRI := Lib.hid (readInto _ Fr D r g 0 t k5 rest cur hR5 cur2 5 hg (by omega) hgf.1 hgf.2 HRL.out (by omega))
        have HG := Lib.hid (And.intro hmm hcs)
        clear hX5 hU5 hinn hR5 hdis G5 hg hmm hcs h1
        go_wp2_with (go_at_call 93; refine HRI.out.mono ?_; rintro e6 w6 ⟨rfl, h6, hc6, hg6⟩)
        go_ret
        obtain ⟨hX5, hU5, hinn⟩ := HZ.out
        obtain ⟨hfl0, hre⟩ := HN.out
        obtain ⟨hmm, hcs⟩ := HG.out
        have htk : rest.take t = flat := by rw [hre, ← hfl0, List.take_left]
        have hdr : rest.drop t = tail := by rw [hre, ← hfl0, List.drop_left]
        rw [hdr] at h6
        rw [htk] at hg6
        have hrq : r ≠ q := fun e => by
          subst e
          exact (HX.out.2.2 _ (HX.out.2.1 _ (.inl rfl))).1 hinn.2.2
        refine decF_done (by simpa [u8s] using HX.out.1) HX.out.2.1 HX.out.2.2 hinn hU5 (hc6.mono fun k _ h => h.imp id fun h => by rw [h]; rfl) h6 ⟨?_, ⟨by simp, .inr ⟨g, k5, _, by rw [hfl0], Nat.zero_le _, hg6, by omega, hmm, ?_, ?_⟩⟩, hX5.ne⟩
        · rw [hc6.block q hX5.lt fun e => e.elim (fun e => hrq e.symm) fun e => hgq e.symm]; exact hX5.at_
        · simp [hfl0]; omega
        · simp [← hfl0]
  · have hltI : (rest.length : Int) < (t : Int) := by omega
    have HR := Lib.hid (fun n => show RdAt (w.drewN n) Fr D r rest cur from hR.below ⟨rfl, rfl, rfl, Nat.le_refl _, fun _ _ => rfl⟩)
    clear hR hX hFX hF ht hn
    go_enter Tryz.func134, Tryz.ntmps134
    go_wp2_with fail
    go_quiet ((go_at_call 33; exact Calls.quiet_of_same ((hL.out _).mono fun _ _ h => ⟨h.1, h.2.symm⟩)))
    obtain ⟨b, v, hbr, h⟩ := HR.out _
    go_wp2_with (first | (go_at_call 90; refine (rdEnd _ Fr D r rest b v (u8s cur) h).mono ?_; rintro e w1 ⟨⟨a, rfl⟩, h1, hu⟩) | (go_at_call 89; refine (wrapErr _ _ _ _).mono ?_; rintro e w2 ⟨⟨a2, rfl⟩, hb2⟩))
    go_ret
    exact ⟨fun h => by simp at h, fun _ => ⟨⟨_, rfl⟩, (((Chg.refl (fun k => Fr k ∨ F k) w).drewN _).trans hu.chg (fun _ _ h => .inl h)).trans (Chg.of_below hb2) (fun _ _ h => h)⟩⟩
end Go.Proofs.YtkidcgaogjlpaaaGreat
