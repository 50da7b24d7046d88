/- proto.ColFixedStr: its memory, appends, rows, and the column written. -/
import Derived.Test.YtkidcgaogjlpaaaGreatNumD
import Derived.Test.YtkidcgaogjlpaaaGreatAt
namespace Go.Proofs.YtkidcgaogjlpaaaGreat
open Go.RowKit
set_option linter.unusedVariables false
set_option linter.unusedSimpArgs false

/-- A variable of a slice of bytes and another cell. -/
structure FixX (w : World) (T E : TypeId) (size q : Nat) (v y : Value) (n : Nat) (xs : List Value) : Prop where
  at_ : w.heap[q]? = some (.cells #[v, y] T (0, 0))
  own : w.ownsRow 0 E size v n xs
  ne : T ≠ E
def FpF (q : Nat) (v : Value) (k : Nat) : Prop := k = q ∨ v.ownBlock = some k

section
variable {w : World} {T E : TypeId} {size q : Nat} {v y : Value} {n : Nat} {xs : List Value}
theorem FixX.bq (h : FixX w T E size q v y n xs) {g : Nat} (hg : v.ownBlock = some g) : g ≠ q := by
  rintro rfl
  obtain ⟨cur, hc⟩ := ownsRow_tyN h.own hg
  rw [h.at_] at hc
  simp at hc
  exact h.ne hc.2
theorem FixX.lt (h : FixX w T E size q v y n xs) : q < w.heap.size := (Array.getElem?_eq_some_iff.1 h.at_).1
theorem FixX.inn (h : FixX w T E size q v y n xs) : In (FpF q v) w := fun k hk => by
  rcases hk with rfl | hk
  · exact h.lt
  · exact (h.own.lt k hk).2
theorem FixX.cell (h : FixX w T E size q v y n xs) : w.cell? ⟨q, 0, none⟩ = some v ∧ w.cell? ⟨q, 1, none⟩ = some y ∧ w.frozen? ⟨q, 0, none⟩ = false ∧ q < w.heap.size := by
  have := h.at_
  exact ⟨by simp [World.cell?, this], by simp [World.cell?, this], by simp [World.frozen?, this], h.lt⟩
theorem FixX.chg {w' : World} {G : Nat → Prop} (h : FixX w T E size q v y n xs) (hc : Chg G w w') (hG : ∀ k, FpF q v k → ¬ G k) : FixX w' T E size q v y n xs :=
  ⟨by rw [hc.block q h.lt (hG q (.inl rfl))]; exact h.at_, ownsRow_block h.own fun g hg => hc.block g (h.own.lt g hg).2 (hG g (.inr hg)), h.ne⟩
theorem FixX.keep {w' : World} (h : FixX w T E size q v y n xs) (hb : Below w.heap.size w w') : FixX w' T E size q v y n xs :=
  h.chg (G := fun _ => False) (Chg.of_below hb) fun _ _ h => h
theorem FixX.drew (h : FixX w T E size q v y n xs) : FixX w.drew T E size q v y n xs := ⟨h.at_, h.own, h.ne⟩
theorem FixX.slice (h : FixX w T E size q v y n xs) : ∃ p c, v = .slice p n c := OwnR.slice (F := fun _ => True) ⟨h.own, fun _ _ => trivial⟩
/-- Another slice is stored. -/
theorem FixX.grow {w1 : World} {v' : Value} {n' : Nat} {xs' : List Value} {F' : Nat → Prop} (h : FixX w T E size q v y n xs) (hown : OwnR w1 F' E size v' n' xs') (hu : Upd w w1 (fun k => v.ownBlock = some k) F') :
    FixX (w1.setCell ⟨q, 0, none⟩ v') T E size q v' y n' xs' ∧ Upd w (w1.setCell ⟨q, 0, none⟩ v') (FpF q v) (FpF q v') := by
  have hq : w1.heap[q]? = some (.cells #[v, y] T (0, 0)) := by rw [hu.chg.block q h.lt fun e => h.bq e rfl]; exact h.at_
  have hv' : ∀ g, v'.ownBlock = some g → g ≠ q := fun g hg e => by
    obtain ⟨cur, hc⟩ := ownsRow_tyN hown.1 hg
    rw [e, hq] at hc
    simp at hc
    exact h.ne hc.2
  refine ⟨⟨by simp [World.setCell, Array.getElem?_modify, hq], ownsRow_block hown.1 fun g hg => Below.heap_setCell _ _ _ _ (hv' g hg), h.ne⟩, (hu.chg.mono (G := FpF q v) fun k _ hk => .inr hk).setCell (.inl (.inl rfl)) _, fun k hk => ?_⟩
  have hs : (w1.setCell ⟨q, 0, none⟩ v').heap.size = w1.heap.size := by simp [World.setCell]
  rcases hk with rfl | hk
  · exact .inl (.inl rfl)
  · rcases hu.new k (hown.2 k hk) with h1 | h1
    · exact .inl (.inr h1)
    · exact .inr (by rw [hs]; exact h1)

/-- Behind an append, ahead of the store. -/
structure GrewF (w : World) (T E : TypeId) (size q : Nat) (v v' y : Value) (n : Nat) (xs : List Value) (w1 : World) : Prop where
  c0 : w1.cell? ⟨q, 0, none⟩ = some v
  c1 : w1.cell? ⟨q, 1, none⟩ = some y
  cf : w1.frozen? ⟨q, 0, none⟩ = false
  ok : FixX (w1.setCell ⟨q, 0, none⟩ v') T E size q v' y n xs
  upd : Upd w (w1.setCell ⟨q, 0, none⟩ v') (FpF q v) (FpF q v')
theorem FixX.grew {w1 : World} {v' : Value} {n' : Nat} {xs' : List Value} {F' : Nat → Prop} (h : FixX w T E size q v y n xs) (hown : OwnR w1 F' E size v' n' xs') (hu : Upd w w1 (fun k => v.ownBlock = some k) F') : GrewF w T E size q v v' y n' xs' w1 := by
  have hb := hu.chg.block q h.lt fun e => h.bq e rfl
  obtain ⟨a0, a2, a1, -⟩ := h.cell
  exact ⟨by rw [World.cell?_of_block (a := ⟨q, 0, none⟩) hb]; exact a0, by rw [World.cell?_of_block (a := ⟨q, 1, none⟩) hb]; exact a2, by rw [World.frozen?_of_block (a := ⟨q, 0, none⟩) hb]; exact a1, (h.grow hown hu).1, (h.grow hown hu).2⟩
end


abbrev FixS (w : World) (q : Nat) (v : Value) (N : Nat) (m : Nat) (xs : List Value) : Prop := FixX w 106 5 1 q v (.int .i64 N) m xs
theorem list_fix {ops : Array Oper} {rest : List Oper} {o : Oper} {a : Act} {Q : Exit → Act → World → Prop} (hgd : o.guard = none) (w : World) (q : Nat) (v : Value) (N m : Nat) (xs : List Value) (hX : FixS w q v N m xs) (s x : Operand) (tx : TypeId)
    (ho : o.op = .call { callee := .builtin .append, args := #[s, x], argTypes := #[34, tx] }) (hs : a.eval s = v) (xv : Value) (hx : a.eval x = xv) (k : Nat) (news : List Value) (hsrc : Src Tryz.prog 1 tx xv k news w) (hl : m + k ≤ 140737488355328)
    (h : ∀ p c w1, GrewF w 106 5 1 q v (.slice p (m + k) c) (.int .i64 N) (m + k) (xs ++ news) w1 → wpList Tryz.prog ops Q rest (a.put o.dst (.slice p (m + k) c)) w1) : wpList Tryz.prog ops Q (o :: rest) a w := by
  refine wpList_plain hgd fun _ hKK => wp_append_rows elemB w (fun k => v.ownBlock = some k) m k xs news s x tx ho v hs ⟨hX.own, fun g hg => hg⟩ xv hx hsrc hl (by omega) ?_
  intro p c w1 F' hown hu
  exact hKK _ _ (h p c w1 (hX.grew hown hu))
/-- A column of strings of N bytes. -/
def FixCol (w : World) (F : Nat → Prop) (q N : Nat) (flat : List UInt8) : Prop := ∃ v, FixS w q v N flat.length (u8s flat) ∧ ∀ k, FpF q v k → F k
def PutF (w : World) (F : Nat → Prop) (q N : Nat) (flat : List UInt8) (e : Ending) (w' : World) : Prop := e = .returned (.tuple #[]) ∧ ∃ F', FixCol w' F' q N flat ∧ Upd w w' F F'
theorem FixCol.chg {w w' : World} {F G : Nat → Prop} {q N : Nat} {flat : List UInt8} (h : FixCol w F q N flat) (hc : Chg G w w') (hG : Disj F G) : FixCol w' F q N flat := by
  obtain ⟨v, h1, h2⟩ := h
  exact ⟨v, h1.chg hc fun k hk => hG k (h2 k hk), h2⟩
theorem FixCol.keep {w w' : World} {F : Nat → Prop} {q N : Nat} {flat : List UInt8} (h : FixCol w F q N flat) (hb : Below w.heap.size w w') : FixCol w' F q N flat := by
  obtain ⟨v, h1, h2⟩ := h
  exact ⟨v, h1.keep hb, h2⟩
theorem fixCol_new (w : World) (N : Nat) : FixCol (w.alloc (.cells #[.slice none 0 0, .int .i64 N] 106)) (· = w.heap.size) w.heap.size N [] :=
  ⟨_, ⟨heap_alloc_new _ _, World.ownsRow_nil _ _ _ _, by decide⟩, fun k hk => by
    rcases hk with h | h
    · exact h
    · simp [Value.ownBlock] at h⟩
/-- The column seen. -/
theorem FixCol.view {w : World} {F : Nat → Prop} {q N : Nat} {flat : List UInt8} (h : FixCol w F q N flat) :
    ∃ v, w.heap[q]? = some (.cells #[v, .int .i64 N] 106 (0, 0)) ∧ q < w.heap.size ∧ BytesAt w v flat ∧ (∀ g, v.ownBlock = some g → g < w.heap.size) ∧ (∀ k, FpF q v k → F k) := by
  obtain ⟨v, h1, h2⟩ := h
  exact ⟨v, h1.at_, h1.lt, ownsRow_bytes h1.own, fun g hg => (h1.own.lt g hg).2, h2⟩

set_option maxRecDepth 100000 in
theorem fixAppendS (w : World) (F : Nat → Prop) (q N : Nat) (flat : List UInt8) (x : Value) (s : List UInt8) (hx : BytesX w x s) (hs : s.length = N) (hN : 0 < N) (h : FixCol w F q N flat) (hl : flat.length + s.length ≤ 1000000000) :
    Calls Tryz.prog 132 #[.pointer (some ⟨q, 0, none⟩), x] w (PutF w F q N (flat ++ s)) := by
  obtain ⟨v, hX, hF⟩ := h
  obtain ⟨c0, c1, cf, hlt⟩ := hX.cell
  obtain ⟨p0, k0, rfl⟩ := hX.slice
  obtain ⟨p8, k8, rfl⟩ := hx.slice
  obtain ⟨m, hm⟩ : ∃ m, m = flat.length := ⟨_, rfl⟩
  have HS := Lib.hid hx.srcB
  unfold SrcB at HS
  rw [hs] at HS hl ⊢
  rw [← hm] at hX c0 hl hF
  have HX := Lib.hid hX
  have HF := Lib.hid hF
  have HM := Lib.hid (And.intro hm hs)
  have hN0 : ¬ (N : Int) = 0 := by omega
  clear hX hF hx hs hm
  go_enter Tryz.func132, Tryz.ntmps132
  go_wp2_with (at_builtin; refine list_fix rfl _ q _ N _ _ HX.out _ _ _ rfl rfl _ rfl N _ HS.out (by omega) ?_; intro p1 k1 w1 G1; have e0 := G1.c0; have ef := G1.cf)
  go_returns
  obtain ⟨rfl, hs⟩ := HM.out
  obtain ⟨F', h1, h2⟩ := G1.upd.widenN HF.out
  have h3 := G1.ok
  subst hs
  rw [← u8s_append] at h3
  simp only [← List.length_append] at h1 h2 h3 ⊢
  exact ⟨rfl, F', ⟨_, h3, h1⟩, h2⟩

set_option maxRecDepth 100000 in
theorem fixRowsS (w : World) (v : Value) (N n : Nat) (flat : List UInt8) (hv : BytesAt w v flat) (hN : 0 < N) (hn : flat.length = n * N) (hl : flat.length ≤ 1000000000) :
    Calls Tryz.prog 138 #[.agg #[v, .int .i64 N]] w fun e w' => e = .returned (.int .i64 n) ∧ Below w.heap.size w w' := by
  obtain ⟨p, c, rfl⟩ := hv.slice
  rw [hn]
  have hN0 : ¬ (N : Int) = 0 := by omega
  have hd : ((n * N : Nat) : Int).tdiv (N : Int) = n := by rw [Int.natCast_mul]; exact Int.mul_tdiv_cancel _ hN0
  have hd2 : ((n : Int) * (N : Int)).tdiv (N : Int) = n := Int.mul_tdiv_cancel _ hN0
  have hw : IntKind.i64.wrap (n : Int) = n := by rw [IntKind.wrap_i64]; have : n ≤ n * N := Nat.le_mul_of_pos_right _ hN; omega
  clear hv
  go_enter Tryz.func138, Tryz.ntmps138
  go_wp2_with fail
  go_ret
  exact ⟨rfl, (Below.refl _ w).alloc (Nat.le_refl _) _⟩

set_option maxRecDepth 100000 in
theorem fixRowS (w : World) (v : Value) (N n i : Nat) (flat s : List UInt8) (hv : BytesAt w v flat) (hN : 0 < N) (hn : flat.length = n * N) (hl : flat.length ≤ 1000000000) (hi : i < n) (hs : s = (flat.drop (i * N)).take N) :
    Calls Tryz.prog 137 #[.agg #[v, .int .i64 N], .int .i64 i] w (RowB w v s) := by
  have h1 : (i + 1) * N ≤ n * N := Nat.mul_le_mul_right _ hi
  have h1' : (i + 1) * N = i * N + N := by rw [Nat.add_mul, Nat.one_mul]
  have hsl : s.length = N := by rw [hs, List.length_take, List.length_drop]; omega
  rcases id hv with ⟨rfl, rfl⟩ | ⟨b, off, c, rfl, hc, hx⟩
  · simp at hn; omega
  · obtain ⟨a, ha⟩ : ∃ a, a = i * N := ⟨_, rfl⟩
    have hrow := row_range hv i N s hs
    rw [← ha] at hrow h1'
    have hiI : (i : Int) * (N : Int) = (a : Int) := by rw [ha]; simp
    have hiw : IntKind.i64.wrap (a : Int) = (a : Int) := by rw [IntKind.wrap_i64]; omega
    have hi1 : IntKind.i64.wrap ((i : Int) + 1) = (i : Int) + 1 := by rw [IntKind.wrap_i64]; have : i ≤ i * N := Nat.le_mul_of_pos_right _ hN; omega
    have hi2 : ((i : Int) + 1) * (N : Int) = (a : Int) + (N : Int) := by rw [Int.add_mul, hiI, Int.one_mul]
    have hi3 : IntKind.i64.wrap ((a : Int) + (N : Int)) = (a : Int) + (N : Int) := by rw [IntKind.wrap_i64]; omega
    have g1 : ((a : Int) + (N : Int)).toNat = a + N := by omega
    have g2 : (a : Int) + (N : Int) ≤ (c : Int) := by omega
    have g3 : (0 : Int) ≤ (a : Int) + (N : Int) := by omega
    have g4 : ¬ c = a := by omega
    have HB : Hid (∀ o, BytesAt (w.alloc o) (.slice (some ⟨b, off + a, none⟩) N (c - a)) s) := Lib.hid fun o => by
      refine .inr ⟨b, off + a, c - a, by rw [hsl], by omega, fun j hj => ?_⟩
      have := hrow j (.int .u8 (s[j]).toNat) (by simp [u8s, hj])
      exact range_alloc hrow o j _ (by simp [u8s, hj])
    clear hx hv hrow hs ha h1' h1 hn
    go_enter Tryz.func137, Tryz.ntmps137
    go_wp2_with fail
    go_ret
    exact ⟨(Below.refl _ w).alloc (Nat.le_refl _) _, _, rfl, HB.out _, fun _ h => h⟩

set_option maxRecDepth 100000 in
theorem fixEncodeS (w : World) (F : Nat → Prop) (p N : Nat) (bs flat : List UInt8) (v : Value) (hB : BufAt w F 179 p bs) (hF : In F w) (hv : BytesAt w v flat) (hl : bs.length + flat.length ≤ 140737488355328) :
    Calls Tryz.prog 135 #[.agg #[v, .int .i64 N], .pointer (some ⟨p, 0, none⟩)] w (Put w F 179 p (bs ++ flat)) := by
  obtain ⟨pv, cv, rfl⟩ := hv.slice
  obtain ⟨B, hBB⟩ : ∃ B, B = Obj.cells #[.slice pv flat.length cv, .int .i64 N] 106 := ⟨_, rfl⟩
  have hbw : Below w.heap.size w (w.alloc B).drew := ((Below.refl _ w).alloc (Nat.le_refl _) _).drew
  obtain ⟨vb, hcb, hfb, hlb⟩ := hB.cell
  obtain ⟨pb, kb, rfl⟩ : ∃ p k, vb = .slice p bs.length k := by
    obtain ⟨v', h1, h2, -⟩ := hB.bytes
    rw [hcb] at h1
    obtain rfl := Option.some.inj h1
    exact h2.slice
  have HB := Lib.hid (hB.alloc B).drew
  have HSR := Lib.hid (hv.below hbw).srcB
  have hcw : (w.alloc B).drew.cell? ⟨p, 0, none⟩ = some (.slice pb bs.length kb) := by rw [hbw.cell hlb]; exact hcb
  have HCW := Lib.hid hcw
  have HBW := Lib.hid hbw
  subst hBB
  clear hB hv hbw hF hcw
  go_enter Tryz.func135, Tryz.ntmps135
  go_wp2_with fail
  go_region_law ((refine step_append_bufs _ F _ p bs flat (by rfl) _ _ _ (by rfl) HB.out _ HCW.out (by rfl) _ (by rfl) HSR.out hl ?_; intro g5 k5 w5 hc5 hf5 hst5))
  all_goals
    go_returns
    obtain ⟨F2, h1, h2⟩ := hst5
    exact ⟨rfl, F2, h1, ((Upd.refl F w).below HBW.out).trans h2⟩
end Go.Proofs.YtkidcgaogjlpaaaGreat
