/- strings.Builder: WriteRune of a small letter's kind, Write, String. -/
import Derived.Test.YtgnkinhjfcbdbaaDoorInB
import Derived.Shelf.Lay
import Derived.Shelf.Strings.OnBuilder
namespace Go.Proofs.YtgnkinhjfcbdbaaDoor
open Go.RowKit Go.Shelf
set_option linter.unusedVariables false
set_option linter.unusedSimpArgs false

/-- A builder in a block of its own, and what it holds. -/
def Bld (w : World) (F : Nat → Prop) (b : Nat) (p : Value) (bs : List UInt8) : Prop :=
  F b ∧ ∃ (v : Value) (F5 : Nat → Prop), w.heap[b]? = some (.cells #[p, v] 47 (0, 0)) ∧ OwnB w F5 v bs ∧ ∀ k, F5 k → F k ∧ k ≠ b
def BldA (w : World) (F : Nat → Prop) (b : Nat) (bs : List UInt8) : Prop := ∃ p, (p = .pointer none ∨ p = .pointer (some ⟨b, 0, none⟩)) ∧ Bld w F b p bs
theorem bldCheck (w : World) (F : Nat → Prop) (b : Nat) (bs : List UInt8) (h : BldA w F b bs) :
    Calls Tryd.prog 27 #[.pointer (some ⟨b, 0, none⟩)] w fun e w' => e = .returned (.tuple #[]) ∧ Bld w' F b (.pointer (some ⟨b, 0, none⟩)) bs ∧ Chg (· = b) w w' := by
  obtain ⟨p, hp, hF, v, F5, hb, hown, hd⟩ := h
  have c0 : w.cell? ⟨b, 0, none⟩ = some p := by simp [World.cell?, hb]
  rcases hp with rfl | rfl
  · refine (Any.Builder_copyCheck_fresh { lays156 with } extra156.toX72 b w c0 (by simp [World.shape?, hb]; rfl) (by simp [World.frozen?, hb])).mono fun e w' h => ?_
    obtain ⟨rfl, rfl⟩ := h
    have hc : Chg (· = b) w (w.setCell ⟨b, 0, none⟩ (.pointer (some ⟨b, 0, none⟩))) := (Chg.refl (· = b) w).setCell (p := ⟨b, 0, none⟩) (.inl rfl) _
    refine ⟨rfl, ⟨hF, v, F5, ?_, hown.upd hc fun k h1 h2 => (hd k h1).2 h2, hd⟩, hc⟩
    simp [World.setCell, Array.getElem?_modify, hb]
  · refine (Any.Builder_copyCheck_used { lays156 with } extra156.toX72 b w c0).mono fun e w' h => ?_
    obtain ⟨rfl, rfl⟩ := h
    exact ⟨rfl, ⟨hF, v, F5, hb, hown, hd⟩, Chg.refl _ _⟩

set_option maxRecDepth 100000 in
theorem appendRune (w : World) (F : Nat → Prop) (v : Value) (bs : List UInt8) (h : OwnB w F v bs) (x : UInt8) (hx : x.toNat < 128) (hl : bs.length ≤ 1000) :
    Calls Tryd.prog 28 #[v, .int .i32 x.toNat] w fun e w' => ∃ p c F', e = .returned (.slice p (bs.length + 1) c) ∧ OwnB w' F' (.slice p (bs.length + 1) c) (bs ++ [x]) ∧ Upd w w' F F' := by
  obtain ⟨p, c, rfl⟩ := h.slice
  have h2 : OwnR _ F 5 1 _ bs.length (u8s bs) := h.keep ((Below.refl _ w).alloc (Nat.le_refl _) (.cells #[.int .u8 x.toNat] 5))
  have HS := Lib.hid (src_new elemQ w.heap.size [.int .u8 x.toNat] _ (heap_alloc_new w (.cells #[.int .u8 x.toNat] 5)) rfl (by simp [Value.oneCell']) 1)
  have HO := Lib.hid h2
  have HU := Lib.hid (show Upd w (w.alloc (.cells #[.int .u8 x.toNat] 5)) F F from ⟨(Chg.refl F w).alloc _, fun k hk => .inl hk⟩)
  have H8 := Lib.hid (show u8s (bs ++ [x]) = u8s bs ++ [.int .u8 x.toNat] from u8s_snoc bs x)
  obtain ⟨n, hn⟩ : ∃ n, n = x.toNat := ⟨_, rfl⟩
  rw [← hn] at hx HS HO HU H8 ⊢
  clear h h2 hn
  go_enter Tryd.func28, Tryd.ntmps28
  go_wp2_with (at_builtin; refine append_rows elemQ _ F bs.length 1 _ _ rfl _ _ _ rfl _ rfl HO.out _ rfl HS.out (by omega) (by omega) ?_; intro p5 c5 w5 F5 hown5 hu5)
  go_ret
  refine ⟨p5, c5, F5, rfl, ⟨?_, hown5.2⟩, HU.out.trans hu5⟩
  rw [H8.out, List.length_append]
  exact hown5.1

/-- The new slice is put into the builder. -/
theorem bld_store {w w1 : World} {F F5 F' : Nat → Prop} {b : Nat} {p v v' : Value} {bs : List UInt8} (hF : F b) (hb : w.heap[b]? = some (.cells #[p, v] 47 (0, 0))) (hd : ∀ k, F5 k → F k ∧ k ≠ b) (hown : OwnB w1 F' v' bs) (hu : Upd w w1 F5 F') :
    w1.heap[b]? = some (.cells #[p, v] 47 (0, 0)) ∧ ∃ F2, Bld (w1.setCell ⟨b, 1, none⟩ v') F2 b p bs ∧ Upd w (w1.setCell ⟨b, 1, none⟩ v') F F2 := by
  have hlt : b < w.heap.size := (Array.getElem?_eq_some_iff.1 hb).1
  have hb1 : w1.heap[b]? = some (.cells #[p, v] 47 (0, 0)) := by rw [hu.chg.block b hlt fun h => (hd b h).2 rfl]; exact hb
  have hF'b : ∀ k, F' k → k ≠ b := fun k hk e => by
    rcases hu.new k hk with h | h
    · exact (hd k h).2 e
    · subst e; omega
  refine ⟨hb1, fun k => F k ∨ (w.heap.size ≤ k ∧ k < w1.heap.size), ⟨.inl hF, v', F', ?_, ?_, fun k hk => ⟨?_, hF'b k hk⟩⟩, ?_, ?_⟩
  · simp [World.setCell, Array.getElem?_modify, hb1]
  · exact hown.upd ((Chg.refl (· = b) w1).setCell (.inl rfl) _) fun k h1 h2 => hF'b k h1 h2
  · rcases hu.new k hk with h | h
    · exact .inl (hd k h).1
    · exact .inr h
  · exact (hu.chg.mono fun k _ hk => (hd k hk).1).setCell (.inl hF) _
  · intro k hk
    simpa [World.setCell] using hk

set_option maxRecDepth 100000 in
theorem writeRune (w : World) (F : Nat → Prop) (b : Nat) (bs : List UInt8) (h : BldA w F b bs) (x : UInt8) (hx : x.toNat < 128) (hl : bs.length ≤ 1000) :
    Calls Tryd.prog 18 #[.pointer (some ⟨b, 0, none⟩), .int .i32 x.toNat] w fun e w' => (∃ n : Int, e = .returned (.tuple #[.int .i64 n, .nilIface])) ∧ ∃ F', BldA w' F' b (bs ++ [x]) ∧ Upd w w' F F' := by
  have HC := Lib.hid (bldCheck w F b bs h)
  have HR := Lib.hid (fun w F v (h : OwnB w F v bs) => appendRune w F v bs h x hx hl)
  have HXX := Lib.hid hx
  have hFb : F b := by obtain ⟨p, -, hF, -⟩ := h; exact hF
  clear h
  obtain ⟨n, hn⟩ : ∃ n, n = x.toNat := ⟨_, rfl⟩
  rw [← hn] at HR ⊢
  clear hx hn
  go_enter Tryd.func18, Tryd.ntmps18
  go_wp2_with fail
  refine HC.out.mono ?_
  rintro e w1 ⟨rfl, ⟨hF, v, F5, hb, hown, hd⟩, hch⟩
  obtain ⟨pv, cv, rfl⟩ := hown.slice
  have s1 : w1.cell? ⟨b, 1, none⟩ = some (.slice pv bs.length cv) := by simp [World.cell?, hb]
  have HB := Lib.hid (And.intro hb (And.intro hown (And.intro hd hch)))
  clear hb hown hd hch
  go_wp2_with fail
  refine (HR.out _ _ _ HB.out.2.1).mono ?_
  rintro e w2 ⟨p2, c2, F2, rfl, ho2, hu2⟩
  obtain ⟨hb2, F3, hB3, hU3⟩ := bld_store hFb HB.out.1 HB.out.2.2.1 ho2 hu2
  have s2 : w2.cell? ⟨b, 1, none⟩ = some (.slice pv bs.length cv) := by simp [World.cell?, hb2]
  have z2 : w2.frozen? ⟨b, 1, none⟩ = false := by simp [World.frozen?, hb2]
  have H3 := Lib.hid (And.intro hB3 hU3)
  clear ho2 hu2 hb2 hB3 hU3
  go_wp2_with fail
  go_ret2
  refine ⟨⟨_, rfl⟩, F3, ⟨_, .inr rfl, H3.out.1⟩, ?_⟩
  have hu1 : Upd w w1 F F := ⟨HB.out.2.2.2.mono fun k _ hk => hk ▸ hFb, fun k hk => .inl hk⟩
  exact hu1.trans H3.out.2

set_option maxRecDepth 100000 in
theorem writeB (w : World) (F : Nat → Prop) (b : Nat) (bs news : List UInt8) (h : BldA w F b bs) (pv : Value) (hp : BytesAt w pv news) (hpb : ∀ g, pv.ownBlock = some g → g ≠ b) (hl : bs.length + news.length ≤ 1000) (hnn : news ≠ []) :
    Calls Tryd.prog 20 #[.pointer (some ⟨b, 0, none⟩), pv] w fun e w' => (∃ n : Int, e = .returned (.tuple #[.int .i64 n, .nilIface])) ∧ ∃ F', BldA w' F' b (bs ++ news) ∧ Upd w w' F F' := by
  obtain ⟨pp, pc, rfl⟩ := hp.slice
  have HC := Lib.hid (bldCheck w F b bs h)
  have hFb : F b := by obtain ⟨p, -, hF, -⟩ := h; exact hF
  have HP := Lib.hid hp
  have HPB := Lib.hid hpb
  clear h hp hpb
  go_enter Tryd.func20, Tryd.ntmps20
  go_wp2_with fail
  refine HC.out.mono ?_
  rintro e w1 ⟨rfl, ⟨hF, v, F5, hb, hown, hd⟩, hch⟩
  obtain ⟨pv, cv, rfl⟩ := hown.slice
  have s1 : w1.cell? ⟨b, 1, none⟩ = some (.slice pv bs.length cv) := by simp [World.cell?, hb]
  have HS := Lib.hid (show BytesAt w1 _ news from BytesAt.keep HP.out fun g hg => hch.block g (BytesAt.lt HP.out hnn g hg) (HPB.out g hg)).srcB
  have HO : OwnR w1 F5 5 1 _ bs.length (u8s bs) := hown
  have HO := Lib.hid HO
  have HB := Lib.hid (And.intro hb (And.intro hown (And.intro hd hch)))
  have ST := Lib.hid (fun (w2 : World) (F2 : Nat → Prop) v2 (h2 : OwnB w2 F2 v2 (bs ++ news)) (hu : Upd w1 w2 F5 F2) => bld_store hFb hb hd h2 hu)
  clear hb hown hd hch
  go_wp2_with (at_builtin; refine append_rows elemQ _ F5 bs.length news.length _ _ rfl _ _ _ rfl _ rfl HO.out _ rfl HS.out (by omega) (by omega) ?_; intro p2 c2 w2 F2 hown2 hu2; have ho2 := (show OwnB w2 F2 (.slice p2 (bs.length + news.length) c2) (bs ++ news) from ⟨by rw [List.length_append, u8s_append]; exact hown2.1, hown2.2⟩); obtain ⟨hb2, F3, hB3, hU3⟩ := ST.out w2 F2 _ ho2 hu2; have s2 : w2.cell? ⟨b, 1, none⟩ = some (.slice pv bs.length cv) := (by simp [World.cell?, hb2]); have z2 : w2.frozen? ⟨b, 1, none⟩ = false := (by simp [World.frozen?, hb2]); have H3 := Lib.hid (And.intro hB3 hU3); clear hown2 hu2 ho2 hb2 hB3 hU3)
  go_ret2
  refine ⟨⟨_, rfl⟩, F3, ⟨_, .inr rfl, H3.out.1⟩, ?_⟩
  have hu1 : Upd w w1 F F := ⟨HB.out.2.2.2.mono fun k _ hk => hk ▸ hFb, fun k hk => .inl hk⟩
  exact hu1.trans H3.out.2

theorem bldString (w : World) (F : Nat → Prop) (B b : Nat) (bs : List UInt8) (h : BldA w F b bs) (h0 : bs ≠ []) (hB : ∀ k, F k → B ≤ k) :
    Calls Tryd.prog 21 #[.pointer (some ⟨b, 0, none⟩)] w fun e w' => e = .returned (.string (ba bs)) ∧ Below B w w' := by
  obtain ⟨p, hp, hF, v, F5, hb, hown, hd⟩ := h
  have hat : Lib.BuilderAt (lays156_ren.t 72) (lays156_ren.t 5) B b p (Lib.byteCells bs) w := by
    refine ⟨hB b hF, v, hb, ?_, fun e => (hd b (hown.2 b e)).2 rfl⟩
    have hl : (Lib.byteCells bs).length = bs.length := Lib.byteCells_length bs
    rw [hl]
    obtain ⟨h1, h2⟩ := hown.1
    refine ⟨h1, ?_⟩
    rcases h2 with h2 | ⟨g, cap, cur, rfl, -, h4⟩
    · exact .inl h2
    · exact .inr ⟨g, cap, cur, rfl, hB g (hd g (hown.2 g rfl)).1, h4⟩
  have hi : Lib.IsBuilder (lays156_ren.t 72) (lays156_ren.t 5) B b (Lib.byteCells bs) w := by
    rcases hp with rfl | rfl
    · exact .inl hat
    · exact .inr hat
  exact Any.Builder_String { lays156 with } extra156 B b bs w hi h0
end Go.Proofs.YtgnkinhjfcbdbaaDoor
