/- proto.Reader.ReadFull into whatever slice of the call's own; impl.got with a closure; impl.encoded with a value that is bound. -/
import Derived.Test.YtemmhlibbihjmaaGreatGot
import Derived.Test.YtemmhlibbihjmaaGreatAppZ
namespace Go.Proofs.YtemmhlibbihjmaaGreat
open Go.RowKit
set_option linter.unusedVariables false

theorem RdX.set {w : World} {F D : Nat → Prop} {r : Nat} {rest : List UInt8} {b : Nat} {v : Value} {xs : List Value} (h : RdX w F D r rest b v xs) (vd : Value) (rest' : List UInt8) (hb : BytesAt w vd rest') (hD : ∀ g, vd.ownBlock = some g → D g) :
    RdX (w.setCell ⟨r, 0, none⟩ vd) F D r rest' b v xs ∧ Upd w (w.setCell ⟨r, 0, none⟩ vd) F F := by
  obtain ⟨FB, ⟨hFb, hpb, hownb, hvb⟩, hnr, hsub⟩ := h.row
  obtain ⟨vd0, hr, -, -⟩ := h.data
  have hU : Upd w (w.setCell ⟨r, 0, none⟩ vd) F F := ⟨(Chg.refl F w).setCell (.inl h.own) _, fun k hk => .inl hk⟩
  refine ⟨⟨h.own, h.ne, ⟨FB, ⟨hFb, ?_, ?_, hvb⟩, hnr, hsub⟩, ⟨vd, ?_, ?_, hD⟩, h.disj, h.inD.mono hU.chg.size, h.inF.mono hU.chg.size⟩, hU⟩
  · rw [Below.heap_setCell _ _ _ _ h.ne]; exact hpb
  · exact ownsRow_block hownb fun g hg => Below.heap_setCell _ _ _ _ (by rintro rfl; exact hnr (hvb _ hg).1)
  · simp [World.setCell, Array.getElem?_modify, hr]
  · exact hb.keep fun g hg => Below.heap_setCell _ _ _ _ fun e => h.disj g (hD g hg) (e ▸ h.own)

/-- A block whose cells are others now: the Reader does not know of it. -/
theorem RdX.rowSet {w : World} {F D : Nat → Prop} {r g : Nat} {rest : List UInt8} {b : Nat} {v : Value} {xs : List Value} (h : RdX w F D r rest b v xs) (hF : ¬ F g) (hD : ¬ D g) (cs : Array Value) :
    RdX (w.setRow g cs) F D r rest b v xs := by
  obtain ⟨FB, ⟨hFb, hpb, hownb, hvb⟩, hnr, hsub⟩ := h.row
  obtain ⟨vd, hr, hbd, hvd⟩ := h.data
  have hsz : w.heap.size ≤ (w.setRow g cs).heap.size := by simp [World.setRow]
  have hk : ∀ k, F k → (w.setRow g cs).heap[k]? = w.heap[k]? := fun k hk => setRow_other w g k _ (fun e => hF (e ▸ hk))
  exact ⟨h.own, h.ne, ⟨FB, ⟨hFb, by rw [hk b (hsub b hFb)]; exact hpb, ownsRow_block hownb fun g hg => hk g (hsub g (hvb g hg).1), hvb⟩, hnr, hsub⟩,
    ⟨vd, by rw [hk r h.own]; exact hr, hbd.keep fun k hk => setRow_other w g k _ (fun e => hD (e ▸ hvd k hk)), hvd⟩, h.disj, h.inD.mono hsz, h.inF.mono hsz⟩

/-- What ReadFull leaves in a block of its caller's. -/
def Filled (w : World) (F D : Nat → Prop) (r g off : Nat) (rest cur : List UInt8) (old : Array Value) (T : TypeId) (n : Nat) (e : Ending) (w' : World) : Prop :=
  e = .returned .nilIface ∧ RdAt w' F D r (rest.drop n) cur ∧ Chg (fun k => k = r ∨ k = g) w w' ∧ w'.heap[g]? = some (.cells (old.toList.take off ++ (u8s (rest.take n) ++ old.toList.drop (off + n))).toArray T (0, 0))

set_option maxRecDepth 100000 in
theorem readInto (w : World) (F D : Nat → Prop) (r g off n cap : Nat) (rest cur : List UInt8) (h : RdAt w F D r rest cur) (old : Array Value) (T : TypeId) (hg : w.heap[g]? = some (.cells old T (0, 0))) (hn : off + n ≤ old.size) (hF : ¬ F g) (hD : ¬ D g)
    (hl : n ≤ rest.length) (hm : rest.length ≤ 140737488355328) :
    Calls Tryz.prog 58 #[.pointer (some ⟨r, 0, none⟩), .slice (some ⟨g, off, none⟩) n cap] w (Filled w F D r g off rest cur old T n) := by
  obtain ⟨b, v, hbr, h⟩ := h
  have HBR := Lib.hid hbr
  clear hbr
  obtain ⟨vd, hr, hb, hvd⟩ := h.data
  obtain ⟨hc0, hf⟩ : w.cell? ⟨r, 0, none⟩ = some vd ∧ w.frozen? ⟨r, 0, none⟩ = false := ⟨by simp [World.cell?, hr], by simp [World.frozen?, hr]⟩
  clear hr
  have hlr : r < w.heap.size := h.inF r h.own
  have hgr : g ≠ r := fun e => hF (e ▸ h.own)
  have hsz : (Tryz.prog.info? 5).map (·.size) = some 1 := by kernel_rfl
  have HS := Lib.hid hsz
  have HD := Lib.hid hvd
  have HF := Lib.hid hF
  have HDg := Lib.hid hD
  clear hsz hvd hF hD
  have hsame : ∀ (u : List Value), n = 0 → u = [] → old.toList.take off ++ (u ++ old.toList.drop (off + n)) = old.toList := by
    rintro u rfl rfl
    simp
  by_cases h0 : n = 0
  · subst h0
    have hold : w.heap[g]? = some (.cells (old.toList.take off ++ (u8s (rest.take 0) ++ old.toList.drop (off + 0))).toArray T (0, 0)) := by rw [hsame _ rfl (by simp [u8s]), Array.toArray_toList]; exact hg
    have fin : ∀ vd', BytesAt w vd' (rest.drop 0) → (∀ g, vd'.ownBlock = some g → D g) → Filled w F D r g off rest cur old T 0 (.returned .nilIface) (w.setCell ⟨r, 0, none⟩ vd') := fun vd' h1 h2 => by
      obtain ⟨h3, h4⟩ := h.set vd' _ h1 h2
      exact ⟨rfl, ⟨b, v, HBR.out, h3⟩, (Chg.refl _ w).setCell (.inl (.inl rfl)) _, by rw [Below.heap_setCell _ _ _ _ hgr]; exact hold⟩
    rcases hb with ⟨rfl, rfl⟩ | ⟨b2, off2, c2, rfl, hbl, hbc⟩
    · go_enter Tryz.func58, Tryz.ntmps58
      go_wp2_with (with_reducible refine wpList_copy_nothing rfl (.tmp 16) (.tmp 20) 29 29 rfl 5 Tryz.underlying29 HS.out _ _ _ _ _ _ rfl rfl rfl ?_)
      go_ret
      exact fin _ (.inl ⟨rfl, rfl⟩) (by simp [Value.ownBlock])
    · by_cases h2 : c2 = 0
      all_goals
        first | (subst h2; obtain rfl : rest = [] := List.length_eq_zero_iff.1 (by omega)) | (have h2' : 0 < c2 := by omega)
        go_enter Tryz.func58, Tryz.ntmps58
        go_wp2_with (with_reducible refine wpList_copy_nothing rfl (.tmp 16) (.tmp 20) 29 29 rfl 5 Tryz.underlying29 HS.out _ _ _ _ _ _ rfl rfl (by simp) ?_)
        go_ret
        refine fin _ (by first | exact BytesAt.cut hbl hbc (Nat.zero_le _) | exact BytesAt.nothing _ _ _ _) ?_
        exact HD.out
  · rcases hb with ⟨rfl, rfl⟩ | ⟨b2, off2, c2, rfl, hbl, hbc⟩
    · simp at hl; omega
    · have hl1 : (u8s (rest.take n)).length = n := by simp; omega
      have HSRC := Lib.hid (BytesAt.src hbc n)
      have HL1 := Lib.hid hl1
      have HBC := Lib.hid hbc
      have HDR := Lib.hid (BytesAt.cut hbl hbc hl)
      have HNO := Lib.hid (fun (w : World) => BytesAt.nothing w b2 off2 c2)
      clear hl1 hbc
      have hc0' : ∀ cs, (w.setRow g cs).cell? ⟨r, 0, none⟩ = some (.slice (some ⟨b2, off2, none⟩) rest.length c2) := fun cs => by rw [World.cell?_of_block (a := ⟨r, 0, none⟩) (setRow_other w g r cs hgr.symm)]; exact hc0
      have hf' : ∀ cs, (w.setRow g cs).frozen? ⟨r, 0, none⟩ = false := fun cs => by rw [World.frozen?_of_block (a := ⟨r, 0, none⟩) (setRow_other w g r cs hgr.symm)]; exact hf
      have fin : ∀ vd', BytesAt w vd' (rest.drop n) → (∀ g, vd'.ownBlock = some g → D g) → Filled w F D r g off rest cur old T n (.returned .nilIface) ((w.setRow g (old.toList.take off ++ (u8s (rest.take n) ++ old.toList.drop (off + n))).toArray).setCell ⟨r, 0, none⟩ vd') := fun vd' h1 h2 => by
        have hrow := h.rowSet HF.out HDg.out (old.toList.take off ++ (u8s (rest.take n) ++ old.toList.drop (off + n))).toArray
        obtain ⟨h3, h4⟩ := hrow.set vd' _ (h1.keep fun k hk => setRow_other w g k _ (fun e => HDg.out (e ▸ h2 k hk))) h2
        refine ⟨rfl, ⟨b, v, HBR.out, h3⟩, Chg.setCell ?_ (.inl (.inl rfl)) _, ?_⟩
        · exact ⟨rfl, rfl, rfl, by simp [World.setRow], fun k hk hne => setRow_other w g k _ (fun e => hne (.inr e))⟩
        · rw [Below.heap_setCell _ _ _ _ hgr]; exact setRow_heap w g _ _ T _ hg
      by_cases h2 : c2 = n
      all_goals
        first | subst h2 | (have h2' : n < c2 := by omega)
        go_enter Tryz.func58, Tryz.ntmps58
        go_wp2_with (with_reducible refine wpList_copy_own rfl (.tmp 16) (.tmp 20) 29 29 rfl 5 Tryz.underlying29 HS.out g off _ _ ⟨b2, off2, none⟩ _ _ rfl rfl old T hg (u8s (rest.take _)) (by rw [HL1.out]; exact (Nat.min_eq_right hl).symm) HSRC.out (by rw [HL1.out]; exact hn) (one_u8s2 _) ?_)
        go_ret
        refine fin _ ?_ ?_
        rotate_left
        · exact HD.out
        first | exact HDR.out | (rw [List.drop_of_length_le (by omega)]; exact BytesAt.nothing _ _ _ _)

/-! ### impl.got with a closure -/

end Go.Proofs.YtemmhlibbihjmaaGreat
