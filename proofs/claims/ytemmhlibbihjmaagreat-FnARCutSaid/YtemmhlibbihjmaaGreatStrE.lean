/- proto.ColStr.DecodeColumn: the walk. -/
import Derived.Test.YtemmhlibbihjmaaGreatStrD
import Derived.Deep.DeepCutAuto
namespace Go.Proofs.YtemmhlibbihjmaaGreat
open Go.RowKit
set_option linter.unusedVariables false
set_option linter.unnecessarySimpa false
set_option linter.unusedSimpArgs false

/-- What DecodeColumn leaves. -/
def DecS (w : World) (Fr D F : Nat → Prop) (r q : Nat) (T : TypeId) (ok : Bool) (l : List (List UInt8)) (tail : List UInt8) (e : Ending) (w' : World) : Prop :=
  (ok = true → e = .returned .nilIface ∧ ∃ Fr' cur F', RdAt w' Fr' D r tail cur ∧ StrCol w' F' T q l ∧ Upd w w' (fun k => Fr k ∨ F k) (fun k => Fr' k ∨ F' k) ∧ ∀ k, F' k → ¬ Fr' k ∧ ¬ D k) ∧
  (ok = false → (∃ a, e = .returned (.iface 131 (.pointer (some a)))) ∧ Chg (fun k => Fr k ∨ F k) w w')

theorem drewBelow (w : World) : Below w.heap.size w w.drew := ⟨rfl, rfl, rfl, Nat.le_refl _, fun _ _ => rfl⟩
/-- Behind i rows. -/
def DecI (W1 : World) (Fr D : Nat → Prop) (r q pb : Nat) (T : TypeId) (v0 u0 : Value) (ok : Bool) (l : List (List UInt8)) (tail : List UInt8) (i : Nat) (wr : World) : Prop :=
  ∃ (Fr' : Nat → Prop) (cur rest : List UInt8) (v u : Value) (m : Nat) (xs : List Value) (s0 e : Nat),
    RdAt wr Fr' D r rest cur ∧ RestI ok l tail i rest ∧ rest.length ≤ 1000000000 ∧ (∀ k, Fr' k → Fr k ∨ W1.heap.size ≤ k) ∧
    StrX wr T q v u m xs i (posOf 0 (l.take i)) ∧ e = (l.take i).flatten.length ∧ e ≤ m ∧ xs.take e = u8s (l.take i).flatten ∧ (∀ k, FpS q v u k → FpS q v0 u0 k ∨ W1.heap.size ≤ k) ∧
    wr.heap[pb]? = some (.cells #[.int .i64 (s0 : Nat), .int .i64 (e : Nat)] 161 (0, 0)) ∧ (∀ k, FpS q v u k → ¬ Fr' k ∧ ¬ D k) ∧
    Chg (fun k => Fr k ∨ FpS q v0 u0 k ∨ k = pb) W1 wr

theorem encS_ge (l : List (List UInt8)) : l.length ≤ (encS l).length := by
  induction l with
  | nil => exact Nat.zero_le _
  | cons s l ih =>
    have h := uv_length_pos s.length
    have e : encS (s :: l) = (uv s.length ++ s) ++ encS l := rfl
    rw [e, List.length_append, List.length_append, List.length_cons]
    omega

theorem Chg.ofDrew {F : Nat → Prop} {w w' : World} (h : Chg F w.drew w') : Chg F w w' := ⟨h.os, h.tape, h.output, h.size, h.block⟩
theorem Upd.ofDrew {F F' : Nat → Prop} {w w' : World} (h : Upd w.drew w' F F') : Upd w w' F F' := ⟨h.chg.ofDrew, h.new⟩

theorem StrX.drew {w : World} {T : TypeId} {q : Nat} {v u : Value} {m : Nat} {xs : List Value} {n : Nat} {ps : List Value} (h : StrX w T q v u m xs n ps) : StrX w.drew T q v u m xs n ps := ⟨h.at_, h.buf, h.pos, h.ne⟩
theorem dec_chg {w W1 wr w2 : World} {o : Obj} {Fr F F1 G : Nat → Prop} {pb : Nat} (hW : W1 = w.alloc o) (hpb : pb = w.heap.size) (h1 : Chg (fun k => Fr k ∨ G k ∨ k = pb) W1 wr) (hG : ∀ k, G k → F k) (h2 : Chg F1 wr w2) (hn : ∀ k, F1 k → Fr k ∨ W1.heap.size ≤ k) : Chg (fun k => Fr k ∨ F k) w w2 := by
  subst hW hpb
  refine ((Chg.refl _ w).alloc o).trans (h1.trans (F := fun k => Fr k ∨ G k ∨ k = w.heap.size) h2 fun j hj h => ?_) fun j hj h => ?_
  · rcases hn j h with h | h
    · exact .inl h
    · omega
  · rcases h with h | h | h
    · exact .inl h
    · exact .inr (hG j h)
    · omega

/-- Ahead of the positions' cut. -/
def DecP (W1 : World) (Fr D : Nat → Prop) (r q pb : Nat) (T : TypeId) (pv : Option Addr) (cv : Nat) (u0 : Value) (rest cur : List UInt8) (wx : World) : Prop :=
  ∃ (p : Option Addr) (n c : Nat) (ps : List Value), StrX wx T q (.slice pv 0 cv) (.slice p n c) 0 [] n ps ∧ RdAt wx Fr D r rest cur ∧ (∀ k, FpS q (.slice pv 0 cv) (.slice p n c) k → FpS q (.slice pv 0 cv) u0 k ∨ W1.heap.size ≤ k) ∧
    wx.heap[pb]? = some (.cells #[.int .i64 0, .int .i64 0] 161 (0, 0)) ∧ Chg (FpS q (.slice pv 0 cv) u0) W1 wx

theorem Upd.ofDrewN {F F' : Nat → Prop} {w w' : World} {n : Nat} (h : Upd (w.drewN n) w' F F') : Upd w w' F F' := ⟨⟨h.chg.os, h.chg.tape, h.chg.output, h.chg.size, h.chg.block⟩, h.new⟩
theorem StrX.drewN {w : World} {T : TypeId} {q : Nat} {v u : Value} {m : Nat} {xs : List Value} {n : Nat} {ps : List Value} (h : StrX w T q v u m xs n ps) (k : Nat) : StrX (w.drewN k) T q v u m xs n ps := ⟨h.at_, h.buf, h.pos, h.ne⟩
theorem StrX.fill {w w' : World} {T : TypeId} {q g c r : Nat} {u : Value} {m : Nat} {xs : List Value} {n : Nat} {ps : List Value} (h : StrX w T q (.slice (some ⟨g, 0, none⟩) m c) u m xs n ps) (cur new : Array Value) (hg : w.heap[g]? = some (.cells cur 5 (0, 0))) (hs : new.size = cur.size)
    (hg' : w'.heap[g]? = some (.cells new 5 (0, 0))) (hc : Chg (fun k => k = r ∨ k = g) w w') (hr : ¬ FpS q (.slice (some ⟨g, 0, none⟩) m c) u r) : StrX w' T q (.slice (some ⟨g, 0, none⟩) m c) u m (new.toList.take (m * 1)) n ps := by
  have hgq : g ≠ q := h.bq rfl
  refine ⟨?_, ?_, ?_, h.ne⟩
  · rw [hc.block q h.lt (by
      rintro (e | e)
      · exact hr (.inl e.symm)
      · exact hgq e.symm)]
    exact h.at_
  · rcases h.buf.2 with ⟨h1, h2⟩ | ⟨g', cap, cur', h1, hb, hh, hl, hm, hss, ht⟩
    · simp at h1
    · obtain ⟨rfl, -, rfl⟩ : g = g' ∧ m = m ∧ c = cap := by simpa using h1
      rw [hg] at hh
      obtain rfl : cur = cur' := by simpa using hh
      exact ⟨by simp [hs, hss]; omega, .inr ⟨g, c, new, rfl, hb, hg', hl, hm, by rw [hs, hss], rfl⟩⟩
  · exact ownsRow_block h.pos fun j hj => hc.block j (h.pos.lt j hj).2 (by
      rintro (e | e)
      · exact hr (.inr (.inr (e ▸ hj)))
      · exact h.bp (g := g) rfl (e ▸ hj))
theorem src_posD (w : World) (a b : Int) : Src Tryz.prog 2 75 (.slice (some ⟨w.heap.size, 0, none⟩) 1 1) 1 [.int .i64 a, .int .i64 b] (w.alloc (.cells #[.int .i64 a, .int .i64 b] 161)).drew :=
  src_new elemP (w := (w.alloc (.cells #[.int .i64 a, .int .i64 b] 161)).drew) w.heap.size [.int .i64 a, .int .i64 b] 161 (heap_alloc_new w _) rfl (by simp [Value.oneCell']) 1

/-- Behind the growth of the bytes. -/
def DecM (w2 : World) (T : TypeId) (q : Nat) (v u : Value) (xs : List Value) (k : Nat) (ps : List Value) (pb e e' : Nat) (wx : World) : Prop :=
  ∃ (v' : Value) (m' : Nat) (xs' : List Value), StrX wx T q v' u m' xs' k ps ∧ e' ≤ m' ∧ xs'.take e = xs.take e ∧ wx.heap[pb]? = some (.cells #[.int .i64 (e : Nat), .int .i64 (e' : Nat)] 161 (0, 0)) ∧
    Chg (fun j => FpS q v u j ∨ j = pb) w2 wx ∧ ∀ j, FpS q v' u j → FpS q v u j ∨ w2.heap.size ≤ j
/-- Behind the reading of a row's bytes. -/
def DecN (w2 : World) (F2 D : Nat → Prop) (r : Nat) (r2 cur2 : List UInt8) (T : TypeId) (q : Nat) (v u : Value) (k : Nat) (ps : List Value) (pb e e' : Nat) (bs : List UInt8) (wx : World) : Prop :=
  ∃ (v' : Value) (m' : Nat) (xs' : List Value), StrX wx T q v' u m' xs' k ps ∧ e' ≤ m' ∧ xs'.take e' = u8s bs ∧ wx.heap[pb]? = some (.cells #[.int .i64 (e : Nat), .int .i64 (e' : Nat)] 161 (0, 0)) ∧ RdAt wx F2 D r r2 cur2 ∧
    Chg (fun j => FpS q v u j ∨ j = pb ∨ j = r) w2 wx ∧ ∀ j, FpS q v' u j → FpS q v u j ∨ w2.heap.size ≤ j

theorem flat_le_enc (l : List (List UInt8)) : l.flatten.length ≤ (encS l).length := by
  induction l with
  | nil => exact Nat.zero_le _
  | cons s l ih =>
    have e : encS (s :: l) = (uv s.length ++ s) ++ encS l := rfl
    rw [e, List.length_append, List.length_append, List.flatten_cons, List.length_append]
    omega

theorem dec_next {w W1 wr w2 wc w9 : World} {Fr D F F1 F2 : Nat → Prop} {r q k n e e' m9 : Nat} {T : TypeId} {v0 u0 v1 u1 v9 u8 : Value} {l : List (List UInt8)} {tail rest cur r2 cur2 s : List UInt8} {xs9 : List Value} {ok : Bool}
    (hW : W1 = w.alloc (.cells #[.int .i64 0, .int .i64 0] 161)) (hX0 : StrX w T q v0 u0 0 [] 0 (posOf 0 [])) (hR0 : RdAt w Fr D r rest cur) (hF0 : ∀ j, FpS q v0 u0 j → F j) (hs : l[k]? = some s) (hchg : Chg (fun j => Fr j ∨ FpS q v0 u0 j ∨ j = w.heap.size) W1 wr) (hnew : ∀ j, F1 j → Fr j ∨ W1.heap.size ≤ j)
    (hsub : ∀ j, FpS q v1 u1 j → FpS q v0 u0 j ∨ W1.heap.size ≤ j) (hu2 : Upd wr w2 F1 F2) (hX9 : StrX wc T q v9 u1 m9 xs9 k (posOf 0 (l.take k))) (hp9 : wc.heap[w.heap.size]? = some (.cells #[.int .i64 (e : Nat), .int .i64 (e' : Nat)] 161 (0, 0))) (hR9 : RdAt wc F2 D r r2 cur2)
    (hc9 : Chg (fun j => FpS q v1 u1 j ∨ j = w.heap.size ∨ j = r) w2 wc) (hsub9 : ∀ j, FpS q v9 u1 j → FpS q v1 u1 j ∨ w2.heap.size ≤ j) (hxs9 : xs9.take e' = u8s (l.take (k + 1)).flatten) (hem9 : e' ≤ m9) (he : e = (l.take k).flatten.length) (he' : e' = e + n) (hn : n = s.length) (hrest : RestI ok l tail (k + 1) r2)
    (hpx : ∀ j, FpS q v1 u1 j → j ≠ w.heap.size) (hl2 : r2.length ≤ 1000000000) (hfn : ∀ j, FpS q v9 u1 j → ¬ F2 j ∧ ¬ D j)
    (hok : StrX w9 T q v9 u8 m9 xs9 (k + 1) (posOf 0 (l.take k) ++ [.int .i64 (e : Nat), .int .i64 (e' : Nat)]))
    (hu8 : Upd (wc.alloc (.cells #[.int .i64 (e : Nat), .int .i64 (e' : Nat)] 161)).drew w9 (FpS q v9 u1) (FpS q v9 u8)) :
    DecI W1 Fr D r q w.heap.size T v0 u0 ok l tail (k + 1) w9 := by
  have hu := hu8.ofDrew
  obtain ⟨_, _, _, hx0⟩ := hR0
  have hFr : Fr r := hx0.own
  have s0 : W1.heap.size = w.heap.size + 1 := by rw [hW]; simp
  have s1 := hchg.size
  have s2 := hu2.chg.size
  have s3 := hc9.size
  have s4 : wc.heap.size + 1 = (wc.alloc (.cells #[.int .i64 (e : Nat), .int .i64 (e' : Nat)] 161)).heap.size := by simp
  have s5 := hu.chg.size
  have px9 : ∀ j, FpS q v9 u1 j → j ≠ w.heap.size := fun j hj ej => by
    rcases hsub9 j hj with h | h
    · exact hpx j h ej
    · omega
  have hf2 : ∀ j, F2 j → Fr j ∨ W1.heap.size ≤ j := fun j hj => by
    rcases hu2.new j hj with h | h
    · exact hnew j h
    · omega
  have sub9 : ∀ j, FpS q v9 u1 j → FpS q v0 u0 j ∨ W1.heap.size ≤ j := fun j hj => by
    rcases hsub9 j hj with h | h
    · exact hsub j h
    · omega
  have hal : Below wc.heap.size wc (wc.alloc (.cells #[.int .i64 (e : Nat), .int .i64 (e' : Nat)] 161)) := (Below.refl _ wc).alloc (Nat.le_refl _) _
  have htk : l.take (k + 1) = l.take k ++ [s] := by
    obtain ⟨hk, rfl⟩ := List.getElem?_eq_some_iff.1 hs
    exact List.take_succ_eq_append_getElem hk
  refine ⟨F2, cur2, r2, v9, u8, m9, xs9, e, e', (hR9.below hal).upd hu.chg (fun j hj hg => (hfn j hg).1 hj) (fun j hj hg => (hfn j hg).2 hj), hrest, hl2, hf2, ?_, ?_, hem9, hxs9, fun j hj => ?_, ?_, fun j hj => ?_, ?_⟩
  · rw [htk, posOf_snoc, ← he, ← hn]
    have e2 : ((0 + e + n : Nat) : Int) = ((e' : Nat) : Int) := by omega
    have e3 : ((0 + e : Nat) : Int) = ((e : Nat) : Int) := by omega
    rw [e2, e3]
    exact hok
  · rw [htk, List.flatten_append, List.length_append, ← he, he', hn]; simp
  · rcases hu.new j hj with h | h
    · exact sub9 j h
    · exact .inr (by omega)
  · have hlt : w.heap.size < wc.heap.size := (Array.getElem?_eq_some_iff.1 hp9).1
    rw [hu.chg.block _ (by omega) (fun h => px9 _ h rfl), hal.block _ hlt]
    exact hp9
  · rcases hu.new j hj with h | h
    · exact hfn j h
    · obtain ⟨_, _, _, hx9⟩ := hR9
      exact ⟨fun hf => by have := hx9.inF j hf; omega, fun hd => by have := hx9.inD j hd; omega⟩
  · have c1 : Chg (fun j => Fr j ∨ FpS q v0 u0 j ∨ j = w.heap.size) W1 w2 := hchg.trans hu2.chg fun j hj h => (hnew j h).elim .inl fun h => by omega
    have c2 : Chg (fun j => Fr j ∨ FpS q v0 u0 j ∨ j = w.heap.size) W1 wc := c1.trans hc9 fun j hj h => by
      rcases h with h | h | h
      · rcases hsub j h with h | h
        · exact .inr (.inl h)
        · omega
      · exact .inr (.inr h)
      · exact .inl (h ▸ hFr)
    refine (c2.alloc _).trans hu.chg fun j hj h => ?_
    rcases sub9 j h with h | h
    · exact .inr (.inl h)
    · omega

theorem dec_done {w W1 wr : World} {Fr D F F1 : Nat → Prop} {r q e m cv cv1 : Nat} {pv pv1 : Option Addr} {T : TypeId} {u0 u1 : Value} {l : List (List UInt8)} {tail rest rest1 cur cur1 : List UInt8} {xs : List Value} {ok : Bool} {o : Obj}
    (hW : W1 = w.alloc o) (hR0 : RdAt w Fr D r rest cur) (hF0 : ∀ j, FpS q (.slice pv 0 cv) u0 j → F j) (hok : ok = true) (hr : RdAt wr F1 D r rest1 cur1) (hrt : rest1 = tail) (hnew : ∀ j, F1 j → Fr j ∨ W1.heap.size ≤ j) (hsub : ∀ j, FpS q (.slice pv1 m cv1) u1 j → FpS q (.slice pv 0 cv) u0 j ∨ W1.heap.size ≤ j)
    (hdis : ∀ j, FpS q (.slice pv1 m cv1) u1 j → ¬ F1 j ∧ ¬ D j) (hchg : Chg (fun j => Fr j ∨ FpS q (.slice pv 0 cv) u0 j ∨ j = w.heap.size) W1 wr) (hxs : xs.take e = u8s (l.take l.length).flatten) (he : e = (l.take l.length).flatten.length)
    (hcut : StrX (wr.setCell ⟨q, 0, none⟩ (.slice pv1 e cv1)) T q (.slice pv1 e cv1) u1 e (xs.take e) l.length (posOf 0 (l.take l.length)) ∧ Chg (· = q) wr (wr.setCell ⟨q, 0, none⟩ (.slice pv1 e cv1)) ∧ (Value.slice pv1 e cv1).ownBlock = (Value.slice pv1 m cv1).ownBlock) :
    DecS w Fr D F r q T ok l tail (.returned .nilIface) (wr.setCell ⟨q, 0, none⟩ (.slice pv1 e cv1)).drew := by
  obtain ⟨c1, c2, c3⟩ := hcut
  rw [List.take_length] at hxs he c1
  rw [hxs] at c1
  subst hrt he
  have hq0 : FpS q (.slice pv 0 cv) u0 q := .inl rfl
  have hq1 := hdis q (.inl rfl)
  have hr' := hr.upd c2 (fun j hj e => hq1.1 (e ▸ hj)) (fun j hj e => hq1.2 (e ▸ hj))
  have hfp : ∀ j, FpS q (.slice pv1 l.flatten.length cv1) u1 j → FpS q (.slice pv1 m cv1) u1 j := fun j hj => by
    rcases hj with h | h | h
    · exact .inl h
    · exact .inr (.inl (by rw [← c3]; exact h))
    · exact .inr (.inr h)
  have hs1 : W1.heap.size = w.heap.size + 1 := by rw [hW]; simp
  have hch : Chg (fun j => Fr j ∨ FpS q (.slice pv 0 cv) u0 j ∨ j = w.heap.size) W1 (wr.setCell ⟨q, 0, none⟩ (.slice pv1 l.flatten.length cv1)) := hchg.trans c2 fun j _ h => .inr (.inl (.inl h))
  refine ⟨fun _ => ⟨rfl, F1, cur1, FpS q (.slice pv1 l.flatten.length cv1) u1, hr'.below (drewBelow _), ⟨_, _, c1.drew, fun _ h => h⟩, ⟨?_, fun j hj => ?_⟩, fun j hj => hdis j (hfp j hj)⟩, fun h => by rw [hok] at h; simp at h⟩
  · exact (dec_chg hW rfl hch hF0 (Chg.refl F1 _) hnew).drew
  · rcases hj with h | h
    · rcases hnew j h with h1 | h1
      · exact .inl (.inl h1)
      · obtain ⟨_, _, _, hx⟩ := hr'
        exact .inr ⟨by omega, hx.inF j h⟩
    · rcases hsub j (hfp j h) with h1 | h1
      · exact .inl (.inr (hF0 j h1))
      · exact .inr ⟨by omega, c1.inn j h⟩

set_option maxRecDepth 100000 in
set_option maxHeartbeats 4000000 in
theorem strDecode (w : World) (Fr D F : Nat → Prop) (r q : Nat) (T : TypeId) (l : List (List UInt8)) (tail rest cur : List UInt8) (ok : Bool) (hR : RdAt w Fr D r rest cur) (hrest : RestI ok l tail 0 rest) (hX : StrCol w F T q []) (hF : ∀ k, F k → ¬ Fr k ∧ ¬ D k)
    (hbig : rest.length ≤ 1000000000) (hl : (encS l).length ≤ 1000000000) :
    Calls Tryz.prog 88 #[.pointer (some ⟨q, 0, none⟩), .pointer (some ⟨r, 0, none⟩), .int .i64 l.length] w (DecS w Fr D F r q T ok l tail) := by
  obtain ⟨v0, u0, hX0, hF0⟩ := hX
  simp only [List.flatten_nil, List.length_nil, u8s, List.map_nil] at hX0
  obtain ⟨pv, cv, rfl⟩ : ∃ p c, v0 = .slice p 0 c := OwnR.slice (F := fun _ => True) ⟨hX0.buf, fun _ _ => trivial⟩
  obtain ⟨pu, cu, rfl⟩ : ∃ p c, u0 = .slice p 0 c := OwnR.slice (F := fun _ => True) ⟨hX0.pos, fun _ _ => trivial⟩
  have hge := encS_ge l
  have hX1 := hX0.keep ((Below.refl _ w).alloc (Nat.le_refl _) (.cells #[.int .i64 0, .int .i64 0] 161))
  have hR1 := hR.below ((Below.refl _ w).alloc (Nat.le_refl _) (.cells #[.int .i64 0, .int .i64 0] 161))
  obtain ⟨c0, c1, cf, hlt⟩ := hX0.cells
  have hlt2 : q ≠ w.heap.size := by omega
  have HX := Lib.hid hX1
  have HR := Lib.hid hR1
  have HF := Lib.hid hF
  have HF0 := Lib.hid hF0
  have HX0 := Lib.hid hX0
  have HRS := Lib.hid hrest
  have HR0 := Lib.hid hR
  have cf0 := cf 0
  have cf1 := cf 1
  clear hX1 hR1 hF hF0 hX0 hrest hR cf
  by_cases hleft : rest.length < l.length
  · have hokf : ok = false := by
      rcases HRS.out with ⟨h1, h2⟩ | ⟨h1, -⟩
      · rw [h2] at hleft; simp at hleft; omega
      · exact h1
    subst hokf
    have hli : (rest.length : Int) < (l.length : Int) := by omega
    go_enter Tryz.func88, Tryz.ntmps88
    go_wp2_with (go_at_call 42; refine (rdLeft _ _ _ _ _ _ HR.out).mono ?_; rintro e w' ⟨rfl, rfl⟩)
    obtain ⟨b, v, hbr, h⟩ := HR.out
    go_wp2_with (first | (go_at_call 56; refine (rdEnd _ Fr D r rest b v (u8s cur) h).mono ?_; rintro e w1 ⟨⟨a, rfl⟩, h1, hu⟩) | (go_at_call 48; refine (wrapErr _ _ _ _).mono ?_; rintro e w2 ⟨⟨a2, rfl⟩, hb2⟩))
    go_ret
    refine ⟨fun h => by simp at h, fun _ => ⟨⟨_, rfl⟩, ?_⟩⟩
    exact ((((Chg.refl Fr w).alloc _).trans hu.chg (fun _ _ h => h)).trans (Chg.of_below hb2) (fun _ _ h => h)).mono fun _ _ h => .inl h
  · have hli : ¬ (rest.length : Int) < (l.length : Int) := by omega
    obtain ⟨W1, hW1⟩ : ∃ W1, W1 = w.alloc (.cells #[.int .i64 0, .int .i64 0] 161) := ⟨_, rfl⟩
    have hs1 : W1.heap.size = w.heap.size + 1 := by rw [hW1]; simp
    have hpb1 : W1.heap[w.heap.size]? = some (.cells #[.int .i64 0, .int .i64 0] 161 (0, 0)) := by rw [hW1]; exact heap_alloc_new _ _
    rw [← hW1] at HX HR
    have HW := Lib.hid hW1
    have HS1 := Lib.hid hs1
    have HPB1 := Lib.hid hpb1
    have HBIG := Lib.hid hbig
    clear hW1 hs1 hpb1 hbig
    have HC := Lib.hid (show cu < l.length ∨ ¬ cu < l.length from Nat.lt_or_ge _ _ |>.imp id Nat.not_lt.2)
    go_enter Tryz.func88, Tryz.ntmps88
    go_upto_if 34 with (first | (go_at_call 42; rw [← HW.out]; refine (rdLeft _ _ _ _ _ _ HR.out).mono ?_; rintro e w' ⟨rfl, rfl⟩; rw [HW.out]))
    go_cut [8] (fun s8 wx => s8 = .int .i64 0 ∧ DecP W1 Fr D r q w.heap.size T pv cv (.slice pu 0 cu) rest cur wx)
    case first =>
      rcases HC.out with hcap | hcap
      · have hcI : (cu : Int) < (l.length : Int) := by omega
        obtain ⟨k, hk⟩ : ∃ k, k = l.length - cu := ⟨_, rfl⟩
        have hkI : (l.length : Int) - (cu : Int) = (k : Int) := by omega
        have hkw : IntKind.i64.wrap (k : Int) = (k : Int) := by rw [IntKind.wrap_i64]; omega
        have hlw2 : IntKind.i64.wrap ((l.length : Int)) = (l.length : Int) := by rw [IntKind.wrap_i64]; omega
        have HK := Lib.hid hk
        clear hk
        go_wp2_with fail
        go_region_law ((refine step_zerosP (by rfl) _ T q _ _ _ _ _ _ ((show StrX (w.alloc (.cells #[.int .i64 0, .int .i64 0] 161)) T q _ _ _ _ _ _ from HW.out ▸ HX.out).keep (drewBelow _)) _ _ (by rfl) (by rfl) k (by rfl) (by omega) ?_; intro p1 k1 w1 ys G1; have g0 := G1.c0; have g1 := G1.c1; have gf0 := G1.cf 0; have gf1 := G1.cf 1))
        all_goals
          go_wp2_with fail
          go_meet
          case rel =>
            have hu := G1.upd.ofDrew
            have hok := G1.ok
            rw [← HW.out] at hu
            simp only [Nat.zero_add] at hu hok
            refine ⟨rfl, p1, _, k1, _, hok, HR.out.upd hu.chg (fun j hj e => (HF.out j (HF0.out j e)).1 hj) (fun j hj e => (HF.out j (HF0.out j e)).2 hj), fun j hj => ?_, ?_, hu.chg⟩
            · rcases hu.new j hj with h | h
              · exact .inl h
              · exact .inr h.1
            · rw [hu.chg.block _ (by have := HS1.out; omega) (fun e => by have := HX0.out.inn _ e; omega)]
              exact HPB1.out
      · have hcI : ¬ (cu : Int) < (l.length : Int) := by omega
        go_wp2_with fail
        go_meet
        case rel =>
          rw [← HW.out]
          exact ⟨rfl, pu, 0, cu, _, HX.out, HR.out, fun j hj => .inl hj, HPB1.out, Chg.refl _ _⟩
    case rest =>
      obtain ⟨rfl, p, n, c, ps, hX, hR, hsub, hpb, hchg⟩ := hcut
      obtain ⟨a0, a1, af, alt⟩ := hX.cells
      have af0 := af 0
      have af1 := af 1
      have HX1 := Lib.hid hX
      have HR1 := Lib.hid hR
      have HSUB := Lib.hid hsub
      have HPB := Lib.hid hpb
      have HCHG := Lib.hid hchg
      clear hX hR hsub hpb hchg af
      go_wp2_with fail
      go_region
      obtain ⟨W3, hW3⟩ : ∃ W3, W3 = ((wc.setCell ⟨q, 1, none⟩ (.slice p 0 c)).setCell ⟨q, 0, none⟩ (.slice pv cv cv)).drew := ⟨_, rfl⟩
      rw [← hW3]
      have hDI : DecI W1 Fr D r q w.heap.size T (.slice pv 0 cv) (.slice pu 0 cu) ok l tail 0 W3 := by
        obtain ⟨x1, x2, x3⟩ := HX1.out.cutP
        obtain ⟨ys, y1, y2, y3⟩ := x1.capB
        have hcq : Chg (· = q) wc W3 := by rw [hW3]; exact (x2.trans y2 fun _ _ h => h).drew
        have hsz : w.heap.size < wc.heap.size := (Array.getElem?_eq_some_iff.1 HPB.out).1
        have hqF : F q := HF0.out q (.inl rfl)
        have hsub : ∀ j, FpS q (.slice pv cv cv) (.slice p 0 c) j → FpS q (.slice pv 0 cv) (.slice pu 0 cu) j ∨ W1.heap.size ≤ j := fun j hj => by
          refine HSUB.out j ?_
          rcases hj with h | h | h
          · exact .inl h
          · exact .inr (.inl (by rw [← y3]; exact h))
          · exact .inr (.inr (by rw [← x3]; exact h))
        refine ⟨Fr, cur, rest, _, _, cv, ys, 0, 0, HR1.out.upd hcq (fun j hj e => (HF.out q hqF).1 (e ▸ hj)) (fun j hj e => (HF.out q hqF).2 (e ▸ hj)), HRS.out, HBIG.out, fun j hj => .inl hj, ?_, by simp, Nat.zero_le _, by simp [u8s], hsub, ?_, fun j hj => ?_, ?_⟩
        · rw [hW3]; exact y1.drew
        · rw [hcq.block _ hsz (by intro h; have h : w.heap.size = q := h; omega)]; exact HPB.out
        · rcases hsub j hj with h | h
          · exact HF.out j (HF0.out j h)
          · refine ⟨fun hf => ?_, fun hd => ?_⟩
            · obtain ⟨_, _, _, hx⟩ := HR0.out
              have := hx.inF j hf
              have := HS1.out
              omega
            · obtain ⟨_, _, _, hx⟩ := HR0.out
              have := hx.inD j hd
              have := HS1.out
              omega
        · exact (HCHG.out.mono fun _ _ h => .inr (.inl h)).trans (hcq.mono (G := fun j => Fr j ∨ FpS q (.slice pv 0 cv) (.slice pu 0 cu) j ∨ j = w.heap.size) fun j _ h => .inr (.inl (.inl h))) fun _ _ h => h
      have HDI := Lib.hid hDI
      clear hDI hW3 a0 a1 af0 af1 alt
      go_wp2_with fail
      go_loopw [9] (fun vi wr => ∃ k : Nat, k ≤ l.length ∧ vi = .int .i64 k ∧ DecI W1 Fr D r q w.heap.size T (.slice pv 0 cv) (.slice pu 0 cu) ok l tail k wr) (fun vi _ => l.length - (intOf vi).toNat)
      case atStart => exact ⟨0, Nat.zero_le _, rfl, HDI.out⟩
      case round =>
        clear HDI HX1 HR1 HSUB HPB HCHG
        obtain ⟨k, hk, rfl, F1, cur1, rest1, v, u, m, xs, s0, e, hr, hrest, hr1l, hnew, hX, he, hem, hxs, hsub, hpb, hdis, hchg⟩ := hrel
        obtain ⟨pv1, cv1, rfl⟩ : ∃ p c, v = .slice p m c := OwnR.slice (F := fun _ => True) ⟨hX.buf, fun _ _ => trivial⟩
        obtain ⟨pu1, cu1, rfl⟩ : ∃ p c, u = .slice p k c := OwnR.slice (F := fun _ => True) ⟨hX.pos, fun _ _ => trivial⟩
        by_cases hlt : k < l.length
        · obtain ⟨s, hs⟩ : ∃ s, l[k]? = some s := ⟨_, List.getElem?_eq_getElem hlt⟩
          rcases hrest.next hs with ⟨hok, hshort⟩ | ⟨r', hr', hnext⟩
          · have hsn : s.length ≤ 1000000000 := by
              have h1 := encS_drop hs
              have h2 : (encS (l.drop k)).length ≤ (encS l).length := by
                conv => rhs; rw [← List.take_append_drop k l]
                unfold encS
                rw [List.flatMap_append, List.length_append]; omega
              rw [h1, List.length_append, List.length_append] at h2
              omega
            have HST := Lib.hid (strLen_short wr F1 D r s.length rest1 cur1 (by omega) hr hshort)
            have HCHG := Lib.hid hchg
            have HNEW := Lib.hid hnew
            have HOK := Lib.hid hok
            clear hrest hr1l hnew hX he hem hxs hsub hpb hdis hchg hr hshort hs hok
            go_wp2_with (first | (go_at_call 92; refine HST.out.mono ?_; rintro e1 w2 ⟨a2, F2, cur2, rfl, h2, hu2⟩) | (go_at_call 93; refine (wrapfErr _ _ _ _ _).mono ?_; rintro e3 w4 ⟨⟨a4, rfl⟩, hb4⟩))
            go_ret
            refine ⟨fun h => by rw [HOK.out] at h; simp at h, fun _ => ⟨⟨_, rfl⟩, ?_⟩⟩
            exact dec_chg HW.out rfl HCHG.out HF0.out ((hu2.chg.alloc _).trans (Chg.of_below (F := F1) hb4) fun _ _ h => h) HNEW.out
          · subst hr'
            obtain ⟨n, hn⟩ : ∃ n, n = s.length := ⟨_, rfl⟩
            rw [← hn] at hr hr1l hnext
            rw [List.length_append] at hr1l
            have hnn : n ≤ 1000000000 ∨ r'.length < n := by omega
            have hsn : n ≤ 1000000000 := by
              have h1 := encS_drop hs
              have h2 : (encS (l.drop k)).length ≤ (encS l).length := by
                conv => rhs; rw [← List.take_append_drop k l]
                unfold encS
                rw [List.flatMap_append, List.length_append]; omega
              rw [h1, List.length_append, List.length_append] at h2
              omega
            have HST := Lib.hid (strLen wr F1 D r n r' cur1 (by omega) hr (by rw [List.length_append]; omega))
            have HCHG := Lib.hid hchg
            have HNEW := Lib.hid hnew
            rcases hnext with ⟨hok, hsh⟩ | ⟨r2, hr2, hrest2⟩
            · have hshI : (r'.length : Int) < (n : Int) := by omega
              have HOK := Lib.hid hok
              clear hrest hr1l hnew hX he hem hxs hsub hpb hdis hchg hr hs hok hn
              go_wp2_with (first | (go_at_call 92; refine HST.out.mono ?_; rintro e1 w2 ⟨rfl, F2, cur2, h2, hu2⟩; obtain ⟨b2, v2, hbr2, hx2⟩ := id h2) | (go_at_call 42; refine (rdLeft _ F2 D r r' cur2 h2).mono ?_; rintro e2 w3 ⟨rfl, rfl⟩) | (go_at_call 56; refine (rdEnd _ F2 D r r' b2 v2 (u8s cur2) hx2).mono ?_; rintro e5 w5 ⟨⟨a5, rfl⟩, -, hu5⟩) | (go_at_call 93; refine (wrapfErr _ _ _ _ _).mono ?_; rintro e3 w4 ⟨⟨a4, rfl⟩, hb4⟩))
              go_ret
              refine ⟨fun h => by rw [HOK.out] at h; simp at h, fun _ => ⟨⟨_, rfl⟩, ?_⟩⟩
              refine dec_chg HW.out rfl HCHG.out HF0.out (F1 := F1) ?_ HNEW.out
              exact (((hu2.trans hu5).chg).alloc _).trans (Chg.of_below (F := F1) hb4) fun _ _ h => h
            · have hnr : n ≤ r'.length := by rw [hr2, hn, List.length_append]; omega
              have hshI : ¬ (r'.length : Int) < (n : Int) := by omega
              have hfl : (l.take (k + 1)).flatten = (l.take k).flatten ++ s := flat_take_succ hs
              obtain ⟨e', he'⟩ : ∃ e', e' = e + n := ⟨_, rfl⟩
              have hfe : (l.take (k + 1)).flatten.length = e' := by rw [hfl, List.length_append, ← he, ← hn]; omega
              have hel : e' ≤ 1000000000 := by
                have h1 := flat_take_le l (k + 1)
                have h2 := flat_le_enc l
                omega
              have heI : (e : Int) + (n : Int) = (e' : Int) := by omega
              have HINF : Hid (∀ j, F1 j → j < wr.heap.size) := Lib.hid fun j hj => by obtain ⟨_, _, _, hx⟩ := hr; exact hx.inF j hj
              have hpbF : ¬ F1 w.heap.size := fun h => by
                rcases hnew _ h with h | h
                · obtain ⟨_, _, _, hx⟩ := HR0.out; have := hx.inF _ h; omega
                · have := HS1.out; omega
              have HPBF := Lib.hid hpbF
              have HPB := Lib.hid hpb
              have HDIS := Lib.hid hdis
              have HX1 := Lib.hid hX
              have HXS := Lib.hid hxs
              have HR2 := Lib.hid hr2
              have HREST2 := Lib.hid hrest2
              have HFL := Lib.hid hfl
              have HE := Lib.hid he
              have HE' := Lib.hid he'
              have HFE := Lib.hid hfe
              have HN := Lib.hid hn
              have HSUB := Lib.hid hsub
              have HEM := Lib.hid hem
              have HS := Lib.hid hs
              have HR1L := Lib.hid hr1l
              clear hrest hr1l hnew hX he he' hem hxs hsub hpb hdis hchg hr hs hn hr2 hrest2 hfl hfe hpbF
              go_wp2_with (first | (go_at_call 92; refine HST.out.mono ?_; rintro e1 w2 ⟨rfl, F2, cur2, h2, hu2⟩; have hX2 := HX1.out.chg hu2.chg (fun j hj => (HDIS.out j hj).1); obtain ⟨x0, x1, xf, -⟩ := hX2.cells; have xf0 := xf 0; have xf1 := xf 1; have hp2 : w2.heap[w.heap.size]? = some (.cells #[.int .i64 (s0 : Nat), .int .i64 (e : Nat)] 161 (0, 0)) := (by rw [hu2.chg.block _ (Array.getElem?_eq_some_iff.1 HPB.out).1 HPBF.out]; exact HPB.out); have p0 : w2.cell? ⟨w.heap.size, 0, none⟩ = some (.int .i64 (s0 : Nat)) := (by simp [World.cell?, hp2]); have p1 : w2.cell? ⟨w.heap.size, 1, none⟩ = some (.int .i64 (e : Nat)) := (by simp [World.cell?, hp2]); have pf0 : w2.frozen? ⟨w.heap.size, 0, none⟩ = false := (by simp [World.frozen?, hp2]); have pf1 : w2.frozen? ⟨w.heap.size, 1, none⟩ = false := (by simp [World.frozen?, hp2])) | (go_at_call 42; refine (rdLeft _ F2 D r r' cur2 h2).mono ?_; rintro e2 w3 ⟨rfl, rfl⟩))
              obtain ⟨w3, hw3⟩ : ∃ w3, w3 = (w2.setCell ⟨w.heap.size, 0, none⟩ (.int .i64 (e : Nat))).setCell ⟨w.heap.size, 1, none⟩ (.int .i64 (e' : Nat)) := ⟨_, rfl⟩
              rw [← hw3]
              have hc3 : Chg (· = w.heap.size) w2 w3 := by rw [hw3]; exact ((Chg.refl (· = w.heap.size) w2).setCell (p := ⟨w.heap.size, 0, none⟩) (.inl rfl) _).setCell (p := ⟨w.heap.size, 1, none⟩) (.inl rfl) _
              have hp3 : w3.heap[w.heap.size]? = some (.cells #[.int .i64 (e : Nat), .int .i64 (e' : Nat)] 161 (0, 0)) := by rw [hw3]; simp [World.setCell, Array.getElem?_modify, hp2]
              have hpX : ∀ j, FpS q (.slice pv1 m cv1) (.slice pu1 k cu1) j → j ≠ w.heap.size := fun j hj ej => by
                rcases HSUB.out j hj with h | h
                · have := HX0.out.inn _ h; omega
                · have := HS1.out; omega
              have hX3 := hX2.chg hc3 hpX
              have h3 := h2.upd hc3 (fun j hj ej => by
                rcases hu2.new j hj with h | h
                · exact HPBF.out (ej ▸ h)
                · have := (Array.getElem?_eq_some_iff.1 HPB.out).1; omega) (fun j hj ej => by
                obtain ⟨_, _, _, hx⟩ := HR0.out
                have := hx.inD j hj
                omega)
              obtain ⟨y0, y1, yf, -⟩ := hX3.cells
              have yf0 := yf 0
              have yf1 := yf 1
              have q0 : w3.cell? ⟨w.heap.size, 0, none⟩ = some (.int .i64 (e : Nat)) := by simp [World.cell?, hp3]
              have q1 : w3.cell? ⟨w.heap.size, 1, none⟩ = some (.int .i64 (e' : Nat)) := by simp [World.cell?, hp3]
              have HX3 := Lib.hid hX3
              have H3 := Lib.hid h3
              have HP3 := Lib.hid hp3
              have HPX := Lib.hid hpX
              have HC3 := Lib.hid hc3
              have HU2 := Lib.hid hu2
              have H2 := Lib.hid h2
              clear hw3 hX3 h3 hp3 hpX hc3 hu2 hX2 h2 hp2 p0 p1 pf0 pf1 x0 x1 xf0 xf1 xf yf
              go_quiet (fail)
              have y0n : (w3.drewN nq).cell? ⟨q, 0, none⟩ = some (.slice pv1 m cv1) := y0
              go_upto_if 115 with fail
              go_cut [12] (fun s12 wx => DecM w2 T q (.slice pv1 m cv1) (.slice pu1 k cu1) xs k (posOf 0 (l.take k)) w.heap.size e e' wx)
              case first =>
                by_cases hgrow : m < e'
                · have hgI : (m : Int) < (e' : Int) := by omega
                  obtain ⟨rem, hrem⟩ : ∃ rem, rem = l.length - k := ⟨_, rfl⟩
                  have hremI : (l.length : Int) - (k : Int) = (rem : Int) := by omega
                  have hrem1 : 1 ≤ rem ∧ rem ≤ 1000000000 := by omega
                  by_cases h128 : n < 128
                  · have h128I : (n : Int) < 128 := by omega
                    obtain ⟨an, han⟩ : ∃ an, an = n * rem := ⟨_, rfl⟩
                    have han1 : an ≤ 128000000000 := by rw [han]; exact Nat.le_trans (Nat.mul_le_mul (show n ≤ 128 by omega) hrem1.2) (by decide)
                    have han2 : n ≤ an := by rw [han]; exact Nat.le_mul_of_pos_right _ hrem1.1
                    have hanI : (n : Int) * (rem : Int) = (an : Int) := by rw [han]; simp
                    have hanw : IntKind.i64.wrap (an : Int) = (an : Int) := by rw [IntKind.wrap_i64]; omega
                    have HEN : Hid (e' ≤ m + an) := Lib.hid (by have := HEM.out; have := HE'.out; omega)
                    clear han hrem
                    go_wp2_with (at_builtin; refine list_zerosB rfl _ T q _ _ _ _ _ _ (HX3.out.drewN nq) _ _ rfl rfl an rfl (by omega) ?_; intro p5 k5 w5 ys G5; have g0 := G5.c0; have g1 := G5.c1; have gf0 := G5.cf 0)
                    go_meet
                    case rel =>
                      have hu := G5.upd.ofDrewN
                      have hxl := HX3.out.buf.1
                      refine ⟨_, _, _, G5.ok, HEN.out, ?_, ?_, (HC3.out.mono fun _ _ h => .inr h).trans hu.chg fun _ _ h => .inl h, fun j hj => ?_⟩
                      · rw [List.take_append_of_le_length (by have := HEM.out; omega)]
                      · rw [hu.chg.block _ (Array.getElem?_eq_some_iff.1 HP3.out).1 fun ej => HPX.out _ ej rfl]; exact HP3.out
                      · rcases hu.new j hj with h | h
                        · exact .inl h
                        · exact .inr (Nat.le_trans HC3.out.size h.1)
                  · have h128I : ¬ (n : Int) < 128 := by omega
                    have HEN : Hid (e' ≤ m + n) := Lib.hid (by have := HEM.out; have := HE'.out; omega)
                    clear hrem
                    go_wp2_with (at_builtin; refine list_zerosB rfl _ T q _ _ _ _ _ _ (HX3.out.drewN nq) _ _ rfl rfl n rfl (by omega) ?_; intro p5 k5 w5 ys G5; have g0 := G5.c0; have g1 := G5.c1; have gf0 := G5.cf 0)
                    go_meet
                    case rel =>
                      have hu := G5.upd.ofDrewN
                      have hxl := HX3.out.buf.1
                      refine ⟨_, _, _, G5.ok, HEN.out, ?_, ?_, (HC3.out.mono fun _ _ h => .inr h).trans hu.chg fun _ _ h => .inl h, fun j hj => ?_⟩
                      · rw [List.take_append_of_le_length (by have := HEM.out; omega)]
                      · rw [hu.chg.block _ (Array.getElem?_eq_some_iff.1 HP3.out).1 fun ej => HPX.out _ ej rfl]; exact HP3.out
                      · rcases hu.new j hj with h | h
                        · exact .inl h
                        · exact .inr (Nat.le_trans HC3.out.size h.1)
                · have hgI : ¬ (m : Int) < (e' : Int) := by omega
                  go_wp2_with fail
                  go_meet
                  case rel => exact ⟨_, m, xs, HX3.out.drewN nq, by omega, rfl, HP3.out, (HC3.out.mono fun _ _ h => .inr h).drewN nq, fun j hj => .inl hj⟩
              case rest =>
                obtain ⟨v', m', xs', hXm, hem', hxs', hpm, hcm, hsubm⟩ := hcut
                obtain ⟨pm, cm, rfl⟩ : ∃ p c, v' = .slice p m' c := OwnR.slice (F := fun _ => True) ⟨hXm.buf, fun _ _ => trivial⟩
                obtain ⟨z0, z1, zf, -⟩ := hXm.cells
                have zf0 := zf 0
                have zf1 := zf 1
                have t0 : wc.cell? ⟨w.heap.size, 0, none⟩ = some (.int .i64 (e : Nat)) := by simp [World.cell?, hpm]
                have t1 : wc.cell? ⟨w.heap.size, 1, none⟩ = some (.int .i64 (e' : Nat)) := by simp [World.cell?, hpm]
                have hmc : m' ≤ cm := by
                  rcases hXm.buf.2 with ⟨h1, h2⟩ | ⟨g, cap, cur', h1, -, -, hl, -⟩
                  · omega
                  · obtain ⟨-, -, rfl⟩ : pm = some ⟨g, 0, none⟩ ∧ m' = m' ∧ cm = cap := by simpa using h1
                    exact hl
                have bb1 : (e : Int) ≤ (cm : Int) := by have := HE'.out; omega
                have bb2 : (e' : Int) ≤ (cm : Int) := by omega
                have bb3 : (e : Int) ≤ (e' : Int) := by omega
                have disF : ∀ j, F2 j → ¬ (FpS q (.slice pv1 m cv1) (.slice pu1 k cu1) j ∨ j = w.heap.size) := fun j hj h => by
                  have hwr := (Array.getElem?_eq_some_iff.1 HPB.out).1
                  rcases HU2.out.new j hj with h1 | h1
                  · rcases h with h | h
                    · exact (HDIS.out j h).1 h1
                    · exact HPBF.out (h ▸ h1)
                  · rcases h with h | h
                    · have := HX1.out.inn j h; omega
                    · omega
                have disD : ∀ j, D j → ¬ (FpS q (.slice pv1 m cv1) (.slice pu1 k cu1) j ∨ j = w.heap.size) := fun j hj h => by
                  rcases h with h | h
                  · exact (HDIS.out j h).2 hj
                  · obtain ⟨_, _, _, hx⟩ := HR0.out
                    have := hx.inD j hj
                    omega
                have hRc := H2.out.upd hcm disF disD
                have fnew : ∀ j, FpS q (.slice pm m' cm) (.slice pu1 k cu1) j → ¬ F2 j ∧ ¬ D j := fun j hj => by
                  rcases hsubm j hj with h | h
                  · exact ⟨fun hf => disF j hf (.inl h), fun hd => disD j hd (.inl h)⟩
                  · obtain ⟨_, _, _, hx⟩ := H2.out
                    exact ⟨fun hf => by have := hx.inF j hf; omega, fun hd => by have := hx.inD j hd; omega⟩
                have hrF : F2 r := by obtain ⟨_, _, _, hx⟩ := H2.out; exact hx.own
                have HXM := Lib.hid hXm
                have HXSM := Lib.hid hxs'
                have HPM := Lib.hid hpm
                have HCM := Lib.hid hcm
                have HSUBM := Lib.hid hsubm
                have HRC := Lib.hid hRc
                have HFN := Lib.hid fnew
                have HDF := Lib.hid disF
                have HDD := Lib.hid disD
                have HRF := Lib.hid hrF
                clear hXm hxs' hpm hcm hsubm hRc fnew disF disD hrF zf y0 y1 yf0 yf1 q0 q1 y0n
                go_upto_region 25 with fail
                go_cut [13] (fun s13 wx => s13 = .nilIface ∧ DecN w2 F2 D r r2 cur2 T q (.slice pv1 m cv1) (.slice pu1 k cu1) k (posOf 0 (l.take k)) w.heap.size e e' (l.take (k + 1)).flatten wx)
                case first =>
                  by_cases hn0 : n = 0
                  · subst hn0
                    obtain rfl : e' = e := by have := HE'.out; omega
                    obtain rfl : s = [] := List.length_eq_zero_iff.1 HN.out.symm
                    have hr2 : r' = r2 := by rw [HR2.out]; rfl
                    have hRd : RdAt wc.drew F2 D r r2 cur2 := by rw [← hr2]; exact HRC.out.below (drewBelow _)
                    have HRD := Lib.hid hRd
                    have HL2 : Hid (r2.length ≤ 140737488355328) := Lib.hid (by have := HR1L.out; rw [hr2] at this; omega)
                    clear hRd hr2
                    cases pm
                    all_goals
                      go_still_tail 10, (by kernel_rfl)
                      change wpList _ _ _ _ _ wc.drew
                      go_wp2_with (go_at_call 58; refine (readZero _ F2 D r _ _ r2 cur2 HRD.out HL2.out).mono ?_; rintro e6 w6 ⟨rfl, h6, hc6⟩)
                      all_goals
                        go_meet
                        case rel =>
                          have hc6' : Chg (· = r) wc w6 := hc6.ofDrew
                          refine ⟨rfl, _, _, _, HXM.out.chg hc6' (fun j hj ej => (HFN.out j hj).1 (ej ▸ HRF.out)), hem', ?_, ?_, h6, (HCM.out.mono fun _ _ h => h.elim .inl fun h => .inr (.inl h)).trans hc6' fun _ _ h => .inr (.inr h), HSUBM.out⟩
                          · rw [HXSM.out, HXS.out, HFL.out]; simp
                          · rw [hc6'.block _ (Array.getElem?_eq_some_iff.1 HPM.out).1 (fun ej => HDF.out _ HRF.out (.inr ej.symm))]; exact HPM.out
                  · rcases HXM.out.buf.2 with ⟨h1, h2⟩ | ⟨g, cap, cur', h1, -, hh, hl9, hm9, hs9, ht9⟩
                    · exfalso; have := HE'.out; omega
                    · obtain ⟨rfl, -, rfl⟩ : pm = some ⟨g, 0, none⟩ ∧ m' = m' ∧ cm = cap := by simpa using h1
                      have hne : ¬ cm = e := by have := HE'.out; omega
                      have hsubI : (e' : Int) - (e : Int) = (n : Int) := by have := HE'.out; omega
                      have hsubN : e' - e = n := by have := HE'.out; omega
                      have hfg := HFN.out g (.inr (.inl rfl))
                      have HRI := Lib.hid (readInto wc.drew F2 D r g e n (cm - e) r' cur2 (HRC.out.below (drewBelow _)) cur' 5 hh (by have := HE'.out; omega) hfg.1 hfg.2 hnr (by have := HR1L.out; omega))
                      have HH := Lib.hid hh
                      have HT9 := Lib.hid ht9
                      have HS9 := Lib.hid hs9
                      clear h1 hh ht9 hs9 hm9 hfg
                      go_still_tail 10, (by kernel_rfl)
                      change wpList _ _ _ _ _ wc.drew
                      go_wp2_with (go_at_call 58; refine HRI.out.mono ?_; rintro e6 w6 ⟨rfl, h6, hc6, hg6⟩)
                      go_meet
                      case rel =>
                        have hc6' : Chg (fun k => k = r ∨ k = g) wc w6 := hc6.ofDrew
                        have htk : r'.take n = s := by rw [HR2.out, HN.out, List.take_left]
                        have hdr : r'.drop n = r2 := by rw [HR2.out, HN.out, List.drop_left]
                        rw [hdr] at h6
                        rw [htk] at hg6
                        have hen := HE'.out
                        have hnl := HN.out
                        have hul : (u8s s).length = n := by rw [u8s_length, ← hnl]
                        have hct : (cur'.toList.take e).length = e := by have := HS9.out; simp; omega
                        have hFX := HXM.out.fill cur' _ HH.out (by have := HS9.out; simp [hul]; omega) hg6 hc6' (fun h => (HFN.out r h).1 HRF.out)
                        refine ⟨rfl, _, _, _, hFX, hem', ?_, ?_, h6, (HCM.out.mono fun _ _ h => h.elim .inl fun h => .inr (.inl h)).trans hc6' fun j hj h => ?_, HSUBM.out⟩
                        · rw [List.take_take, show min e' (m' * 1) = e' by omega, HFL.out, u8s_append, ← HXS.out, ← HXSM.out, ← HT9.out, List.take_take, show min e (m' * 1) = e by omega]
                          rw [← List.append_assoc, List.take_append_of_le_length (by rw [List.length_append, hct, hul]; omega), List.take_of_length_le (by rw [List.length_append, hct, hul]; omega)]
                        · rw [hc6'.block _ (Array.getElem?_eq_some_iff.1 HPM.out).1 (fun ej => ej.elim (fun ej => HDF.out _ HRF.out (.inr ej.symm)) fun ej => by
                            rcases HSUBM.out g (.inr (.inl rfl)) with h | h
                            · exact HPX.out g h ej.symm
                            · have := (Array.getElem?_eq_some_iff.1 HPB.out).1; have := HU2.out.chg.size; omega)]
                          exact HPM.out
                        · rcases h with h | h
                          · exact .inr (.inr h)
                          · rcases HSUBM.out g (.inr (.inl rfl)) with h2 | h2
                            · exact .inl (h ▸ h2)
                            · omega
                case rest =>
                  obtain ⟨rfl, v9, m9, xs9, hX9, hem9, hxs9, hp9, hR9, hc9, hsub9⟩ := hcut
                  obtain ⟨pv9, cv9, rfl⟩ : ∃ p c, v9 = .slice p m9 c := OwnR.slice (F := fun _ => True) ⟨hX9.buf, fun _ _ => trivial⟩
                  obtain ⟨r0, r1, rf, r9⟩ := hX9.cells
                  have r9n : q ≠ wc.heap.size := by omega
                  have rf0 := rf 0
                  have rf1 := rf 1
                  have u0 : wc.cell? ⟨w.heap.size, 0, none⟩ = some (.int .i64 (e : Nat)) := by simp [World.cell?, hp9]
                  have u1 : wc.cell? ⟨w.heap.size, 1, none⟩ = some (.int .i64 (e' : Nat)) := by simp [World.cell?, hp9]
                  have HX9 := Lib.hid hX9
                  have HX9A := Lib.hid (hX9.keep ((Below.refl _ wc).alloc (Nat.le_refl _) (.cells #[.int .i64 (e : Nat), .int .i64 (e' : Nat)] 161))).drew
                  have HSR := Lib.hid (src_posD wc (e : Nat) (e' : Nat))
                  have HP9 := Lib.hid hp9
                  have HR9 := Lib.hid hR9
                  have HC9 := Lib.hid hc9
                  have HSUB9 := Lib.hid hsub9
                  have HXS9 := Lib.hid hxs9
                  have hk9 : k + 1 ≤ 8796093022208 := by omega
                  have HFN9 : Hid (∀ j, FpS q (.slice pv9 m9 cv9) (.slice pu1 k cu1) j → ¬ F2 j ∧ ¬ D j) := Lib.hid fun j hj => by
                    rcases hsub9 j hj with h | h
                    · exact ⟨fun hf => HDF.out j hf (.inl h), fun hd => HDD.out j hd (.inl h)⟩
                    · obtain ⟨_, _, _, hx⟩ := H2.out
                      exact ⟨fun hf => by have := hx.inF j hf; omega, fun hd => by have := hx.inD j hd; omega⟩
                  have HK1 : Hid (k + 1 ≤ l.length) := Lib.hid (by omega)
                  have HR2L : Hid (r2.length ≤ 1000000000) := Lib.hid (by have := HR1L.out; rw [HR2.out, List.length_append] at this; omega)
                  clear hX9 hp9 hR9 hc9 hsub9 hxs9 rf z0 z1 zf0 zf1 t0 t1
                  go_wp2_with fail
                  go_region_law ((refine step_strP (by rfl) _ T q _ _ _ _ _ _ HX9A.out _ _ _ (by rfl) (by rfl) _ (by rfl) 1 _ HSR.out hk9 ?_; intro p8 k8 w8 G8; have g80 := G8.c0; have g81 := G8.c1; have gf80 := G8.cf 0; have gf81 := G8.cf 1))
                  all_goals
                    go_wp2_with fail
                    go_roundw
                    case rel => exact ⟨k + 1, HK1.out, by go_num, dec_next HW.out HX0.out HR0.out HF0.out HS.out HCHG.out HNEW.out HSUB.out HU2.out HX9.out HP9.out HR9.out HC9.out HSUB9.out HXS9.out hem9 HE.out HE'.out HN.out HREST2.out HPX.out HR2L.out HFN9.out G8.ok G8.upd⟩
                    case measure => simp [intOf]; omega
        · obtain rfl : k = l.length := by omega
          obtain ⟨hok, hrt⟩ := hrest.done
          obtain ⟨a0, a1, af, -⟩ := hX.cells
          have af0 := af 0
          have af1 := af 1
          have t1 : wr.cell? ⟨w.heap.size, 1, none⟩ = some (.int .i64 (e : Nat)) := by simp [World.cell?, hpb]
          have hmc : m ≤ cv1 := by
            rcases hX.buf.2 with ⟨h1, h2⟩ | ⟨g, cap, cur', h1, -, -, hl, -⟩
            · omega
            · obtain ⟨-, -, rfl⟩ : pv1 = some ⟨g, 0, none⟩ ∧ m = m ∧ cv1 = cap := by simpa using h1
              exact hl
          have bb : (e : Int) ≤ (cv1 : Int) := by omega
          have hcut := hX.cutB hem
          have HCUT := Lib.hid hcut
          have HOK := Lib.hid hok
          have HR9 := Lib.hid hr
          have HRT := Lib.hid hrt
          have HNEW := Lib.hid hnew
          have HSUB := Lib.hid hsub
          have HDIS := Lib.hid hdis
          have HCHG := Lib.hid hchg
          have HXS := Lib.hid hxs
          have HE := Lib.hid he
          have HX9 := Lib.hid hX
          clear hok hr hrt hnew hsub hdis hchg hxs he hcut hX hpb hrest af
          go_wp2_with fail
          go_region
          all_goals
            go_wp2_with fail
            go_ret
            exact dec_done HW.out HR0.out HF0.out HOK.out HR9.out HRT.out HNEW.out HSUB.out HDIS.out HCHG.out HXS.out HE.out HCUT.out
end Go.Proofs.YtemmhlibbihjmaaGreat
