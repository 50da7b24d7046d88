/- ColBytes, ColJSONStr, ColJSONBytes: their methods over ColStr's. -/
import Derived.Test.YtkidcgaogjlpaaaGreatStrE
namespace Go.Proofs.YtkidcgaogjlpaaaGreat
open Go.RowKit
set_option linter.unusedVariables false
set_option linter.unusedSimpArgs false

set_option maxRecDepth 100000 in
theorem bytesAppend (w : World) (F : Nat → Prop) (T : TypeId) (q : Nat) (l : List (List UInt8)) (x : Value) (s : List UInt8) (hx : BytesX w x s) (h : StrCol w F T q l) (hl : l.flatten.length + s.length ≤ 140737488355328) (hn : l.length + 1 ≤ 8796093022208) :
    Calls Tryz.prog 107 #[.pointer (some ⟨q, 0, none⟩), x] w (PutS w F T q (l ++ [s])) := by
  have H := Lib.hid (strAppendB w F T q l x s hx h hl hn)
  clear h hx
  go_enter Tryz.func107, Tryz.ntmps107
  go_wp2_with (go_at_call 38; refine H.out.mono ?_; rintro e w1 ⟨rfl, h1⟩)
  go_returns
  exact ⟨rfl, h1⟩
set_option maxRecDepth 100000 in
theorem jsonAppend (w : World) (F : Nat → Prop) (T : TypeId) (q : Nat) (l : List (List UInt8)) (s : ByteArray) (h : StrCol w F T q l) (hl : l.flatten.length + s.size ≤ 140737488355328) (hn : l.length + 1 ≤ 8796093022208) :
    Calls Tryz.prog 116 #[.pointer (some ⟨q, 0, none⟩), .string s] w (PutS w F T q (l ++ [s.data.toList])) := by
  have H := Lib.hid (strAppend w F T q l s h hl hn)
  clear h
  go_enter Tryz.func116, Tryz.ntmps116
  go_wp2_with (go_at_call 125; refine H.out.mono ?_; rintro e w1 ⟨rfl, h1⟩)
  go_returns
  exact ⟨rfl, h1⟩
set_option maxRecDepth 100000 in
theorem jsonAppendB (w : World) (F : Nat → Prop) (T : TypeId) (q : Nat) (l : List (List UInt8)) (x : Value) (s : List UInt8) (hx : BytesX w x s) (h : StrCol w F T q l) (hl : l.flatten.length + s.length ≤ 140737488355328) (hn : l.length + 1 ≤ 8796093022208) :
    Calls Tryz.prog 40 #[.pointer (some ⟨q, 0, none⟩), x] w (PutS w F T q (l ++ [s])) := by
  have H := Lib.hid (strAppendB w F T q l x s hx h hl hn)
  clear h hx
  go_enter Tryz.func40, Tryz.ntmps40
  go_wp2_with (go_at_call 38; refine H.out.mono ?_; rintro e w1 ⟨rfl, h1⟩)
  go_returns
  exact ⟨rfl, h1⟩
set_option maxRecDepth 100000 in
theorem jbytesAppend (w : World) (F : Nat → Prop) (T : TypeId) (q : Nat) (l : List (List UInt8)) (x : Value) (s : List UInt8) (hx : BytesX w x s) (h : StrCol w F T q l) (hl : l.flatten.length + s.length ≤ 140737488355328) (hn : l.length + 1 ≤ 8796093022208) :
    Calls Tryz.prog 128 #[.pointer (some ⟨q, 0, none⟩), x] w (PutS w F T q (l ++ [s])) := by
  have H := Lib.hid (jsonAppendB w F T q l x s hx h hl hn)
  clear h hx
  go_enter Tryz.func128, Tryz.ntmps128
  go_wp2_with (go_at_call 40; refine H.out.mono ?_; rintro e w1 ⟨rfl, h1⟩)
  go_returns
  exact ⟨rfl, h1⟩

def boxW (w : World) (v u : Value) (T : TypeId) : World := w.alloc (.cells #[v, u] T)
theorem boxW_below (w : World) (v u : Value) (T : TypeId) : Below w.heap.size w (boxW w v u T) := (Below.refl _ w).alloc (Nat.le_refl _) _

set_option maxRecDepth 100000 in
theorem jsonRows (w : World) (v u : Value) (l : List (List UInt8)) (h : StrV w v u l) :
    Calls Tryz.prog 122 #[.agg #[v, u]] w fun e w' => e = .returned (.int .i64 l.length) ∧ Below w.heap.size w w' := by
  have H := Lib.hid (strRows (boxW w v u 100) v u l (h.below (boxW_below _ _ _ _)))
  unfold boxW at H
  have HB : Hid (Below w.heap.size w (w.alloc (.cells #[v, u] 100))) := Lib.hid (boxW_below w v u _)
  clear h
  go_enter Tryz.func122, Tryz.ntmps122
  go_wp2_with (go_at_call 86; refine H.out.mono ?_; rintro e w1 ⟨rfl, hb⟩)
  go_ret
  exact ⟨rfl, HB.out.trans (hb.mono (by simp))⟩
set_option maxRecDepth 100000 in
theorem jsonRow (w : World) (v u : Value) (l : List (List UInt8)) (h : StrV w v u l) (i : Nat) (s : List UInt8) (hi : l[i]? = some s) (hm : l.length ≤ 8796093022208) :
    Calls Tryz.prog 121 #[.agg #[v, u], .int .i64 i] w fun e w' => e = .returned (.string ⟨s.toArray⟩) ∧ Below w.heap.size w w' := by
  have H := Lib.hid (strRow (boxW w v u 100) v u l (h.below (boxW_below _ _ _ _)) i s hi hm)
  unfold boxW at H
  have HB : Hid (Below w.heap.size w (w.alloc (.cells #[v, u] 100))) := Lib.hid (boxW_below w v u _)
  clear h hi
  go_enter Tryz.func121, Tryz.ntmps121
  go_wp2_with (go_at_call 111; refine H.out.mono ?_; rintro e w1 ⟨rfl, hb⟩)
  go_ret
  exact ⟨rfl, HB.out.trans (hb.mono (by simp))⟩
set_option maxRecDepth 100000 in
theorem bytesRow (w : World) (v u : Value) (l : List (List UInt8)) (h : StrV w v u l) (i : Nat) (s : List UInt8) (hi : l[i]? = some s) (hm : l.length ≤ 8796093022208) :
    Calls Tryz.prog 109 #[.agg #[v, u], .int .i64 i] w (RowB w v s) := by
  have H := Lib.hid (strRowBytes (boxW w v u 93) v u l (h.below (boxW_below _ _ _ _)) i s hi hm)
  unfold boxW at H
  have HB : Hid (Below w.heap.size w (w.alloc (.cells #[v, u] 93))) := Lib.hid (boxW_below w v u _)
  clear h hi
  go_enter Tryz.func109, Tryz.ntmps109
  go_wp2_with (go_at_call 110; refine H.out.mono ?_; rintro e w1 ⟨hb, x, rfl, hx, ho⟩)
  go_ret
  exact ⟨HB.out.trans (hb.mono (by simp)), x, rfl, hx, ho⟩
set_option maxRecDepth 100000 in
theorem jsonRowBytes (w : World) (v u : Value) (l : List (List UInt8)) (h : StrV w v u l) (i : Nat) (s : List UInt8) (hi : l[i]? = some s) (hm : l.length ≤ 8796093022208) :
    Calls Tryz.prog 131 #[.agg #[v, u], .int .i64 i] w (RowB w v s) := by
  have H := Lib.hid (strRowBytes (boxW w v u 100) v u l (h.below (boxW_below _ _ _ _)) i s hi hm)
  unfold boxW at H
  have HB : Hid (Below w.heap.size w (w.alloc (.cells #[v, u] 100))) := Lib.hid (boxW_below w v u _)
  clear h hi
  go_enter Tryz.func131, Tryz.ntmps131
  go_wp2_with (go_at_call 110; refine H.out.mono ?_; rintro e w1 ⟨hb, x, rfl, hx, ho⟩)
  go_ret
  exact ⟨HB.out.trans (hb.mono (by simp)), x, rfl, hx, ho⟩
set_option maxRecDepth 100000 in
theorem jbytesRow (w : World) (v u : Value) (l : List (List UInt8)) (h : StrV w v u l) (i : Nat) (s : List UInt8) (hi : l[i]? = some s) (hm : l.length ≤ 8796093022208) :
    Calls Tryz.prog 130 #[.agg #[v, u], .int .i64 i] w (RowB w v s) := by
  have H := Lib.hid (jsonRowBytes (boxW w v u 103) v u l (h.below (boxW_below _ _ _ _)) i s hi hm)
  unfold boxW at H
  have HB : Hid (Below w.heap.size w (w.alloc (.cells #[v, u] 103))) := Lib.hid (boxW_below w v u _)
  clear h hi
  go_enter Tryz.func130, Tryz.ntmps130
  go_wp2_with (go_at_call 131; refine H.out.mono ?_; rintro e w1 ⟨hb, x, rfl, hx, ho⟩)
  go_ret
  exact ⟨HB.out.trans (hb.mono (by simp)), x, rfl, hx, ho⟩
set_option maxRecDepth 100000 in
theorem jsonEncode (w : World) (F : Nat → Prop) (p : Nat) (bs : List UInt8) (v u : Value) (l : List (List UInt8)) (hB : BufAt w F 179 p bs) (hF : In F w) (h : StrV w v u l) (hv : ∀ g, v.ownBlock = some g → ¬ F g) (hu : ∀ g, u.ownBlock = some g → ¬ F g)
    (hl : bs.length + (encS l).length ≤ 140737488355328) (hm : l.length ≤ 8796093022208) :
    Calls Tryz.prog 119 #[.agg #[v, u], .pointer (some ⟨p, 0, none⟩)] w (Put w F 179 p (bs ++ encS l)) := by
  have H := Lib.hid (strEncode (boxW w v u 100) F p bs v u l (hB.alloc _) (hF.mono (boxW_below _ _ _ _).size) (h.below (boxW_below _ _ _ _)) hv hu hl hm)
  unfold boxW at H
  clear hB hF h hv hu
  go_enter Tryz.func119, Tryz.ntmps119
  go_wp2_with (go_at_call 84; refine H.out.mono ?_; rintro e w1 ⟨rfl, F1, h1, hu1⟩)
  go_returns
  exact ⟨rfl, F1, h1, ((Upd.refl F w).alloc _).trans hu1⟩
set_option maxRecDepth 100000 in
theorem jsonDecode (w : World) (Fr D F : Nat → Prop) (r q : Nat) (T : TypeId) (l : List (List UInt8)) (tail rest cur : List UInt8) (ok : Bool) (hR : RdAt w Fr D r rest cur) (hrest : RestI ok l tail 0 rest) (hX : StrCol w F T q []) (hF : ∀ k, F k → ¬ Fr k ∧ ¬ D k)
    (hbig : rest.length ≤ 1000000000) (hl : (encS l).length ≤ 1000000000) :
    Calls Tryz.prog 118 #[.pointer (some ⟨q, 0, none⟩), .pointer (some ⟨r, 0, none⟩), .int .i64 l.length] w (DecS w Fr D F r q T ok l tail) := by
  have H := Lib.hid (strDecode w Fr D F r q T l tail rest cur ok hR hrest hX hF hbig hl)
  clear hR hrest hX hF
  cases ok
  · go_enter Tryz.func118, Tryz.ntmps118
    go_wp2_with (go_at_call 83; refine H.out.mono ?_; rintro e w1 ⟨-, h⟩; obtain ⟨⟨a, rfl⟩, h2⟩ := h rfl)
    go_ret
    exact ⟨fun h => by simp at h, fun _ => ⟨⟨_, rfl⟩, h2⟩⟩
  · go_enter Tryz.func118, Tryz.ntmps118
    go_wp2_with (go_at_call 83; refine H.out.mono ?_; rintro e w1 ⟨h, -⟩; obtain ⟨rfl, h2⟩ := h rfl)
    go_ret
    exact ⟨fun _ => ⟨rfl, h2⟩, fun h => by simp at h⟩
end Go.Proofs.YtkidcgaogjlpaaaGreat
