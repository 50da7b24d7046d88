/- impl.Prim.put: the bytes of a value. -/
import Derived.Test.YtlohpmncagfecaaDoorPuts
import Derived.Test.YtlohpmncagfecaaDoorBx
namespace Go.Proofs.YtlohpmncagfecaaDoor
open Go.RowKit
set_option linter.unnecessarySimpa false
set_option linter.unusedVariables false
set_option linter.unusedSimpArgs false

/-- The bytes of a value that is put. -/
def primBytes (op u v : Nat) (s : List UInt8) : List UInt8 :=
  if op = 1 ∨ op = 3 ∨ op = 7 then leB 1 u
  else if op = 2 then [bB (decide (u ≠ 0))]
  else if op = 4 ∨ op = 8 then leB 2 u
  else if op = 5 ∨ op = 9 ∨ op = 11 then leB 4 u
  else if op = 6 ∨ op = 10 ∨ op = 12 then leB 8 u
  else if op = 13 ∨ op = 14 then leB 8 u ++ leB 8 v
  else if op = 15 ∨ op = 16 ∨ op = 17 then uv u
  else if op = 18 then strBytes s
  else s

theorem primBytes_le (op u v : Nat) (s : List UInt8) (hu : u < 18446744073709551616) (hs : s.length ≤ 1000) : (primBytes op u v s).length ≤ 1010 := by
  have h1 := uv_length_le 10 u (by omega) (by omega)
  have h2 := uv_length_le 10 s.length (by omega) (by omega)
  unfold primBytes strBytes
  repeat' split
  all_goals simp
  all_goals omega

theorem Put.of_alloc {w : World} {o : Obj} {F : Nat → Prop} {T : TypeId} {p : Nat} {bs : List UInt8} {e : Ending} {w' : World} (h : Put (w.alloc o) F T p bs e w') : Put w F T p bs e w' :=
  ((Upd.refl F w).alloc o).trans_put h

theorem bytes_u8 (u : Nat) : (u : Int) % 256 = ((u % 256 : Nat) : Int) := by omega
theorem bytes_u16 (u : Nat) : (u : Int) % 65536 = ((u % 65536 : Nat) : Int) := by omega
theorem bytes_u32 (u : Nat) : (u : Int) % 4294967296 = ((u % 4294967296 : Nat) : Int) := by omega
theorem w8 (u : Nat) : (IntKind.i8.wrap (u : Int)) % 256 = ((u % 256 : Nat) : Int) := by simp only [IntKind.wrap, IntKind.bits, IntKind.signed]; omega
theorem w16 (u : Nat) : (IntKind.i16.wrap (u : Int)) % 65536 = ((u % 65536 : Nat) : Int) := by simp only [IntKind.wrap, IntKind.bits, IntKind.signed]; omega
theorem w32 (u : Nat) : (wrap32 (u : Int)) % 4294967296 = ((u % 4294967296 : Nat) : Int) := by unfold wrap32; omega
theorem w64 (u : Nat) (h : u < 18446744073709551616) : (wrap64 (u : Int)) % 18446744073709551616 = (u : Int) := by unfold wrap64; omega
theorem pF32m (w : World) (F : Nat → Prop) (p : Nat) (bs : List UInt8) (m u : Nat) (hm : m = u % 4294967296) (h : BufAt w F 57 p bs) (hF : In F w) (hl : bs.length + 4 ≤ 140737488355328) :
    Calls Tryd.prog 39 #[.pointer (some ⟨p, 0, none⟩), .float .f32 m] w (Put w F 57 p (bs ++ leB 4 u)) := by
  subst hm
  rw [show leB 4 u = leB 4 (u % 4294967296) from (leB4' u).symm]
  exact pF32 w F p bs _ (Nat.mod_lt _ (by decide)) h hF hl
theorem pF64m (w : World) (F : Nat → Prop) (p : Nat) (bs : List UInt8) (m u : Nat) (hm : m = u) (hu : u < 18446744073709551616) (h : BufAt w F 57 p bs) (hF : In F w) (hl : bs.length + 8 ≤ 140737488355328) :
    Calls Tryd.prog 41 #[.pointer (some ⟨p, 0, none⟩), .float .f64 m] w (Put w F 57 p (bs ++ leB 8 u)) := by
  subst hm
  exact pF64 w F p bs _ hu h hF hl
theorem pStr (w : World) (F : Nat → Prop) (p : Nat) (bs s : List UInt8) (h : BufAt w F 57 p bs) (hF : In F w) (hs : s.length ≤ 1000) (hl : bs.length ≤ 100000) :
    Calls Tryd.prog 48 #[.pointer (some ⟨p, 0, none⟩), .string ⟨s.toArray⟩] w (Put w F 57 p (bs ++ strBytes s)) := by
  have h10 := uv_length_le 10 s.length (by omega) (by omega)
  have h1 := putString w F p bs ⟨s.toArray⟩ h hF (by show s.toArray.size ≤ _; simp; omega) (by show bs.length + (uv s.toArray.size).length + s.toArray.size ≤ _; simp; omega)
  have e : uv (ByteArray.size ⟨s.toArray⟩) ++ (⟨s.toArray⟩ : ByteArray).data.toList = strBytes s := by show uv s.toArray.size ++ s.toArray.toList = _; simp [strBytes]
  rw [e] at h1
  exact h1

set_option maxRecDepth 100000 in
theorem put1 (w : World) (F : Nat → Prop) (p : Nat) (bs : List UInt8) (u v : Nat) (s : List UInt8) (sv : Value) (hu : u < 18446744073709551616) (hv : v < 18446744073709551616) (hs : BytesX w sv s) (hsl : s.length ≤ 1000) (h : BufAt w F 57 p bs) (hF : In F w) (hl : bs.length ≤ 100000) :
    Calls Tryd.prog 25 #[.agg #[.int .i64 1, .int .u64 u, .int .u64 v, sv], .pointer (some ⟨p, 0, none⟩)] w (Put w F 57 p (bs ++ leB 1 u)) := by
  have ha := Lib.hid (h.alloc (.cells #[.int .i64 1, .int .u64 (u : Nat), .int .u64 (v : Nat), sv] 28))
  have hFa := Lib.hid (hF.mono (w' := w.alloc (.cells #[.int .i64 1, .int .u64 (u : Nat), .int .u64 (v : Nat), sv] 28)) (by simp))
  have HU := Lib.hid hu
  have HV := Lib.hid hv
  clear hu hv hF h
  go_enter Tryd.func25, Tryd.ntmps25
  go_wp2_with (go_at_call 29; refine (pByte _ F p bs _ u (bytes_u8 u) ha.out hFa.out (by omega)).mono ?_; rintro e w1 ⟨rfl, hq⟩; have hp : Put _ _ _ _ _ _ _ := ⟨rfl, hq⟩)
  go_returns
  exact Put.of_alloc hp

set_option maxRecDepth 100000 in
theorem put3 (w : World) (F : Nat → Prop) (p : Nat) (bs : List UInt8) (u v : Nat) (s : List UInt8) (sv : Value) (hu : u < 18446744073709551616) (hv : v < 18446744073709551616) (hs : BytesX w sv s) (hsl : s.length ≤ 1000) (h : BufAt w F 57 p bs) (hF : In F w) (hl : bs.length ≤ 100000) :
    Calls Tryd.prog 25 #[.agg #[.int .i64 3, .int .u64 u, .int .u64 v, sv], .pointer (some ⟨p, 0, none⟩)] w (Put w F 57 p (bs ++ leB 1 u)) := by
  have ha := Lib.hid (h.alloc (.cells #[.int .i64 3, .int .u64 (u : Nat), .int .u64 (v : Nat), sv] 28))
  have hFa := Lib.hid (hF.mono (w' := w.alloc (.cells #[.int .i64 3, .int .u64 (u : Nat), .int .u64 (v : Nat), sv] 28)) (by simp))
  have HU := Lib.hid hu
  have HV := Lib.hid hv
  clear hu hv hF h
  go_enter Tryd.func25, Tryd.ntmps25
  go_wp2_with (go_at_call 31; refine (pI8 _ F p bs _ u (w8 u) ha.out hFa.out (by omega)).mono ?_; rintro e w1 ⟨rfl, hq⟩; have hp : Put _ _ _ _ _ _ _ := ⟨rfl, hq⟩)
  go_returns
  exact Put.of_alloc hp

set_option maxRecDepth 100000 in
theorem put4 (w : World) (F : Nat → Prop) (p : Nat) (bs : List UInt8) (u v : Nat) (s : List UInt8) (sv : Value) (hu : u < 18446744073709551616) (hv : v < 18446744073709551616) (hs : BytesX w sv s) (hsl : s.length ≤ 1000) (h : BufAt w F 57 p bs) (hF : In F w) (hl : bs.length ≤ 100000) :
    Calls Tryd.prog 25 #[.agg #[.int .i64 4, .int .u64 u, .int .u64 v, sv], .pointer (some ⟨p, 0, none⟩)] w (Put w F 57 p (bs ++ leB 2 u)) := by
  have ha := Lib.hid (h.alloc (.cells #[.int .i64 4, .int .u64 (u : Nat), .int .u64 (v : Nat), sv] 28))
  have hFa := Lib.hid (hF.mono (w' := w.alloc (.cells #[.int .i64 4, .int .u64 (u : Nat), .int .u64 (v : Nat), sv] 28)) (by simp))
  have HU := Lib.hid hu
  have HV := Lib.hid hv
  clear hu hv hF h
  go_enter Tryd.func25, Tryd.ntmps25
  go_wp2_with (go_at_call 32; refine (pI16 _ F p bs _ u (w16 u) ha.out hFa.out (by omega)).mono ?_; rintro e w1 ⟨rfl, hq⟩; have hp : Put _ _ _ _ _ _ _ := ⟨rfl, hq⟩)
  go_returns
  exact Put.of_alloc hp

set_option maxRecDepth 100000 in
theorem put5 (w : World) (F : Nat → Prop) (p : Nat) (bs : List UInt8) (u v : Nat) (s : List UInt8) (sv : Value) (hu : u < 18446744073709551616) (hv : v < 18446744073709551616) (hs : BytesX w sv s) (hsl : s.length ≤ 1000) (h : BufAt w F 57 p bs) (hF : In F w) (hl : bs.length ≤ 100000) :
    Calls Tryd.prog 25 #[.agg #[.int .i64 5, .int .u64 u, .int .u64 v, sv], .pointer (some ⟨p, 0, none⟩)] w (Put w F 57 p (bs ++ leB 4 u)) := by
  have ha := Lib.hid (h.alloc (.cells #[.int .i64 5, .int .u64 (u : Nat), .int .u64 (v : Nat), sv] 28))
  have hFa := Lib.hid (hF.mono (w' := w.alloc (.cells #[.int .i64 5, .int .u64 (u : Nat), .int .u64 (v : Nat), sv] 28)) (by simp))
  have HU := Lib.hid hu
  have HV := Lib.hid hv
  clear hu hv hF h
  go_enter Tryd.func25, Tryd.ntmps25
  go_wp2_with (go_at_call 33; refine (pI32 _ F p bs _ u (w32 u) ha.out hFa.out (by omega)).mono ?_; rintro e w1 ⟨rfl, hq⟩; have hp : Put _ _ _ _ _ _ _ := ⟨rfl, hq⟩)
  go_returns
  exact Put.of_alloc hp

set_option maxRecDepth 100000 in
theorem put6 (w : World) (F : Nat → Prop) (p : Nat) (bs : List UInt8) (u v : Nat) (s : List UInt8) (sv : Value) (hu : u < 18446744073709551616) (hv : v < 18446744073709551616) (hs : BytesX w sv s) (hsl : s.length ≤ 1000) (h : BufAt w F 57 p bs) (hF : In F w) (hl : bs.length ≤ 100000) :
    Calls Tryd.prog 25 #[.agg #[.int .i64 6, .int .u64 u, .int .u64 v, sv], .pointer (some ⟨p, 0, none⟩)] w (Put w F 57 p (bs ++ leB 8 u)) := by
  have ha := Lib.hid (h.alloc (.cells #[.int .i64 6, .int .u64 (u : Nat), .int .u64 (v : Nat), sv] 28))
  have hFa := Lib.hid (hF.mono (w' := w.alloc (.cells #[.int .i64 6, .int .u64 (u : Nat), .int .u64 (v : Nat), sv] 28)) (by simp))
  have HU := Lib.hid hu
  have HV := Lib.hid hv
  clear hu hv hF h
  go_enter Tryd.func25, Tryd.ntmps25
  go_wp2_with (go_at_call 34; refine (pI64 _ F p bs _ u (w64 u HU.out) HU.out ha.out hFa.out (by omega)).mono ?_; rintro e w1 ⟨rfl, hq⟩; have hp : Put _ _ _ _ _ _ _ := ⟨rfl, hq⟩)
  go_returns
  exact Put.of_alloc hp

set_option maxRecDepth 100000 in
theorem put7 (w : World) (F : Nat → Prop) (p : Nat) (bs : List UInt8) (u v : Nat) (s : List UInt8) (sv : Value) (hu : u < 18446744073709551616) (hv : v < 18446744073709551616) (hs : BytesX w sv s) (hsl : s.length ≤ 1000) (h : BufAt w F 57 p bs) (hF : In F w) (hl : bs.length ≤ 100000) :
    Calls Tryd.prog 25 #[.agg #[.int .i64 7, .int .u64 u, .int .u64 v, sv], .pointer (some ⟨p, 0, none⟩)] w (Put w F 57 p (bs ++ leB 1 u)) := by
  have ha := Lib.hid (h.alloc (.cells #[.int .i64 7, .int .u64 (u : Nat), .int .u64 (v : Nat), sv] 28))
  have hFa := Lib.hid (hF.mono (w' := w.alloc (.cells #[.int .i64 7, .int .u64 (u : Nat), .int .u64 (v : Nat), sv] 28)) (by simp))
  have HU := Lib.hid hu
  have HV := Lib.hid hv
  clear hu hv hF h
  go_enter Tryd.func25, Tryd.ntmps25
  go_wp2_with (go_at_call 35; refine (pU8 _ F p bs _ u (bytes_u8 u) ha.out (by omega)).mono ?_; rintro e w1 ⟨rfl, hq⟩; have hp : Put _ _ _ _ _ _ _ := ⟨rfl, hq⟩)
  go_returns
  exact Put.of_alloc hp

set_option maxRecDepth 100000 in
theorem put8 (w : World) (F : Nat → Prop) (p : Nat) (bs : List UInt8) (u v : Nat) (s : List UInt8) (sv : Value) (hu : u < 18446744073709551616) (hv : v < 18446744073709551616) (hs : BytesX w sv s) (hsl : s.length ≤ 1000) (h : BufAt w F 57 p bs) (hF : In F w) (hl : bs.length ≤ 100000) :
    Calls Tryd.prog 25 #[.agg #[.int .i64 8, .int .u64 u, .int .u64 v, sv], .pointer (some ⟨p, 0, none⟩)] w (Put w F 57 p (bs ++ leB 2 u)) := by
  have ha := Lib.hid (h.alloc (.cells #[.int .i64 8, .int .u64 (u : Nat), .int .u64 (v : Nat), sv] 28))
  have hFa := Lib.hid (hF.mono (w' := w.alloc (.cells #[.int .i64 8, .int .u64 (u : Nat), .int .u64 (v : Nat), sv] 28)) (by simp))
  have HU := Lib.hid hu
  have HV := Lib.hid hv
  clear hu hv hF h
  go_enter Tryd.func25, Tryd.ntmps25
  go_wp2_with (go_at_call 36; refine (pU16 _ F p bs _ u (bytes_u16 u) ha.out hFa.out (by omega)).mono ?_; rintro e w1 ⟨rfl, hq⟩; have hp : Put _ _ _ _ _ _ _ := ⟨rfl, hq⟩)
  go_returns
  exact Put.of_alloc hp

set_option maxRecDepth 100000 in
theorem put9 (w : World) (F : Nat → Prop) (p : Nat) (bs : List UInt8) (u v : Nat) (s : List UInt8) (sv : Value) (hu : u < 18446744073709551616) (hv : v < 18446744073709551616) (hs : BytesX w sv s) (hsl : s.length ≤ 1000) (h : BufAt w F 57 p bs) (hF : In F w) (hl : bs.length ≤ 100000) :
    Calls Tryd.prog 25 #[.agg #[.int .i64 9, .int .u64 u, .int .u64 v, sv], .pointer (some ⟨p, 0, none⟩)] w (Put w F 57 p (bs ++ leB 4 u)) := by
  have ha := Lib.hid (h.alloc (.cells #[.int .i64 9, .int .u64 (u : Nat), .int .u64 (v : Nat), sv] 28))
  have hFa := Lib.hid (hF.mono (w' := w.alloc (.cells #[.int .i64 9, .int .u64 (u : Nat), .int .u64 (v : Nat), sv] 28)) (by simp))
  have HU := Lib.hid hu
  have HV := Lib.hid hv
  clear hu hv hF h
  go_enter Tryd.func25, Tryd.ntmps25
  go_wp2_with (go_at_call 37; refine (pU32 _ F p bs _ u (bytes_u32 u) ha.out hFa.out (by omega)).mono ?_; rintro e w1 ⟨rfl, hq⟩; have hp : Put _ _ _ _ _ _ _ := ⟨rfl, hq⟩)
  go_returns
  exact Put.of_alloc hp

set_option maxRecDepth 100000 in
theorem put10 (w : World) (F : Nat → Prop) (p : Nat) (bs : List UInt8) (u v : Nat) (s : List UInt8) (sv : Value) (hu : u < 18446744073709551616) (hv : v < 18446744073709551616) (hs : BytesX w sv s) (hsl : s.length ≤ 1000) (h : BufAt w F 57 p bs) (hF : In F w) (hl : bs.length ≤ 100000) :
    Calls Tryd.prog 25 #[.agg #[.int .i64 10, .int .u64 u, .int .u64 v, sv], .pointer (some ⟨p, 0, none⟩)] w (Put w F 57 p (bs ++ leB 8 u)) := by
  have ha := Lib.hid (h.alloc (.cells #[.int .i64 10, .int .u64 (u : Nat), .int .u64 (v : Nat), sv] 28))
  have hFa := Lib.hid (hF.mono (w' := w.alloc (.cells #[.int .i64 10, .int .u64 (u : Nat), .int .u64 (v : Nat), sv] 28)) (by simp))
  have HU := Lib.hid hu
  have HV := Lib.hid hv
  clear hu hv hF h
  go_enter Tryd.func25, Tryd.ntmps25
  go_wp2_with (go_at_call 38; refine (pU64 _ F p bs _ u rfl HU.out ha.out hFa.out (by omega)).mono ?_; rintro e w1 ⟨rfl, hq⟩; have hp : Put _ _ _ _ _ _ _ := ⟨rfl, hq⟩)
  go_returns
  exact Put.of_alloc hp

set_option maxRecDepth 100000 in
theorem put11 (w : World) (F : Nat → Prop) (p : Nat) (bs : List UInt8) (u v : Nat) (s : List UInt8) (sv : Value) (hu : u < 18446744073709551616) (hv : v < 18446744073709551616) (hs : BytesX w sv s) (hsl : s.length ≤ 1000) (h : BufAt w F 57 p bs) (hF : In F w) (hl : bs.length ≤ 100000) :
    Calls Tryd.prog 25 #[.agg #[.int .i64 11, .int .u64 u, .int .u64 v, sv], .pointer (some ⟨p, 0, none⟩)] w (Put w F 57 p (bs ++ leB 4 u)) := by
  have ha := Lib.hid (h.alloc (.cells #[.int .i64 11, .int .u64 (u : Nat), .int .u64 (v : Nat), sv] 28))
  have hFa := Lib.hid (hF.mono (w' := w.alloc (.cells #[.int .i64 11, .int .u64 (u : Nat), .int .u64 (v : Nat), sv] 28)) (by simp))
  have HU := Lib.hid hu
  have HV := Lib.hid hv
  have hf := fun (n : Int) (w : World) => (by kernel_rfl : (callFunc 40 #[.int .u32 n]).run Tryd.prog w = .ok (.value (.float .f32 n.toNat)) w)
  clear hu hv hF h
  go_enter Tryd.func25, Tryd.ntmps25
  go_wp2_with (go_at_call 39; refine (pF32m _ F p bs _ u (by omega) ha.out hFa.out (by omega)).mono ?_; rintro e w1 ⟨rfl, hq⟩; have hp : Put _ _ _ _ _ _ _ := ⟨rfl, hq⟩)
  go_returns
  exact Put.of_alloc hp

set_option maxRecDepth 100000 in
theorem put12 (w : World) (F : Nat → Prop) (p : Nat) (bs : List UInt8) (u v : Nat) (s : List UInt8) (sv : Value) (hu : u < 18446744073709551616) (hv : v < 18446744073709551616) (hs : BytesX w sv s) (hsl : s.length ≤ 1000) (h : BufAt w F 57 p bs) (hF : In F w) (hl : bs.length ≤ 100000) :
    Calls Tryd.prog 25 #[.agg #[.int .i64 12, .int .u64 u, .int .u64 v, sv], .pointer (some ⟨p, 0, none⟩)] w (Put w F 57 p (bs ++ leB 8 u)) := by
  have ha := Lib.hid (h.alloc (.cells #[.int .i64 12, .int .u64 (u : Nat), .int .u64 (v : Nat), sv] 28))
  have hFa := Lib.hid (hF.mono (w' := w.alloc (.cells #[.int .i64 12, .int .u64 (u : Nat), .int .u64 (v : Nat), sv] 28)) (by simp))
  have HU := Lib.hid hu
  have HV := Lib.hid hv
  have hf := fun (n : Int) (w : World) => (by kernel_rfl : (callFunc 42 #[.int .u64 n]).run Tryd.prog w = .ok (.value (.float .f64 n.toNat)) w)
  clear hu hv hF h
  go_enter Tryd.func25, Tryd.ntmps25
  go_wp2_with (go_at_call 41; refine (pF64m _ F p bs _ u (by omega) HU.out ha.out hFa.out (by omega)).mono ?_; rintro e w1 ⟨rfl, hq⟩; have hp : Put _ _ _ _ _ _ _ := ⟨rfl, hq⟩)
  go_returns
  exact Put.of_alloc hp

set_option maxRecDepth 100000 in
theorem put13 (w : World) (F : Nat → Prop) (p : Nat) (bs : List UInt8) (u v : Nat) (s : List UInt8) (sv : Value) (hu : u < 18446744073709551616) (hv : v < 18446744073709551616) (hs : BytesX w sv s) (hsl : s.length ≤ 1000) (h : BufAt w F 57 p bs) (hF : In F w) (hl : bs.length ≤ 100000) :
    Calls Tryd.prog 25 #[.agg #[.int .i64 13, .int .u64 u, .int .u64 v, sv], .pointer (some ⟨p, 0, none⟩)] w (Put w F 57 p (bs ++ (leB 8 u ++ leB 8 v))) := by
  have ha := Lib.hid (h.alloc (.cells #[.int .i64 13, .int .u64 (u : Nat), .int .u64 (v : Nat), sv] 28))
  have hFa := Lib.hid (hF.mono (w' := w.alloc (.cells #[.int .i64 13, .int .u64 (u : Nat), .int .u64 (v : Nat), sv] 28)) (by simp))
  have HU := Lib.hid hu
  have HV := Lib.hid hv
  clear hu hv hF h
  go_enter Tryd.func25, Tryd.ntmps25
  go_wp2_with (go_at_call 43; refine (pI128 _ F p bs u v HU.out HV.out ha.out hFa.out (by omega)).mono ?_; rintro e w1 ⟨rfl, hq⟩; have hp : Put _ _ _ _ _ _ _ := ⟨rfl, hq⟩)
  go_returns
  exact Put.of_alloc hp

set_option maxRecDepth 100000 in
theorem put14 (w : World) (F : Nat → Prop) (p : Nat) (bs : List UInt8) (u v : Nat) (s : List UInt8) (sv : Value) (hu : u < 18446744073709551616) (hv : v < 18446744073709551616) (hs : BytesX w sv s) (hsl : s.length ≤ 1000) (h : BufAt w F 57 p bs) (hF : In F w) (hl : bs.length ≤ 100000) :
    Calls Tryd.prog 25 #[.agg #[.int .i64 14, .int .u64 u, .int .u64 v, sv], .pointer (some ⟨p, 0, none⟩)] w (Put w F 57 p (bs ++ (leB 8 u ++ leB 8 v))) := by
  have ha := Lib.hid (h.alloc (.cells #[.int .i64 14, .int .u64 (u : Nat), .int .u64 (v : Nat), sv] 28))
  have hFa := Lib.hid (hF.mono (w' := w.alloc (.cells #[.int .i64 14, .int .u64 (u : Nat), .int .u64 (v : Nat), sv] 28)) (by simp))
  have HU := Lib.hid hu
  have HV := Lib.hid hv
  clear hu hv hF h
  go_enter Tryd.func25, Tryd.ntmps25
  go_wp2_with (go_at_call 44; refine (putUInt128 _ F p bs u v HU.out HV.out ha.out hFa.out (by omega)).mono ?_; rintro e w1 ⟨rfl, hq⟩; have hp : Put _ _ _ _ _ _ _ := ⟨rfl, hq⟩)
  go_returns
  exact Put.of_alloc hp

set_option maxRecDepth 100000 in
theorem put15 (w : World) (F : Nat → Prop) (p : Nat) (bs : List UInt8) (u v : Nat) (s : List UInt8) (sv : Value) (hu : u < 18446744073709551616) (hv : v < 18446744073709551616) (hs : BytesX w sv s) (hsl : s.length ≤ 1000) (h : BufAt w F 57 p bs) (hF : In F w) (hl : bs.length ≤ 100000) :
    Calls Tryd.prog 25 #[.agg #[.int .i64 15, .int .u64 u, .int .u64 v, sv], .pointer (some ⟨p, 0, none⟩)] w (Put w F 57 p (bs ++ uv u)) := by
  have ha := Lib.hid (h.alloc (.cells #[.int .i64 15, .int .u64 (u : Nat), .int .u64 (v : Nat), sv] 28))
  have hFa := Lib.hid (hF.mono (w' := w.alloc (.cells #[.int .i64 15, .int .u64 (u : Nat), .int .u64 (v : Nat), sv] 28)) (by simp))
  have HU := Lib.hid hu
  have HV := Lib.hid hv
  clear hu hv hF h
  go_enter Tryd.func25, Tryd.ntmps25
  go_wp2_with (go_at_call 45; refine (pVar _ F p bs _ u rfl HU.out ha.out hFa.out (by omega)).mono ?_; rintro e w1 ⟨rfl, hq⟩; have hp : Put _ _ _ _ _ _ _ := ⟨rfl, hq⟩)
  go_returns
  exact Put.of_alloc hp

set_option maxRecDepth 100000 in
theorem put16 (w : World) (F : Nat → Prop) (p : Nat) (bs : List UInt8) (u v : Nat) (s : List UInt8) (sv : Value) (hu : u < 18446744073709551616) (hv : v < 18446744073709551616) (hs : BytesX w sv s) (hsl : s.length ≤ 1000) (h : BufAt w F 57 p bs) (hF : In F w) (hl : bs.length ≤ 100000) :
    Calls Tryd.prog 25 #[.agg #[.int .i64 16, .int .u64 u, .int .u64 v, sv], .pointer (some ⟨p, 0, none⟩)] w (Put w F 57 p (bs ++ uv u)) := by
  have ha := Lib.hid (h.alloc (.cells #[.int .i64 16, .int .u64 (u : Nat), .int .u64 (v : Nat), sv] 28))
  have hFa := Lib.hid (hF.mono (w' := w.alloc (.cells #[.int .i64 16, .int .u64 (u : Nat), .int .u64 (v : Nat), sv] 28)) (by simp))
  have HU := Lib.hid hu
  have HV := Lib.hid hv
  clear hu hv hF h
  go_enter Tryd.func25, Tryd.ntmps25
  go_wp2_with (go_at_call 46; refine (pInt _ F p bs _ u (w64 u HU.out) HU.out ha.out hFa.out (by omega)).mono ?_; rintro e w1 ⟨rfl, hq⟩; have hp : Put _ _ _ _ _ _ _ := ⟨rfl, hq⟩)
  go_returns
  exact Put.of_alloc hp

set_option maxRecDepth 100000 in
theorem put17 (w : World) (F : Nat → Prop) (p : Nat) (bs : List UInt8) (u v : Nat) (s : List UInt8) (sv : Value) (hu : u < 18446744073709551616) (hv : v < 18446744073709551616) (hs : BytesX w sv s) (hsl : s.length ≤ 1000) (h : BufAt w F 57 p bs) (hF : In F w) (hl : bs.length ≤ 100000) :
    Calls Tryd.prog 25 #[.agg #[.int .i64 17, .int .u64 u, .int .u64 v, sv], .pointer (some ⟨p, 0, none⟩)] w (Put w F 57 p (bs ++ uv u)) := by
  have ha := Lib.hid (h.alloc (.cells #[.int .i64 17, .int .u64 (u : Nat), .int .u64 (v : Nat), sv] 28))
  have hFa := Lib.hid (hF.mono (w' := w.alloc (.cells #[.int .i64 17, .int .u64 (u : Nat), .int .u64 (v : Nat), sv] 28)) (by simp))
  have HU := Lib.hid hu
  have HV := Lib.hid hv
  clear hu hv hF h
  go_enter Tryd.func25, Tryd.ntmps25
  go_wp2_with (go_at_call 47; refine (pLen _ F p bs _ u (w64 u HU.out) HU.out ha.out hFa.out (by omega)).mono ?_; rintro e w1 ⟨rfl, hq⟩; have hp : Put _ _ _ _ _ _ _ := ⟨rfl, hq⟩)
  go_returns
  exact Put.of_alloc hp

set_option maxRecDepth 100000 in
theorem put18 (w : World) (F : Nat → Prop) (p : Nat) (bs : List UInt8) (u v : Nat) (s : List UInt8) (sv : Value) (hu : u < 18446744073709551616) (hv : v < 18446744073709551616) (hs : BytesX w sv s) (hsl : s.length ≤ 1000) (h : BufAt w F 57 p bs) (hF : In F w) (hl : bs.length ≤ 100000) :
    Calls Tryd.prog 25 #[.agg #[.int .i64 18, .int .u64 u, .int .u64 v, sv], .pointer (some ⟨p, 0, none⟩)] w (Put w F 57 p (bs ++ strBytes s)) := by
  have ha := Lib.hid (h.alloc (.cells #[.int .i64 18, .int .u64 (u : Nat), .int .u64 (v : Nat), sv] 28))
  have hFa := Lib.hid (hF.mono (w' := w.alloc (.cells #[.int .i64 18, .int .u64 (u : Nat), .int .u64 (v : Nat), sv] 28)) (by simp))
  have HU := Lib.hid hu
  have HV := Lib.hid hv
  have hcv := run_convert_x (hs.alloc (.cells #[.int .i64 18, .int .u64 (u : Nat), .int .u64 (v : Nat), sv] 28))
  clear hu hv hF h
  go_enter Tryd.func25, Tryd.ntmps25
  go_wp2_with (go_at_call 48; refine (pStr _ F p bs s ha.out hFa.out hsl (by omega)).mono ?_; rintro e w1 ⟨rfl, hq⟩; have hp : Put _ _ _ _ _ _ _ := ⟨rfl, hq⟩)
  go_returns
  exact Put.of_alloc hp

set_option maxRecDepth 100000 in
theorem put19 (w : World) (F : Nat → Prop) (p : Nat) (bs : List UInt8) (u v : Nat) (s : List UInt8) (sv : Value) (hu : u < 18446744073709551616) (hv : v < 18446744073709551616) (hs : BytesX w sv s) (hsl : s.length ≤ 1000) (h : BufAt w F 57 p bs) (hF : In F w) (hl : bs.length ≤ 100000) :
    Calls Tryd.prog 25 #[.agg #[.int .i64 19, .int .u64 u, .int .u64 v, sv], .pointer (some ⟨p, 0, none⟩)] w (Put w F 57 p (bs ++ s)) := by
  have ha := Lib.hid (h.alloc (.cells #[.int .i64 19, .int .u64 (u : Nat), .int .u64 (v : Nat), sv] 28))
  have hFa := Lib.hid (hF.mono (w' := w.alloc (.cells #[.int .i64 19, .int .u64 (u : Nat), .int .u64 (v : Nat), sv] 28)) (by simp))
  have HU := Lib.hid hu
  have HV := Lib.hid hv
  clear hu hv hF h
  go_enter Tryd.func25, Tryd.ntmps25
  go_wp2_with (go_at_call 49; refine (putRawX _ F p bs s sv ha.out (hs.alloc _) (by omega)).mono ?_; rintro e w1 ⟨rfl, hq⟩; have hp : Put _ _ _ _ _ _ _ := ⟨rfl, hq⟩)
  go_returns
  exact Put.of_alloc hp

set_option maxRecDepth 100000 in
theorem put2 (w : World) (F : Nat → Prop) (p : Nat) (bs : List UInt8) (u v : Nat) (s : List UInt8) (sv : Value) (hu : u < 18446744073709551616) (hv : v < 18446744073709551616) (hs : BytesX w sv s) (hsl : s.length ≤ 1000) (h : BufAt w F 57 p bs) (hF : In F w) (hl : bs.length ≤ 100000) :
    Calls Tryd.prog 25 #[.agg #[.int .i64 2, .int .u64 u, .int .u64 v, sv], .pointer (some ⟨p, 0, none⟩)] w (Put w F 57 p (bs ++ [bB (decide (u ≠ 0))])) := by
  have ha := Lib.hid (h.alloc (.cells #[.int .i64 2, .int .u64 (u : Nat), .int .u64 (v : Nat), sv] 28))
  clear hu hv hF h
  by_cases h0 : u = 0
  · subst h0
    go_enter Tryd.func25, Tryd.ntmps25
    go_wp2_with (go_at_call 30; refine (putBool _ F p bs false ha.out (by omega)).mono ?_; rintro e w1 ⟨rfl, hq⟩; have hp : Put _ _ _ _ _ _ _ := ⟨rfl, hq⟩)
    go_returns
    exact Put.of_alloc hp
  · rw [show decide (u ≠ 0) = true by simpa using h0]
    have h1 : ((u : Int) != 0) = true := by rw [bne_iff_ne]; omega
    go_enter Tryd.func25, Tryd.ntmps25
    go_wp2_with (go_at_call 30; refine (putBool _ F p bs true ha.out (by omega)).mono ?_; rintro e w1 ⟨rfl, hq⟩; have hp : Put _ _ _ _ _ _ _ := ⟨rfl, hq⟩)
    go_returns
    exact Put.of_alloc hp

theorem primPut (op : Nat) (h1 : 1 ≤ op) (h2 : op ≤ 19) (w : World) (F : Nat → Prop) (p : Nat) (bs : List UInt8) (u v : Nat) (s : List UInt8) (sv : Value) (hu : u < 18446744073709551616) (hv : v < 18446744073709551616) (hs : BytesX w sv s) (hsl : s.length ≤ 1000) (h : BufAt w F 57 p bs) (hF : In F w) (hl : bs.length ≤ 100000) :
    Calls Tryd.prog 25 #[.agg #[.int .i64 (op : Nat), .int .u64 u, .int .u64 v, sv], .pointer (some ⟨p, 0, none⟩)] w (Put w F 57 p (bs ++ primBytes op u v s)) := by
  obtain rfl | rfl | rfl | rfl | rfl | rfl | rfl | rfl | rfl | rfl | rfl | rfl | rfl | rfl | rfl | rfl | rfl | rfl | rfl : op = 1 ∨ op = 2 ∨ op = 3 ∨ op = 4 ∨ op = 5 ∨ op = 6 ∨ op = 7 ∨ op = 8 ∨ op = 9 ∨ op = 10 ∨ op = 11 ∨ op = 12 ∨ op = 13 ∨ op = 14 ∨ op = 15 ∨ op = 16 ∨ op = 17 ∨ op = 18 ∨ op = 19 := by omega
  · exact put1 w F p bs u v s sv hu hv hs hsl h hF hl
  · exact put2 w F p bs u v s sv hu hv hs hsl h hF hl
  · exact put3 w F p bs u v s sv hu hv hs hsl h hF hl
  · exact put4 w F p bs u v s sv hu hv hs hsl h hF hl
  · exact put5 w F p bs u v s sv hu hv hs hsl h hF hl
  · exact put6 w F p bs u v s sv hu hv hs hsl h hF hl
  · exact put7 w F p bs u v s sv hu hv hs hsl h hF hl
  · exact put8 w F p bs u v s sv hu hv hs hsl h hF hl
  · exact put9 w F p bs u v s sv hu hv hs hsl h hF hl
  · exact put10 w F p bs u v s sv hu hv hs hsl h hF hl
  · exact put11 w F p bs u v s sv hu hv hs hsl h hF hl
  · exact put12 w F p bs u v s sv hu hv hs hsl h hF hl
  · exact put13 w F p bs u v s sv hu hv hs hsl h hF hl
  · exact put14 w F p bs u v s sv hu hv hs hsl h hF hl
  · exact put15 w F p bs u v s sv hu hv hs hsl h hF hl
  · exact put16 w F p bs u v s sv hu hv hs hsl h hF hl
  · exact put17 w F p bs u v s sv hu hv hs hsl h hF hl
  · exact put18 w F p bs u v s sv hu hv hs hsl h hF hl
  · exact put19 w F p bs u v s sv hu hv hs hsl h hF hl
end Go.Proofs.YtlohpmncagfecaaDoor
