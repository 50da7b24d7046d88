/- The Buffer's methods that put numbers; impl.Prim.put. -/
import Derived.Test.YtlohpmncagfecaaDoorLe2
namespace Go.Proofs.YtlohpmncagfecaaDoor
open Go.RowKit
set_option linter.unnecessarySimpa false
set_option linter.unusedVariables false
set_option linter.unusedSimpArgs false

theorem leB_mod (k u : Nat) : Lib.leBytes k (u % 256 ^ k) = Lib.leBytes k u := by
  induction k generalizing u with
  | zero => rfl
  | succ k ih =>
    have h1 : u % 256 ^ (k + 1) % 256 = u % 256 := by rw [Nat.mod_mod_of_dvd]; exact ⟨256 ^ k, by rw [Nat.pow_succ, Nat.mul_comm]⟩
    have h2 : u % 256 ^ (k + 1) / 256 = u / 256 % 256 ^ k := by rw [Nat.pow_succ, Nat.mul_comm, Nat.mod_mul_right_div_self]
    simp only [Lib.leBytes, h1, h2, ih]
theorem leB1 (u : Nat) : Lib.leBytes 1 u = [UInt8.ofNat (u % 256)] := rfl
theorem leB1' (u : Nat) : Lib.leBytes 1 (u % 256) = Lib.leBytes 1 u := leB_mod 1 u
theorem leB2' (u : Nat) : Lib.leBytes 2 (u % 65536) = Lib.leBytes 2 u := leB_mod 2 u
theorem leB4' (u : Nat) : Lib.leBytes 4 (u % 4294967296) = Lib.leBytes 4 u := leB_mod 4 u

theorem putUInt128 (w : World) (F : Nat → Prop) (p : Nat) (bs : List UInt8) (lo hi : Nat) (hlo : lo < 18446744073709551616) (hhi : hi < 18446744073709551616) (h : BufAt w F 57 p bs) (hF : In F w) (hl : bs.length + 16 ≤ 140737488355328) :
    Calls Tryd.prog 44 #[.pointer (some ⟨p, 0, none⟩), .agg #[.int .u64 lo, .int .u64 hi]] w (Put w F 57 p (bs ++ (leB 8 lo ++ leB 8 hi))) := by
  obtain ⟨v, hc, hf, hlt⟩ := h.cell
  have HX := Lib.hid (And.intro hlo hhi)
  clear hlo hhi
  go_enter Tryd.func44, Tryd.ntmps44
  go_wp2_with fail
  obtain ⟨Z, hZ⟩ : ∃ Z : World, Z = ((w.alloc (.cells #[.int .u64 lo, .int .u64 hi] 81)).alloc (.cells #[.int .u8 0, .int .u8 0, .int .u8 0, .int .u8 0, .int .u8 0, .int .u8 0, .int .u8 0, .int .u8 0, .int .u8 0, .int .u8 0, .int .u8 0, .int .u8 0, .int .u8 0, .int .u8 0, .int .u8 0, .int .u8 0] 117)) := ⟨_, rfl⟩
  have hg0 : Z.heap[w.heap.size + 1]? = some (.cells ([.int .u8 0, .int .u8 0, .int .u8 0, .int .u8 0, .int .u8 0, .int .u8 0, .int .u8 0, .int .u8 0, .int .u8 0, .int .u8 0, .int .u8 0, .int .u8 0, .int .u8 0, .int .u8 0, .int .u8 0, .int .u8 0] : List Value).toArray 117 (0, 0)) := by rw [hZ]; have h := heap_alloc_new (w.alloc (.cells #[.int .u64 lo, .int .u64 hi] 81)) (.cells #[.int .u8 0, .int .u8 0, .int .u8 0, .int .u8 0, .int .u8 0, .int .u8 0, .int .u8 0, .int .u8 0, .int .u8 0, .int .u8 0, .int .u8 0, .int .u8 0, .int .u8 0, .int .u8 0, .int .u8 0, .int .u8 0] 117); simpa using h
  have hZb : Below w.heap.size w Z := by rw [hZ]; exact ((Below.refl _ w).alloc (Nat.le_refl _) _).alloc (by simp) _
  have hZs : w.heap.size + 2 = Z.heap.size := by rw [hZ]; simp
  have hZ0 : Z.cell? ⟨w.heap.size, 0, none⟩ = some (.int .u64 lo) := by rw [hZ]; go_simp
  have hZ1 : Z.cell? ⟨w.heap.size, 1, none⟩ = some (.int .u64 hi) := by rw [hZ]; go_simp
  have HP := Lib.hid (binPut16 Z.drew (w.heap.size + 1) lo hi HX.out.1 HX.out.2 _ 117 hg0 (by simp))
  rw [← hZ]
  have HZS := Lib.hid hZs
  clear hg0 hZs hZ
  go_region_held3 (fun w' => w'.cell? ⟨w.heap.size, 0, none⟩ = some (.int .u64 lo) ∧ w'.cell? ⟨w.heap.size, 1, none⟩ = some (.int .u64 hi)) (first | go_keep | (go_split_ands; refine ⟨?_, ?_⟩ <;> assumption)) (first | (go_at_call 66; refine HP.out.mono ?_; rintro e w2 ⟨rfl, hn2, hd1⟩; have y0 : w2.cell? ⟨w.heap.size, 0, none⟩ = some (.int .u64 lo) := (by rw [hd1.cell (by have := HZS.out; simp; omega) (by simp)]; exact hZ0); have y1 : w2.cell? ⟨w.heap.size, 1, none⟩ = some (.int .u64 hi) := (by rw [hd1.cell (by have := HZS.out; simp; omega) (by simp)]; exact hZ1)) | fail)
  all_goals
    have hc1 : w2.cell? ⟨p, 0, none⟩ = some v := by rw [hd1.cell (by have := HZS.out; simp; omega) (by simp; omega)]; show Z.cell? _ = _; rw [hZb.cell (by simpa using hlt)]; exact hc
    have hU : Upd w w2 F F := ⟨((Chg.of_below (F := F) hZb).trans (Chg.of_below (F := F) (below_d' _)) (fun _ _ h => h)).trans hd1 (fun i hi e => by omega), fun k hk => .inl hk⟩
    have hB1 : BufAt w2 F 57 p bs := h.upd (((Chg.of_below (F := fun k => k = w.heap.size + 1) hZb).trans (Chg.of_below (F := fun k => k = w.heap.size + 1) (below_d' _)) (fun _ _ h => h)).trans hd1 (fun _ _ h => h)) (fun k hk e => by have := hF k hk; omega)
    go_wp2_with fail
    go_region_law ((refine step_append_bufs _ F _ p bs (leB 8 lo ++ leB 8 hi) (by rfl) _ _ _ (by rfl) hB1.drew v hc1 (by rfl) _ (by rfl) (hn2.below (below_d' _)).srcB (by simpa using hl) ?_; intro g cap w3 hc2 hf2 hst))
    all_goals
      go_returns
      exact hst.put hU.drew

theorem pU8 (w : World) (F : Nat → Prop) (p : Nat) (bs : List UInt8) (z : Int) (u : Nat) (hz : z = ((u % 256 : Nat) : Int)) (h : BufAt w F 57 p bs) (hl : bs.length + 1 ≤ 140737488355328) :
    Calls Tryd.prog 35 #[.pointer (some ⟨p, 0, none⟩), .int .u8 z] w (Put w F 57 p (bs ++ leB 1 u)) := by
  subst hz
  have h1 := putUInt8 w F p bs (UInt8.ofNat (u % 256)) h hl
  rwa [show ((UInt8.ofNat (u % 256)).toNat : Int) = ((u % 256 : Nat) : Int) by simp] at h1
theorem pU16 (w : World) (F : Nat → Prop) (p : Nat) (bs : List UInt8) (z : Int) (u : Nat) (hz : z = ((u % 65536 : Nat) : Int)) (h : BufAt w F 57 p bs) (hF : In F w) (hl : bs.length + 2 ≤ 140737488355328) :
    Calls Tryd.prog 36 #[.pointer (some ⟨p, 0, none⟩), .int .u16 z] w (Put w F 57 p (bs ++ leB 2 u)) := by
  subst hz
  rw [show leB 2 u = leB 2 (u % 65536) from (leB2' u).symm]
  exact putUInt16 w F p bs (u % 65536) (Nat.mod_lt _ (by decide)) h hF hl
theorem pU32 (w : World) (F : Nat → Prop) (p : Nat) (bs : List UInt8) (z : Int) (u : Nat) (hz : z = ((u % 4294967296 : Nat) : Int)) (h : BufAt w F 57 p bs) (hF : In F w) (hl : bs.length + 4 ≤ 140737488355328) :
    Calls Tryd.prog 37 #[.pointer (some ⟨p, 0, none⟩), .int .u32 z] w (Put w F 57 p (bs ++ leB 4 u)) := by
  subst hz
  rw [show leB 4 u = leB 4 (u % 4294967296) from (leB4' u).symm]
  exact putUInt32 w F p bs (u % 4294967296) (Nat.mod_lt _ (by decide)) h hF hl
theorem pU64 (w : World) (F : Nat → Prop) (p : Nat) (bs : List UInt8) (z : Int) (u : Nat) (hz : z = (u : Int)) (hu : u < 18446744073709551616) (h : BufAt w F 57 p bs) (hF : In F w) (hl : bs.length + 8 ≤ 140737488355328) :
    Calls Tryd.prog 38 #[.pointer (some ⟨p, 0, none⟩), .int .u64 z] w (Put w F 57 p (bs ++ leB 8 u)) := by
  subst hz
  exact putUInt64 w F p bs u hu h hF hl
theorem pVar (w : World) (F : Nat → Prop) (p : Nat) (bs : List UInt8) (z : Int) (u : Nat) (hz : z = (u : Int)) (hu : u < 18446744073709551616) (h : BufAt w F 57 p bs) (hF : In F w) (hl : bs.length + 10 ≤ 140737488355328) :
    Calls Tryd.prog 45 #[.pointer (some ⟨p, 0, none⟩), .int .u64 z] w (Put w F 57 p (bs ++ uv u)) := by
  subst hz
  have h10 := uv_length_le 10 u (by omega) (by omega)
  exact putUVarInt w F p bs u hu h hF (by omega)

theorem pByte (w : World) (F : Nat → Prop) (p : Nat) (bs : List UInt8) (z : Int) (u : Nat) (hz : z = ((u % 256 : Nat) : Int)) (h : BufAt w F 57 p bs) (hF : In F w) (hl : bs.length + 1 ≤ 140737488355328) :
    Calls Tryd.prog 29 #[.pointer (some ⟨p, 0, none⟩), .int .u8 z] w (Put w F 57 p (bs ++ leB 1 u)) := by
  have HZ := Lib.hid hz
  clear hz
  go_enter Tryd.func29, Tryd.ntmps29
  go_wp2_with (go_at_call 35; refine (pU8 _ F p bs z u HZ.out h hl).mono ?_; rintro e w1 ⟨rfl, hp⟩)
  go_returns
  exact ⟨rfl, hp⟩

theorem pI8 (w : World) (F : Nat → Prop) (p : Nat) (bs : List UInt8) (z : Int) (u : Nat) (hz : z % 256 = ((u % 256 : Nat) : Int)) (h : BufAt w F 57 p bs) (hF : In F w) (hl : bs.length + 1 ≤ 140737488355328) :
    Calls Tryd.prog 31 #[.pointer (some ⟨p, 0, none⟩), .int .i8 z] w (Put w F 57 p (bs ++ leB 1 u)) := by
  have HZ := Lib.hid hz
  clear hz
  go_enter Tryd.func31, Tryd.ntmps31
  go_wp2_with (go_at_call 35; refine (pU8 _ F p bs _ u HZ.out h hl).mono ?_; rintro e w1 ⟨rfl, hp⟩)
  go_returns
  exact ⟨rfl, hp⟩

theorem pI16 (w : World) (F : Nat → Prop) (p : Nat) (bs : List UInt8) (z : Int) (u : Nat) (hz : z % 65536 = ((u % 65536 : Nat) : Int)) (h : BufAt w F 57 p bs) (hF : In F w) (hl : bs.length + 2 ≤ 140737488355328) :
    Calls Tryd.prog 32 #[.pointer (some ⟨p, 0, none⟩), .int .i16 z] w (Put w F 57 p (bs ++ leB 2 u)) := by
  have HZ := Lib.hid hz
  clear hz
  go_enter Tryd.func32, Tryd.ntmps32
  go_wp2_with (go_at_call 36; refine (pU16 _ F p bs _ u HZ.out h hF hl).mono ?_; rintro e w1 ⟨rfl, hp⟩)
  go_returns
  exact ⟨rfl, hp⟩

theorem pI32 (w : World) (F : Nat → Prop) (p : Nat) (bs : List UInt8) (z : Int) (u : Nat) (hz : z % 4294967296 = ((u % 4294967296 : Nat) : Int)) (h : BufAt w F 57 p bs) (hF : In F w) (hl : bs.length + 4 ≤ 140737488355328) :
    Calls Tryd.prog 33 #[.pointer (some ⟨p, 0, none⟩), .int .i32 z] w (Put w F 57 p (bs ++ leB 4 u)) := by
  have HZ := Lib.hid hz
  clear hz
  go_enter Tryd.func33, Tryd.ntmps33
  go_wp2_with (go_at_call 37; refine (pU32 _ F p bs _ u HZ.out h hF hl).mono ?_; rintro e w1 ⟨rfl, hp⟩)
  go_returns
  exact ⟨rfl, hp⟩

theorem pI64 (w : World) (F : Nat → Prop) (p : Nat) (bs : List UInt8) (z : Int) (u : Nat) (hz : z % 18446744073709551616 = (u : Int)) (hu : u < 18446744073709551616) (h : BufAt w F 57 p bs) (hF : In F w) (hl : bs.length + 8 ≤ 140737488355328) :
    Calls Tryd.prog 34 #[.pointer (some ⟨p, 0, none⟩), .int .i64 z] w (Put w F 57 p (bs ++ leB 8 u)) := by
  have HZ := Lib.hid hz
  have HU := Lib.hid hu
  clear hz hu
  go_enter Tryd.func34, Tryd.ntmps34
  go_wp2_with (go_at_call 38; refine (pU64 _ F p bs _ u HZ.out HU.out h hF hl).mono ?_; rintro e w1 ⟨rfl, hp⟩)
  go_returns
  exact ⟨rfl, hp⟩

theorem pInt (w : World) (F : Nat → Prop) (p : Nat) (bs : List UInt8) (z : Int) (u : Nat) (hz : z % 18446744073709551616 = (u : Int)) (hu : u < 18446744073709551616) (h : BufAt w F 57 p bs) (hF : In F w) (hl : bs.length + 10 ≤ 140737488355328) :
    Calls Tryd.prog 46 #[.pointer (some ⟨p, 0, none⟩), .int .i64 z] w (Put w F 57 p (bs ++ uv u)) := by
  have HZ := Lib.hid hz
  have HU := Lib.hid hu
  clear hz hu
  go_enter Tryd.func46, Tryd.ntmps46
  go_wp2_with (go_at_call 45; refine (pVar _ F p bs _ u HZ.out HU.out h hF hl).mono ?_; rintro e w1 ⟨rfl, hp⟩)
  go_returns
  exact ⟨rfl, hp⟩

theorem pLen (w : World) (F : Nat → Prop) (p : Nat) (bs : List UInt8) (z : Int) (u : Nat) (hz : z % 18446744073709551616 = (u : Int)) (hu : u < 18446744073709551616) (h : BufAt w F 57 p bs) (hF : In F w) (hl : bs.length + 10 ≤ 140737488355328) :
    Calls Tryd.prog 47 #[.pointer (some ⟨p, 0, none⟩), .int .i64 z] w (Put w F 57 p (bs ++ uv u)) := by
  have HZ := Lib.hid hz
  have HU := Lib.hid hu
  clear hz hu
  go_enter Tryd.func47, Tryd.ntmps47
  go_wp2_with (go_at_call 45; refine (pVar _ F p bs _ u HZ.out HU.out h hF hl).mono ?_; rintro e w1 ⟨rfl, hp⟩)
  go_returns
  exact ⟨rfl, hp⟩

theorem pF32 (w : World) (F : Nat → Prop) (p : Nat) (bs : List UInt8) (u : Nat) (hu : u < 4294967296) (h : BufAt w F 57 p bs) (hF : In F w) (hl : bs.length + 4 ≤ 140737488355328) :
    Calls Tryd.prog 39 #[.pointer (some ⟨p, 0, none⟩), .float .f32 u] w (Put w F 57 p (bs ++ leB 4 u)) := by
  have HZ := Lib.hid (show (u : Int) = ((u % 4294967296 : Nat) : Int) by omega)
  have hf := fun (n : Nat) (w : World) => (by kernel_rfl : (callFunc 64 #[.float .f32 n]).run Tryd.prog w = .ok (.value (.int .u32 (n : Int))) w)
  clear hu
  go_enter Tryd.func39, Tryd.ntmps39
  go_wp2_with (go_at_call 37; refine (pU32 _ F p bs _ u HZ.out h hF hl).mono ?_; rintro e w1 ⟨rfl, hp⟩)
  go_returns
  exact ⟨rfl, hp⟩

theorem pF64 (w : World) (F : Nat → Prop) (p : Nat) (bs : List UInt8) (u : Nat) (hu : u < 18446744073709551616) (h : BufAt w F 57 p bs) (hF : In F w) (hl : bs.length + 8 ≤ 140737488355328) :
    Calls Tryd.prog 41 #[.pointer (some ⟨p, 0, none⟩), .float .f64 u] w (Put w F 57 p (bs ++ leB 8 u)) := by
  have HU := Lib.hid hu
  have hf := fun (n : Nat) (w : World) => (by kernel_rfl : (callFunc 65 #[.float .f64 n]).run Tryd.prog w = .ok (.value (.int .u64 (n : Int))) w)
  clear hu
  go_enter Tryd.func41, Tryd.ntmps41
  go_wp2_with (go_at_call 38; refine (pU64 _ F p bs _ u rfl HU.out h hF hl).mono ?_; rintro e w1 ⟨rfl, hp⟩)
  go_returns
  exact ⟨rfl, hp⟩

theorem pI128 (w : World) (F : Nat → Prop) (p : Nat) (bs : List UInt8) (lo hi : Nat) (hlo : lo < 18446744073709551616) (hhi : hi < 18446744073709551616) (h : BufAt w F 57 p bs) (hF : In F w) (hl : bs.length + 16 ≤ 140737488355328) :
    Calls Tryd.prog 43 #[.pointer (some ⟨p, 0, none⟩), .agg #[.int .u64 lo, .int .u64 hi]] w (Put w F 57 p (bs ++ (leB 8 lo ++ leB 8 hi))) := by
  have HX := Lib.hid (And.intro hlo hhi)
  clear hlo hhi
  go_enter Tryd.func43, Tryd.ntmps43
  go_wp2_with (go_at_call 44; refine (putUInt128 _ F p bs lo hi HX.out.1 HX.out.2 (h.alloc _) (hF.mono (by simp)) hl).mono ?_; rintro e w1 ⟨rfl, F1, h1, hu1⟩)
  go_returns
  exact ⟨rfl, F1, h1, ((Upd.refl F w).alloc _).trans hu1⟩

end Go.Proofs.YtlohpmncagfecaaDoor
