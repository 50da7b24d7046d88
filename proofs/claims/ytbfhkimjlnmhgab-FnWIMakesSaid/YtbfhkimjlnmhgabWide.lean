/- Wide numbers out of 64 bits. -/
import Derived.WalkKit
import Derived.ProofKit
import Derived.Test.YtbfhkimjlnmhgabChecked
import Derived.Lib.Hide
import Derived.Test.YtbfhkimjlnmhgabMem
import Derived.Deep.QuietTactic
import Derived.BigQuiet
import Derived.Deep.RegionHeld3
namespace Go.Proofs.Ytbfhkimjlnmhgab
open Go.RowKit

set_option maxRecDepth 100000 in
theorem wideI (a b c d : Int) (w : World) : Calls Try.prog 8 #[.agg #[.int .u64 a, .int .u64 b], .agg #[.int .u64 c, .int .u64 d]] w fun e w' => e = .returned (.agg #[.int .u64 a, .int .u64 b, .int .u64 c, .int .u64 d]) ∧ w' = (((w.alloc (.cells #[.int .u64 a, .int .u64 b] 35)).alloc (.cells #[.int .u64 c, .int .u64 d] 35)).alloc (.cells #[.int .u64 a, .int .u64 b, .int .u64 c, .int .u64 d] 25)) := by
  go_enter Try.func8, Try.ntmps8
  go_wp2
  exact bodyPost_ret (v := .agg #[.int .u64 a, .int .u64 b, .int .u64 c, .int .u64 d]) (by simp [results, Try.results8, go_sem]) rfl ⟨rfl, rfl⟩
set_option maxRecDepth 100000 in
theorem i128n (n v : Int) (hv : IntKind.u64.wrap n = v) (hs : n < 0) (w : World) : Calls Try.prog 9 #[.int .i64 n] w fun e w' => e = .returned (.agg #[.int .u64 v, .int .u64 18446744073709551615]) ∧ w' = (w.alloc (.cells #[.int .u64 v, .int .u64 18446744073709551615] 36)) := by
  go_enter Try.func9, Try.ntmps9
  go_wp2
  exact bodyPost_ret (v := .agg #[.int .u64 v, .int .u64 18446744073709551615]) (by simp [results, Try.results9, go_sem]) rfl ⟨rfl, rfl⟩
set_option maxRecDepth 100000 in
theorem u128n (n v : Int) (hv : IntKind.u64.wrap n = v) (hs : n < 0) (w : World) : Calls Try.prog 10 #[.int .i64 n] w fun e w' => e = .returned (.agg #[.int .u64 v, .int .u64 18446744073709551615]) ∧ w' = ((w.alloc (.cells #[.int .u64 v, .int .u64 18446744073709551615] 35)).alloc (.cells #[.int .u64 v, .int .u64 18446744073709551615] 36)) := by
  go_enter Try.func10, Try.ntmps10
  go_wp2_with (go_at_call 9; refine (i128n n v hv hs _).mono ?_; rintro e w1 ⟨rfl, rfl⟩)
  exact bodyPost_ret (v := .agg #[.int .u64 v, .int .u64 18446744073709551615]) (by simp [results, Try.results10, go_sem]) rfl ⟨rfl, rfl⟩
set_option maxRecDepth 100000 in
theorem i256n (n v : Int) (hv : IntKind.u64.wrap n = v) (hs : n < 0) (w : World) : Calls Try.prog 11 #[.int .i64 n] w fun e w' => e = .returned (.agg #[.int .u64 v, .int .u64 18446744073709551615, .int .u64 18446744073709551615, .int .u64 18446744073709551615]) ∧ w' = (((w.alloc (.cells #[.int .u64 v, .int .u64 18446744073709551615, .int .u64 18446744073709551615, .int .u64 18446744073709551615] 40)).alloc (.cells #[.int .u64 18446744073709551615, .int .u64 18446744073709551615] 35)).alloc (.cells #[.int .u64 v, .int .u64 18446744073709551615] 35)) := by
  go_enter Try.func11, Try.ntmps11
  go_wp2
  exact bodyPost_ret (v := .agg #[.int .u64 v, .int .u64 18446744073709551615, .int .u64 18446744073709551615, .int .u64 18446744073709551615]) (by simp [results, Try.results11, go_sem]) rfl ⟨rfl, rfl⟩
set_option maxRecDepth 100000 in
theorem u256n (n v : Int) (hv : IntKind.u64.wrap n = v) (hs : n < 0) (w : World) : Calls Try.prog 12 #[.int .i64 n] w fun e w' => e = .returned (.agg #[.int .u64 v, .int .u64 18446744073709551615, .int .u64 18446744073709551615, .int .u64 18446744073709551615]) ∧ w' = ((((w.alloc (.cells #[.int .u64 v, .int .u64 18446744073709551615, .int .u64 18446744073709551615, .int .u64 18446744073709551615] 42)).alloc (.cells #[.int .u64 v, .int .u64 18446744073709551615, .int .u64 18446744073709551615, .int .u64 18446744073709551615] 40)).alloc (.cells #[.int .u64 18446744073709551615, .int .u64 18446744073709551615] 35)).alloc (.cells #[.int .u64 v, .int .u64 18446744073709551615] 35)) := by
  go_enter Try.func12, Try.ntmps12
  go_wp2_with (go_at_call 11; refine (i256n n v hv hs _).mono ?_; rintro e w1 ⟨rfl, rfl⟩)
  exact bodyPost_ret (v := .agg #[.int .u64 v, .int .u64 18446744073709551615, .int .u64 18446744073709551615, .int .u64 18446744073709551615]) (by simp [results, Try.results12, go_sem]) rfl ⟨rfl, rfl⟩
set_option maxRecDepth 100000 in
theorem i128p (n v : Int) (hv : IntKind.u64.wrap n = v) (hs : 0 ≤ n) (w : World) : Calls Try.prog 9 #[.int .i64 n] w fun e w' => e = .returned (.agg #[.int .u64 v, .int .u64 0]) ∧ w' = (w.alloc (.cells #[.int .u64 v, .int .u64 0] 36)) := by
  go_enter Try.func9, Try.ntmps9
  go_wp2
  exact bodyPost_ret (v := .agg #[.int .u64 v, .int .u64 0]) (by simp [results, Try.results9, go_sem]) rfl ⟨rfl, rfl⟩
set_option maxRecDepth 100000 in
theorem u128p (n v : Int) (hv : IntKind.u64.wrap n = v) (hs : 0 ≤ n) (w : World) : Calls Try.prog 10 #[.int .i64 n] w fun e w' => e = .returned (.agg #[.int .u64 v, .int .u64 0]) ∧ w' = ((w.alloc (.cells #[.int .u64 v, .int .u64 0] 35)).alloc (.cells #[.int .u64 v, .int .u64 0] 36)) := by
  go_enter Try.func10, Try.ntmps10
  go_wp2_with (go_at_call 9; refine (i128p n v hv hs _).mono ?_; rintro e w1 ⟨rfl, rfl⟩)
  exact bodyPost_ret (v := .agg #[.int .u64 v, .int .u64 0]) (by simp [results, Try.results10, go_sem]) rfl ⟨rfl, rfl⟩
set_option maxRecDepth 100000 in
theorem i256p (n v : Int) (hv : IntKind.u64.wrap n = v) (hs : 0 ≤ n) (w : World) : Calls Try.prog 11 #[.int .i64 n] w fun e w' => e = .returned (.agg #[.int .u64 v, .int .u64 0, .int .u64 0, .int .u64 0]) ∧ w' = (((w.alloc (.cells #[.int .u64 v, .int .u64 0, .int .u64 0, .int .u64 0] 40)).alloc (.cells #[.int .u64 0, .int .u64 0] 35)).alloc (.cells #[.int .u64 v, .int .u64 0] 35)) := by
  go_enter Try.func11, Try.ntmps11
  go_wp2
  exact bodyPost_ret (v := .agg #[.int .u64 v, .int .u64 0, .int .u64 0, .int .u64 0]) (by simp [results, Try.results11, go_sem]) rfl ⟨rfl, rfl⟩
set_option maxRecDepth 100000 in
theorem u256p (n v : Int) (hv : IntKind.u64.wrap n = v) (hs : 0 ≤ n) (w : World) : Calls Try.prog 12 #[.int .i64 n] w fun e w' => e = .returned (.agg #[.int .u64 v, .int .u64 0, .int .u64 0, .int .u64 0]) ∧ w' = ((((w.alloc (.cells #[.int .u64 v, .int .u64 0, .int .u64 0, .int .u64 0] 42)).alloc (.cells #[.int .u64 v, .int .u64 0, .int .u64 0, .int .u64 0] 40)).alloc (.cells #[.int .u64 0, .int .u64 0] 35)).alloc (.cells #[.int .u64 v, .int .u64 0] 35)) := by
  go_enter Try.func12, Try.ntmps12
  go_wp2_with (go_at_call 11; refine (i256p n v hv hs _).mono ?_; rintro e w1 ⟨rfl, rfl⟩)
  exact bodyPost_ret (v := .agg #[.int .u64 v, .int .u64 0, .int .u64 0, .int .u64 0]) (by simp [results, Try.results12, go_sem]) rfl ⟨rfl, rfl⟩
set_option maxRecDepth 100000 in
theorem u128u (v : Int) (w : World) : Calls Try.prog 14 #[.int .u64 v] w fun e w' => e = .returned (.agg #[.int .u64 v, .int .u64 0]) ∧ w' = (w.alloc (.cells #[.int .u64 v, .int .u64 0] 35)) := by
  go_enter Try.func14, Try.ntmps14
  go_wp2
  exact bodyPost_ret (v := .agg #[.int .u64 v, .int .u64 0]) (by simp [results, Try.results14, go_sem]) rfl ⟨rfl, rfl⟩
set_option maxRecDepth 100000 in
theorem i128u (v : Int) (w : World) : Calls Try.prog 13 #[.int .u64 v] w fun e w' => e = .returned (.agg #[.int .u64 v, .int .u64 0]) ∧ w' = ((w.alloc (.cells #[.int .u64 v, .int .u64 0] 36)).alloc (.cells #[.int .u64 v, .int .u64 0] 35)) := by
  go_enter Try.func13, Try.ntmps13
  go_wp2_with (go_at_call 14; refine (u128u _ _).mono ?_; rintro e w1 ⟨rfl, rfl⟩)
  exact bodyPost_ret (v := .agg #[.int .u64 v, .int .u64 0]) (by simp [results, Try.results13, go_sem]) rfl ⟨rfl, rfl⟩
set_option maxRecDepth 100000 in
theorem u256u (v : Int) (w : World) : Calls Try.prog 15 #[.int .u64 v] w fun e w' => e = .returned (.agg #[.int .u64 v, .int .u64 0, .int .u64 0, .int .u64 0]) ∧ w' = (w.alloc (.cells #[.int .u64 v, .int .u64 0, .int .u64 0, .int .u64 0] 42)) := by
  go_enter Try.func15, Try.ntmps15
  go_wp2
  exact bodyPost_ret (v := .agg #[.int .u64 v, .int .u64 0, .int .u64 0, .int .u64 0]) (by simp [results, Try.results15, go_sem]) rfl ⟨rfl, rfl⟩

def Gives (w : World) (v : Value) (e : Ending) (w' : World) : Prop := e = .returned v ∧ Below w.heap.size w w'
set_option maxRecDepth 100000 in
theorem from1n (v n : Int) (hn : IntKind.i64.wrap v = n) (hv : IntKind.u64.wrap n = v) (hs : n < 0) (w : World) : Calls Try.prog 5 #[.int .i64 1, .int .u64 v] w (Gives w (.agg #[.int .u64 v, .int .u64 18446744073709551615, .int .u64 0, .int .u64 0])) := by
  go_enter Try.func5, Try.ntmps5
  go_wp2_with (first | (go_at_call 9; refine (i128n n v hv hs _).mono ?_; rintro e w1 ⟨rfl, rfl⟩) | (go_at_call 8; refine (wideI _ _ _ _ _).mono ?_; rintro e w1 ⟨rfl, rfl⟩))
  refine bodyPost_ret (v := .agg #[.int .u64 v, .int .u64 18446744073709551615, .int .u64 0, .int .u64 0]) (by simp [results, Try.results5, go_sem]) rfl ⟨rfl, ?_⟩
  repeat (refine Below.alloc ?_ (by simp; try omega) _)
  exact Below.refl _ _
set_option maxRecDepth 100000 in
theorem from1p (v n : Int) (hn : IntKind.i64.wrap v = n) (hv : IntKind.u64.wrap n = v) (hs : 0 ≤ n) (w : World) : Calls Try.prog 5 #[.int .i64 1, .int .u64 v] w (Gives w (.agg #[.int .u64 v, .int .u64 0, .int .u64 0, .int .u64 0])) := by
  go_enter Try.func5, Try.ntmps5
  go_wp2_with (first | (go_at_call 9; refine (i128p n v hv hs _).mono ?_; rintro e w1 ⟨rfl, rfl⟩) | (go_at_call 8; refine (wideI _ _ _ _ _).mono ?_; rintro e w1 ⟨rfl, rfl⟩))
  refine bodyPost_ret (v := .agg #[.int .u64 v, .int .u64 0, .int .u64 0, .int .u64 0]) (by simp [results, Try.results5, go_sem]) rfl ⟨rfl, ?_⟩
  repeat (refine Below.alloc ?_ (by simp; try omega) _)
  exact Below.refl _ _
set_option maxRecDepth 100000 in
theorem from2p (v n : Int) (hn : IntKind.i64.wrap v = n) (hv : IntKind.u64.wrap n = v) (hs : 0 ≤ n) (w : World) : Calls Try.prog 5 #[.int .i64 2, .int .u64 v] w (Gives w (.agg #[.int .u64 v, .int .u64 0, .int .u64 0, .int .u64 0])) := by
  go_enter Try.func5, Try.ntmps5
  go_wp2_with (first | (go_at_call 10; refine (u128p n v hv hs _).mono ?_; rintro e w1 ⟨rfl, rfl⟩) | (go_at_call 8; refine (wideI _ _ _ _ _).mono ?_; rintro e w1 ⟨rfl, rfl⟩))
  refine bodyPost_ret (v := .agg #[.int .u64 v, .int .u64 0, .int .u64 0, .int .u64 0]) (by simp [results, Try.results5, go_sem]) rfl ⟨rfl, ?_⟩
  repeat (refine Below.alloc ?_ (by simp; try omega) _)
  exact Below.refl _ _
set_option maxRecDepth 100000 in
theorem from3n (v n : Int) (hn : IntKind.i64.wrap v = n) (hv : IntKind.u64.wrap n = v) (hs : n < 0) (w : World) : Calls Try.prog 5 #[.int .i64 3, .int .u64 v] w (Gives w (.agg #[.int .u64 v, .int .u64 18446744073709551615, .int .u64 18446744073709551615, .int .u64 18446744073709551615])) := by
  go_enter Try.func5, Try.ntmps5
  go_wp2_with (first | (go_at_call 11; refine (i256n n v hv hs _).mono ?_; rintro e w1 ⟨rfl, rfl⟩) | (go_at_call 8; refine (wideI _ _ _ _ _).mono ?_; rintro e w1 ⟨rfl, rfl⟩))
  refine bodyPost_ret (v := .agg #[.int .u64 v, .int .u64 18446744073709551615, .int .u64 18446744073709551615, .int .u64 18446744073709551615]) (by simp [results, Try.results5, go_sem]) rfl ⟨rfl, ?_⟩
  repeat (refine Below.alloc ?_ (by simp; try omega) _)
  exact Below.refl _ _
set_option maxRecDepth 100000 in
theorem from3p (v n : Int) (hn : IntKind.i64.wrap v = n) (hv : IntKind.u64.wrap n = v) (hs : 0 ≤ n) (w : World) : Calls Try.prog 5 #[.int .i64 3, .int .u64 v] w (Gives w (.agg #[.int .u64 v, .int .u64 0, .int .u64 0, .int .u64 0])) := by
  go_enter Try.func5, Try.ntmps5
  go_wp2_with (first | (go_at_call 11; refine (i256p n v hv hs _).mono ?_; rintro e w1 ⟨rfl, rfl⟩) | (go_at_call 8; refine (wideI _ _ _ _ _).mono ?_; rintro e w1 ⟨rfl, rfl⟩))
  refine bodyPost_ret (v := .agg #[.int .u64 v, .int .u64 0, .int .u64 0, .int .u64 0]) (by simp [results, Try.results5, go_sem]) rfl ⟨rfl, ?_⟩
  repeat (refine Below.alloc ?_ (by simp; try omega) _)
  exact Below.refl _ _
set_option maxRecDepth 100000 in
theorem from4p (v n : Int) (hn : IntKind.i64.wrap v = n) (hv : IntKind.u64.wrap n = v) (hs : 0 ≤ n) (w : World) : Calls Try.prog 5 #[.int .i64 4, .int .u64 v] w (Gives w (.agg #[.int .u64 v, .int .u64 0, .int .u64 0, .int .u64 0])) := by
  go_enter Try.func5, Try.ntmps5
  go_wp2_with (first | (go_at_call 12; refine (u256p n v hv hs _).mono ?_; rintro e w1 ⟨rfl, rfl⟩) | (go_at_call 8; refine (wideI _ _ _ _ _).mono ?_; rintro e w1 ⟨rfl, rfl⟩))
  refine bodyPost_ret (v := .agg #[.int .u64 v, .int .u64 0, .int .u64 0, .int .u64 0]) (by simp [results, Try.results5, go_sem]) rfl ⟨rfl, ?_⟩
  repeat (refine Below.alloc ?_ (by simp; try omega) _)
  exact Below.refl _ _
set_option maxRecDepth 100000 in
theorem from5u (v n : Int) (hn : IntKind.i64.wrap v = n) (w : World) : Calls Try.prog 5 #[.int .i64 5, .int .u64 v] w (Gives w (.agg #[.int .u64 v, .int .u64 0, .int .u64 0, .int .u64 0])) := by
  go_enter Try.func5, Try.ntmps5
  go_wp2_with (first | (go_at_call 13; refine (i128u _ _).mono ?_; rintro e w1 ⟨rfl, rfl⟩) | (go_at_call 8; refine (wideI _ _ _ _ _).mono ?_; rintro e w1 ⟨rfl, rfl⟩))
  refine bodyPost_ret (v := .agg #[.int .u64 v, .int .u64 0, .int .u64 0, .int .u64 0]) (by simp [results, Try.results5, go_sem]) rfl ⟨rfl, ?_⟩
  repeat (refine Below.alloc ?_ (by simp; try omega) _)
  exact Below.refl _ _
set_option maxRecDepth 100000 in
theorem from6u (v n : Int) (hn : IntKind.i64.wrap v = n) (w : World) : Calls Try.prog 5 #[.int .i64 6, .int .u64 v] w (Gives w (.agg #[.int .u64 v, .int .u64 0, .int .u64 0, .int .u64 0])) := by
  go_enter Try.func5, Try.ntmps5
  go_wp2_with (first | (go_at_call 14; refine (u128u _ _).mono ?_; rintro e w1 ⟨rfl, rfl⟩) | (go_at_call 8; refine (wideI _ _ _ _ _).mono ?_; rintro e w1 ⟨rfl, rfl⟩))
  refine bodyPost_ret (v := .agg #[.int .u64 v, .int .u64 0, .int .u64 0, .int .u64 0]) (by simp [results, Try.results5, go_sem]) rfl ⟨rfl, ?_⟩
  repeat (refine Below.alloc ?_ (by simp; try omega) _)
  exact Below.refl _ _
set_option maxRecDepth 100000 in
theorem from7u (v n : Int) (hn : IntKind.i64.wrap v = n) (w : World) : Calls Try.prog 5 #[.int .i64 7, .int .u64 v] w (Gives w (.agg #[.int .u64 v, .int .u64 0, .int .u64 0, .int .u64 0])) := by
  go_enter Try.func5, Try.ntmps5
  go_wp2_with (first | (go_at_call 15; refine (u256u _ _).mono ?_; rintro e w1 ⟨rfl, rfl⟩) | (go_at_call 8; refine (wideI _ _ _ _ _).mono ?_; rintro e w1 ⟨rfl, rfl⟩))
  refine bodyPost_ret (v := .agg #[.int .u64 v, .int .u64 0, .int .u64 0, .int .u64 0]) (by simp [results, Try.results5, go_sem]) rfl ⟨rfl, ?_⟩
  repeat (refine Below.alloc ?_ (by simp; try omega) _)
  exact Below.refl _ _
end Go.Proofs.Ytbfhkimjlnmhgab
