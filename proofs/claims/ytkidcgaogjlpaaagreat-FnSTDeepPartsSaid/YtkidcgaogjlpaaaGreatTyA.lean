/- What impl.STKind.column makes, kind by kind. -/
import Derived.Test.YtkidcgaogjlpaaaGreatMeth
import Derived.Test.YtkidcgaogjlpaaaGreatMem
import Derived.Handy
import Derived.KernelRfl
namespace Go.Proofs.YtkidcgaogjlpaaaGreat
open Go.RowKit
set_option linter.unusedVariables false

/-- Kind 0. -/
def colV0 (w : World) : Value := .agg #[.iface 81 (.pointer (some ⟨w.heap.size + 1, 0, none⟩)), .func (.func 36) #[] #[], .func (.func 37) #[] #[], .func (.func 38) #[.pointer (some ⟨w.heap.size + 1, 0, none⟩)] #[]]
def colW0 (w : World) (s : Int) : World := (w.alloc (.cells #[.int .i64 0, .int .i64 s] 23)).alloc (.cells #[.slice none 0 0, .slice none 0 0] 84)
set_option maxRecDepth 100000 in
theorem column0 (w : World) (s : Int) : Calls Tryz.prog 26 #[.agg #[.int .i64 0, .int .i64 s]] w fun e w' => e = .returned (.iface 90 (colV0 w)) ∧ w' = colW0 w s := by
  go_enter Tryz.func26, Tryz.ntmps26
  go_wp2
  go_ret
  exact ⟨rfl, rfl⟩

/-- Kind 1. -/
def colV1 (w : World) : Value := .agg #[.iface 91 (.pointer (some ⟨w.heap.size + 1, 0, none⟩)), .func (.func 39) #[] #[], .func (.func 39) #[] #[], .nilFunc]
def colW1 (w : World) (s : Int) : World := (w.alloc (.cells #[.int .i64 1, .int .i64 s] 23)).alloc (.cells #[.slice none 0 0, .slice none 0 0] 93)
set_option maxRecDepth 100000 in
theorem column1 (w : World) (s : Int) : Calls Tryz.prog 26 #[.agg #[.int .i64 1, .int .i64 s]] w fun e w' => e = .returned (.iface 97 (colV1 w)) ∧ w' = colW1 w s := by
  go_enter Tryz.func26, Tryz.ntmps26
  go_wp2
  go_ret
  exact ⟨rfl, rfl⟩

/-- Kind 2. -/
def colV2 (w : World) : Value := .agg #[.iface 98 (.pointer (some ⟨w.heap.size + 1, 0, none⟩)), .func (.func 36) #[] #[], .func (.func 37) #[] #[], .func (.func 40) #[.pointer (some ⟨w.heap.size + 1, 0, none⟩)] #[]]
def colW2 (w : World) (s : Int) : World := (w.alloc (.cells #[.int .i64 2, .int .i64 s] 23)).alloc (.cells #[.slice none 0 0, .slice none 0 0] 100)
set_option maxRecDepth 100000 in
theorem column2 (w : World) (s : Int) : Calls Tryz.prog 26 #[.agg #[.int .i64 2, .int .i64 s]] w fun e w' => e = .returned (.iface 90 (colV2 w)) ∧ w' = colW2 w s := by
  go_enter Tryz.func26, Tryz.ntmps26
  go_wp2
  go_ret
  exact ⟨rfl, rfl⟩

/-- Kind 3. -/
def colV3 (w : World) : Value := .agg #[.iface 101 (.pointer (some ⟨w.heap.size + 1, 0, none⟩)), .func (.func 39) #[] #[], .func (.func 39) #[] #[], .nilFunc]
def colW3 (w : World) (s : Int) : World := (w.alloc (.cells #[.int .i64 3, .int .i64 s] 23)).alloc (.cells #[.slice none 0 0, .slice none 0 0] 103)
set_option maxRecDepth 100000 in
theorem column3 (w : World) (s : Int) : Calls Tryz.prog 26 #[.agg #[.int .i64 3, .int .i64 s]] w fun e w' => e = .returned (.iface 97 (colV3 w)) ∧ w' = colW3 w s := by
  go_enter Tryz.func26, Tryz.ntmps26
  go_wp2
  go_ret
  exact ⟨rfl, rfl⟩

/-- Kind 4. -/
def colV4 (w : World) : Value := .agg #[.iface 104 (.pointer (some ⟨w.heap.size + 1, 0, none⟩)), .func (.func 39) #[] #[], .func (.func 39) #[] #[], .nilFunc]
def colW4 (w : World) (s : Int) : World := (w.alloc (.cells #[.int .i64 4, .int .i64 s] 23)).alloc (.cells #[.slice none 0 0, .int .i64 s] 106)
set_option maxRecDepth 100000 in
theorem column4 (w : World) (s : Int) : Calls Tryz.prog 26 #[.agg #[.int .i64 4, .int .i64 s]] w fun e w' => e = .returned (.iface 97 (colV4 w)) ∧ w' = colW4 w s := by
  go_enter Tryz.func26, Tryz.ntmps26
  go_wp2
  go_ret
  exact ⟨rfl, rfl⟩

/-- Kind 5. -/
def colV5 (w : World) : Value := .agg #[.iface 107 (.pointer (some ⟨w.heap.size + 1, 0, none⟩)), .func (.func 41) #[] #[], .func (.func 42) #[] #[], .nilFunc]
def colW5 (w : World) (s : Int) : World := (w.alloc (.cells #[.int .i64 5, .int .i64 s] 23)).alloc (.cells #[.slice none 0 0] 109)
set_option maxRecDepth 100000 in
theorem column5 (w : World) (s : Int) : Calls Tryz.prog 26 #[.agg #[.int .i64 5, .int .i64 s]] w fun e w' => e = .returned (.iface 116 (colV5 w)) ∧ w' = colW5 w s := by
  go_enter Tryz.func26, Tryz.ntmps26
  go_wp2
  go_ret
  exact ⟨rfl, rfl⟩

/-- Kind 6. -/
def colV6 (w : World) : Value := .agg #[.iface 117 (.pointer (some ⟨w.heap.size + 1, 0, none⟩)), .func (.func 43) #[] #[], .func (.func 44) #[] #[], .nilFunc]
def colW6 (w : World) (s : Int) : World := (w.alloc (.cells #[.int .i64 6, .int .i64 s] 23)).alloc (.cells #[.slice none 0 0] 119)
set_option maxRecDepth 100000 in
theorem column6 (w : World) (s : Int) : Calls Tryz.prog 26 #[.agg #[.int .i64 6, .int .i64 s]] w fun e w' => e = .returned (.iface 126 (colV6 w)) ∧ w' = colW6 w s := by
  go_enter Tryz.func26, Tryz.ntmps26
  go_wp2
  go_ret
  exact ⟨rfl, rfl⟩

/-- Kind 7. -/
def colV7 (w : World) : Value := .agg #[.iface 127 (.pointer (some ⟨w.heap.size + 1, 0, none⟩)), .func (.func 45) #[] #[], .func (.func 46) #[] #[], .nilFunc]
def colW7 (w : World) (s : Int) : World := (w.alloc (.cells #[.int .i64 7, .int .i64 s] 23)).alloc (.cells #[.slice none 0 0] 129)
set_option maxRecDepth 100000 in
theorem column7 (w : World) (s : Int) : Calls Tryz.prog 26 #[.agg #[.int .i64 7, .int .i64 s]] w fun e w' => e = .returned (.iface 136 (colV7 w)) ∧ w' = colW7 w s := by
  go_enter Tryz.func26, Tryz.ntmps26
  go_wp2
  go_ret
  exact ⟨rfl, rfl⟩

/-- Kind 8. -/
def colV8 (w : World) : Value := .agg #[.iface 137 (.pointer (some ⟨w.heap.size + 1, 0, none⟩)), .func (.func 47) #[] #[], .func (.func 48) #[] #[], .nilFunc]
def colW8 (w : World) (s : Int) : World := (w.alloc (.cells #[.int .i64 8, .int .i64 s] 23)).alloc (.cells #[.slice none 0 0] 139)
set_option maxRecDepth 100000 in
theorem column8 (w : World) (s : Int) : Calls Tryz.prog 26 #[.agg #[.int .i64 8, .int .i64 s]] w fun e w' => e = .returned (.iface 146 (colV8 w)) ∧ w' = colW8 w s := by
  go_enter Tryz.func26, Tryz.ntmps26
  go_wp2
  go_ret
  exact ⟨rfl, rfl⟩

/-- Kind 9. -/
def colV9 (w : World) : Value := .agg #[.iface 147 (.pointer (some ⟨w.heap.size + 1, 0, none⟩)), .func (.func 49) #[] #[], .func (.func 50) #[] #[], .nilFunc]
def colW9 (w : World) (s : Int) : World := (w.alloc (.cells #[.int .i64 9, .int .i64 s] 23)).alloc (.cells #[.slice none 0 0] 149)
set_option maxRecDepth 100000 in
theorem column9 (w : World) (s : Int) : Calls Tryz.prog 26 #[.agg #[.int .i64 9, .int .i64 s]] w fun e w' => e = .returned (.iface 156 (colV9 w)) ∧ w' = colW9 w s := by
  go_enter Tryz.func26, Tryz.ntmps26
  go_wp2
  go_ret
  exact ⟨rfl, rfl⟩

/-- Kind 10. -/
def colV10 (w : World) : Value := .agg #[.iface 157 (.pointer (some ⟨w.heap.size + 1, 0, none⟩)), .func (.func 51) #[] #[], .func (.func 52) #[] #[], .nilFunc]
def colW10 (w : World) (s : Int) : World := (w.alloc (.cells #[.int .i64 10, .int .i64 s] 23)).alloc (.cells #[.slice none 0 0] 159)
set_option maxRecDepth 100000 in
theorem column10 (w : World) (s : Int) : Calls Tryz.prog 26 #[.agg #[.int .i64 10, .int .i64 s]] w fun e w' => e = .returned (.iface 166 (colV10 w)) ∧ w' = colW10 w s := by
  go_enter Tryz.func26, Tryz.ntmps26
  go_wp2
  go_ret
  exact ⟨rfl, rfl⟩

/-- Kind 11. -/
def colV11 (w : World) : Value := .agg #[.iface 167 (.pointer (some ⟨w.heap.size + 1, 0, none⟩)), .func (.func 53) #[] #[], .func (.func 54) #[] #[], .nilFunc]
def colW11 (w : World) (s : Int) : World := (w.alloc (.cells #[.int .i64 11, .int .i64 s] 23)).alloc (.cells #[.slice none 0 0] 169)
set_option maxRecDepth 100000 in
theorem column11 (w : World) (s : Int) : Calls Tryz.prog 26 #[.agg #[.int .i64 11, .int .i64 s]] w fun e w' => e = .returned (.iface 176 (colV11 w)) ∧ w' = colW11 w s := by
  go_enter Tryz.func26, Tryz.ntmps26
  go_wp2
  go_ret
  exact ⟨rfl, rfl⟩

end Go.Proofs.YtkidcgaogjlpaaaGreat
