/-
Walks: the small parts of the float's shortest numeral: log2Pow10, log10Pow2, skewed, nudge, ceil, floor, uscale.
-/
import Derived.Test.YtodpjpbkefihfaaDoorShelf
import Derived.BigQuiet
import Derived.Lib.ItoaMem
namespace Go.Proofs.YtodpjpbkefihfaaDoor
open Go.RowKit

theorem bool2_64 (b : Bool) (w : World) : Calls Tryd.prog 77 #[.bool b] w fun e w' => e = .returned (.int .u64 (if b then 1 else 0)) ∧ w = w' := by
  cases b <;> (go_enter Tryd.func77, Tryd.ntmps77; go_wp2; go_ret; exact ⟨rfl, rfl⟩)

set_option maxRecDepth 100000 in
theorem l2p10_walk (p : Int) (h1 : 0 ≤ p) (h2 : p ≤ 20) (w : World) : Calls Tryd.prog 102 #[.int .i64 p] w fun e w' => e = .returned (.int .i64 (p * 108853 / 32768)) ∧ w = w' := by
  go_enter Tryd.func102, Tryd.ntmps102
  go_wp2
  go_ret
  trace_state
  exact ⟨rfl, rfl⟩
set_option maxRecDepth 100000 in
theorem l10p2_walk (x : Int) (h1 : -60 ≤ x) (h2 : x ≤ 0) (w : World) : Calls Tryd.prog 63 #[.int .i64 x] w fun e w' => e = .returned (.int .i64 (x * 78913 / 262144)) ∧ w = w' := by
  go_enter Tryd.func63, Tryd.ntmps63
  go_wp2
  go_ret
  exact ⟨rfl, rfl⟩
set_option maxRecDepth 100000 in
theorem skewed_walk (x : Int) (h1 : -60 ≤ x) (h2 : x ≤ 0) (w : World) : Calls Tryd.prog 136 #[.int .i64 x] w fun e w' => e = .returned (.int .i64 ((x * 631305 - 261663) / 2097152)) ∧ w = w' := by
  go_enter Tryd.func136, Tryd.ntmps136
  go_wp2
  go_ret
  exact ⟨rfl, rfl⟩
set_option maxRecDepth 100000 in
theorem nudge_walk (u : Nat) (hu : u ≤ 18446744073709551000) (w : World) : Calls Tryd.prog 137 #[.int .u64 u, .int .i64 0] w fun e w' => e = .returned (.int .u64 u) ∧ w = w' := by
  go_enter Tryd.func137, Tryd.ntmps137
  go_wp2
  go_ret
  exact ⟨rfl, rfl⟩
set_option maxRecDepth 100000 in
theorem ceil_walk (u : Nat) (hu : u ≤ 18446744073709551000) (w : World) : Calls Tryd.prog 138 #[.int .u64 u] w fun e w' => e = .returned (.int .u64 ((u + 3) / 4 : Nat)) ∧ w = w' := by
  go_enter Tryd.func138, Tryd.ntmps138
  go_wp2
  go_ret
  exact ⟨rfl, rfl⟩
set_option maxRecDepth 100000 in
theorem floor_walk (u : Nat) (hu : u ≤ 18446744073709551000) (w : World) : Calls Tryd.prog 139 #[.int .u64 u] w fun e w' => e = .returned (.int .u64 (u / 4 : Nat)) ∧ w = w' := by
  go_enter Tryd.func139, Tryd.ntmps139
  go_wp2
  go_ret
  exact ⟨rfl, rfl⟩
end Go.Proofs.YtodpjpbkefihfaaDoor
