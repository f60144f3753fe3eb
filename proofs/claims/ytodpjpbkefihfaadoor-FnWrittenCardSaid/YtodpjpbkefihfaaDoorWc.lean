/-
Walk: prescale.
-/
import Derived.Test.YtodpjpbkefihfaaDoorWb
import Derived.Lib.Walk
import Derived.Lib.ItoaWalk
namespace Go.Proofs.YtodpjpbkefihfaaDoor
open Go.RowKit

abbrev o149 (C : Nat) (s : Int) : Obj := .cells #[.int .u64 C, .int .u64 0, .int .i64 s] 149

set_option maxRecDepth 100000 in
theorem prescale11 (C : Nat) (e L s : Int) (w : World) (h1 : -100 ≤ e) (h2 : e ≤ 0) (h3 : 0 ≤ L) (h4 : L ≤ 100) (hs : e + L + 3 = - s)
    (hc0 : w.cell? ⟨11, 718, none⟩ = some (.int .u64 C)) (hc1 : w.cell? ⟨11, 719, none⟩ = some (.int .u64 0)) :
    Calls Tryd.prog 103 #[.pointer (some ⟨w.heap.size, 0, none⟩), .int .i64 e, .int .i64 11, .int .i64 L] (w.alloc (.cells #[.int .u64 0, .int .u64 0, .int .i64 0] 149)) fun e w' => e = .returned (.tuple #[]) ∧ w' = w.alloc (o149 C s) := by
  have hlt := World.block_lt_of_cell? _ _ hc0
  go_enter Tryd.func103, Tryd.ntmps103
  go_wp2
  go_end0
  exact ⟨rfl, rfl⟩

set_option maxRecDepth 100000 in
theorem prescale12 (C : Nat) (e L s : Int) (w : World) (h1 : -100 ≤ e) (h2 : e ≤ 0) (h3 : 0 ≤ L) (h4 : L ≤ 100) (hs : e + L + 3 = - s)
    (hc0 : w.cell? ⟨11, 720, none⟩ = some (.int .u64 C)) (hc1 : w.cell? ⟨11, 721, none⟩ = some (.int .u64 0)) :
    Calls Tryd.prog 103 #[.pointer (some ⟨w.heap.size, 0, none⟩), .int .i64 e, .int .i64 12, .int .i64 L] (w.alloc (.cells #[.int .u64 0, .int .u64 0, .int .i64 0] 149)) fun e w' => e = .returned (.tuple #[]) ∧ w' = w.alloc (o149 C s) := by
  have hlt := World.block_lt_of_cell? _ _ hc0
  go_enter Tryd.func103, Tryd.ntmps103
  go_wp2
  go_end0
  exact ⟨rfl, rfl⟩

set_option maxRecDepth 100000 in
theorem prescale13 (C : Nat) (e L s : Int) (w : World) (h1 : -100 ≤ e) (h2 : e ≤ 0) (h3 : 0 ≤ L) (h4 : L ≤ 100) (hs : e + L + 3 = - s)
    (hc0 : w.cell? ⟨11, 722, none⟩ = some (.int .u64 C)) (hc1 : w.cell? ⟨11, 723, none⟩ = some (.int .u64 0)) :
    Calls Tryd.prog 103 #[.pointer (some ⟨w.heap.size, 0, none⟩), .int .i64 e, .int .i64 13, .int .i64 L] (w.alloc (.cells #[.int .u64 0, .int .u64 0, .int .i64 0] 149)) fun e w' => e = .returned (.tuple #[]) ∧ w' = w.alloc (o149 C s) := by
  have hlt := World.block_lt_of_cell? _ _ hc0
  go_enter Tryd.func103, Tryd.ntmps103
  go_wp2
  go_end0
  exact ⟨rfl, rfl⟩

set_option maxRecDepth 100000 in
theorem prescale14 (C : Nat) (e L s : Int) (w : World) (h1 : -100 ≤ e) (h2 : e ≤ 0) (h3 : 0 ≤ L) (h4 : L ≤ 100) (hs : e + L + 3 = - s)
    (hc0 : w.cell? ⟨11, 724, none⟩ = some (.int .u64 C)) (hc1 : w.cell? ⟨11, 725, none⟩ = some (.int .u64 0)) :
    Calls Tryd.prog 103 #[.pointer (some ⟨w.heap.size, 0, none⟩), .int .i64 e, .int .i64 14, .int .i64 L] (w.alloc (.cells #[.int .u64 0, .int .u64 0, .int .i64 0] 149)) fun e w' => e = .returned (.tuple #[]) ∧ w' = w.alloc (o149 C s) := by
  have hlt := World.block_lt_of_cell? _ _ hc0
  go_enter Tryd.func103, Tryd.ntmps103
  go_wp2
  go_end0
  exact ⟨rfl, rfl⟩

set_option maxRecDepth 100000 in
theorem prescale15 (C : Nat) (e L s : Int) (w : World) (h1 : -100 ≤ e) (h2 : e ≤ 0) (h3 : 0 ≤ L) (h4 : L ≤ 100) (hs : e + L + 3 = - s)
    (hc0 : w.cell? ⟨11, 726, none⟩ = some (.int .u64 C)) (hc1 : w.cell? ⟨11, 727, none⟩ = some (.int .u64 0)) :
    Calls Tryd.prog 103 #[.pointer (some ⟨w.heap.size, 0, none⟩), .int .i64 e, .int .i64 15, .int .i64 L] (w.alloc (.cells #[.int .u64 0, .int .u64 0, .int .i64 0] 149)) fun e w' => e = .returned (.tuple #[]) ∧ w' = w.alloc (o149 C s) := by
  have hlt := World.block_lt_of_cell? _ _ hc0
  go_enter Tryd.func103, Tryd.ntmps103
  go_wp2
  go_end0
  exact ⟨rfl, rfl⟩

set_option maxRecDepth 100000 in
theorem prescale16 (C : Nat) (e L s : Int) (w : World) (h1 : -100 ≤ e) (h2 : e ≤ 0) (h3 : 0 ≤ L) (h4 : L ≤ 100) (hs : e + L + 3 = - s)
    (hc0 : w.cell? ⟨11, 728, none⟩ = some (.int .u64 C)) (hc1 : w.cell? ⟨11, 729, none⟩ = some (.int .u64 0)) :
    Calls Tryd.prog 103 #[.pointer (some ⟨w.heap.size, 0, none⟩), .int .i64 e, .int .i64 16, .int .i64 L] (w.alloc (.cells #[.int .u64 0, .int .u64 0, .int .i64 0] 149)) fun e w' => e = .returned (.tuple #[]) ∧ w' = w.alloc (o149 C s) := by
  have hlt := World.block_lt_of_cell? _ _ hc0
  go_enter Tryd.func103, Tryd.ntmps103
  go_wp2
  go_end0
  exact ⟨rfl, rfl⟩

/-- The power of ten's row of the table. -/
def PowRow (w : World) (p C : Nat) : Prop := w.cell? ⟨11, 2 * (p + 348), none⟩ = some (.int .u64 C) ∧ w.cell? ⟨11, 2 * (p + 348) + 1, none⟩ = some (.int .u64 0)
theorem prescale_walk (p C : Nat) (e L s : Int) (w : World) (hp : p = 11 ∨ p = 12 ∨ p = 13 ∨ p = 14 ∨ p = 15 ∨ p = 16) (h1 : -100 ≤ e) (h2 : e ≤ 0) (h3 : 0 ≤ L) (h4 : L ≤ 100) (hs : e + L + 3 = - s) (hR : PowRow w p C) :
    Calls Tryd.prog 103 #[.pointer (some ⟨w.heap.size, 0, none⟩), .int .i64 e, .int .i64 p, .int .i64 L] (w.alloc (.cells #[.int .u64 0, .int .u64 0, .int .i64 0] 149)) fun e w' => e = .returned (.tuple #[]) ∧ w' = w.alloc (o149 C s) := by
  rcases hp with rfl | rfl | rfl | rfl | rfl | rfl
  · exact prescale11 C e L s w h1 h2 h3 h4 hs hR.1 hR.2
  · exact prescale12 C e L s w h1 h2 h3 h4 hs hR.1 hR.2
  · exact prescale13 C e L s w h1 h2 h3 h4 hs hR.1 hR.2
  · exact prescale14 C e L s w h1 h2 h3 h4 hs hR.1 hR.2
  · exact prescale15 C e L s w h1 h2 h3 h4 hs hR.1 hR.2
  · exact prescale16 C e L s w h1 h2 h3 h4 hs hR.1 hR.2
end Go.Proofs.YtodpjpbkefihfaaDoor
