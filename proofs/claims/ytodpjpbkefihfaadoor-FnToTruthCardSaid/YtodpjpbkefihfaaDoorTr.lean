/-
Walks: zzIs, convertToBool, ZZToBool, impl.ToTruth, spec.ToTruth, spec.IsLoose.
-/
import Derived.Test.YtodpjpbkefihfaaDoorVc
namespace Go.Proofs.YtodpjpbkefihfaaDoor
open Go.RowKit
attribute [local go_sem] ta9_9 ta9_4 ta22_22 ta22_4 ta22_9 ta4_4

set_option maxRecDepth 100000 in
theorem zzIs_text (t s : ByteArray) (w : World) : Calls Tryd.prog 44 #[.iface 9 (.string t), .string s] w fun e w' => e = .returned (.bool (t.toList == s.toList)) ∧ w = w' := by
  go_enter Tryd.func44, Tryd.ntmps44
  go_wp2
  go_ret
  exact ⟨rfl, rfl⟩
set_option maxRecDepth 100000 in
theorem zzIs_float (x : Nat) (s : ByteArray) (w : World) : Calls Tryd.prog 44 #[.iface 22 (.float .f64 x), .string s] w fun e w' => e = .returned (.bool false) ∧ w = w' := by
  go_enter Tryd.func44, Tryd.ntmps44
  go_wp2
  go_ret
  exact ⟨rfl, rfl⟩

set_option maxRecDepth 100000 in
theorem toBool_bool (b : Bool) (w : World) : Calls Tryd.prog 35 #[.iface 4 (.bool b)] w fun e w' => e = .returned (.tuple #[.bool b, .bool true]) ∧ w = w' := by
  go_enter Tryd.func35, Tryd.ntmps35
  go_wp2
  go_ret2
  exact ⟨rfl, rfl⟩

/-- 'x != 0' of a float. -/
def nonZero (x : Nat) : Bool := FloatKind.f64.format.order x 0 != some .eq

set_option maxRecDepth 100000 in
theorem toBool_float (x : Nat) (w : World) : Calls Tryd.prog 35 #[.iface 22 (.float .f64 x)] w fun e w' => e = .returned (.tuple #[.bool (nonZero x), .bool true]) ∧ w = w' := by
  go_enter Tryd.func35, Tryd.ntmps35
  go_wp2_with (first
    | (go_at_call 44; refine (zzIs_float _ _ _).mono ?_; rintro e w' ⟨rfl, rfl⟩)
    | (go_at_call 30; refine (toFloat_float _ _).mono ?_; rintro e w' ⟨rfl, rfl⟩))
  go_ret2
  exact ⟨rfl, rfl⟩

section
variable (t : ByteArray)
set_option maxRecDepth 100000 in
theorem toBool_false0 (w : World) (ef : (t.toList == [102, 97, 108, 115, 101]) = true) : Calls Tryd.prog 35 #[.iface 9 (.string t)] w fun e w' => e = .returned (.tuple #[.bool false, .bool true]) ∧ w = w' := by
  go_enter Tryd.func35, Tryd.ntmps35
  go_wp2_with (go_at_call 44; refine (zzIs_text _ _ _).mono ?_; rintro e w' ⟨rfl, rfl⟩)
  go_ret2
  exact ⟨rfl, rfl⟩
set_option maxRecDepth 100000 in
theorem toBool_false1 (w : World) (ef : (t.toList == [102, 97, 108, 115, 101]) = false) (eF : (t.toList == [70, 65, 76, 83, 69]) = true) : Calls Tryd.prog 35 #[.iface 9 (.string t)] w fun e w' => e = .returned (.tuple #[.bool false, .bool true]) ∧ w = w' := by
  go_enter Tryd.func35, Tryd.ntmps35
  go_wp2_with (go_at_call 44; refine (zzIs_text _ _ _).mono ?_; rintro e w' ⟨rfl, rfl⟩)
  go_ret2
  exact ⟨rfl, rfl⟩
set_option maxRecDepth 100000 in
theorem toBool_true0 (w : World) (ef : (t.toList == [102, 97, 108, 115, 101]) = false) (eF : (t.toList == [70, 65, 76, 83, 69]) = false) (et : (t.toList == [116, 114, 117, 101]) = true) : Calls Tryd.prog 35 #[.iface 9 (.string t)] w fun e w' => e = .returned (.tuple #[.bool true, .bool true]) ∧ w = w' := by
  go_enter Tryd.func35, Tryd.ntmps35
  go_wp2_with (go_at_call 44; refine (zzIs_text _ _ _).mono ?_; rintro e w' ⟨rfl, rfl⟩)
  go_ret2
  exact ⟨rfl, rfl⟩
set_option maxRecDepth 100000 in
theorem toBool_true1 (w : World) (ef : (t.toList == [102, 97, 108, 115, 101]) = false) (eF : (t.toList == [70, 65, 76, 83, 69]) = false) (et : (t.toList == [116, 114, 117, 101]) = false) (eT : (t.toList == [84, 82, 85, 69]) = true) : Calls Tryd.prog 35 #[.iface 9 (.string t)] w fun e w' => e = .returned (.tuple #[.bool true, .bool true]) ∧ w = w' := by
  go_enter Tryd.func35, Tryd.ntmps35
  go_wp2_with (go_at_call 44; refine (zzIs_text _ _ _).mono ?_; rintro e w' ⟨rfl, rfl⟩)
  go_ret2
  exact ⟨rfl, rfl⟩
set_option maxRecDepth 100000 in
theorem toBool_none (w : World) (ef : (t.toList == [102, 97, 108, 115, 101]) = false) (eF : (t.toList == [70, 65, 76, 83, 69]) = false) (et : (t.toList == [116, 114, 117, 101]) = false) (eT : (t.toList == [84, 82, 85, 69]) = false) (h : Calls Tryd.prog 30 #[.iface 9 (.string t)] w fun e w' => e = .returned (.tuple #[.float .f64 0, .bool false]) ∧ Below w.heap.size w w') :
    Calls Tryd.prog 35 #[.iface 9 (.string t)] w fun e w' => e = .returned (.tuple #[.bool false, .bool false]) ∧ Below w.heap.size w w' := by
  have H30 := Lib.hid h
  clear h
  go_enter Tryd.func35, Tryd.ntmps35
  go_wp2_with (first
    | (go_at_call 44; refine (zzIs_text _ _ _).mono ?_; rintro e w' ⟨rfl, rfl⟩)
    | (go_at_call 30; refine (Calls.mono H30.out ?_); rintro e w' ⟨rfl, hb⟩))
  go_ret2
  exact ⟨rfl, hb⟩
set_option maxRecDepth 100000 in
theorem specTruth_false0 (b : Bool) (x : Nat) (A : Option Addr) (n c : Nat) (B : Option Addr) (m d : Nat) (w : World) (et : (t.toList == [116, 114, 117, 101]) = false) (eT : (t.toList == [84, 82, 85, 69]) = false) (ef : (t.toList == [102, 97, 108, 115, 101]) = true) : Calls Tryd.prog 14 #[vOf 3 b x t A n c B m d] w fun e w' => e = .returned (.tuple #[.bool false, .bool true]) ∧ Below w.heap.size w w' := by
  go_enter Tryd.func14, Tryd.ntmps14
  go_wp2
  go_ret2
  exact ⟨rfl, below_alloc _ _⟩
set_option maxRecDepth 100000 in
theorem specTruth_false1 (b : Bool) (x : Nat) (A : Option Addr) (n c : Nat) (B : Option Addr) (m d : Nat) (w : World) (et : (t.toList == [116, 114, 117, 101]) = false) (eT : (t.toList == [84, 82, 85, 69]) = false) (ef : (t.toList == [102, 97, 108, 115, 101]) = false) (eF : (t.toList == [70, 65, 76, 83, 69]) = true) : Calls Tryd.prog 14 #[vOf 3 b x t A n c B m d] w fun e w' => e = .returned (.tuple #[.bool false, .bool true]) ∧ Below w.heap.size w w' := by
  go_enter Tryd.func14, Tryd.ntmps14
  go_wp2
  go_ret2
  exact ⟨rfl, below_alloc _ _⟩
set_option maxRecDepth 100000 in
theorem specTruth_true0 (b : Bool) (x : Nat) (A : Option Addr) (n c : Nat) (B : Option Addr) (m d : Nat) (w : World) (et : (t.toList == [116, 114, 117, 101]) = true) : Calls Tryd.prog 14 #[vOf 3 b x t A n c B m d] w fun e w' => e = .returned (.tuple #[.bool true, .bool true]) ∧ Below w.heap.size w w' := by
  go_enter Tryd.func14, Tryd.ntmps14
  go_wp2
  go_ret2
  exact ⟨rfl, below_alloc _ _⟩
set_option maxRecDepth 100000 in
theorem specTruth_true1 (b : Bool) (x : Nat) (A : Option Addr) (n c : Nat) (B : Option Addr) (m d : Nat) (w : World) (et : (t.toList == [116, 114, 117, 101]) = false) (eT : (t.toList == [84, 82, 85, 69]) = true) : Calls Tryd.prog 14 #[vOf 3 b x t A n c B m d] w fun e w' => e = .returned (.tuple #[.bool true, .bool true]) ∧ Below w.heap.size w w' := by
  go_enter Tryd.func14, Tryd.ntmps14
  go_wp2
  go_ret2
  exact ⟨rfl, below_alloc _ _⟩
set_option maxRecDepth 100000 in
theorem specTruth_none (b : Bool) (x : Nat) (A : Option Addr) (n c : Nat) (B : Option Addr) (m d : Nat) (w : World) (et : (t.toList == [116, 114, 117, 101]) = false) (eT : (t.toList == [84, 82, 85, 69]) = false) (ef : (t.toList == [102, 97, 108, 115, 101]) = false) (eF : (t.toList == [70, 65, 76, 83, 69]) = false) : Calls Tryd.prog 14 #[vOf 3 b x t A n c B m d] w fun e w' => e = .returned (.tuple #[.bool false, .bool false]) ∧ Below w.heap.size w w' := by
  go_enter Tryd.func14, Tryd.ntmps14
  go_wp2
  go_ret2
  exact ⟨rfl, below_alloc _ _⟩
end
section
variable (b : Bool) (x : Nat) (A : Option Addr) (n c : Nat) (B : Option Addr) (m d : Nat) (t : ByteArray) (w : World)
set_option maxRecDepth 100000 in
theorem specTruth_is : Calls Tryd.prog 14 #[vOf 1 b x t A n c B m d] w fun e w' => e = .returned (.tuple #[.bool b, .bool true]) ∧ Below w.heap.size w w' := by
  go_enter Tryd.func14, Tryd.ntmps14
  go_wp2
  go_ret2
  exact ⟨rfl, below_alloc _ _⟩
set_option maxRecDepth 100000 in
theorem specTruth_number : Calls Tryd.prog 14 #[vOf 2 b x t A n c B m d] w fun e w' => e = .returned (.tuple #[.bool (nonZero x), .bool true]) ∧ Below w.heap.size w w' := by
  go_enter Tryd.func14, Tryd.ntmps14
  go_wp2
  go_ret2
  exact ⟨rfl, below_alloc _ _⟩
end
end Go.Proofs.YtodpjpbkefihfaaDoor
