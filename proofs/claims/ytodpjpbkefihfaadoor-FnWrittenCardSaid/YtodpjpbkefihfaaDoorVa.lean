/-
Walks over a Value: zzFits1, zzFits2, spec.Text, spec.Number, spec.Truth, impl.data, zzNumber, convertToFloat, ZZToFloat, impl.ToNumber.
-/
import Derived.Test.YtodpjpbkefihfaaDoorPf
namespace Go.Proofs.YtodpjpbkefihfaaDoor
open Go.RowKit

/-- A slice of texts that can be read. -/
def Names (w : World) (A : Option Addr) (n : Nat) : Prop := n ≤ 9223372036854775807 ∧ (0 < n → ∃ a, A = some a ∧ a.block < w.heap.size ∧ ∀ i, i < n → ∃ t : ByteArray, t.size ≤ 9223372036854775807 ∧ w.cell? (a.add i) = some (.string t))

theorem Names.below {w w' : World} {A : Option Addr} {n : Nat} (h : Names w A n) (hb : Below w.heap.size w w') : Names w' A n := by
  refine ⟨h.1, fun hn => ?_⟩
  obtain ⟨a, e, hlt, hc⟩ := h.2 hn
  refine ⟨a, e, Nat.lt_of_lt_of_le hlt hb.size, fun i hi => ?_⟩
  obtain ⟨t, ht, hct⟩ := hc i hi
  refine ⟨t, ht, ?_⟩
  rw [hb.cell (by unfold Addr.add; split <;> exact hlt)]
  exact hct

/-- That a call tells some truth. -/
def SomeBool (w : World) (e : Ending) (w' : World) : Prop := ∃ r : Bool, e = .returned (.bool r) ∧ w = w'
theorem SomeBool.mk (w : World) (r : Bool) : SomeBool w (.returned (.bool r)) w := ⟨r, rfl, rfl⟩

set_option maxRecDepth 100000 in
theorem fits1_walk (A : Option Addr) (n c : Nat) (w : World) (h : Names w A n) :
    Calls Tryd.prog 19 #[.slice A n c] w (SomeBool w) := by
  have hn := h.1
  go_enter Tryd.func19, Tryd.ntmps19
  go_wp2
  · go_ret
    exact SomeBool.mk _ _
  go_loopg [2, 10] n (fun g v2 v10 wr => ∃ k : Nat, w = wr ∧ g = n - k ∧ k ≤ n ∧ v2 = .bool false ∧ v10 = .int .i64 k)
  case atStart => exact ⟨0, rfl, rfl, Nat.zero_le _, rfl, rfl⟩
  case round =>
    obtain ⟨k, rfl, rfl, hk, rfl, rfl⟩ := hrel
    by_cases hlt : k < n
    · obtain ⟨a, rfl, _, hc⟩ := h.2 (by omega)
      obtain ⟨t, ht, hct⟩ := hc k hlt
      clear hc
      go_wp2
      · go_ret
        exact SomeBool.mk _ _
      · go_roundg (n - (k + 1))
        case measure => omega
        case rel => exact ⟨k + 1, rfl, rfl, by omega, rfl, by go_num⟩
    · go_wp2
      go_ret
      exact SomeBool.mk _ _

/-- A Value, by its parts. -/
abbrev vOf (k : Int) (b : Bool) (x : Nat) (t : ByteArray) (A : Option Addr) (n c : Nat) (B : Option Addr) (m d : Nat) : Value :=
  .agg #[.int .i64 k, .bool b, .float .f64 x, .string t, .slice A n c, .slice B m d]

def Fits (t : ByteArray) (w : World) (e : Ending) (w' : World) : Prop := ∃ r : Bool, e = .returned (.bool r) ∧ Below w.heap.size w w' ∧ (r = true → t.size ≤ 2147483647)
theorem Fits.mk {t : ByteArray} {w w' : World} (r : Bool) (hb : Below w.heap.size w w') (h : r = true → t.size ≤ 2147483647) : Fits t w (.returned (.bool r)) w' := ⟨r, rfl, hb, h⟩

set_option maxRecDepth 100000 in
theorem fits2_walk (k : Int) (b : Bool) (x : Nat) (t : ByteArray) (A : Option Addr) (n c : Nat) (B : Option Addr) (m d : Nat) (w : World) (h : Names w A n) (_hm : m ≤ 9223372036854775807) (_ht : t.size ≤ 9223372036854775807) :
    Calls Tryd.prog 6 #[vOf k b x t A n c B m d] w (Fits t w) := by
  go_enter Tryd.func6, Tryd.ntmps6
  go_wp2_with (go_at_call 19; refine (fits1_walk A n c _ (h.below ((Below.refl _ _).alloc (Nat.le_refl _) _))).mono ?_; rintro e w' ⟨r, rfl, rfl⟩)
  all_goals (go_ret; exact Fits.mk _ ((Below.refl _ _).alloc (Nat.le_refl _) _) (fun h => by first | omega | cases h))

theorem run_store_float (P : Program) (w : World) (a : Addr) (m : Mode) (k : FloatKind) (b : Nat) : (store a (.float k b) m).run P w = stored P w a (.float k b) m := run_store P w a _ m rfl
attribute [local go_sem] run_store_float

set_option maxRecDepth 100000 in
theorem text_walk (s : ByteArray) (w : World) :
    Calls Tryd.prog 8 #[.string s] w fun e w' => e = .returned (vOf 3 false 0 s none 0 0 none 0 0) ∧ Below w.heap.size w w' := by
  go_enter Tryd.func8, Tryd.ntmps8
  go_wp2
  exact bodyPost_ret (v := vOf 3 false 0 s none 0 0 none 0 0) (by simp [results, Tryd.results8, go_sem]) rfl ⟨rfl, (Below.refl _ _).alloc (Nat.le_refl _) _⟩
set_option maxRecDepth 100000 in
theorem number_walk (x : Nat) (w : World) :
    Calls Tryd.prog 12 #[.float .f64 x] w fun e w' => e = .returned (vOf 2 false x { data := #[] } none 0 0 none 0 0) ∧ Below w.heap.size w w' := by
  go_enter Tryd.func12, Tryd.ntmps12
  go_wp2
  exact bodyPost_ret (v := vOf 2 false x { data := #[] } none 0 0 none 0 0) (by simp [results, Tryd.results12, go_sem]) rfl ⟨rfl, (Below.refl _ _).alloc (Nat.le_refl _) _⟩
set_option maxRecDepth 100000 in
theorem truth_walk (b : Bool) (w : World) :
    Calls Tryd.prog 17 #[.bool b] w fun e w' => e = .returned (vOf 1 b 0 { data := #[] } none 0 0 none 0 0) ∧ Below w.heap.size w w' := by
  go_enter Tryd.func17, Tryd.ntmps17
  go_wp2
  exact bodyPost_ret (v := vOf 1 b 0 { data := #[] } none 0 0 none 0 0) (by simp [results, Tryd.results17, go_sem]) rfl ⟨rfl, (Below.refl _ _).alloc (Nat.le_refl _) _⟩

theorem ta9_3 (t : ByteArray) (W : World) : (Instr.typeAssert (.iface 9 (.string t)) 20 3 true).run Tryd.prog W = .ok (.tuple #[.int .i64 0, .bool false]) W := by kernel_rfl
theorem ta9_78 (t : ByteArray) (W : World) : (Instr.typeAssert (.iface 9 (.string t)) 20 78 true).run Tryd.prog W = .ok (.tuple #[.int .i8 0, .bool false]) W := by kernel_rfl
theorem ta9_79 (t : ByteArray) (W : World) : (Instr.typeAssert (.iface 9 (.string t)) 20 79 true).run Tryd.prog W = .ok (.tuple #[.int .i16 0, .bool false]) W := by kernel_rfl
theorem ta9_21 (t : ByteArray) (W : World) : (Instr.typeAssert (.iface 9 (.string t)) 20 21 true).run Tryd.prog W = .ok (.tuple #[.int .i32 0, .bool false]) W := by kernel_rfl
theorem ta9_2 (t : ByteArray) (W : World) : (Instr.typeAssert (.iface 9 (.string t)) 20 2 true).run Tryd.prog W = .ok (.tuple #[.int .i64 0, .bool false]) W := by kernel_rfl
theorem ta9_80 (t : ByteArray) (W : World) : (Instr.typeAssert (.iface 9 (.string t)) 20 80 true).run Tryd.prog W = .ok (.tuple #[.int .u64 0, .bool false]) W := by kernel_rfl
theorem ta9_5 (t : ByteArray) (W : World) : (Instr.typeAssert (.iface 9 (.string t)) 20 5 true).run Tryd.prog W = .ok (.tuple #[.int .u8 0, .bool false]) W := by kernel_rfl
theorem ta9_81 (t : ByteArray) (W : World) : (Instr.typeAssert (.iface 9 (.string t)) 20 81 true).run Tryd.prog W = .ok (.tuple #[.int .u16 0, .bool false]) W := by kernel_rfl
theorem ta9_82 (t : ByteArray) (W : World) : (Instr.typeAssert (.iface 9 (.string t)) 20 82 true).run Tryd.prog W = .ok (.tuple #[.int .u32 0, .bool false]) W := by kernel_rfl
theorem ta9_72 (t : ByteArray) (W : World) : (Instr.typeAssert (.iface 9 (.string t)) 20 72 true).run Tryd.prog W = .ok (.tuple #[.int .u64 0, .bool false]) W := by kernel_rfl
theorem ta9_83 (t : ByteArray) (W : World) : (Instr.typeAssert (.iface 9 (.string t)) 20 83 true).run Tryd.prog W = .ok (.tuple #[.float .f32 0, .bool false]) W := by kernel_rfl
theorem ta9_22 (t : ByteArray) (W : World) : (Instr.typeAssert (.iface 9 (.string t)) 20 22 true).run Tryd.prog W = .ok (.tuple #[.float .f64 0, .bool false]) W := by kernel_rfl
theorem ta9_9 (t : ByteArray) (W : World) : (Instr.typeAssert (.iface 9 (.string t)) 20 9 true).run Tryd.prog W = .ok (.tuple #[.string t, .bool true]) W := by kernel_rfl
theorem ta9_4 (t : ByteArray) (W : World) : (Instr.typeAssert (.iface 9 (.string t)) 20 4 true).run Tryd.prog W = .ok (.tuple #[.bool false, .bool false]) W := by kernel_rfl
theorem ta22_22 (x : Nat) (W : World) : (Instr.typeAssert (.iface 22 (.float .f64 x)) 20 22 true).run Tryd.prog W = .ok (.tuple #[.float .f64 x, .bool true]) W := by kernel_rfl
theorem ta22_4 (x : Nat) (W : World) : (Instr.typeAssert (.iface 22 (.float .f64 x)) 20 4 true).run Tryd.prog W = .ok (.tuple #[.bool false, .bool false]) W := by kernel_rfl
theorem ta22_9 (x : Nat) (W : World) : (Instr.typeAssert (.iface 22 (.float .f64 x)) 20 9 true).run Tryd.prog W = .ok (.tuple #[.string { data := #[] }, .bool false]) W := by kernel_rfl
theorem ta4_4 (b : Bool) (W : World) : (Instr.typeAssert (.iface 4 (.bool b)) 20 4 true).run Tryd.prog W = .ok (.tuple #[.bool b, .bool true]) W := by kernel_rfl
attribute [local go_sem] ta9_3 ta9_78 ta9_79 ta9_21 ta9_2 ta9_80 ta9_5 ta9_81 ta9_82 ta9_72 ta9_83 ta9_22 ta9_9 ta9_4 ta22_22 ta22_4 ta22_9 ta4_4

section
variable (b : Bool) (x : Nat) (t : ByteArray) (A : Option Addr) (n c : Nat) (B : Option Addr) (m d : Nat) (w : World)
set_option maxRecDepth 100000 in
theorem data_truth : Calls Tryd.prog 21 #[vOf 1 b x t A n c B m d] w fun e w' => e = .returned (.iface 4 (.bool b)) ∧ Below w.heap.size w w' := by
  go_enter Tryd.func21, Tryd.ntmps21
  go_wp2
  go_ret
  exact ⟨rfl, (Below.refl _ _).alloc (Nat.le_refl _) _⟩
set_option maxRecDepth 100000 in
theorem data_number : Calls Tryd.prog 21 #[vOf 2 b x t A n c B m d] w fun e w' => e = .returned (.iface 22 (.float .f64 x)) ∧ Below w.heap.size w w' := by
  go_enter Tryd.func21, Tryd.ntmps21
  go_wp2
  go_ret
  exact ⟨rfl, (Below.refl _ _).alloc (Nat.le_refl _) _⟩
set_option maxRecDepth 100000 in
theorem data_text : Calls Tryd.prog 21 #[vOf 3 b x t A n c B m d] w fun e w' => e = .returned (.iface 9 (.string t)) ∧ Below w.heap.size w w' := by
  go_enter Tryd.func21, Tryd.ntmps21
  go_wp2
  go_ret
  exact ⟨rfl, (Below.refl _ _).alloc (Nat.le_refl _) _⟩
set_option maxRecDepth 100000 in
/-- zzNumber of a text: none. -/
theorem zzNumber_text : Calls Tryd.prog 38 #[.iface 9 (.string t)] w fun e w' => e = .returned (.tuple #[.float .f64 0, .bool false]) ∧ w = w' := by
  go_enter Tryd.func38, Tryd.ntmps38
  go_wp2
  go_ret2
  exact ⟨rfl, rfl⟩
set_option maxRecDepth 100000 in
theorem toFloat_float : Calls Tryd.prog 30 #[.iface 22 (.float .f64 x)] w fun e w' => e = .returned (.tuple #[.float .f64 x, .bool true]) ∧ w = w' := by
  go_enter Tryd.func30, Tryd.ntmps30
  go_wp2
  go_ret2
  exact ⟨rfl, rfl⟩
set_option maxRecDepth 100000 in
theorem toFloat_plain (T : Tabs w) (h : plainB t.data.toList = true) : Calls Tryd.prog 30 #[.iface 9 (.string t)] w fun e w' => e = .returned (.tuple #[.float .f64 (pfOf t.data.toList), .bool true]) ∧ w = w' := by
  have H := Lib.hid (parse_plain t w T h)
  generalize pfOf t.data.toList = r at H ⊢
  clear h
  go_enter Tryd.func30, Tryd.ntmps30
  go_wp2_with (first
    | (go_at_call 38; refine (zzNumber_text t _).mono ?_; rintro e w' ⟨rfl, rfl⟩)
    | (go_at_call 23; refine (Calls.mono H.out ?_); rintro e w' ⟨rfl, rfl⟩))
  go_ret2
  exact ⟨rfl, rfl⟩
set_option maxRecDepth 100000 in
theorem toFloat_noNum (T : Tabs w) (hs : t.size ≤ 2147483647) (h : noNumB t.data.toList = true) : Calls Tryd.prog 30 #[.iface 9 (.string t)] w fun e w' => e = .returned (.tuple #[.float .f64 0, .bool false]) ∧ Below w.heap.size w w' := by
  have H := Lib.hid (parse_noNum t w T hs h)
  clear h
  go_enter Tryd.func30, Tryd.ntmps30
  go_wp2_with (first
    | (go_at_call 38; refine (zzNumber_text t _).mono ?_; rintro e w' ⟨rfl, rfl⟩)
    | (go_at_call 23; refine (Calls.mono H.out ?_); rintro e w' ⟨p, rfl, hb⟩))
  go_ret2
  exact ⟨rfl, hb⟩
end

end Go.Proofs.YtodpjpbkefihfaaDoor
