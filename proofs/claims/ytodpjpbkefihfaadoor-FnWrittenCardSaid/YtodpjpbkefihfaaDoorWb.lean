/-
Walk: uscale.
-/
import Derived.Test.YtodpjpbkefihfaaDoorWa
import Derived.Lib.QuoteBits
import Derived.Laws.Bits64
namespace Go.Proofs.YtodpjpbkefihfaaDoor
open Go.RowKit

theorem ofInt64 (a : Nat) (ha : a < 18446744073709551616) : (BitVec.ofInt 64 (a : Int)).toNat = a := by
  rw [BitVec.ofInt_natCast, BitVec.toNat_ofNat]; exact Nat.mod_eq_of_lt (by omega)
theorem or_u64 (a b : Nat) (ha : a < 18446744073709551616) (hb : b < 18446744073709551616) : bits .or .u64 (a : Int) (b : Int) = ((a ||| b : Nat) : Int) := by
  have hx : a ||| b < 2 ^ 64 := Nat.or_lt_two_pow (by omega) (by omega)
  show IntKind.u64.wrap ((BitVec.ofInt 64 (a : Int) ||| BitVec.ofInt 64 (b : Int)).toNat : Int) = _
  rw [BitVec.toNat_or, ofInt64 a ha, ofInt64 b hb, IntKind.wrap_u64]
  omega
theorem and_u64 (a b : Nat) (ha : a < 18446744073709551616) (hb : b < 18446744073709551616) : bits .and .u64 (a : Int) (b : Int) = ((a &&& b : Nat) : Int) := by
  have hx : a &&& b ≤ a := Nat.and_le_left
  show IntKind.u64.wrap ((BitVec.ofInt 64 (a : Int) &&& BitVec.ofInt 64 (b : Int)).toNat : Int) = _
  rw [BitVec.toNat_and, ofInt64 a ha, ofInt64 b hb, IntKind.wrap_u64]
  omega
theorem or1_u64 (a : Nat) (ha : a < 18446744073709551616) : bits .or .u64 (a : Int) 1 = ((a / 2 * 2 + 1 : Nat) : Int) := by
  have h := or_u64 a 1 ha (by omega)
  rw [Lib.or_one_nat] at h
  exact h
theorem or0_u64 (a : Nat) (ha : a < 18446744073709551616) : bits .or .u64 (a : Int) 0 = (a : Int) := by
  have h := or_u64 a 0 ha (by omega)
  rw [Nat.or_zero] at h
  exact h

def UP (h : Nat) (w : World) (e : Ending) (w' : World) : Prop := ∃ u n : Nat, e = .returned (.int .u64 u) ∧ w' = w.drewN n ∧ h ≤ u ∧ u / 2 = h / 2
theorem UP.mk1 {h : Nat} {z : Int} {w : World} (n : Nat) (hz : z = ((h / 2 * 2 + 1 : Nat) : Int)) : UP h w (.returned (.int .u64 z)) (w.drewN n) := ⟨h / 2 * 2 + 1, n, by rw [hz], rfl, by omega, by omega⟩
theorem UP.mk0 {h : Nat} {z : Int} {w : World} (n : Nat) (hz : z = (h : Int)) : UP h w (.returned (.int .u64 z)) (w.drewN n) := ⟨h, n, by rw [hz], rfl, by omega, by omega⟩

set_option maxRecDepth 100000 in
theorem uscale5 (hi mid x C : Nat) (B : Nat) (w : World) (hhi : hi < 18446744073709551616) (hmid : mid < 18446744073709551616)
    (hx : Calls Tryd.prog 130 #[.int .u64 x, .int .u64 C] w fun e w' => e = .returned (.tuple #[.int .u64 hi, .int .u64 mid]) ∧ w' = w)
    (hx0 : Calls Tryd.prog 130 #[.int .u64 x, .int .u64 0] w fun e w' => e = .returned (.tuple #[.int .u64 0, .int .u64 0]) ∧ w' = w)
    (hc0 : w.cell? ⟨B, 0, none⟩ = some (.int .u64 C)) (hc1 : w.cell? ⟨B, 1, none⟩ = some (.int .u64 0)) (hc2 : w.cell? ⟨B, 2, none⟩ = some (.int .i64 5)) :
    Calls Tryd.prog 104 #[.int .u64 x, .pointer (some ⟨B, 0, none⟩)] w (UP (hi / 32) w) := by
  have HX := Lib.hid hx
  have HX0 := Lib.hid hx0
  have HO1 := Lib.hid (or1_u64 (hi / 32) (by omega))
  have HO0 := Lib.hid (or0_u64 (hi / 32) (by omega))
  clear hx hx0
  have hb5 : bits BinOp.and IntKind.i64 5 63 = 5 := by decide +kernel
  go_enter Tryd.func104, Tryd.ntmps104
  go_wp2_with fail
  refine (Calls.mono HX.out ?_)
  rintro e w' ⟨rfl, rfl⟩
  have hle : (hi : Int) / 32 * 32 ≤ hi := by omega
  by_cases hd : (hi : Int) / 32 * 32 = hi
  · go_wp2_with fail
    refine (Calls.mono HX0.out ?_)
    rintro e w' ⟨rfl, rfl⟩
    have hm0 : ¬ (mid : Int) < 0 := by omega
    go_wp2_with (go_at_call 77; refine (bool2_64 _ _).mono ?_; rintro e w' ⟨rfl, rfl⟩)
    by_cases h1 : (1 : Int) < mid
    · go_quiet (first | (go_at_call 77; exact Calls.quiet_of_same ((bool2_64 _ _).mono fun _ _ h => ⟨h.1, h.2.symm⟩)))
      go_wp2
      go_ret
      exact UP.mk1 _ HO1.out
    · go_quiet (first | (go_at_call 77; exact Calls.quiet_of_same ((bool2_64 _ _).mono fun _ _ h => ⟨h.1, h.2.symm⟩)))
      go_wp2
      go_ret
      exact UP.mk0 _ HO0.out
  · go_wp2_with fail
    go_ret
    exact UP.mk1 0 HO1.out
set_option maxRecDepth 100000 in
theorem uscale6 (hi mid x C : Nat) (B : Nat) (w : World) (hhi : hi < 18446744073709551616) (hmid : mid < 18446744073709551616)
    (hx : Calls Tryd.prog 130 #[.int .u64 x, .int .u64 C] w fun e w' => e = .returned (.tuple #[.int .u64 hi, .int .u64 mid]) ∧ w' = w)
    (hx0 : Calls Tryd.prog 130 #[.int .u64 x, .int .u64 0] w fun e w' => e = .returned (.tuple #[.int .u64 0, .int .u64 0]) ∧ w' = w)
    (hc0 : w.cell? ⟨B, 0, none⟩ = some (.int .u64 C)) (hc1 : w.cell? ⟨B, 1, none⟩ = some (.int .u64 0)) (hc2 : w.cell? ⟨B, 2, none⟩ = some (.int .i64 6)) :
    Calls Tryd.prog 104 #[.int .u64 x, .pointer (some ⟨B, 0, none⟩)] w (UP (hi / 64) w) := by
  have HX := Lib.hid hx
  have HX0 := Lib.hid hx0
  have HO1 := Lib.hid (or1_u64 (hi / 64) (by omega))
  have HO0 := Lib.hid (or0_u64 (hi / 64) (by omega))
  clear hx hx0
  have hb5 : bits BinOp.and IntKind.i64 6 63 = 6 := by decide +kernel
  go_enter Tryd.func104, Tryd.ntmps104
  go_wp2_with fail
  refine (Calls.mono HX.out ?_)
  rintro e w' ⟨rfl, rfl⟩
  have hle : (hi : Int) / 64 * 64 ≤ hi := by omega
  by_cases hd : (hi : Int) / 64 * 64 = hi
  · go_wp2_with fail
    refine (Calls.mono HX0.out ?_)
    rintro e w' ⟨rfl, rfl⟩
    have hm0 : ¬ (mid : Int) < 0 := by omega
    go_wp2_with (go_at_call 77; refine (bool2_64 _ _).mono ?_; rintro e w' ⟨rfl, rfl⟩)
    by_cases h1 : (1 : Int) < mid
    · go_quiet (first | (go_at_call 77; exact Calls.quiet_of_same ((bool2_64 _ _).mono fun _ _ h => ⟨h.1, h.2.symm⟩)))
      go_wp2
      go_ret
      exact UP.mk1 _ HO1.out
    · go_quiet (first | (go_at_call 77; exact Calls.quiet_of_same ((bool2_64 _ _).mono fun _ _ h => ⟨h.1, h.2.symm⟩)))
      go_wp2
      go_ret
      exact UP.mk0 _ HO0.out
  · go_wp2_with fail
    go_ret
    exact UP.mk1 0 HO1.out
set_option maxRecDepth 100000 in
theorem uscale7 (hi mid x C : Nat) (B : Nat) (w : World) (hhi : hi < 18446744073709551616) (hmid : mid < 18446744073709551616)
    (hx : Calls Tryd.prog 130 #[.int .u64 x, .int .u64 C] w fun e w' => e = .returned (.tuple #[.int .u64 hi, .int .u64 mid]) ∧ w' = w)
    (hx0 : Calls Tryd.prog 130 #[.int .u64 x, .int .u64 0] w fun e w' => e = .returned (.tuple #[.int .u64 0, .int .u64 0]) ∧ w' = w)
    (hc0 : w.cell? ⟨B, 0, none⟩ = some (.int .u64 C)) (hc1 : w.cell? ⟨B, 1, none⟩ = some (.int .u64 0)) (hc2 : w.cell? ⟨B, 2, none⟩ = some (.int .i64 7)) :
    Calls Tryd.prog 104 #[.int .u64 x, .pointer (some ⟨B, 0, none⟩)] w (UP (hi / 128) w) := by
  have HX := Lib.hid hx
  have HX0 := Lib.hid hx0
  have HO1 := Lib.hid (or1_u64 (hi / 128) (by omega))
  have HO0 := Lib.hid (or0_u64 (hi / 128) (by omega))
  clear hx hx0
  have hb5 : bits BinOp.and IntKind.i64 7 63 = 7 := by decide +kernel
  go_enter Tryd.func104, Tryd.ntmps104
  go_wp2_with fail
  refine (Calls.mono HX.out ?_)
  rintro e w' ⟨rfl, rfl⟩
  have hle : (hi : Int) / 128 * 128 ≤ hi := by omega
  by_cases hd : (hi : Int) / 128 * 128 = hi
  · go_wp2_with fail
    refine (Calls.mono HX0.out ?_)
    rintro e w' ⟨rfl, rfl⟩
    have hm0 : ¬ (mid : Int) < 0 := by omega
    go_wp2_with (go_at_call 77; refine (bool2_64 _ _).mono ?_; rintro e w' ⟨rfl, rfl⟩)
    by_cases h1 : (1 : Int) < mid
    · go_quiet (first | (go_at_call 77; exact Calls.quiet_of_same ((bool2_64 _ _).mono fun _ _ h => ⟨h.1, h.2.symm⟩)))
      go_wp2
      go_ret
      exact UP.mk1 _ HO1.out
    · go_quiet (first | (go_at_call 77; exact Calls.quiet_of_same ((bool2_64 _ _).mono fun _ _ h => ⟨h.1, h.2.symm⟩)))
      go_wp2
      go_ret
      exact UP.mk0 _ HO0.out
  · go_wp2_with fail
    go_ret
    exact UP.mk1 0 HO1.out
set_option maxRecDepth 100000 in
theorem uscale8 (hi mid x C : Nat) (B : Nat) (w : World) (hhi : hi < 18446744073709551616) (hmid : mid < 18446744073709551616)
    (hx : Calls Tryd.prog 130 #[.int .u64 x, .int .u64 C] w fun e w' => e = .returned (.tuple #[.int .u64 hi, .int .u64 mid]) ∧ w' = w)
    (hx0 : Calls Tryd.prog 130 #[.int .u64 x, .int .u64 0] w fun e w' => e = .returned (.tuple #[.int .u64 0, .int .u64 0]) ∧ w' = w)
    (hc0 : w.cell? ⟨B, 0, none⟩ = some (.int .u64 C)) (hc1 : w.cell? ⟨B, 1, none⟩ = some (.int .u64 0)) (hc2 : w.cell? ⟨B, 2, none⟩ = some (.int .i64 8)) :
    Calls Tryd.prog 104 #[.int .u64 x, .pointer (some ⟨B, 0, none⟩)] w (UP (hi / 256) w) := by
  have HX := Lib.hid hx
  have HX0 := Lib.hid hx0
  have HO1 := Lib.hid (or1_u64 (hi / 256) (by omega))
  have HO0 := Lib.hid (or0_u64 (hi / 256) (by omega))
  clear hx hx0
  have hb5 : bits BinOp.and IntKind.i64 8 63 = 8 := by decide +kernel
  go_enter Tryd.func104, Tryd.ntmps104
  go_wp2_with fail
  refine (Calls.mono HX.out ?_)
  rintro e w' ⟨rfl, rfl⟩
  have hle : (hi : Int) / 256 * 256 ≤ hi := by omega
  by_cases hd : (hi : Int) / 256 * 256 = hi
  · go_wp2_with fail
    refine (Calls.mono HX0.out ?_)
    rintro e w' ⟨rfl, rfl⟩
    have hm0 : ¬ (mid : Int) < 0 := by omega
    go_wp2_with (go_at_call 77; refine (bool2_64 _ _).mono ?_; rintro e w' ⟨rfl, rfl⟩)
    by_cases h1 : (1 : Int) < mid
    · go_quiet (first | (go_at_call 77; exact Calls.quiet_of_same ((bool2_64 _ _).mono fun _ _ h => ⟨h.1, h.2.symm⟩)))
      go_wp2
      go_ret
      exact UP.mk1 _ HO1.out
    · go_quiet (first | (go_at_call 77; exact Calls.quiet_of_same ((bool2_64 _ _).mono fun _ _ h => ⟨h.1, h.2.symm⟩)))
      go_wp2
      go_ret
      exact UP.mk0 _ HO0.out
  · go_wp2_with fail
    go_ret
    exact UP.mk1 0 HO1.out
/-- uscale over a row of the table whose low word is nought. -/
theorem uscale_walk (x C s B : Nat) (w : World) (hs : s = 5 ∨ s = 6 ∨ s = 7 ∨ s = 8) (hx : x < 18446744073709551616) (hC : C < 18446744073709551616)
    (hc0 : w.cell? ⟨B, 0, none⟩ = some (.int .u64 C)) (hc1 : w.cell? ⟨B, 1, none⟩ = some (.int .u64 0)) (hc2 : w.cell? ⟨B, 2, none⟩ = some (.int .i64 s)) :
    Calls Tryd.prog 104 #[.int .u64 x, .pointer (some ⟨B, 0, none⟩)] w (UP (x * C / 18446744073709551616 / 2 ^ s) w) := by
  have h1 := Tryd.bits_Mul64 x C hx hC w
  have h2 := Tryd.bits_Mul64 x 0 hx (by omega) w
  rw [Nat.mul_zero] at h2
  have ha : x * C / 18446744073709551616 < 18446744073709551616 := by
    have : x * C < 18446744073709551616 * 18446744073709551616 := Nat.mul_lt_mul'' hx hC
    omega
  have hb : x * C % 18446744073709551616 < 18446744073709551616 := Nat.mod_lt _ (by omega)
  rcases hs with rfl | rfl | rfl | rfl
  · exact uscale5 _ _ x C B w ha hb h1 h2 hc0 hc1 hc2
  · exact uscale6 _ _ x C B w ha hb h1 h2 hc0 hc1 hc2
  · exact uscale7 _ _ x C B w ha hb h1 h2 hc0 hc1 hc2
  · exact uscale8 _ _ x C B w ha hb h1 h2 hc0 hc1 hc2
end Go.Proofs.YtodpjpbkefihfaaDoor
