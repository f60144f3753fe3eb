/-
The word of a whole number's float.
-/
import Derived.Test.YtodpjpbkefihfaaDoorWk
namespace Go.Proofs.YtodpjpbkefihfaaDoor
open Go.RowKit Go.Sort Go.Lib Ieee

theorem log2_eq {N k : Nat} (h1 : 2 ^ k ≤ N) (h2 : N < 2 ^ (k + 1)) : N.log2 = k := by
  have h0 : N ≠ 0 := by have : 0 < 2 ^ k := Nat.pow_pos (by omega); omega
  have a := (Nat.le_log2 h0).2 h1
  have b := (Nat.log2_lt h0).2 h2
  omega

theorem nearest_word (neg : Bool) (N k : Nat) (hk : k ≤ 16) (h1 : 2 ^ k ≤ N) (h2 : N < 2 ^ (k + 1)) :
    FloatKind.f64.format.nearest neg N 0 = (if neg then 9223372036854775808 else 0) + ((k + 1022) * 4503599627370496 + N * 2 ^ (52 - k)) := by
  have h0 : N ≠ 0 := by have : 0 < 2 ^ k := Nat.pow_pos (by omega); omega
  have hw : FloatKind.f64.format.signWeight = 0x8000000000000000 := by decide +kernel
  have hbn : FloatKind.f64.format.binade = 4503599627370496 := by decide +kernel
  have hi : FloatKind.f64.format.infRung = 0x7ff0000000000000 := by decide +kernel
  have hf : FloatKind.f64.format.fractionBits = 52 := by decide +kernel
  have hl : FloatKind.f64.format.leastPlace = -1074 := by decide +kernel
  have hM : N * 2 ^ (52 - k) < 9007199254740992 := by
    have e : 2 ^ (k + 1) * 2 ^ (52 - k) = 9007199254740992 := by rw [← Nat.pow_add, show k + 1 + (52 - k) = 53 by omega]
    rw [← e]
    exact Nat.mul_lt_mul_of_pos_right h2 (Nat.pow_pos (by omega))
  unfold Format.nearest
  rw [if_neg h0]
  dsimp only
  rw [log2_eq h1 h2, hf, hl, hbn, hi]
  have e1 : max ((0 : Int) + (k : Int) - ((52 : Nat) : Int)) (-1074) = (k : Int) - 52 := by omega
  rw [e1]
  have e2 : ((0 : Int) - ((k : Int) - 52)).toNat = 52 - k := by omega
  have e3 : ((k : Int) - 52 - 0).toNat = 0 := by omega
  have e4 : ((k : Int) - 52 - (-1074)).toNat = k + 1022 := by omega
  rw [e2, e3, e4]
  have e5 : ∀ n, Toward.even.cut neg n 0 = n := fun n => by
    unfold Toward.cut
    simp [Nat.mod_one]
  rw [e5, Nat.shiftLeft_eq, Nat.min_eq_left (by omega)]
  unfold Format.word
  rw [hw]
  cases neg <;> simp

theorem and2047 (a : Nat) (h : a < 9223372036854775808) : bits .and .i64 (a : Int) 2047 = ((a % 2048 : Nat) : Int) := by
  show IntKind.i64.wrap ((BitVec.ofInt 64 (a : Int) &&& BitVec.ofInt 64 ((2047 : Nat) : Int)).toNat : Int) = _
  rw [BitVec.toNat_and, ofInt64 a (by omega), ofInt64 2047 (by omega)]
  have e : a &&& 2047 = a % 2048 := Nat.and_two_pow_sub_one_eq_mod a 11
  rw [e]
  have hlt : a % 2048 < 2048 := Nat.mod_lt _ (by omega)
  generalize a % 2048 = r at hlt
  have e : (r : Int) % 2 ^ 64 = r := Int.emod_eq_of_lt (by omega) (by omega)
  simp only [IntKind.wrap, IntKind.bits, IntKind.signed, e]
  rw [if_neg]
  simp
  omega

theorem bitLen53 (M : Nat) (h1 : 4503599627370496 ≤ M) (h2 : M < 9007199254740992) : Lib.bitLen M = 53 := by
  obtain ⟨a, b, c⟩ := bitLenAux_bounds 64 M (by omega) (by omega)
  unfold Lib.bitLen
  generalize bitLenAux 64 M = L at a b c
  have u1 : ¬ 53 < L := fun h => by
    have := Nat.pow_le_pow_right (n := 2) (by omega) (show 53 ≤ L - 1 by omega)
    omega
  have u2 : ¬ L < 53 := fun h => by
    have := Nat.pow_le_pow_right (n := 2) (by omega) (show L ≤ 52 by omega)
    omega
  omega

theorem wordOf (x : Nat) (neg : Bool) (k M : Nat) (hk : k ≤ 16) (h1 : 4503599627370496 ≤ M) (h2 : M < 9007199254740992)
    (hx : x = (if neg then 9223372036854775808 else 0) + ((k + 1022) * 4503599627370496 + M)) : WordOf x neg k (M - 4503599627370496) M := by
  have hx' : x < 18446744073709551616 := by cases neg <;> simp at hx <;> omega
  have hdiv : x / 4503599627370496 % 2048 = k + 1023 := by cases neg <;> simp at hx <;> omega
  have hmod : x % 4503599627370496 = M - 4503599627370496 := by cases neg <;> simp at hx <;> omega
  refine ⟨hx', ?_, ?_, ?_, ?_, hk, h1, h2, bitLen53 M h1 h2⟩
  · cases neg with
    | true =>
      simp at hx
      have : (x : Int) / 9223372036854775808 = 1 := by omega
      rw [this]; rfl
    | false =>
      simp at hx
      have : (x : Int) / 9223372036854775808 = 0 := by omega
      rw [this]; rfl
  · have e : (x : Int) / 4503599627370496 = ((x / 4503599627370496 : Nat) : Int) := by omega
    rw [e, and2047 _ (by omega), hdiv]
    omega
  · have h := and_u64 x 4503599627370495 hx' (by omega)
    have e : x &&& 4503599627370495 = x % 4503599627370496 := Nat.and_two_pow_sub_one_eq_mod x 52
    rw [e, hmod] at h
    exact h
  · have h := or_u64 (M - 4503599627370496) 4503599627370496 (by omega) (by omega)
    have e : (M - 4503599627370496) ||| 4503599627370496 = M := by
      have := Nat.two_pow_add_eq_or_of_lt (i := 52) (b := M - 4503599627370496) (by omega) 1
      rw [Nat.or_comm]
      have e2 : (2 : Nat) ^ 52 * 1 = 4503599627370496 := by decide +kernel
      rw [e2] at this
      omega
    rw [e] at h
    exact h

theorem ofInt_zero : floatOfInt .f64 0 = 0 := by decide +kernel

/-- The exponent of a whole number up to 100000. -/
theorem exponent (N : Nat) (h1 : 1 ≤ N) (h2 : N ≤ 100000) : ∃ k, k ≤ 16 ∧ 2 ^ k ≤ N ∧ N < 2 ^ (k + 1) := by
  have h0 : N ≠ 0 := by omega
  refine ⟨N.log2, ?_, (Nat.le_log2 h0).1 (Nat.le_refl _), (Nat.log2_lt h0).1 (Nat.lt_succ_self _)⟩
  have : N.log2 < 17 := (Nat.log2_lt h0).2 (by omega)
  omega

/-- ftoa64 at every whole number from -100000 to 100000. -/
theorem ftoa_all (g : Nat) (n : Int) (w : World) (hn1 : -100000 ≤ n) (hn2 : n ≤ 100000) (hR : Row24 g [] w)
    (htab : Lib.TabIs Tryd.prog w "internal/strconv.uint64pow10" .u64 Lib.pow10Tab) (hP : ∀ W, Below w.heap.size w W → PowRows W) :
    Calls Tryd.prog 82 #[.slice (some ⟨g, 0, none⟩) 0 24, .float .f64 (floatOfInt .f64 n), .int .u8 103, .int .i64 (-1)] w (FmtP g (Lib.itoa n) w) := by
  by_cases h0 : n = 0
  · subst h0
    rw [ofInt_zero]
    have e : Lib.itoa 0 = [48] := by decide +kernel
    rw [e]
    exact ftoa_zero g w hR
  have key : ∀ (N : Nat) (neg : Bool), 1 ≤ N → N ≤ 100000 → floatOfInt .f64 n = FloatKind.f64.format.nearest neg N 0 →
      ∃ k M p D : Nat, WordOf (floatOfInt .f64 n) neg k (M - 4503599627370496) M ∧ 1 ≤ p ∧ D = N * 10 ^ (p - 1) ∧ D ≤ 10000000000000000 ∧
        ∀ W, Below w.heap.size w W → Calls Tryd.prog 121 #[.int .u64 ((M : Int) * 2048), .int .i64 ((k : Int) - 11 - 52)] W (ShortP D (-((p : Int) - 1)) W) := by
    intro N neg hN1 hN2 hx
    obtain ⟨k, hk, k1, k2⟩ := exponent N hN1 hN2
    have hM1 : 4503599627370496 ≤ N * 2 ^ (52 - k) := by
      have e : 2 ^ k * 2 ^ (52 - k) = 4503599627370496 := by rw [← Nat.pow_add, show k + (52 - k) = 52 by omega]
      rw [← e]
      exact Nat.mul_le_mul_right _ k1
    have hM2 : N * 2 ^ (52 - k) < 9007199254740992 := by
      have e : 2 ^ (k + 1) * 2 ^ (52 - k) = 9007199254740992 := by rw [← Nat.pow_add, show k + 1 + (52 - k) = 53 by omega]
      rw [← e]
      exact Nat.mul_lt_mul_of_pos_right k2 (Nat.pow_pos (by omega))
    rw [nearest_word neg N k hk k1 k2] at hx
    obtain ⟨p, p1, p2, p3, hp⟩ := short_all N k hk k1 k2
    refine ⟨k, N * 2 ^ (52 - k), p, N * 10 ^ (p - 1), wordOf _ neg k _ hk hM1 hM2 hx, p1, rfl, p3, fun W hW => ?_⟩
    have h := hp W (hP W hW)
    have e1 : ((N * 2 ^ (63 - k) : Nat) : Int) = ((N * 2 ^ (52 - k) : Nat) : Int) * 2048 := by
      have e : (2 : Nat) ^ (63 - k) = 2 ^ (52 - k) * 2048 := by
        rw [show 63 - k = (52 - k) + 11 by omega, Nat.pow_add]
      rw [e, ← Nat.mul_assoc]
      omega
    have e2 : (k : Int) - 63 = (k : Int) - 11 - 52 := by omega
    rw [e1, e2] at h
    exact h
  by_cases hneg : n < 0
  · obtain ⟨N, rfl⟩ : ∃ N : Nat, n = -(N : Int) := ⟨n.natAbs, by omega⟩
    have hx : floatOfInt .f64 (-(N : Int)) = FloatKind.f64.format.nearest true N 0 := by
      show FloatKind.f64.format.nearest (decide (-(N : Int) < 0)) (-(N : Int)).natAbs 0 = _
      rw [decide_eq_true hneg, Int.natAbs_neg, Int.natAbs_natCast]
    obtain ⟨k, M, p, D, hW, p1, p2, p3, hS⟩ := key N true (by omega) (by omega) hx
    rw [Lib.itoa_neg N (by omega)]
    exact ftoa_neg g _ k _ M D p N w hW hR htab (by omega) (by omega) p1 p2 p3 hS
  · obtain ⟨N, rfl⟩ : ∃ N : Nat, n = (N : Int) := ⟨n.toNat, by omega⟩
    have hx : floatOfInt .f64 (N : Int) = FloatKind.f64.format.nearest false N 0 := by
      show FloatKind.f64.format.nearest (decide ((N : Int) < 0)) ((N : Int)).natAbs 0 = _
      rw [decide_eq_false hneg, Int.natAbs_natCast]
    obtain ⟨k, M, p, D, hW, p1, p2, p3, hS⟩ := key N false (by omega) (by omega) hx
    rw [Lib.itoa_nonneg N]
    exact ftoa_pos g _ k _ M D p N w hW hR htab (by omega) (by omega) p1 p2 p3 hS
end Go.Proofs.YtodpjpbkefihfaaDoor
