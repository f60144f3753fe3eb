/-
The numbers of shortFloat at whole numbers up to 100000: plain arithmetic, and the walk at each of them.
-/
import Derived.Test.YtodpjpbkefihfaaDoorWd
namespace Go.Proofs.YtodpjpbkefihfaaDoor
open Go.RowKit

/-- The table's word for a power of ten. -/
def pc (p : Nat) : Nat := 10 ^ p * 2 ^ (63 - p * 108853 / 32768)
def pOdd (k : Nat) : Nat := (-(((k : Int) - 63 + 11) * 78913 / 262144)).toNat
def pTwo (k : Nat) : Nat := (-((((k : Int) - 63 + 11) * 631305 - 261663) / 2097152)).toNat
def sOf (k p : Nat) : Nat := 60 - k - p * 108853 / 32768

/-- What is so at one exponent. -/
def okAt (k p : Nat) : Bool :=
  decide (k ≤ 16) && (p == 11 || p == 12 || p == 13 || p == 14 || p == 15 || p == 16) && (sOf k p == 5 || sOf k p == 6 || sOf k p == 7 || sOf k p == 8) &&
  (sOf k p + k + p * 108853 / 32768 == 60) && decide (pc p < 18446744073709551616) && decide (0 < pc p) && (pc p * 2 ^ (63 - k) == 10 ^ p * 2 ^ (66 + sOf k p)) &&
  decide (1024 * pc p / 18446744073709551616 / 2 ^ sOf k p / 4 < 10)
theorem okOdd : ∀ k : Fin 17, okAt k.val (pOdd k.val) = true ∧ ((k.val : Int) - 63 + 11) * 78913 / 262144 = -(pOdd k.val : Int) ∧ 2 ^ (k.val + 1) * 10 ^ (pOdd k.val - 1) ≤ 10000000000000000 := by decide +kernel
theorem okTwo : ∀ k : Fin 17, okAt k.val (pTwo k.val) = true ∧ (((k.val : Int) - 63 + 11) * 631305 - 261663) / 2097152 = -(pTwo k.val : Int) ∧ 2 ^ k.val * 10 ^ (pTwo k.val - 1) ≤ 10000000000000000 := by decide +kernel

theorem upper (N p s C j : Nat) (hp : 1 ≤ p) (hC : C * 2 ^ j = 10 ^ p * 2 ^ (66 + s)) (hq : 1024 * C / 18446744073709551616 / 2 ^ s / 4 < 10) :
    (N * 2 ^ j + 1024) * C / 18446744073709551616 / 2 ^ s / 4 / 10 = N * 10 ^ (p - 1) := by
  have e1 : (N * 2 ^ j + 1024) * C = 1024 * C + 18446744073709551616 * (2 ^ s * (4 * (10 * (N * 10 ^ (p - 1))))) := by
    obtain ⟨q, rfl⟩ : ∃ q, p = q + 1 := ⟨p - 1, by omega⟩
    rw [Nat.add_mul, Nat.mul_assoc, Nat.mul_comm (2 ^ j) C, hC, Nat.add_comm, Nat.pow_add 2 66 s, Nat.pow_succ, Nat.add_sub_cancel]
    have e : (2 : Nat) ^ 66 = 18446744073709551616 * 4 := by decide +kernel
    rw [e]
    generalize 10 ^ q = X
    generalize 2 ^ s = Y
    congr 1
    simp only [Nat.mul_assoc, Nat.mul_left_comm, Nat.mul_comm]
  rw [e1, Nat.add_mul_div_left _ _ (by omega), Nat.add_mul_div_left _ _ (Nat.pow_pos (by omega)), Nat.add_mul_div_left _ _ (by omega), Nat.add_mul_div_left _ _ (by omega), Nat.div_eq_of_lt hq, Nat.zero_add]

theorem lower' (N p s C j d : Nat) (hp : 1 ≤ p) (hC : C * 2 ^ j = 10 ^ p * 2 ^ (66 + s)) (h0 : 0 < C) (hN : 1 ≤ N) (hd : 0 < d) :
    (N * 2 ^ j - d) * C / 18446744073709551616 / 2 ^ s < 40 * (N * 10 ^ (p - 1)) := by
  have hpos : 0 < N * 2 ^ j := Nat.mul_pos hN (Nat.pow_pos (by omega))
  have h1 : (N * 2 ^ j - d) * C < N * 2 ^ j * C := Nat.mul_lt_mul_of_pos_right (by omega) h0
  have e1 : N * 2 ^ j * C = 18446744073709551616 * (2 ^ s * (40 * (N * 10 ^ (p - 1)))) := by
    obtain ⟨q, rfl⟩ : ∃ q, p = q + 1 := ⟨p - 1, by omega⟩
    rw [Nat.mul_assoc, Nat.mul_comm (2 ^ j) C, hC, Nat.pow_add 2 66 s, Nat.pow_succ, Nat.add_sub_cancel]
    have e : (2 : Nat) ^ 66 = 18446744073709551616 * 4 := by decide +kernel
    rw [e]
    generalize 10 ^ q = X
    generalize 2 ^ s = Y
    have e40 : (40 : Nat) = 10 * 4 := rfl
    rw [e40]
    simp only [Nat.mul_assoc, Nat.mul_left_comm, Nat.mul_comm]
  rw [e1] at h1
  exact Nat.div_lt_of_lt_mul (Nat.div_lt_of_lt_mul h1)

theorem okAt_parts {k p : Nat} (h : okAt k p = true) : k ≤ 16 ∧ (p = 11 ∨ p = 12 ∨ p = 13 ∨ p = 14 ∨ p = 15 ∨ p = 16) ∧ (sOf k p = 5 ∨ sOf k p = 6 ∨ sOf k p = 7 ∨ sOf k p = 8) ∧
    sOf k p + k + p * 108853 / 32768 = 60 ∧ pc p < 18446744073709551616 ∧ 0 < pc p ∧ pc p * 2 ^ (63 - k) = 10 ^ p * 2 ^ (66 + sOf k p) ∧ 1024 * pc p / 18446744073709551616 / 2 ^ sOf k p / 4 < 10 := by
  simp only [okAt, Bool.and_eq_true, Bool.or_eq_true, decide_eq_true_eq, beq_iff_eq] at h
  obtain ⟨⟨⟨⟨⟨⟨⟨h1, h2⟩, h3⟩, h4⟩, h5⟩, h6⟩, h7⟩, h8⟩ := h
  refine ⟨h1, ?_, ?_, h4, h5, h6, h7, h8⟩
  · omega
  · omega

theorem shortN_of (N k p d : Nat) (h : okAt k p = true) (hN : 1 ≤ N) (hd : 0 < d) (hb : N * 2 ^ (63 - k) + 1024 < 18446744073709551616) (hD : N * 10 ^ (p - 1) ≤ 10000000000000000) :
    ShortN k p (pc p) (sOf k p) (p * 108853 / 32768) (N * 2 ^ (63 - k) - d) (N * 2 ^ (63 - k) + 1024) (N * 10 ^ (p - 1)) := by
  obtain ⟨h1, h2, h3, h4, h5, h6, h7, h8⟩ := okAt_parts h
  exact ⟨h1, h2, h3, rfl, h4, h5, by omega, hb, hD, lower' N p _ _ _ d (by omega) h7 h6 hN hd, upper N p _ _ _ (by omega) h7 h8⟩

theorem and1_i64 (x : Nat) (h : x < 9223372036854775808) (he : x % 2 = 0) : bits .and .i64 (x : Int) 1 = 0 := by
  show IntKind.i64.wrap ((BitVec.ofInt 64 (x : Int) &&& BitVec.ofInt 64 ((1 : Nat) : Int)).toNat : Int) = _
  rw [BitVec.toNat_and, ofInt64 x (by omega), ofInt64 1 (by omega), Nat.and_one_is_mod, he]
  rfl

/-- What the world must hold: six rows of the table of the powers of ten. -/
def PowRows (w : World) : Prop := ∀ p, 11 ≤ p → p ≤ 16 → PowRow w p (pc p)

theorem short_all (N k : Nat) (hk : k ≤ 16) (h1 : 2 ^ k ≤ N) (h2 : N < 2 ^ (k + 1)) :
    ∃ p : Nat, 1 ≤ p ∧ p ≤ 16 ∧ N * 10 ^ (p - 1) ≤ 10000000000000000 ∧ ∀ w, PowRows w → Calls Tryd.prog 121 #[.int .u64 ((N * 2 ^ (63 - k) : Nat) : Int), .int .i64 ((k : Int) - 63)] w (ShortP (N * 10 ^ (p - 1)) (-((p : Int) - 1)) w) := by
  have e63 : 2 ^ k * 2 ^ (63 - k) = 9223372036854775808 := by
    rw [← Nat.pow_add, show k + (63 - k) = 63 by omega]
  have e64 : 2 ^ (k + 1) * 2 ^ (63 - k) = 18446744073709551616 := by
    rw [← Nat.pow_add, show k + 1 + (63 - k) = 64 by omega]
  have hj : (2 : Nat) ^ 47 ≤ 2 ^ (63 - k) := Nat.pow_le_pow_right (by omega) (by omega)
  have hjv : (2 : Nat) ^ 47 = 140737488355328 := by decide +kernel
  have hN1 : 1 ≤ N := Nat.le_trans (Nat.pow_pos (by omega)) h1
  have hb : N * 2 ^ (63 - k) + 2 ^ (63 - k) ≤ 18446744073709551616 := by
    have : (N + 1) * 2 ^ (63 - k) ≤ 2 ^ (k + 1) * 2 ^ (63 - k) := Nat.mul_le_mul_right _ h2
    rw [e64, Nat.add_mul, Nat.one_mul] at this
    exact this
  by_cases ht : N = 2 ^ k
  · obtain ⟨o1, o2, o3⟩ := okTwo ⟨k, by omega⟩
    have hp := (okAt_parts o1).2.1
    simp only at o1 o2 o3 hp
    have hD : N * 10 ^ (pTwo k - 1) ≤ 10000000000000000 := by rw [ht]; exact o3
    refine ⟨pTwo k, by omega, by omega, hD, fun w hR => ?_⟩
    have hs := shortN_of N k (pTwo k) 512 o1 hN1 (by omega) (by omega) hD
    have em : N * 2 ^ (63 - k) = 9223372036854775808 := by rw [ht]; exact e63
    rw [em] at hs ⊢
    exact short_two k (pTwo k) _ _ _ _ w hs (hR _ (by omega) (by omega)) o2
  · obtain ⟨o1, o2, o3⟩ := okOdd ⟨k, by omega⟩
    have hp := (okAt_parts o1).2.1
    simp only at o1 o2 o3 hp
    have hD : N * 10 ^ (pOdd k - 1) ≤ 10000000000000000 := Nat.le_trans (Nat.mul_le_mul_right _ (Nat.le_of_lt h2)) o3
    refine ⟨pOdd k, by omega, by omega, hD, fun w hR => ?_⟩
    have hs := shortN_of N k (pOdd k) 1024 o1 hN1 (by omega) (by omega) hD
    have hgt : 9223372036854775808 < N * 2 ^ (63 - k) := by
      rw [← e63]
      exact Nat.mul_lt_mul_of_pos_right (by omega) (Nat.pow_pos (by omega))
    have em : N * 2 ^ (63 - k) = N * 2 ^ (51 - k) * 2 * 2048 := by
      have : (2 : Nat) ^ (63 - k) = 2 ^ (51 - k) * 2 * 2048 := by
        rw [show 63 - k = (51 - k) + 12 by omega, Nat.pow_add]
        have : (2 : Nat) ^ 12 = 2 * 2048 := rfl
        rw [this, Nat.mul_assoc]
      rw [this]
      simp only [Nat.mul_assoc]
    have hodd : bits BinOp.and .i64 (((N * 2 ^ (63 - k) : Nat) : Int) / 2048) 1 = 0 := by
      have e : ((N * 2 ^ (63 - k) : Nat) : Int) / 2048 = ((N * 2 ^ (63 - k) / 2048 : Nat) : Int) := by omega
      rw [e]
      refine and1_i64 _ (by omega) ?_
      rw [em, Nat.mul_div_cancel _ (by omega)]
      omega
    exact short_odd _ k (pOdd k) _ _ _ _ w hgt (by omega) hs (hR _ (by omega) (by omega)) hodd o2
end Go.Proofs.YtodpjpbkefihfaaDoor
