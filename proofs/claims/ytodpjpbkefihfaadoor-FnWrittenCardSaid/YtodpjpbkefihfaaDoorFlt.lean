/-
Plain laws on floats as the model has them (words of bits): a float that is no NaN equals itself, a finite one less itself is zero, a nearest word is no NaN, a quotient by one of the powers of ten is no NaN. No program in sight.
-/
import Derived.Laws.FloatArith
namespace Go.Proofs.YtodpjpbkefihfaaDoor
open Ieee

/-- The word is no NaN. -/
def NotNaN (b : Nat) : Prop := (FloatKind.f64.format.read b).isNaN = false

/-- Whether the word is a finite number. -/
def finB (b : Nat) : Bool := match FloatKind.f64.format.read b with | .number .. => true | _ => false

theorem notNaN_of_fin {b : Nat} (h : finB b = true) : NotNaN b := by
  unfold finB at h; unfold NotNaN
  split at h
  · rename_i hr; rw [hr]; rfl
  · cases h

theorem order_datum (d : Datum) (h : d.isNaN = false) : d.order d = some .eq := by
  cases d with
  | number s m e => simp [Datum.order]
  | infinity s => simp [Datum.order]
  | nan s t => simp [Datum.isNaN] at h

theorem order_self {b : Nat} (h : NotNaN b) : FloatKind.f64.format.order b b = some .eq := order_datum _ h

theorem order_nan_left (d e : Datum) (h : d.isNaN = true) : d.order e = none := by
  cases d <;> simp_all [Datum.isNaN, Datum.order]
theorem order_self_nan {b : Nat} (h : ¬ NotNaN b) : FloatKind.f64.format.order b b = none := order_nan_left _ _ (by unfold NotNaN at h; simpa using h)

theorem read_zero : FloatKind.f64.format.read 0 = .number false 0 (-1074) := by decide +kernel

theorem signed_cancel (s : Bool) (m u : Nat) : signed s m u + signed (!s) m u = 0 := by
  cases s <;> simp [signed] <;> omega

/-- A finite number less itself: +0. -/
theorem sub_self_fin {b : Nat} (h : finB b = true) : FloatKind.f64.format.sub b b = some 0 := by
  unfold finB at h
  split at h
  · rename_i s m e hr
    unfold Format.sub
    rw [hr]
    simp only [Datum.opposite, Datum.sum, Int.min_self, Int.sub_self, Int.toNat_zero, signed_cancel]
    have hz : FloatKind.f64.format.write (.number false 0 e) = 0 := by
      show FloatKind.f64.format.nearest false 0 e = 0
      unfold Format.nearest
      rw [if_pos rfl]; rfl
    cases s <;> simpa using hz
  · cases h
theorem sub_self_inf {b : Nat} (h : finB b = false) : FloatKind.f64.format.sub b b = none := by
  unfold finB at h
  unfold Format.sub
  generalize FloatKind.f64.format.read b = d at h ⊢
  cases d with
  | number s m e => simp at h
  | infinity s => cases s <;> simp [Datum.opposite, Datum.sum]
  | nan s t => simp [Datum.sum]
theorem zero_eq_zero : FloatKind.f64.format.order 0 0 = some .eq := by decide +kernel

/-- A word above infinity's rung is a NaN. -/
theorem read_nan {b s r : Nat} (h1 : 0x7ff0000000000000 < r) (h2 : r < 0x8000000000000000) (hb : b = s * 0x8000000000000000 + r) : (FloatKind.f64.format.read b).isNaN = true := by
  have hw : FloatKind.f64.format.signWeight = 0x8000000000000000 := by decide +kernel
  have hbn : FloatKind.f64.format.binade = 0x10000000000000 := by decide +kernel
  have hi : FloatKind.f64.format.infRung = 0x7ff0000000000000 := by decide +kernel
  have hm : b % 0x8000000000000000 = r := by omega
  unfold Format.read
  simp only [hw, hbn, hi, hm]
  rw [if_neg (by omega), if_neg (by omega), if_neg (by omega)]
  rfl

/-- The nearest word of a number is no NaN. -/
theorem write_number (s : Bool) (m : Nat) (e : Int) : NotNaN (FloatKind.f64.format.write (.number s m e)) := by
  have hw : FloatKind.f64.format.signWeight = 0x8000000000000000 := by decide +kernel
  have hi : FloatKind.f64.format.infRung = 0x7ff0000000000000 := by decide +kernel
  have hbn : FloatKind.f64.format.binade = 0x10000000000000 := by decide +kernel
  have key : ∀ (neg : Bool) (r : Nat), r ≤ 0x7ff0000000000000 → NotNaN (FloatKind.f64.format.word neg r) := by
    intro neg r hr
    unfold NotNaN Format.word Format.read
    simp only [hw, hbn, hi]
    have hm : (if neg = true then 0x8000000000000000 + r else r) % 0x8000000000000000 = r := by
      cases neg <;> simp <;> omega
    rw [hm]
    split
    · rfl
    · split
      · rfl
      · rw [if_pos (by omega)]; rfl
  show NotNaN (FloatKind.f64.format.nearest s m e)
  unfold Format.nearest
  dsimp only
  split
  · exact key _ _ (by omega)
  · exact key _ _ (by rw [← hi]; exact Nat.min_le_right _ _)

/-- The nearest float of a whole number is finite (or an infinity), no NaN. -/
theorem ofInt_notNaN (n : Int) : NotNaN (floatOfInt .f64 n) := write_number _ _ _

/-- A quotient of a number (or an infinity) by a finite number other than zero is no NaN. -/
theorem quotient_some (d : Datum) (k : Nat) (s : Bool) (m : Nat) (e : Int) (hm : m ≠ 0) (hd : d.isNaN = false) : ∃ q, d.quotient k (.number s m e) = some q ∧ ((∃ s' m' e', q = .number s' m' e') ∨ ∃ s', q = .infinity s') := by
  cases d with
  | nan s t => simp [Datum.isNaN] at hd
  | infinity t => exact ⟨_, rfl, Or.inr ⟨_, rfl⟩⟩
  | number t n f => exact ⟨_, by simp only [Datum.quotient]; rw [if_neg hm], Or.inl ⟨_, _, _, rfl⟩⟩

theorem write_inf (s : Bool) : NotNaN (FloatKind.f64.format.write (.infinity s)) := by cases s <;> (unfold NotNaN; decide +kernel)

theorem div_notNaN {x y : Nat} (hx : NotNaN x) {s : Bool} {m : Nat} {e : Int} (hy : FloatKind.f64.format.read y = .number s m e) (hm : m ≠ 0) : ∃ r, floatBits .quo .f64 x y = some r ∧ NotNaN r := by
  obtain ⟨q, hq, hk⟩ := quotient_some (FloatKind.f64.format.read x) (FloatKind.f64.format.fractionBits + 2) s m e hm hx
  refine ⟨FloatKind.f64.format.write q, ?_, ?_⟩
  · show FloatKind.f64.format.div x y = _
    unfold Format.div
    rw [hy, hq]; rfl
  · rcases hk with ⟨_, _, _, rfl⟩ | ⟨_, rfl⟩
    · exact write_number _ _ _
    · exact write_inf _

/-- '-x' of a float that is no NaN is none. -/
theorem read_opposite (b : Nat) : NotNaN b → NotNaN (Op.negFloat .f64 b) := by
  intro hn
  have hw : FloatKind.f64.format.signWeight = 0x8000000000000000 := by decide +kernel
  have e : Op.negFloat .f64 b % 0x8000000000000000 = b % 0x8000000000000000 := by
    unfold Op.negFloat
    have : FloatKind.f64.format.exponentBits + FloatKind.f64.format.fractionBits = 63 := by decide +kernel
    rw [this, show (0x8000000000000000 : Nat) = 2 ^ 63 by decide, Nat.xor_mod_two_pow]
    simp
  unfold NotNaN Format.read at hn ⊢
  simp only [hw] at hn ⊢
  rw [e]
  split
  · rfl
  · split
    · rfl
    · split
      · rfl
      · rename_i a1 a2 a3
        rw [if_neg a1, if_neg a2, if_neg a3] at hn
        cases hn

end Go.Proofs.YtodpjpbkefihfaaDoor
