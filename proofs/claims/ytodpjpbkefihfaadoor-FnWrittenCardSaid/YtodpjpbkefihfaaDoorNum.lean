/-
Plain Lean: what a plain number is (digits, a sign ahead, one point inside), what readFloat makes of it, and that its exponent and mantissa are small. No program in sight.
-/
import Derived.Laws.FloatArith
namespace Go.Proofs.YtodpjpbkefihfaaDoor

/-- A decimal digit. -/
def isD (c : UInt8) : Bool := decide (48 ≤ c.toNat) && decide (c.toNat ≤ 57)

/-- The loop of IsPlainNumber over what is left: n the length, i the place, p whether a point was seen. -/
def plainOk (n : Nat) : Nat → Bool → List UInt8 → Bool
  | _, _, [] => true
  | i, p, c :: r => if isD c = true then plainOk n (i + 1) p r else if c.toNat = 46 ∧ p = false ∧ 0 < i ∧ i + 1 < n then plainOk n (i + 1) true r else false

def dgs (l : List UInt8) : Nat := (l.filter isD).length
def hasDot (l : List UInt8) : Bool := l.any fun c => c.toNat == 46

def plainTail (l : List UInt8) : Bool := plainOk l.length 0 false l && decide (0 < dgs l) && decide (l.length ≤ 15)
/-- 'IsPlainNumber'. -/
def plainB (l : List UInt8) : Bool := if l.head? = some 45 then plainTail l.tail else plainTail l

theorem take_snoc (s : ByteArray) (k : Nat) (h : k < s.size) : s.data.toList.take (k + 1) = s.data.toList.take k ++ [s[k]] := by
  rw [List.take_succ_eq_append_getElem (by simpa using h)]; rfl
theorem drop_cons (s : ByteArray) (k : Nat) (h : k < s.size) : s.data.toList.drop k = s[k] :: s.data.toList.drop (k + 1) := by
  rw [List.drop_eq_getElem_cons (by simpa using h)]; rfl

theorem dgs_le (l : List UInt8) : dgs l ≤ l.length := List.length_filter_le _ _
theorem dgs_digit (l : List UInt8) (c : UInt8) (h : isD c = true) : dgs (l ++ [c]) = dgs l + 1 := by simp [dgs, List.filter_append, h]
theorem dgs_other (l : List UInt8) (c : UInt8) (h : isD c = false) : dgs (l ++ [c]) = dgs l := by simp [dgs, List.filter_append, h]
theorem isD_no_dot {c : UInt8} (h : isD c = true) : (c.toNat == 46) = false := by
  unfold isD at h; simp at h; simp; omega
theorem dot_digit (l : List UInt8) (c : UInt8) (h : isD c = true) : hasDot (l ++ [c]) = hasDot l := by simp [hasDot, isD_no_dot h]
theorem dot_dot (l : List UInt8) (c : UInt8) (h : c.toNat = 46) : hasDot (l ++ [c]) = true := by simp [hasDot, h]
theorem isD_of_dot {c : UInt8} (h : c.toNat = 46) : isD c = false := by simp [isD, h]

theorem ok_digit (n i : Nat) (p : Bool) (c : UInt8) (r : List UInt8) (h : isD c = true) : plainOk n i p (c :: r) = plainOk n (i + 1) p r := by
  rw [plainOk, if_pos h]
theorem ok_dot (n i : Nat) (c : UInt8) (r : List UInt8) (h : c.toNat = 46) (hi : 0 < i) (hn : i + 1 < n) : plainOk n i false (c :: r) = plainOk n (i + 1) true r := by
  rw [plainOk, if_neg (by simp [isD_of_dot h]), if_pos ⟨h, rfl, hi, hn⟩]
theorem ok_bad (n i : Nat) (p : Bool) (c : UInt8) (r : List UInt8) (h : isD c = false) (hb : ¬ (c.toNat = 46 ∧ p = false ∧ 0 < i ∧ i + 1 < n)) : plainOk n i p (c :: r) = false := by
  rw [plainOk, if_neg (by simp [h]), if_neg hb]

/-! ### readFloat over such a text -/

structure RF where
  m : Nat
  nd : Nat
  dp : Int
  dot : Bool
  dig : Bool

def RF.step (t : RF) (c : UInt8) : RF :=
  if c.toNat = 46 then { t with dot := true, dp := t.nd }
  else if c.toNat = 48 ∧ t.nd = 0 then { t with dig := true, dp := t.dp - 1 }
  else { t with m := t.m * 10 + (c.toNat - 48), nd := t.nd + 1, dig := true }
def RF.zero : RF := ⟨0, 0, 0, false, false⟩
def rf (l : List UInt8) : RF := l.foldl RF.step RF.zero

theorem rf_snoc (l : List UInt8) (c : UInt8) : rf (l ++ [c]) = (rf l).step c := by simp [rf, List.foldl_append]

/-- What the loop keeps of a text of k signs, all of them digits but for one point at the most. -/
structure RF.Inv (t : RF) (k : Nat) : Prop where
  nd : t.nd ≤ k
  m : t.m < 10 ^ t.nd
  lo : -(k : Int) ≤ t.dp
  hi : t.dp ≤ k
  exp1 : t.dot = true → -(k : Int) ≤ t.dp - t.nd ∧ t.dp ≤ t.nd

theorem RF.Inv.start : RF.zero.Inv 0 := ⟨Nat.le_refl _, by decide, by decide, by decide, fun h => by cases h⟩

theorem RF.Inv.step {t : RF} {k : Nat} (h : t.Inv k) (c : UInt8) (hc : isD c = true ∨ c.toNat = 46) : (t.step c).Inv (k + 1) := by
  obtain ⟨a, b, d, e, f⟩ := h
  unfold RF.step
  by_cases h1 : c.toNat = 46
  · rw [if_pos h1]
    exact ⟨by simp only; omega, b, by simp only; omega, by simp only; omega, fun _ => by simp only; omega⟩
  · rw [if_neg h1]
    have hd : 48 ≤ c.toNat ∧ c.toNat ≤ 57 := by
      rcases hc with hc | hc
      · unfold isD at hc; simpa using hc
      · exact absurd hc h1
    by_cases h2 : c.toNat = 48 ∧ t.nd = 0
    · rw [if_pos h2]
      exact ⟨by simp only; omega, b, by simp only; omega, by simp only; omega, fun hh => by have := f hh; simp only; omega⟩
    · rw [if_neg h2]
      refine ⟨by simp only; omega, ?_, by simp only; omega, by simp only; omega, fun hh => by have := f hh; simp only; omega⟩
      show t.m * 10 + (c.toNat - 48) < 10 ^ (t.nd + 1)
      rw [Nat.pow_succ]; omega

/-- Each sign of such a text is a digit, or its one point, which is not its first sign. -/
theorem plain_at (n : Nat) : ∀ (l : List UInt8) (i : Nat) (p : Bool), plainOk n i p l = true → ∀ (j : Nat) (h : j < l.length), isD l[j] = true ∨ (l[j].toNat = 46 ∧ (p || hasDot (l.take j)) = false ∧ 0 < i + j)
  | [], _, _, _, _, h => by simp at h
  | c :: r, i, p, hok, j, hj => by
    unfold plainOk at hok
    split at hok
    · rename_i hd
      cases j with
      | zero => exact Or.inl hd
      | succ j =>
        rcases plain_at n r (i + 1) p hok j (by simpa using hj) with h | ⟨a, b, d⟩
        · exact Or.inl h
        · refine Or.inr ⟨a, ?_, by omega⟩
          simp only [List.take_succ_cons, hasDot, List.any_cons, isD_no_dot hd, Bool.false_or]
          exact b
    · split at hok
      · rename_i hc
        cases j with
        | zero => exact Or.inr ⟨hc.1, by simp [hc.2.1, hasDot], by omega⟩
        | succ j =>
          rcases plain_at n r (i + 1) true hok j (by simpa using hj) with h | ⟨_, b, _⟩
          · exact Or.inl h
          · simp at b
      · cases hok

theorem rf_dot_from : ∀ (l : List UInt8) (t : RF), (l.foldl RF.step t).dot = (t.dot || hasDot l)
  | [], t => by simp [hasDot]
  | c :: r, t => by
    rw [List.foldl_cons, rf_dot_from r]
    unfold RF.step hasDot
    by_cases h1 : c.toNat = 46
    · rw [if_pos h1]; simp [h1]
    · have hb : (c.toNat == 46) = false := by simp [h1]
      rw [if_neg h1, List.any_cons, hb, Bool.false_or]
      by_cases h2 : c.toNat = 48 ∧ t.nd = 0
      · rw [if_pos h2]
      · rw [if_neg h2]
theorem rf_dot (l : List UInt8) : (rf l).dot = hasDot l := by unfold rf; rw [rf_dot_from]; simp [RF.zero]

theorem rf_dig_from : ∀ (l : List UInt8) (t : RF), (t.dig = true ∨ 0 < dgs l) → (l.foldl RF.step t).dig = true
  | [], t, h => by simpa [dgs] using h
  | c :: r, t, h => by
    rw [List.foldl_cons]
    refine rf_dig_from r _ ?_
    by_cases h1 : c.toNat = 46
    · unfold RF.step; rw [if_pos h1]
      have e : dgs (c :: r) = dgs r := by simp [dgs, isD_of_dot h1]
      rw [e] at h
      exact h
    · left
      unfold RF.step; rw [if_neg h1]
      by_cases h2 : c.toNat = 48 ∧ t.nd = 0
      · rw [if_pos h2]
      · rw [if_neg h2]
theorem rf_dig (l : List UInt8) (h : 0 < dgs l) : (rf l).dig = true := rf_dig_from l _ (Or.inr h)

theorem RF.Inv.all : ∀ (l : List UInt8) (t : RF) (k : Nat), t.Inv k → (∀ (j : Nat) (h : j < l.length), isD l[j] = true ∨ l[j].toNat = 46) → (l.foldl RF.step t).Inv (k + l.length)
  | [], _, _, h, _ => h
  | c :: r, t, k, h, hc => by
    rw [List.foldl_cons, List.length_cons, show k + (r.length + 1) = (k + 1) + r.length by omega]
    exact RF.Inv.all r _ _ (h.step c (hc 0 (by simp))) fun j hj => hc (j + 1) (by simpa using hj)

/-- What a plain text (without its sign) is to readFloat. -/
structure PlainFacts (l : List UInt8) : Prop where
  len : l.length ≤ 15
  ne : 0 < l.length
  at_ : ∀ (j : Nat) (h : j < l.length), isD l[j] = true ∨ (l[j].toNat = 46 ∧ (rf (l.take j)).dot = false)
  first : ∀ h : 0 < l.length, isD l[0] = true
  inv : ∀ k, k ≤ l.length → (rf (l.take k)).Inv k
  dig : (rf l).dig = true

theorem plain_facts {l : List UInt8} (h : plainTail l = true) : PlainFacts l := by
  unfold plainTail at h
  simp only [Bool.and_eq_true, decide_eq_true_eq] at h
  obtain ⟨⟨h1, h2⟩, h3⟩ := h
  have hat := plain_at l.length l 0 false h1
  have hat' : ∀ (j : Nat) (h : j < l.length), isD l[j] = true ∨ (l[j].toNat = 46 ∧ (rf (l.take j)).dot = false) := fun j hj => by
    rcases hat j hj with a | ⟨a, b, _⟩
    · exact Or.inl a
    · exact Or.inr ⟨a, by rw [rf_dot]; simpa using b⟩
  refine ⟨h3, by have := dgs_le l; omega, hat', fun h0 => ?_, fun k hk => ?_, rf_dig l h2⟩
  · rcases hat 0 h0 with a | ⟨_, _, b⟩
    · exact a
    · omega
  · have := RF.Inv.all (l.take k) RF.zero 0 RF.Inv.start fun j hj => by
      have hj' : j < l.length := by simp at hj; omega
      rw [List.getElem_take]
      exact (hat j hj').imp id fun x => x.1
    simpa [Nat.min_eq_left hk, rf] using this

/-- The exponent and the mantissa that readFloat tells. -/
def rfE (t : RF) : Int := if t.m = 0 then 0 else if t.dot = true then t.dp - t.nd else 0

theorem rfE_range {l : List UInt8} (h : PlainFacts l) : -15 ≤ rfE (rf l) ∧ rfE (rf l) ≤ 0 := by
  have hi := h.inv l.length (Nat.le_refl _)
  rw [List.take_length] at hi
  have := h.len
  unfold rfE
  split
  · omega
  · split
    · rename_i hd; have := hi.exp1 hd; omega
    · omega
theorem rf_m {l : List UInt8} (h : PlainFacts l) (k : Nat) (hk : k ≤ l.length) : (rf (l.take k)).m ≤ 999999999999999 := by
  have hi := h.inv k hk
  have h1 := hi.m
  have h2 : 10 ^ (rf (l.take k)).nd ≤ 10 ^ 15 := Nat.pow_le_pow_right (by decide) (by have := hi.nd; have := h.len; omega)
  have : (10 : Nat) ^ 15 = 1000000000000000 := by decide
  omega

end Go.Proofs.YtodpjpbkefihfaaDoor
