/-
ParseFloat over plain numbers (its answer, no error) and over texts that begin with a letter (an error).
-/
import Derived.Test.YtodpjpbkefihfaaDoorPe
namespace Go.Proofs.YtodpjpbkefihfaaDoor
open Go.RowKit

/-- The word that ParseFloat tells of a plain text without its sign. -/
def numVal (l : List UInt8) (neg : Bool) : Nat := if (rf l).m = 0 then noughtVal neg else pfVal (rf l).m (rfE (rf l)) neg
def pfOf (l : List UInt8) : Nat := if l.head? = some 45 then numVal l.tail true else numVal l false

theorem nought_notNaN (neg : Bool) : NotNaN (noughtVal neg) := by cases neg <;> (unfold NotNaN; decide +kernel)
theorem numVal_notNaN {l : List UInt8} (F : PlainFacts l) (neg : Bool) : NotNaN (numVal l neg) := by
  have he := rfE_range F
  unfold numVal
  split
  · exact nought_notNaN neg
  · exact pfVal_notNaN _ _ _ (by omega) he.2
theorem pfOf_notNaN {l : List UInt8} (h : plainB l = true) : NotNaN (pfOf l) := by
  unfold plainB at h
  unfold pfOf
  split
  · rename_i e; rw [if_pos e] at h; exact numVal_notNaN (plain_facts h) _
  · rename_i e; rw [if_neg e] at h; exact numVal_notNaN (plain_facts h) _

theorem parse_of (s : ByteArray) (w : World) (T : Tabs w) (l : List UInt8) (F : PlainFacts l) (neg : Bool)
    (hsp : Calls Tryd.prog 68 #[.string s] w fun e w' => e = .returned (.tuple #[.float .f64 0, .int .i64 0, .bool false]) ∧ w = w')
    (hrd : Calls Tryd.prog 69 #[.string s] w fun e' w' => e' = .returned (.tuple #[.int .u64 (rf l).m, .int .i64 (rfE (rf l)), .bool neg, .bool false, .bool false, .int .i64 s.size, .bool true]) ∧ w = w') :
    Calls Tryd.prog 23 #[.string s, .int .i64 64] w fun e w' => e = .returned (.tuple #[.float .f64 (numVal l neg), .nilIface]) ∧ w = w' := by
  refine parse_ok s w _ (inner_ok s w _ ?_)
  have he := rfE_range F
  have hm := rf_m F l.length (Nat.le_refl _)
  rw [List.take_length] at hm
  unfold numVal
  by_cases h0 : (rf l).m = 0
  · rw [if_pos h0]
    have hE : rfE (rf l) = 0 := by unfold rfE; rw [if_pos h0]
    rw [h0, hE] at hrd
    exact atof_nought s w T neg hsp hrd
  · rw [if_neg h0]
    exact atof_num s w T _ _ neg hm he.1 he.2 (by simpa using h0) hsp hrd

theorem size_list (s : ByteArray) : s.data.toList.length = s.size := by simp

/-- ParseFloat at a plain number. -/
theorem parse_plain (s : ByteArray) (w : World) (T : Tabs w) (h : plainB s.data.toList = true) :
    Calls Tryd.prog 23 #[.string s, .int .i64 64] w fun e w' => e = .returned (.tuple #[.float .f64 (pfOf s.data.toList), .nilIface]) ∧ w = w' := by
  unfold plainB at h
  unfold pfOf
  split
  · rename_i e
    rw [if_pos e] at h
    have F := plain_facts h
    have h1 : 1 < s.size := by have := F.ne; have := size_list s; simp at *; omega
    have hs : s.size ≤ 9223372036854775807 := by have := F.len; simp at this; omega
    have e0 : (s[0]).toNat = 45 := by
      rw [head_of s (by omega)] at e
      injection e with e
      rw [e]; rfl
    have hd := isD_iff (F.first F.ne)
    have e1 : s.data.toList.tail[0]'F.ne = s[1] := List.getElem_tail _
    rw [e1] at hd
    exact parse_of s w T _ F true (special_minus s w hs h1 e0 hd.1 hd.2) (read_walk1 s w (by omega) e0 F)
  · rename_i e
    rw [if_neg e] at h
    have F := plain_facts h
    have h1 : 0 < s.size := by have := F.ne; have := size_list s; omega
    have hs : s.size ≤ 9223372036854775807 := by have := F.len; have := size_list s; omega
    have hd := isD_iff (F.first F.ne)
    have e1 : s.data.toList[0]'F.ne = s[0] := rfl
    rw [e1] at hd
    exact parse_of s w T _ F false (special_none s w hs h1 (by omega) (by omega) (by omega) (by omega) (by omega) (by omega)) (read_walk0 s w F)

/-- ParseFloat at a text that begins with a letter other than i, I, n, N: an error. -/
theorem parse_noNum (s : ByteArray) (w : World) (T : Tabs w) (hs : s.size ≤ 2147483647) (h : noNumB s.data.toList = true) :
    Calls Tryd.prog 23 #[.string s, .int .i64 64] w fun e w' => ∃ p : Value, e = .returned (.tuple #[.float .f64 0, .iface 64 p]) ∧ Below w.heap.size w w' := by
  have h0 : 0 < s.size := by
    rcases Nat.eq_zero_or_pos s.size with e | e
    · have : s.data.toList = [] := List.eq_nil_of_length_eq_zero (by rw [size_list]; exact e)
      rw [this] at h; cases h
    · exact e
  have e : noNum (s[0]).toNat = true := by
    have hh := head_of s h0
    unfold noNumB at h
    cases hl : s.data.toList with
    | nil => rw [hl] at hh; cases hh
    | cons c r => rw [hl] at hh h; injection hh with hh; rw [← hh]; exact h
  unfold noNum at e
  simp at e
  exact parse_bad s w T (by omega) (inner_bad s w h0 (atof_letter s w (special_none s w (by omega) h0 (by omega) (by omega) (by omega) (by omega) (by omega) (by omega)) (read_letter s w (by omega) h0 (by omega) (by omega))))

theorem two_plain : plainB (ByteArray.mk #[50]).data.toList = true := by decide +kernel
theorem two_val : pfOf (ByteArray.mk #[50]).data.toList = 4611686018427387904 := by decide +kernel

#print axioms parse_plain
#print axioms parse_noNum
#print axioms two_val
end Go.Proofs.YtodpjpbkefihfaaDoor
