/-
Walks: IsPlainNumber and IsNoNumber.
-/
import Derived.Test.YtodpjpbkefihfaaDoorPa
namespace Go.Proofs.YtodpjpbkefihfaaDoor
open Go.RowKit

theorem ret_bool {a b : Bool} (h : a = b) : Ending.returned (.bool a) = .returned (.bool b) := by rw [h]

/-- The digit test in the walk's spelling. -/
theorem isD_true {c : UInt8} (h1 : 48 ≤ (c.toNat : Int)) (h2 : (c.toNat : Int) ≤ 57) : isD c = true := by unfold isD; simp; omega
theorem isD_false {c : UInt8} (h : ¬ (48 ≤ (c.toNat : Int) ∧ (c.toNat : Int) ≤ 57)) : isD c = false := by
  cases hd : isD c with
  | false => rfl
  | true => unfold isD at hd; simp at hd; exact absurd (by omega) h

/-- What the loop keeps at place k. -/
def At (l : List UInt8) (k : Nat) : Prop := plainOk l.length 0 false l = plainOk l.length k (hasDot (l.take k)) (l.drop k)
theorem at_start (l : List UInt8) : At l 0 := rfl
theorem at_digit {l t r : List UInt8} {k : Nat} {c : UInt8} (h : At l k) (hs : l.take (k + 1) = t ++ [c]) (ht : l.take k = t) (hd : l.drop k = c :: r) (hr : l.drop (k + 1) = r) (hc : isD c = true) : At l (k + 1) := by
  unfold At at *
  rw [h, hd, ok_digit _ _ _ _ _ hc, hs, dot_digit _ _ hc, ht, hr]
theorem at_dot {l t r : List UInt8} {k : Nat} {c : UInt8} (h : At l k) (hs : l.take (k + 1) = t ++ [c]) (hp : hasDot (l.take k) = false) (hd : l.drop k = c :: r) (hr : l.drop (k + 1) = r) (hc : c.toNat = 46) (h0 : 0 < k) (hn : k + 1 < l.length) : At l (k + 1) := by
  unfold At at *
  rw [h, hd, hp, ok_dot _ _ _ _ hc h0 hn, hs, dot_dot _ _ hc, hr]
theorem at_bad {l r : List UInt8} {k : Nat} {c : UInt8} (h : At l k) (hd : l.drop k = c :: r) (hc : isD c = false) (hb : ¬ (c.toNat = 46 ∧ hasDot (l.take k) = false ∧ 0 < k ∧ k + 1 < l.length)) : plainTail l = false := by
  unfold plainTail
  unfold At at h
  rw [h, hd, ok_bad _ _ _ _ _ hc hb]
  rfl
theorem at_end {l : List UInt8} {k : Nat} (h : At l k) (hk : l.length ≤ k) : plainTail l = (decide (0 < dgs (l.take k)) && decide (l.length ≤ 15)) := by
  unfold plainTail
  unfold At at h
  rw [h, List.drop_of_length_le hk, List.take_of_length_le hk]
  simp [plainOk]

set_option maxRecDepth 100000 in
set_option maxHeartbeats 1000000 in
theorem plain_walk0 (s : ByteArray) (w : World) (hs : s.size ≤ 2147483647) (h0 : 0 < s.size) (h1 : (s[0]).toNat ≠ 45) :
    Calls Tryd.prog 22 #[.string s] w fun e w' => e = .returned (.bool (plainTail s.data.toList)) ∧ w = w' := by
  go_enter Tryd.func22, Tryd.ntmps22
  go_wp2
  go_loop [3, 4, 18] (fun p d i => ∃ k : Nat, k ≤ s.size ∧ i = .int .i64 k ∧ d = .int .i64 (dgs (s.data.toList.take k)) ∧ p = .bool (hasDot (s.data.toList.take k)) ∧ Hid (At s.data.toList k)) (fun _ _ i => s.size - (intOf i).toNat)
  case atStart => exact ⟨0, Nat.zero_le _, rfl, rfl, rfl, at_start _⟩
  case round =>
    obtain ⟨k, hk, rfl, rfl, rfl, HP⟩ := hrel
    have hdk := dgs_le (s.data.toList.take k)
    have hlk : (s.data.toList.take k).length ≤ k := List.length_take_le _ _
    by_cases hlt : k < s.size
    · have HS := Lib.hid (take_snoc s k hlt)
      have HD := Lib.hid (drop_cons s k hlt)
      have HL : Hid (s.data.toList.length = s.size) := by show _ = _; simp
      go_wp2
      · have hc : isD s[k] = true := isD_true ‹_› ‹_›
        first | (refine ⟨⟨_, _, _, _, _, ?_, rfl, rfl, rfl, rfl, rfl⟩, by simp [intOf]; omega⟩; exact ⟨k + 1, by omega, by go_num, by rw [HS.out, dgs_digit _ _ hc]; go_num, by rw [HS.out, dot_digit _ _ hc], at_digit HP.out HS.out rfl HD.out rfl hc⟩) | (refine ⟨?_, by simp [intOf]; omega⟩; exact ⟨k + 1, by omega, by go_num, by rw [HS.out, dgs_digit _ _ hc]; go_num, by rw [HS.out, dot_digit _ _ hc], at_digit HP.out HS.out rfl HD.out rfl hc⟩)
      · go_ret
        exact ⟨ret_bool (at_bad HP.out HD.out (isD_false (by omega)) (by rintro ⟨a, b, c, d⟩; omega)).symm, rfl⟩
      · go_ret
        exact ⟨ret_bool (at_bad HP.out HD.out (isD_false (by omega)) (by rintro ⟨a, b, c, d⟩; simp_all)).symm, rfl⟩
      · have hc : s[k].toNat = 46 := by omega
        have hp : hasDot (s.data.toList.take k) = false := by simpa using ‹¬ hasDot _ = true›
        first | (refine ⟨⟨_, _, _, _, _, ?_, rfl, rfl, rfl, rfl, rfl⟩, by simp [intOf]; omega⟩; exact ⟨k + 1, by omega, by go_num, by rw [HS.out, dgs_other _ _ (isD_of_dot hc)], by rw [HS.out, dot_dot _ _ hc], at_dot HP.out HS.out hp HD.out rfl hc (by omega) (by rw [HL.out]; omega)⟩) | (refine ⟨?_, by simp [intOf]; omega⟩; exact ⟨k + 1, by omega, by go_num, by rw [HS.out, dgs_other _ _ (isD_of_dot hc)], by rw [HS.out, dot_dot _ _ hc], at_dot HP.out HS.out hp HD.out rfl hc (by omega) (by rw [HL.out]; omega)⟩)
      · go_ret
        exact ⟨ret_bool (at_bad HP.out HD.out (isD_false (by omega)) (by rw [HL.out]; rintro ⟨a, b, c, d⟩; omega)).symm, rfl⟩
      · go_ret
        exact ⟨ret_bool (at_bad HP.out HD.out (isD_false (by omega)) (by rintro ⟨a, b, c, d⟩; omega)).symm, rfl⟩
      · go_ret
        exact ⟨ret_bool (at_bad HP.out HD.out (isD_false (by omega)) (by rintro ⟨a, b, c, d⟩; omega)).symm, rfl⟩
    · have HL : Hid (s.data.toList.length = s.size) := by show _ = _; simp
      go_wp2
      · go_ret
        have hd : decide (0 < dgs (s.data.toList.take k)) = true := by simpa using ‹0 < dgs _›
        exact ⟨ret_bool (by rw [at_end HP.out (by rw [HL.out]; omega), hd, HL.out]; simp; omega), rfl⟩
      · go_ret
        have hd : decide (0 < dgs (s.data.toList.take k)) = false := by simpa using ‹¬ 0 < dgs _›
        exact ⟨ret_bool (by rw [at_end HP.out (by rw [HL.out]; omega), hd]; rfl), rfl⟩

set_option maxRecDepth 100000 in
set_option maxHeartbeats 1000000 in
theorem plain_walk1 (s u : ByteArray) (w : World) (hs : s.size ≤ 2147483647) (h0 : 0 < s.size) (h1 : (s[0]).toNat = 45) (hu : Hid (s.extract 1 s.size = u)) :
    Calls Tryd.prog 22 #[.string s] w fun e w' => e = .returned (.bool (plainTail u.data.toList)) ∧ w = w' := by
  have hz : Hid (s.size - 1 = u.size) := by show _ = _; rw [← hu.out]; simp
  have hus : u.size ≤ 2147483647 := by have := hz.out; omega
  go_enter Tryd.func22, Tryd.ntmps22
  go_wp2
  rw [hu.out, hz.out]
  go_loop [3, 4, 18] (fun p d i => ∃ k : Nat, k ≤ u.size ∧ i = .int .i64 k ∧ d = .int .i64 (dgs (u.data.toList.take k)) ∧ p = .bool (hasDot (u.data.toList.take k)) ∧ Hid (At u.data.toList k)) (fun _ _ i => u.size - (intOf i).toNat)
  case atStart => exact ⟨0, Nat.zero_le _, rfl, rfl, rfl, at_start _⟩
  case round =>
    obtain ⟨k, hk, rfl, rfl, rfl, HP⟩ := hrel
    have hdk := dgs_le (u.data.toList.take k)
    have hlk : (u.data.toList.take k).length ≤ k := List.length_take_le _ _
    by_cases hlt : k < u.size
    · have HS := Lib.hid (take_snoc u k hlt)
      have HD := Lib.hid (drop_cons u k hlt)
      have HL : Hid (u.data.toList.length = u.size) := by show _ = _; simp
      go_wp2
      · have hc : isD u[k] = true := isD_true ‹_› ‹_›
        first | (refine ⟨⟨_, _, _, _, _, ?_, rfl, rfl, rfl, rfl, rfl⟩, by simp [intOf]; omega⟩; exact ⟨k + 1, by omega, by go_num, by rw [HS.out, dgs_digit _ _ hc]; go_num, by rw [HS.out, dot_digit _ _ hc], at_digit HP.out HS.out rfl HD.out rfl hc⟩) | (refine ⟨?_, by simp [intOf]; omega⟩; exact ⟨k + 1, by omega, by go_num, by rw [HS.out, dgs_digit _ _ hc]; go_num, by rw [HS.out, dot_digit _ _ hc], at_digit HP.out HS.out rfl HD.out rfl hc⟩)
      · go_ret
        exact ⟨ret_bool (at_bad HP.out HD.out (isD_false (by omega)) (by rintro ⟨a, b, c, d⟩; omega)).symm, rfl⟩
      · go_ret
        exact ⟨ret_bool (at_bad HP.out HD.out (isD_false (by omega)) (by rintro ⟨a, b, c, d⟩; simp_all)).symm, rfl⟩
      · have hc : u[k].toNat = 46 := by omega
        have hp : hasDot (u.data.toList.take k) = false := by simpa using ‹¬ hasDot _ = true›
        first | (refine ⟨⟨_, _, _, _, _, ?_, rfl, rfl, rfl, rfl, rfl⟩, by simp [intOf]; omega⟩; exact ⟨k + 1, by omega, by go_num, by rw [HS.out, dgs_other _ _ (isD_of_dot hc)], by rw [HS.out, dot_dot _ _ hc], at_dot HP.out HS.out hp HD.out rfl hc (by omega) (by rw [HL.out]; omega)⟩) | (refine ⟨?_, by simp [intOf]; omega⟩; exact ⟨k + 1, by omega, by go_num, by rw [HS.out, dgs_other _ _ (isD_of_dot hc)], by rw [HS.out, dot_dot _ _ hc], at_dot HP.out HS.out hp HD.out rfl hc (by omega) (by rw [HL.out]; omega)⟩)
      · go_ret
        exact ⟨ret_bool (at_bad HP.out HD.out (isD_false (by omega)) (by rw [HL.out]; rintro ⟨a, b, c, d⟩; omega)).symm, rfl⟩
      · go_ret
        exact ⟨ret_bool (at_bad HP.out HD.out (isD_false (by omega)) (by rintro ⟨a, b, c, d⟩; omega)).symm, rfl⟩
      · go_ret
        exact ⟨ret_bool (at_bad HP.out HD.out (isD_false (by omega)) (by rintro ⟨a, b, c, d⟩; omega)).symm, rfl⟩
    · have HL : Hid (u.data.toList.length = u.size) := by show _ = _; simp
      go_wp2
      · go_ret
        have hd : decide (0 < dgs (u.data.toList.take k)) = true := by simpa using ‹0 < dgs _›
        exact ⟨ret_bool (by rw [at_end HP.out (by rw [HL.out]; omega), hd, HL.out]; simp; omega), rfl⟩
      · go_ret
        have hd : decide (0 < dgs (u.data.toList.take k)) = false := by simpa using ‹¬ 0 < dgs _›
        exact ⟨ret_bool (by rw [at_end HP.out (by rw [HL.out]; omega), hd]; rfl), rfl⟩

theorem plainB_of_cons {l : List UInt8} (h : l.head? = some 45) : plainB l = plainTail l.tail := by unfold plainB; rw [if_pos h]
theorem plainB_of_other {l : List UInt8} (h : l.head? ≠ some 45) : plainB l = plainTail l := by unfold plainB; rw [if_neg h]
theorem head_of (s : ByteArray) (h : 0 < s.size) : s.data.toList.head? = some s[0] := by
  rw [List.head?_eq_getElem?, List.getElem?_eq_getElem (by simpa using h)]; rfl
theorem tail_of (s : ByteArray) : (s.extract 1 s.size).data.toList = s.data.toList.tail := by
  rw [ByteArray.data_extract, Array.toList_extract, List.extract_eq_take_drop, List.drop_one]
  exact List.take_of_length_le (by simp)

/-- IsPlainNumber. -/
theorem plain_walk (s : ByteArray) (w : World) (hs : s.size ≤ 2147483647) :
    Calls Tryd.prog 22 #[.string s] w fun e w' => e = .returned (.bool (plainB s.data.toList)) ∧ w = w' := by
  by_cases h0 : 0 < s.size
  · by_cases h1 : (s[0]).toNat = 45
    · have e : s.data.toList.head? = some 45 := by rw [head_of s h0]; exact congrArg some (UInt8.toNat_inj.1 h1)
      rw [plainB_of_cons e, ← tail_of]
      exact plain_walk1 s _ w hs h0 h1 rfl
    · have e : s.data.toList.head? ≠ some 45 := by
        rw [head_of s h0]
        intro h
        injection h with h
        exact h1 (by rw [h]; rfl)
      rw [plainB_of_other e]
      exact plain_walk0 s w hs h0 h1
  · obtain rfl : s = ByteArray.empty := by
      have : s.size = 0 := by omega
      exact ByteArray.size_eq_zero_iff.1 this
    go_enter Tryd.func22, Tryd.ntmps22
    go_wp2
    refine wp_loop_rounds 1 ?_
    rw [rounds_succ]
    go_wp2
    go_ret
    exact ⟨rfl, rfl⟩

/-- 'IsNoNumber' of a text: it begins with a letter other than i, I, n, N. -/
def noNum (c : Nat) : Bool := (decide (97 ≤ c) && decide (c ≤ 122) || decide (65 ≤ c) && decide (c ≤ 90)) && !decide (c = 105) && !decide (c = 73) && !decide (c = 110) && !decide (c = 78)
def noNumB (l : List UInt8) : Bool := match l with | [] => false | c :: _ => noNum c.toNat

set_option maxRecDepth 100000 in
set_option maxHeartbeats 1000000 in
theorem noNum_walk1 (s : ByteArray) (w : World) (hs : s.size ≤ 2147483647) (h0 : 0 < s.size) :
    Calls Tryd.prog 24 #[.string s] w fun e w' => e = .returned (.bool (noNum (s[0]).toNat)) ∧ w = w' := by
  have he : s.toList.isEmpty = false := by
    rw [ByteArray.toList_eq]
    cases hl : s.data.toList with
    | nil =>
      have h : s.data.toList.length = s.size := by simp
      rw [hl] at h
      simp at h
      omega
    | cons => rfl
  have he' : (!s.toList.isEmpty) = true := by rw [he]; rfl
  go_enter Tryd.func24, Tryd.ntmps24
  go_wp2
  all_goals go_ret
  all_goals (refine ⟨ret_bool ?_, rfl⟩; unfold noNum)
  all_goals (rw [Bool.eq_iff_iff]; simp; omega)
/-- IsNoNumber. -/
theorem noNum_walk (s : ByteArray) (w : World) (hs : s.size ≤ 2147483647) :
    Calls Tryd.prog 24 #[.string s] w fun e w' => e = .returned (.bool (noNumB s.data.toList)) ∧ w = w' := by
  by_cases h0 : 0 < s.size
  · have e : noNumB s.data.toList = noNum (s[0]).toNat := by
      have h := head_of s h0
      unfold noNumB
      cases hl : s.data.toList with
      | nil => rw [hl] at h; cases h
      | cons c r => rw [hl] at h; injection h with h; rw [h]
    rw [e]
    exact noNum_walk1 s w hs h0
  · obtain rfl : s = ByteArray.empty := by
      have : s.size = 0 := by omega
      exact ByteArray.size_eq_zero_iff.1 this
    go_enter Tryd.func24, Tryd.ntmps24
    go_wp2
    go_ret
    exact ⟨rfl, rfl⟩

end Go.Proofs.YtodpjpbkefihfaaDoor
