/-
Walks of the small functions on the road to ParseFloat: special, commonPrefixLenIgnoreCase, IsPlainNumber, IsNoNumber.
-/
import Derived.Test.YtodpjpbkefihfaaDoorShelf
import Derived.Test.YtodpjpbkefihfaaDoorFlt
import Derived.Test.YtodpjpbkefihfaaDoorNum
import Derived.WalkKit
import Derived.WalkLawsBesides
import Derived.WalkSpells
import Derived.Outline
import Derived.LoopTactic
import Derived.Deep.DeepFit
import Derived.BigQuiet
import Derived.Deep.QuietTactic
import Derived.Lib.Hide
namespace Go.Proofs.YtodpjpbkefihfaaDoor
open Go.RowKit

set_option maxRecDepth 100000 in
/-- 'special' at a text that begins with none of its signs. -/
theorem special_none (s : ByteArray) (w : World) (_hs : s.size ≤ 9223372036854775807) (h0 : 0 < s.size)
    (h1 : (s[0]).toNat ≠ 43) (h2 : (s[0]).toNat ≠ 45) (h3 : (s[0]).toNat ≠ 105) (h4 : (s[0]).toNat ≠ 73) (h5 : (s[0]).toNat ≠ 110) (h6 : (s[0]).toNat ≠ 78) :
    Calls Tryd.prog 68 #[.string s] w fun e w' => e = .returned (.tuple #[.float .f64 0, .int .i64 0, .bool false]) ∧ w = w' := by
  go_enter Tryd.func68, Tryd.ntmps68
  go_wp2
  go_ret3
  exact ⟨rfl, rfl⟩

set_option maxRecDepth 100000 in
/-- 'commonPrefixLenIgnoreCase' at a text whose first sign is a digit: 0. -/
theorem prefix_digit (s : ByteArray) (w : World) (_hs : s.size ≤ 9223372036854775807) (h0 : 0 < s.size)
    (h1 : 48 ≤ (s[0]).toNat) (h2 : (s[0]).toNat ≤ 57) :
    Calls Tryd.prog 97 #[.string s, .string { data := #[105, 110, 102, 105, 110, 105, 116, 121] }] w fun e w' => e = .returned (.int .i64 0) ∧ w = w' := by
  have hne : (((s[0]).toNat : Int) != (({ data := #[105, 110, 102, 105, 110, 105, 116, 121] } : ByteArray)[0].toNat : Int)) = true := by
    have e : (({ data := #[105, 110, 102, 105, 110, 105, 116, 121] } : ByteArray)[0]).toNat = 105 := by decide
    rw [e]; simp; omega
  go_enter Tryd.func97, Tryd.ntmps97
  go_wp2
  all_goals (refine wp_loop_rounds 1 ?_; rw [rounds_succ])
  all_goals go_wp2
  all_goals go_ret
  all_goals exact ⟨rfl, rfl⟩

set_option maxRecDepth 100000 in
/-- 'special' at a text that begins with '-' and a digit. -/
theorem special_minus (s : ByteArray) (w : World) (hs : s.size ≤ 9223372036854775807) (h0 : 1 < s.size)
    (h1 : (s[0]).toNat = 45) (h2 : 48 ≤ (s[1]).toNat) (h3 : (s[1]).toNat ≤ 57) :
    Calls Tryd.prog 68 #[.string s] w fun e w' => e = .returned (.tuple #[.float .f64 0, .int .i64 0, .bool false]) ∧ w = w' := by
  have hz : 0 < (s.extract 1 s.size).size := by simp; omega
  have hl : (s.extract 1 s.size).size ≤ 9223372036854775807 := by simp; omega
  have e0 : ((s.extract 1 s.size)[0]'hz) = s[1] := by simp [ByteArray.getElem_extract]
  have c := prefix_digit (s.extract 1 s.size) w hl hz (by rw [e0]; exact h2) (by rw [e0]; exact h3)
  have C := Lib.hid c
  clear c e0 hz hl
  go_enter Tryd.func68, Tryd.ntmps68
  go_wp2_with (go_at_call 97; refine (Calls.mono C.out ?_); rintro e w' ⟨rfl, rfl⟩)
  go_ret3
  exact ⟨rfl, rfl⟩

end Go.Proofs.YtodpjpbkefihfaaDoor
