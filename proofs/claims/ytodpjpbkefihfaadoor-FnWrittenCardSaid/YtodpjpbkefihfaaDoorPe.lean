/-
Walks: atof64, parseFloatPrefix, ParseFloat (the inner and the outer one) over a plain number and over a text that begins with a letter.
-/
import Derived.Test.YtodpjpbkefihfaaDoorPc
import Derived.Test.YtodpjpbkefihfaaDoorPd
namespace Go.Proofs.YtodpjpbkefihfaaDoor
open Go.RowKit

set_option maxRecDepth 100000 in
set_option maxHeartbeats 1000000 in
/-- atof64 where the mantissa is not nought. -/
theorem atof_num (s : ByteArray) (w : World) (T : Tabs w) (m : Nat) (e : Int) (neg : Bool) (hm : m ≤ 999999999999999) (he1 : -15 ≤ e) (he2 : e ≤ 0) (hm0 : ((m : Int) == 0) = false)
    (hsp : Calls Tryd.prog 68 #[.string s] w fun e w' => e = .returned (.tuple #[.float .f64 0, .int .i64 0, .bool false]) ∧ w = w')
    (hrd : Calls Tryd.prog 69 #[.string s] w fun e' w' => e' = .returned (.tuple #[.int .u64 m, .int .i64 e, .bool neg, .bool false, .bool false, .int .i64 s.size, .bool true]) ∧ w = w') :
    Calls Tryd.prog 54 #[.string s] w fun e' w' => e' = .returned (.tuple #[.float .f64 (pfVal m e neg), .int .i64 s.size, .nilIface]) ∧ w = w' := by
  have hopt := T.opt
  have hex := exact_walk m e neg w T hm he1 he2
  generalize pfVal m e neg = r at hex ⊢
  have HSP := Lib.hid hsp
  have HRD := Lib.hid hrd
  have HEX := Lib.hid hex
  clear hsp hrd hex hm
  go_enter Tryd.func54, Tryd.ntmps54
  go_wp2_with (first
    | (go_at_call 68; refine (Calls.mono HSP.out ?_); rintro e w' ⟨rfl, rfl⟩)
    | (go_at_call 69; refine (Calls.mono HRD.out ?_); rintro e w' ⟨rfl, rfl⟩)
    | (go_at_call 77; refine (bool2_u64 _ _).mono ?_; rintro e w' ⟨rfl, rfl⟩)
    | (go_at_call 79; refine (Calls.mono HEX.out ?_); rintro e w' ⟨rfl, rfl⟩))
  all_goals (go_ret3; exact ⟨rfl, rfl⟩)

theorem ext78 : Extern.find Tryd.f78 = some Extern.MathFloatBits.float64frombits := by kernel_rfl
theorem run_frombits (n : Int) (W : World) : (callFunc 78 #[.int .u64 n]).run Tryd.prog W = .ok (.value (.float .f64 n.toNat)) W := by
  rw [run_callFunc_extern (fn := Tryd.f78) (e := Extern.MathFloatBits.float64frombits) Tryd.func78 (by kernel_rfl) (by kernel_rfl) (by kernel_rfl) ext78]
  rfl

/-- The word of a nought with its sign. -/
def noughtVal (neg : Bool) : Nat := if neg then 0x8000000000000000 else 0

set_option maxRecDepth 100000 in
set_option maxHeartbeats 1000000 in
theorem atof_nought (s : ByteArray) (w : World) (T : Tabs w) (neg : Bool)
    (hsp : Calls Tryd.prog 68 #[.string s] w fun e w' => e = .returned (.tuple #[.float .f64 0, .int .i64 0, .bool false]) ∧ w = w')
    (hrd : Calls Tryd.prog 69 #[.string s] w fun e' w' => e' = .returned (.tuple #[.int .u64 0, .int .i64 0, .bool neg, .bool false, .bool false, .int .i64 s.size, .bool true]) ∧ w = w') :
    Calls Tryd.prog 54 #[.string s] w fun e' w' => e' = .returned (.tuple #[.float .f64 (noughtVal neg), .int .i64 s.size, .nilIface]) ∧ w = w' := by
  have hopt := T.opt
  have hfb := run_frombits
  have HSP := Lib.hid hsp
  have HRD := Lib.hid hrd
  clear hsp hrd
  cases neg with
  | false =>
    go_enter Tryd.func54, Tryd.ntmps54
    go_wp2_with (first
      | (go_at_call 68; refine (Calls.mono HSP.out ?_); rintro e w' ⟨rfl, rfl⟩)
      | (go_at_call 69; refine (Calls.mono HRD.out ?_); rintro e w' ⟨rfl, rfl⟩)
      | (go_at_call 77; refine (bool2_u64 _ _).mono ?_; rintro e w' ⟨rfl, rfl⟩))
    go_ret3
    exact ⟨by first | rfl | simp [noughtVal], rfl⟩
  | true =>
    go_enter Tryd.func54, Tryd.ntmps54
    go_wp2_with (first
      | (go_at_call 68; refine (Calls.mono HSP.out ?_); rintro e w' ⟨rfl, rfl⟩)
      | (go_at_call 69; refine (Calls.mono HRD.out ?_); rintro e w' ⟨rfl, rfl⟩)
      | (go_at_call 77; refine (bool2_u64 _ _).mono ?_; rintro e w' ⟨rfl, rfl⟩))
    go_ret3
    exact ⟨by first | rfl | simp [noughtVal], rfl⟩

set_option maxRecDepth 100000 in
set_option maxHeartbeats 1000000 in
/-- atof64 at a text that begins with a letter other than i, I, n, N. -/
theorem atof_letter (s : ByteArray) (w : World)
    (hsp : Calls Tryd.prog 68 #[.string s] w fun e w' => e = .returned (.tuple #[.float .f64 0, .int .i64 0, .bool false]) ∧ w = w')
    (hrd : Calls Tryd.prog 69 #[.string s] w fun e w' => e = .returned (.tuple #[.int .u64 0, .int .i64 0, .bool false, .bool false, .bool false, .int .i64 0, .bool false]) ∧ w = w') :
    Calls Tryd.prog 54 #[.string s] w fun e' w' => e' = .returned (.tuple #[.float .f64 0, .int .i64 0, .iface 63 (.int .i64 2)]) ∧ w = w' := by
  have HSP := Lib.hid hsp
  have HRD := Lib.hid hrd
  clear hsp hrd
  go_enter Tryd.func54, Tryd.ntmps54
  go_wp2_with (first
    | (go_at_call 68; refine (Calls.mono HSP.out ?_); rintro e w' ⟨rfl, rfl⟩)
    | (go_at_call 69; refine (Calls.mono HRD.out ?_); rintro e w' ⟨rfl, rfl⟩))
  go_ret3
  exact ⟨rfl, rfl⟩

set_option maxRecDepth 100000 in
/-- parseFloatPrefix and the inner ParseFloat hand atof64's answer on. -/
theorem inner_ok (s : ByteArray) (w : World) (r : Nat)
    (h : Calls Tryd.prog 54 #[.string s] w fun e w' => e = .returned (.tuple #[.float .f64 r, .int .i64 s.size, .nilIface]) ∧ w = w') :
    Calls Tryd.prog 31 #[.string s, .int .i64 64] w fun e w' => e = .returned (.tuple #[.float .f64 r, .nilIface]) ∧ w = w' := by
  have H := Lib.hid h
  clear h
  have h39 : Calls Tryd.prog 39 #[.string s, .int .i64 64] w fun e w' => e = .returned (.tuple #[.float .f64 r, .int .i64 s.size, .nilIface]) ∧ w = w' := by
    go_enter Tryd.func39, Tryd.ntmps39
    go_wp2_with (go_at_call 54; refine (Calls.mono H.out ?_); rintro e w' ⟨rfl, rfl⟩)
    go_ret3
    exact ⟨rfl, rfl⟩
  have H39 := Lib.hid h39
  clear h39
  go_enter Tryd.func31, Tryd.ntmps31
  go_wp2_with (go_at_call 39; refine (Calls.mono H39.out ?_); rintro e w' ⟨rfl, rfl⟩)
  go_ret2
  exact ⟨rfl, rfl⟩
set_option maxRecDepth 100000 in
theorem inner_bad (s : ByteArray) (w : World) (hs : 0 < s.size)
    (h : Calls Tryd.prog 54 #[.string s] w fun e w' => e = .returned (.tuple #[.float .f64 0, .int .i64 0, .iface 63 (.int .i64 2)]) ∧ w = w') :
    Calls Tryd.prog 31 #[.string s, .int .i64 64] w fun e w' => e = .returned (.tuple #[.float .f64 0, .iface 63 (.int .i64 2)]) ∧ w = w' := by
  have H := Lib.hid h
  clear h
  have hne : ¬ s = ByteArray.empty := by rintro rfl; simp at hs
  have h39 : Calls Tryd.prog 39 #[.string s, .int .i64 64] w fun e w' => e = .returned (.tuple #[.float .f64 0, .int .i64 0, .iface 63 (.int .i64 2)]) ∧ w = w' := by
    go_enter Tryd.func39, Tryd.ntmps39
    go_wp2_with (go_at_call 54; refine (Calls.mono H.out ?_); rintro e w' ⟨rfl, rfl⟩)
    go_ret3
    exact ⟨rfl, rfl⟩
  have H39 := Lib.hid h39
  clear h39
  go_enter Tryd.func31, Tryd.ntmps31
  go_wp2_with (go_at_call 39; refine (Calls.mono H39.out ?_); rintro e w' ⟨rfl, rfl⟩)
  go_ret2
  exact ⟨rfl, rfl⟩

set_option maxRecDepth 100000 in
/-- strconv.ParseFloat where the inner one has no error. -/
theorem parse_ok (s : ByteArray) (w : World) (r : Nat)
    (h : Calls Tryd.prog 31 #[.string s, .int .i64 64] w fun e w' => e = .returned (.tuple #[.float .f64 r, .nilIface]) ∧ w = w') :
    Calls Tryd.prog 23 #[.string s, .int .i64 64] w fun e w' => e = .returned (.tuple #[.float .f64 r, .nilIface]) ∧ w = w' := by
  have H := Lib.hid h
  clear h
  go_enter Tryd.func23, Tryd.ntmps23
  go_wp2_with (go_at_call 31; refine (Calls.mono H.out ?_); rintro e w' ⟨rfl, rfl⟩)
  go_ret2
  exact ⟨rfl, rfl⟩
set_option maxRecDepth 100000 in
/-- strconv.ParseFloat where the inner one tells ErrSyntax: an error that is not nil. -/
theorem parse_bad (s : ByteArray) (w : World) (T : Tabs w) (hl : s.size ≤ 281474976710656)
    (h : Calls Tryd.prog 31 #[.string s, .int .i64 64] w fun e w' => e = .returned (.tuple #[.float .f64 0, .iface 63 (.int .i64 2)]) ∧ w = w') :
    Calls Tryd.prog 23 #[.string s, .int .i64 64] w fun e w' => ∃ p : Value, e = .returned (.tuple #[.float .f64 0, .iface 64 p]) ∧ Below w.heap.size w w' := by
  have H := Lib.hid h
  clear h
  obtain ⟨tp, p, hsyn⟩ := T.syn
  have HT := Lib.hid (Tryd.strconv_toError_syntax { data := #[80, 97, 114, 115, 101, 70, 108, 111, 97, 116] } s 0 64 _ w hl hsyn (Or.inr ⟨_, _, rfl⟩))
  clear hsyn
  go_enter Tryd.func23, Tryd.ntmps23
  go_wp2_with (first
    | (go_at_call 31; refine (Calls.mono H.out ?_); rintro e w' ⟨rfl, rfl⟩)
    | (go_at_call 32; refine (Calls.mono HT.out ?_); rintro e w' ⟨N, rfl, _, _, hb⟩))
  go_ret2
  exact ⟨_, rfl, hb⟩

end Go.Proofs.YtodpjpbkefihfaaDoor
