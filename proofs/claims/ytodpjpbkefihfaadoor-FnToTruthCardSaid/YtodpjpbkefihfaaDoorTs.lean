/-
Walks: spec.IsLoose, ZZToBool and impl.ToTruth.
-/
import Derived.Test.YtodpjpbkefihfaaDoorTr
import Derived.Test.YtodpjpbkefihfaaDoorLn
namespace Go.Proofs.YtodpjpbkefihfaaDoor
open Go.RowKit

/-- What spec.IsLoose tells: if it says no, then what 'q' says holds. -/
def LooseP (q : Prop) (w : World) (e : Ending) (w' : World) : Prop := ∃ r : Bool, e = .returned (.bool r) ∧ Below w.heap.size w w' ∧ (r = false → q)
theorem LooseP.mk {q : Prop} {w w' : World} (r : Bool) (hb : Below w.heap.size w w') (h : r = false → q) : LooseP q w (.returned (.bool r)) w' := ⟨r, rfl, hb, h⟩

section
variable (b : Bool) (x : Nat) (t : ByteArray) (A : Option Addr) (n c : Nat) (B : Option Addr) (m d : Nat) (w : World)
set_option maxRecDepth 100000 in
theorem loose_nothing : Calls Tryd.prog 13 #[vOf 0 b x t A n c B m d] w (LooseP False w) := by
  go_enter Tryd.func13, Tryd.ntmps13
  go_wp2
  go_ret
  exact LooseP.mk _ (below_alloc _ _) (fun h => by cases h)
set_option maxRecDepth 100000 in
theorem loose_told (k : Int) (hk : (k == 0) = false) (v : Bool) (h : ∀ W, Calls Tryd.prog 14 #[vOf k b x t A n c B m d] W fun e w' => e = .returned (.tuple #[.bool v, .bool true]) ∧ Below W.heap.size W w') :
    Calls Tryd.prog 13 #[vOf k b x t A n c B m d] w (LooseP True w) := by
  have H := fun W => Lib.hid (h W)
  clear h
  go_enter Tryd.func13, Tryd.ntmps13
  go_wp2_with (go_at_call 14; refine (Calls.mono (H _).out ?_); rintro e w1 ⟨rfl, hb1⟩)
  go_ret
  exact LooseP.mk _ (below_trans (below_alloc _ _) hb1) (fun _ => trivial)
theorem size_pos_of_noNum (h : noNumB t.data.toList = true) : 0 < t.size := by
  rcases Nat.eq_zero_or_pos t.size with e | e
  · have : t.data.toList = [] := List.eq_nil_of_length_eq_zero (by rw [size_list]; exact e)
    rw [this] at h; cases h
  · exact e
set_option maxRecDepth 100000 in
set_option maxHeartbeats 1000000 in
theorem loose_text (hs : t.size ≤ 2147483647) (h : ∀ W, Calls Tryd.prog 14 #[vOf 3 b x t A n c B m d] W fun e w' => e = .returned (.tuple #[.bool false, .bool false]) ∧ Below W.heap.size W w') :
    Calls Tryd.prog 13 #[vOf 3 b x t A n c B m d] w (LooseP (noNumB t.data.toList = true) w) := by
  have H := fun W => Lib.hid (h W)
  have H2 := fun W => Lib.hid (noNum_walk t W hs)
  clear h
  cases hq : noNumB t.data.toList with
  | false =>
    rw [hq] at H2
    clear hq
    go_enter Tryd.func13, Tryd.ntmps13
    go_wp2_with fail
    refine (Calls.mono (H _).out ?_)
    rintro e w1 ⟨rfl, hb1⟩
    have K := Lib.hid (keep (keep_new w _) hb1)
    have B1 := Lib.hid (below_trans (below_alloc _ _) hb1)
    clear hb1
    have c1 := keep_cell K.out
    go_wp2_with fail
    refine (Calls.mono (H2 _).out ?_)
    rintro e w2 ⟨rfl, rfl⟩
    go_wp2
    go_ret
    exact LooseP.mk _ B1.out (fun h => by cases h)
  | true =>
    have h0 := size_pos_of_noNum t hq
    rw [hq] at H2
    clear hq
    go_enter Tryd.func13, Tryd.ntmps13
    go_wp2_with fail
    refine (Calls.mono (H _).out ?_)
    rintro e w1 ⟨rfl, hb1⟩
    have K := Lib.hid (keep (keep_new w _) hb1)
    have B1 := Lib.hid (below_trans (below_alloc _ _) hb1)
    clear hb1
    have c1 := keep_cell K.out
    go_wp2_with fail
    refine (Calls.mono (H2 _).out ?_)
    rintro e w2 ⟨rfl, rfl⟩
    go_wp2
    all_goals (go_ret; exact LooseP.mk _ B1.out (fun _ => by first | rfl | trivial))

set_option maxRecDepth 100000 in
theorem zzToBool (v : Value) (r ok : Bool) (h : Calls Tryd.prog 35 #[v] w fun e w' => e = .returned (.tuple #[.bool r, .bool ok]) ∧ Below w.heap.size w w') :
    Calls Tryd.prog 26 #[v] w fun e w' => e = .returned (.tuple #[.bool r, .bool ok]) ∧ Below w.heap.size w w' := by
  have H := Lib.hid h
  clear h
  go_enter Tryd.func26, Tryd.ntmps26
  go_wp2_with (go_at_call 35; refine (Calls.mono H.out ?_); rintro e w' ⟨rfl, hb⟩)
  go_ret2
  exact ⟨rfl, hb⟩
set_option maxRecDepth 100000 in
theorem toTruth_of (k : Int) (v : Value) (r ok : Bool)
    (h1 : ∀ W, Calls Tryd.prog 21 #[vOf k b x t A n c B m d] W fun e w' => e = .returned v ∧ Below W.heap.size W w')
    (h2 : ∀ W, Below w.heap.size w W → Calls Tryd.prog 35 #[v] W fun e w' => e = .returned (.tuple #[.bool r, .bool ok]) ∧ Below W.heap.size W w') :
    Calls Tryd.prog 11 #[vOf k b x t A n c B m d] w fun e w' => e = .returned (.tuple #[.bool r, .bool ok]) ∧ Below w.heap.size w w' := by
  have H1 := fun W => Lib.hid (h1 W)
  have H2 := fun W hW => Lib.hid (zzToBool W v r ok (h2 W hW))
  clear h1 h2
  go_enter Tryd.func11, Tryd.ntmps11
  go_wp2_with (first
    | (go_at_call 21; refine (Calls.mono (H1 _).out ?_); rintro e w1 ⟨rfl, hb1⟩)
    | (go_at_call 26; refine (Calls.mono (H2 _ (below_trans (below_alloc _ _) hb1)).out ?_); rintro e w2 ⟨rfl, hb2⟩))
  go_ret2
  exact ⟨rfl, below_trans (below_trans (below_alloc _ _) hb1) hb2⟩
end

/-- From a quiet contract to one that says 'Below'. -/
theorem quiet_below {f : FuncId} {args : Array Value} {w : World} {v : Value} (h : Calls Tryd.prog f args w fun e w' => e = .returned v ∧ w = w') : Calls Tryd.prog f args w fun e w' => e = .returned v ∧ Below w.heap.size w w' :=
  h.mono fun _ _ ⟨he, hw⟩ => ⟨he, hw ▸ Below.refl _ _⟩

theorem nonZero_two : nonZero 4611686018427387904 = true := by decide +kernel
/-- impl.ToTruth of the number 2. -/
theorem toTruth_two (w : World) : Calls Tryd.prog 11 #[vOf 2 false 4611686018427387904 { data := #[] } none 0 0 none 0 0] w fun e w' => e = .returned (.tuple #[.bool true, .bool true]) ∧ Below w.heap.size w w' := by
  refine toTruth_of false 4611686018427387904 { data := #[] } none 0 0 none 0 0 w 2 _ true true (fun W => data_number _ _ _ _ _ _ _ _ _ W) (fun W _ => ?_)
  have h := quiet_below (toBool_float 4611686018427387904 W)
  rw [nonZero_two] at h
  exact h
end Go.Proofs.YtodpjpbkefihfaaDoor
