/-
Walks: spec.isFinite, spec.Same against a value without parts, spec.data and spec.IsData at level 0.
-/
import Derived.Test.YtodpjpbkefihfaaDoorVb
namespace Go.Proofs.YtodpjpbkefihfaaDoor
open Go.RowKit
attribute [local go_sem] run_store_float

/-- That a call tells some truth, and of what was there nothing has turned. -/
def SomeB (w : World) (e : Ending) (w' : World) : Prop := ∃ r : Bool, e = .returned (.bool r) ∧ Below w.heap.size w w'
theorem SomeB.mk {w w' : World} (r : Bool) (hb : Below w.heap.size w w') : SomeB w (.returned (.bool r)) w' := ⟨r, rfl, hb⟩

section
variable (b b' : Bool) (x x' : Nat) (t t' : ByteArray) (A : Option Addr) (n c : Nat) (B : Option Addr) (m d : Nat) (w : World)
set_option maxRecDepth 100000 in
set_option maxHeartbeats 1000000 in
theorem same_walk (k k' : Int) (_hn : n ≤ 9223372036854775807) (_hm : m ≤ 9223372036854775807) :
    Calls Tryd.prog 33 #[vOf k b x t A n c B m d, vOf k' b' x' t' none 0 0 none 0 0] w (SomeB w) := by
  go_enter Tryd.func33, Tryd.ntmps33
  go_wp2
  · go_ret
    exact SomeB.mk _ ((below_alloc _ _).trans ((Below.refl _ _).alloc (by simp) _))
  · obtain rfl : m = 0 := by have h := ‹((m : Int) != 0) = false›; simpa using h
    refine wp_loop_rounds 1 ?_
    rw [rounds_succ]
    go_wp2
    refine wp_loop_rounds 1 ?_
    rw [rounds_succ]
    go_wp2
    go_ret
    exact SomeB.mk _ ((below_alloc _ _).trans ((Below.refl _ _).alloc (by simp) _))
  all_goals (go_ret; exact SomeB.mk _ ((below_alloc _ _).trans ((Below.refl _ _).alloc (by simp) _)))

theorem run_sub_fin (h : finB x = true) (W : World) : (binOp .sub 22 (.float .f64 x) (.float .f64 x)).run Tryd.prog W = .ok (.float .f64 0) W :=
  run_float_arith W .sub 22 .f64 x x 0 (sub_self_fin h)
/-- The word of a NaN that a tape answers. -/
def nanWord (t : Nat) : Nat := (t % 2) * 2 ^ 63 + 0x7ff0000000000000 + 1 + (t / 2) % (2 ^ 52 - 1)
theorem nanWord_nan (t : Nat) : FloatKind.f64.format.order (nanWord t) 0 = none := by
  refine order_nan_left _ _ ?_
  refine read_nan (s := t % 2) (r := 0x7ff0000000000000 + 1 + (t / 2) % (2 ^ 52 - 1)) (by omega) ?_ ?_
  · have : (t / 2) % (2 ^ 52 - 1) < 2 ^ 52 - 1 := Nat.mod_lt _ (by decide)
    have e : (2 : Nat) ^ 52 = 4503599627370496 := by decide
    omega
  · unfold nanWord
    have e : (2 : Nat) ^ 63 = 9223372036854775808 := by decide
    rw [e]; omega
theorem run_sub_nan (h : finB x = false) (W : World) : ∃ t, (binOp .sub 22 (.float .f64 x) (.float .f64 x)).run Tryd.prog W = .ok (.float .f64 (nanWord t)) W.drew := by
  have hs := sub_self_inf h
  refine ⟨W.tape W.drawn (.nanBits .f64 x x), ?_⟩
  simp only [binOp, Op.floatArith, hs]
  rfl

set_option maxRecDepth 100000 in
theorem isFinite_walk : Calls Tryd.prog 34 #[.float .f64 x] w fun e w' => e = .returned (.bool (finB x)) ∧ Below w.heap.size w w' := by
  cases h : finB x with
  | true =>
    have hop := run_sub_fin x h
    have h0 := zero_eq_zero
    clear h
    go_enter Tryd.func34, Tryd.ntmps34
    go_wp2_with (simp only [hop])
    go_ret
    exact ⟨rfl, Below.refl _ _⟩
  | false =>
    obtain ⟨q, hop⟩ := run_sub_nan x h w
    have h0 := nanWord_nan q
    generalize nanWord q = y at hop h0
    clear h
    go_enter Tryd.func34, Tryd.ntmps34
    go_wp2_with (simp only [hop])
    go_ret
    exact ⟨rfl, below_drewN_refl w 1⟩
end

/-- What spec.data at level 0 tells: if it says yes the kind is a plain one, and a number is finite. -/
def DataP (k : Int) (x : Nat) (w : World) (e : Ending) (w' : World) : Prop :=
  ∃ (l : Int) (r : Bool), e = .returned (.tuple #[.int .i64 l, .bool r]) ∧ Below w.heap.size w w' ∧ (r = true → k = 0 ∨ k = 1 ∨ (k = 2 ∧ finB x = true) ∨ k = 3)
theorem DataP.mk {k : Int} {x : Nat} {w w' : World} (l : Int) (r : Bool) (hb : Below w.heap.size w w') (h : r = true → k = 0 ∨ k = 1 ∨ (k = 2 ∧ finB x = true) ∨ k = 3) : DataP k x w (.returned (.tuple #[.int .i64 l, .bool r])) w' := ⟨l, r, rfl, hb, h⟩
theorem below_two (w : World) (o o' : Obj) : Below w.heap.size w ((w.alloc o).alloc o') := (below_alloc _ _).trans ((Below.refl _ _).alloc (by simp) _)

/-- Behind 'Below' the cells of two new blocks read as they did. -/
theorem facts_two {W w1 : World} (hb : Below W.heap.size W w1) : (∀ b o, b < W.heap.size → w1.cell? ⟨b, o, none⟩ = W.cell? ⟨b, o, none⟩) ∧ (∀ b o, b < W.heap.size → w1.frozen? ⟨b, o, none⟩ = W.frozen? ⟨b, o, none⟩) :=
  ⟨fun b o h => hb.cell (p := ⟨b, o, none⟩) h, fun b o h => hb.frozen (p := ⟨b, o, none⟩) h⟩

section
variable (b : Bool) (x : Nat) (t : ByteArray) (A : Option Addr) (n c : Nat) (B : Option Addr) (m d : Nat) (w : World)
set_option maxRecDepth 100000 in
set_option maxHeartbeats 1000000 in
theorem data_nothing (hn : n ≤ 9223372036854775807) (hm : m ≤ 9223372036854775807) :
    Calls Tryd.prog 25 #[vOf 0 b x t A n c B m d, .int .i64 0, .int .i64 1048576] w (DataP 0 x w) := by
  have H := fun W => Lib.hid (same_walk b false x 0 t { data := #[] } A n c B m d W 0 0 hn hm)
  go_enter Tryd.func25, Tryd.ntmps25
  go_wp2_with (go_at_call 33; refine (Calls.mono (H _).out ?_); rintro e w1 ⟨r, rfl, hb⟩)
  go_ret2
  exact DataP.mk _ _ (below_trans (below_two _ _ _) hb) (fun _ => Or.inl rfl)
set_option maxRecDepth 100000 in
set_option maxHeartbeats 1000000 in
theorem data_is (hn : n ≤ 9223372036854775807) (hm : m ≤ 9223372036854775807) :
    Calls Tryd.prog 25 #[vOf 1 b x t A n c B m d, .int .i64 0, .int .i64 1048576] w (DataP 1 x w) := by
  have H := fun W => Lib.hid (same_walk b b x 0 t { data := #[] } A n c B m d W 1 1 hn hm)
  go_enter Tryd.func25, Tryd.ntmps25
  go_wp2_with (go_at_call 33; refine (Calls.mono (H _).out ?_); rintro e w1 ⟨r, rfl, hb⟩)
  go_ret2
  exact DataP.mk _ _ (below_trans (below_two _ _ _) hb) (fun _ => Or.inr (Or.inl rfl))
set_option maxRecDepth 100000 in
set_option maxHeartbeats 1000000 in
theorem data_str (hn : n ≤ 9223372036854775807) (hm : m ≤ 9223372036854775807) (ht : t.size ≤ 2147483647) :
    Calls Tryd.prog 25 #[vOf 3 b x t A n c B m d, .int .i64 0, .int .i64 1048576] w (DataP 3 x w) := by
  have H := fun W => Lib.hid (same_walk b false x 0 t t A n c B m d W 3 3 hn hm)
  go_enter Tryd.func25, Tryd.ntmps25
  go_wp2_with (go_at_call 33; refine (Calls.mono (H _).out ?_); rintro e w1 ⟨r, rfl, hb⟩)
  all_goals go_ret2
  all_goals first | exact DataP.mk _ _ (below_trans (below_two _ _ _) hb) (fun _ => Or.inr (Or.inr (Or.inr rfl))) | exact DataP.mk _ _ (below_two _ _ _) (fun _ => Or.inr (Or.inr (Or.inr rfl)))
set_option maxRecDepth 100000 in
set_option maxHeartbeats 1000000 in
theorem data_num (hn : n ≤ 9223372036854775807) (hm : m ≤ 9223372036854775807) :
    Calls Tryd.prog 25 #[vOf 2 b x t A n c B m d, .int .i64 0, .int .i64 1048576] w (DataP 2 x w) := by
  have H := fun W => Lib.hid (same_walk b false x x t { data := #[] } A n c B m d W 2 2 hn hm)
  have F := fun W => Lib.hid (isFinite_walk x W)
  cases hf : finB x with
  | true =>
    rw [hf] at F
    have HF := Lib.hid hf
    clear hf
    go_enter Tryd.func25, Tryd.ntmps25
    go_wp2_with (first
      | (go_at_call 34; refine (Calls.mono (F _).out ?_); rintro e w1 ⟨rfl, hb⟩; obtain ⟨hc1, hf1⟩ := facts_two hb)
      | (go_at_call 33; refine (Calls.mono (H _).out ?_); rintro e w2 ⟨r, rfl, hb2⟩))
    go_ret2
    exact DataP.mk _ _ (below_trans (below_trans (below_two _ _ _) hb) hb2) (fun _ => Or.inr (Or.inr (Or.inl ⟨rfl, HF.out⟩)))
  | false =>
    rw [hf] at F
    clear hf
    go_enter Tryd.func25, Tryd.ntmps25
    go_wp2_with (go_at_call 34; refine (Calls.mono (F _).out ?_); rintro e w1 ⟨rfl, hb⟩)
    go_ret2
    exact DataP.mk _ _ (below_trans (below_two _ _ _) hb) (fun h => by cases h)
set_option maxRecDepth 100000 in
set_option maxHeartbeats 1000000 in
theorem data_parts (k : Int) (hk : (k == 4) = true ∨ (k == 5) = true) (_hn : n ≤ 9223372036854775807) (_hm : m ≤ 9223372036854775807) :
    Calls Tryd.prog 25 #[vOf k b x t A n c B m d, .int .i64 0, .int .i64 1048576] w (DataP k x w) := by
  obtain rfl | rfl : k = 4 ∨ k = 5 := by simpa using hk
  all_goals
    go_enter Tryd.func25, Tryd.ntmps25
    go_wp2
    all_goals (go_ret2; exact DataP.mk _ _ (below_two _ _ _) (fun h => by cases h))
set_option maxRecDepth 100000 in
set_option maxHeartbeats 1000000 in
theorem data_strange (k : Int) (h0 : (k == 0) = false) (h1 : (k == 1) = false) (h2 : (k == 2) = false) (h3 : (k == 3) = false) (h4 : (k == 4) = false) (h5 : (k == 5) = false) :
    Calls Tryd.prog 25 #[vOf k b x t A n c B m d, .int .i64 0, .int .i64 1048576] w (DataP k x w) := by
  go_enter Tryd.func25, Tryd.ntmps25
  go_wp2
  go_ret2
  exact DataP.mk _ _ (below_two _ _ _) (fun h => by cases h)
theorem data_all (k : Int) (hn : n ≤ 9223372036854775807) (hm : m ≤ 9223372036854775807) (ht : t.size ≤ 2147483647) :
    Calls Tryd.prog 25 #[vOf k b x t A n c B m d, .int .i64 0, .int .i64 1048576] w (DataP k x w) := by
  by_cases h0 : k = 0
  · subst h0; exact data_nothing b x t A n c B m d w hn hm
  by_cases h1 : k = 1
  · subst h1; exact data_is b x t A n c B m d w hn hm
  by_cases h2 : k = 2
  · subst h2; exact data_num b x t A n c B m d w hn hm
  by_cases h3 : k = 3
  · subst h3; exact data_str b x t A n c B m d w hn hm ht
  by_cases h4 : k = 4
  · exact data_parts b x t A n c B m d w k (Or.inl (by simpa using h4)) hn hm
  by_cases h5 : k = 5
  · exact data_parts b x t A n c B m d w k (Or.inr (by simpa using h5)) hn hm
  exact data_strange b x t A n c B m d w k (by simpa using h0) (by simpa using h1) (by simpa using h2) (by simpa using h3) (by simpa using h4) (by simpa using h5)

/-- What spec.IsData at level 0 tells. -/
def IsP (k : Int) (x : Nat) (w : World) (e : Ending) (w' : World) : Prop :=
  ∃ (r : Bool), e = .returned (.bool r) ∧ Below w.heap.size w w' ∧ (r = true → k = 0 ∨ k = 1 ∨ (k = 2 ∧ finB x = true) ∨ k = 3)
set_option maxRecDepth 100000 in
theorem isData_walk (k : Int) (hn : n ≤ 9223372036854775807) (hm : m ≤ 9223372036854775807) (ht : t.size ≤ 2147483647) :
    Calls Tryd.prog 10 #[vOf k b x t A n c B m d, .int .i64 0] w (IsP k x w) := by
  have H := fun W => Lib.hid (data_all b x t A n c B m d W k hn hm ht)
  go_enter Tryd.func10, Tryd.ntmps10
  go_wp2_with (go_at_call 25; refine (Calls.mono (H _).out ?_); rintro e w1 ⟨l, r, rfl, hb, hr⟩; have HR := Lib.hid hr; clear hr)
  go_ret
  exact ⟨r, rfl, below_trans (below_alloc _ _) hb, HR.out⟩
end
end Go.Proofs.YtodpjpbkefihfaaDoor
