/-
The walk of the law FnToTruth, over every Value that can be read.
-/
import Derived.Test.YtodpjpbkefihfaaDoorTs
namespace Go.Proofs.YtodpjpbkefihfaaDoor
open Go.RowKit

set_option maxRecDepth 100000 in
set_option maxHeartbeats 2000000 in
theorem tru_law (k : Int) (b : Bool) (x : Nat) (t : ByteArray) (A : Option Addr) (n c : Nat) (B : Option Addr) (m d : Nat) (w : World)
    (hN : Names w A n) (hm : m ≤ 9223372036854775807) (ht : t.size ≤ 9223372036854775807) (q : Prop)
    (hL : t.size ≤ 2147483647 → (k = 0 ∨ k = 1 ∨ (k = 2 ∧ finB x = true) ∨ k = 3) → ∀ W, Below w.heap.size w W → Calls Tryd.prog 13 #[vOf k b x t A n c B m d] W (LooseP q W))
    (hR : t.size ≤ 2147483647 → q → (k = 0 ∨ k = 1 ∨ (k = 2 ∧ finB x = true) ∨ k = 3) → ∃ (want said v ok : Bool),
      (∀ W, Below w.heap.size w W → Calls Tryd.prog 14 #[vOf k b x t A n c B m d] W fun e w' => e = .returned (.tuple #[.bool want, .bool said]) ∧ Below W.heap.size W w') ∧
      (∀ W, Below w.heap.size w W → Calls Tryd.prog 11 #[vOf k b x t A n c B m d] W fun e w' => e = .returned (.tuple #[.bool v, .bool ok]) ∧ Below W.heap.size W w') ∧
      ok = said ∧ (ok = true → v = want)) :
    Calls Tryd.prog 4 #[vOf k b x t A n c B m d] w (IsTrue w) := by
  have HL := fun h hk W hW => Lib.hid (hL h hk W hW)
  have HR := Lib.hid hR
  clear hL hR
  have H6 := Lib.hid (fits2_walk k b x t A n c B m d (w.alloc (.cells #[.int .i64 k, .bool b, .float .f64 x, .string t, .slice A n c, .slice B m d] 26)) (hN.below (below_alloc _ _)) hm ht)
  go_enter Tryd.func4, Tryd.ntmps4
  go_wp2_with fail
  refine (Calls.mono H6.out ?_)
  rintro e w1 ⟨r, rfl, hb1, hr⟩
  have K1 := Lib.hid (keep (keep_new w _) hb1)
  have B1 := Lib.hid (below_trans (below_alloc _ _) hb1)
  have HF := Lib.hid hr
  clear hr hb1 H6
  cases r with
  | false =>
    go_wp2
    go_ret
    exact ⟨rfl, B1.out⟩
  | true =>
    have hs := HF.out rfl
    have c1 := keep_cell K1.out
    go_wp2_with fail
    refine (number_walk 4611686018427387904 _).mono ?_
    rintro e w2 ⟨rfl, hb2⟩
    have B2 := Lib.hid (below_trans B1.out hb2)
    have K2 := Lib.hid (keep K1.out hb2)
    clear hb2
    go_wp2_with fail
    refine (toTruth_two _).mono ?_
    rintro e w3 ⟨rfl, hb3⟩
    have B3 := Lib.hid (below_trans B2.out hb3)
    have K3 := Lib.hid (keep K2.out hb3)
    clear hb3 c1
    have c3 := keep_cell K3.out
    go_wp2_with fail
    refine (isData_walk b x t A n c B m d w3 k hN.1 hm hs).mono ?_
    rintro e w5 ⟨r5, rfl, hb5, hr5⟩
    have B5 := Lib.hid (below_trans B3.out hb5)
    have K5 := Lib.hid (keep K3.out hb5)
    have HR5 := Lib.hid hr5
    clear hb5 c3 hr5
    have c5 := keep_cell K5.out
    cases r5 with
    | false =>
      go_wp2
      go_ret
      exact ⟨rfl, B5.out⟩
    | true =>
      have hk5 := HR5.out rfl
      go_wp2_with fail
      refine (Calls.mono (HL hs hk5 w5 B5.out).out ?_)
      rintro e w6 ⟨r6, rfl, hb6, hr6⟩
      have B6 := Lib.hid (below_trans B5.out hb6)
      have K6 := Lib.hid (keep K5.out hb6)
      have HR6 := Lib.hid hr6
      clear hb6 c5 hr6
      have c6 := keep_cell K6.out
      cases r6 with
      | true =>
        go_wp2
        go_ret
        exact ⟨rfl, B6.out⟩
      | false =>
        obtain ⟨want, said, v, ok, h14, h11, hok, heq⟩ := HR.out hs (HR6.out rfl) hk5
        have H14 := Lib.hid (h14 w6 B6.out)
        have H11 := fun W hW => Lib.hid (h11 W hW)
        clear h14 h11
        subst hok
        go_wp2_with fail
        refine (Calls.mono H14.out ?_)
        rintro e w7 ⟨rfl, hb7⟩
        have B7 := Lib.hid (below_trans B6.out hb7)
        have K7 := Lib.hid (keep K6.out hb7)
        clear hb7 c6
        have c7 := keep_cell K7.out
        cases ok with
        | false =>
          clear heq
          go_wp2_with fail
          refine (Calls.mono (H11 w7 B7.out).out ?_)
          rintro e w8 ⟨rfl, hb8⟩
          have B8 := Lib.hid (below_trans B7.out hb8)
          clear hb8
          go_wp2
          go_ret
          exact ⟨rfl, B8.out⟩
        | true =>
          have hq := heq rfl
          clear heq
          subst hq
          cases v with
          | false =>
            go_wp2_with fail
            refine (Calls.mono (H11 w7 B7.out).out ?_)
            rintro e w8 ⟨rfl, hb8⟩
            have B8 := Lib.hid (below_trans B7.out hb8)
            clear hb8
            go_wp2
            go_ret
            exact ⟨rfl, B8.out⟩
          | true =>
            go_wp2_with fail
            refine (Calls.mono (H11 w7 B7.out).out ?_)
            rintro e w8 ⟨rfl, hb8⟩
            have B8 := Lib.hid (below_trans B7.out hb8)
            clear hb8
            go_wp2
            go_ret
            exact ⟨rfl, B8.out⟩

theorem toTruth_text (b : Bool) (x : Nat) (t : ByteArray) (A : Option Addr) (n c : Nat) (B : Option Addr) (m d : Nat) (w : World) (r ok : Bool)
    (h : ∀ W, Below w.heap.size w W → Calls Tryd.prog 35 #[.iface 9 (.string t)] W fun e w' => e = .returned (.tuple #[.bool r, .bool ok]) ∧ Below W.heap.size W w') :
    Calls Tryd.prog 11 #[vOf 3 b x t A n c B m d] w fun e w' => e = .returned (.tuple #[.bool r, .bool ok]) ∧ Below w.heap.size w w' :=
  toTruth_of b x t A n c B m d w 3 _ r ok (fun W => data_text _ _ _ _ _ _ _ _ _ W) h

/-- THE LAW FnToTruth AT EVERY VALUE. -/
theorem tru_all (k : Int) (b : Bool) (x : Nat) (t : ByteArray) (A : Option Addr) (n c : Nat) (B : Option Addr) (m d : Nat) (w : World) (T : Tabs w)
    (hN : Names w A n) (hm : m ≤ 9223372036854775807) (ht : t.size ≤ 9223372036854775807) :
    Calls Tryd.prog 4 #[vOf k b x t A n c B m d] w (IsTrue w) := by
  by_cases h0 : k = 0
  · subst h0
    exact tru_law 0 b x t A n c B m d w hN hm ht False (fun _ _ W _ => loose_nothing b x t A n c B m d W) (fun _ h => h.elim)
  by_cases h1 : k = 1
  · subst h1
    refine tru_law 1 b x t A n c B m d w hN hm ht True (fun _ _ W _ => loose_told b x t A n c B m d W 1 rfl b (fun W => specTruth_is b x A n c B m d t W)) (fun _ _ _ => ⟨b, true, b, true, fun W _ => specTruth_is b x A n c B m d t W, fun W _ => ?_, rfl, fun _ => rfl⟩)
    exact toTruth_of b x t A n c B m d W 1 _ b true (fun W => data_truth _ _ _ _ _ _ _ _ _ W) (fun W _ => quiet_below (toBool_bool b W))
  by_cases h2 : k = 2
  · subst h2
    refine tru_law 2 b x t A n c B m d w hN hm ht True (fun _ _ W _ => loose_told b x t A n c B m d W 2 rfl _ (fun W => specTruth_number b x A n c B m d t W)) (fun _ _ _ => ⟨nonZero x, true, nonZero x, true, fun W _ => specTruth_number b x A n c B m d t W, fun W _ => ?_, rfl, fun _ => rfl⟩)
    exact toTruth_of b x t A n c B m d W 2 _ _ true (fun W => data_number _ _ _ _ _ _ _ _ _ W) (fun W _ => quiet_below (toBool_float x W))
  by_cases h3 : k = 3
  · subst h3
    cases et : t.toList == [116, 114, 117, 101] with
    | true =>
      have ef : (t.toList == [102, 97, 108, 115, 101]) = false := by rw [eq_of_beq et]; rfl
      have eF : (t.toList == [70, 65, 76, 83, 69]) = false := by rw [eq_of_beq et]; rfl
      have hS := fun W => specTruth_true0 t b x A n c B m d W et
      exact tru_law 3 b x t A n c B m d w hN hm ht True (fun _ _ W _ => loose_told b x t A n c B m d W 3 rfl true hS) (fun _ _ _ => ⟨true, true, true, true, fun W _ => hS W, fun W _ => toTruth_text b x t A n c B m d W true true (fun W _ => quiet_below (toBool_true0 t W ef eF et)), rfl, fun _ => rfl⟩)
    | false =>
    cases eT : t.toList == [84, 82, 85, 69] with
    | true =>
      have ef : (t.toList == [102, 97, 108, 115, 101]) = false := by rw [eq_of_beq eT]; rfl
      have eF : (t.toList == [70, 65, 76, 83, 69]) = false := by rw [eq_of_beq eT]; rfl
      have hS := fun W => specTruth_true1 t b x A n c B m d W et eT
      exact tru_law 3 b x t A n c B m d w hN hm ht True (fun _ _ W _ => loose_told b x t A n c B m d W 3 rfl true hS) (fun _ _ _ => ⟨true, true, true, true, fun W _ => hS W, fun W _ => toTruth_text b x t A n c B m d W true true (fun W _ => quiet_below (toBool_true1 t W ef eF et eT)), rfl, fun _ => rfl⟩)
    | false =>
    cases ef : t.toList == [102, 97, 108, 115, 101] with
    | true =>
      have hS := fun W => specTruth_false0 t b x A n c B m d W et eT ef
      exact tru_law 3 b x t A n c B m d w hN hm ht True (fun _ _ W _ => loose_told b x t A n c B m d W 3 rfl false hS) (fun _ _ _ => ⟨false, true, false, true, fun W _ => hS W, fun W _ => toTruth_text b x t A n c B m d W false true (fun W _ => quiet_below (toBool_false0 t W ef)), rfl, fun _ => rfl⟩)
    | false =>
    cases eF : t.toList == [70, 65, 76, 83, 69] with
    | true =>
      have hS := fun W => specTruth_false1 t b x A n c B m d W et eT ef eF
      exact tru_law 3 b x t A n c B m d w hN hm ht True (fun _ _ W _ => loose_told b x t A n c B m d W 3 rfl false hS) (fun _ _ _ => ⟨false, true, false, true, fun W _ => hS W, fun W _ => toTruth_text b x t A n c B m d W false true (fun W _ => quiet_below (toBool_false1 t W ef eF)), rfl, fun _ => rfl⟩)
    | false =>
      have hS := fun W => specTruth_none t b x A n c B m d W et eT ef eF
      exact tru_law 3 b x t A n c B m d w hN hm ht (noNumB t.data.toList = true) (fun hs _ W _ => loose_text b x t A n c B m d W hs hS) (fun hs hq _ => ⟨false, false, false, false, fun W _ => hS W, fun W hW => toTruth_text b x t A n c B m d W false false (fun W' hW' => toBool_none t W' ef eF et eT (toFloat_noNum t W' ((T.below hW).below hW') hs hq)), rfl, fun _ => rfl⟩)
  · refine tru_law k b x t A n c B m d w hN hm ht True (fun _ hk W _ => ?_) (fun _ _ hk => ?_)
    · exfalso; omega
    · exfalso; omega
end Go.Proofs.YtodpjpbkefihfaaDoor
