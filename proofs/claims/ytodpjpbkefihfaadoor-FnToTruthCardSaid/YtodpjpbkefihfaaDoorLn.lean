/-
The walk of the law FnToNumber, over every Value that can be read.
-/
import Derived.Test.YtodpjpbkefihfaaDoorVc
namespace Go.Proofs.YtodpjpbkefihfaaDoor
open Go.RowKit

theorem keep {g : Nat} {o : Obj} {W W' : World} (h : W.heap[g]? = some o) (hb : Below W.heap.size W W') : W'.heap[g]? = some o := by
  have hlt : g < W.heap.size := (Array.getElem?_eq_some_iff.1 h).1
  exact (hb.block g hlt).trans h
theorem keep_cell {g : Nat} {cs : Array Value} {T : TypeId} {W : World} (h : W.heap[g]? = some (.cells cs T (0, 0))) : ∀ o, W.cell? ⟨g, o, none⟩ = cs[o]? := fun o => by
  unfold World.cell?
  rw [h]
  rfl
theorem keep_new (w : World) (o : Obj) : (w.alloc o).heap[w.heap.size]? = some o := by
  show (w.heap.push o)[w.heap.size]? = some o
  simp

/-- What a law's call comes to: true; of what was there nothing has turned. -/
def IsTrue (w : World) (e : Ending) (w' : World) : Prop := e = .returned (.bool true) ∧ Below w.heap.size w w'

theorem two_two : FloatKind.f64.format.order 4611686018427387904 4611686018427387904 = some .eq := by decide +kernel
/-- impl.ToNumber of the text "2". -/
theorem toNumber_two (w : World) (T : Tabs w) : Calls Tryd.prog 7 #[vOf 3 false 0 { data := #[50] } none 0 0 none 0 0] w fun e w' => e = .returned (.tuple #[.float .f64 4611686018427387904, .bool true]) ∧ Below w.heap.size w w' := by
  have h := toNumber_plain false 0 { data := #[50] } none 0 0 none 0 0 w T two_plain
  rw [two_val] at h
  exact h

set_option maxRecDepth 100000 in
set_option maxHeartbeats 2000000 in
theorem num_law (k : Int) (b : Bool) (x : Nat) (t : ByteArray) (A : Option Addr) (n c : Nat) (B : Option Addr) (m d : Nat) (w : World) (T : Tabs w)
    (hN : Names w A n) (hm : m ≤ 9223372036854775807) (ht : t.size ≤ 9223372036854775807) (want : Nat) (told said : Bool)
    (hS : t.size ≤ 2147483647 → ∀ W, Below w.heap.size w W → Calls Tryd.prog 9 #[vOf k b x t A n c B m d] W fun e w' => e = .returned (.tuple #[.float .f64 want, .bool told, .bool said]) ∧ Below W.heap.size W w')
    (hR : t.size ≤ 2147483647 → said = true → (k == 0) = false → (k = 0 ∨ k = 1 ∨ (k = 2 ∧ finB x = true) ∨ k = 3) → ∃ (r : Nat) (ok : Bool), (∀ W, Below w.heap.size w W → Calls Tryd.prog 7 #[vOf k b x t A n c B m d] W fun e w' => e = .returned (.tuple #[.float .f64 r, .bool ok]) ∧ Below W.heap.size W w') ∧
      (ok == told) = true ∧ (ok = true → (FloatKind.f64.format.order r want == some .eq) = true)) :
    Calls Tryd.prog 3 #[vOf k b x t A n c B m d] w (IsTrue w) := by
  have HS := fun h W hW => Lib.hid (hS h W hW)
  have HR := Lib.hid hR
  clear hS hR
  have H6 := Lib.hid (fits2_walk k b x t A n c B m d (w.alloc (.cells #[.int .i64 k, .bool b, .float .f64 x, .string t, .slice A n c, .slice B m d] 26)) (hN.below (below_alloc _ _)) hm ht)
  go_enter Tryd.func3, Tryd.ntmps3
  go_wp2_with fail
  refine (Calls.mono H6.out ?_)
  rintro e w1 ⟨r, rfl, hb1, hr⟩
  have K1 := Lib.hid (keep (keep_new w _) hb1)
  have B1 := Lib.hid (below_trans (below_alloc _ _) hb1)
  have HF := Lib.hid hr
  clear hr hb1 H6
  cases r with
  | false =>
    go_wp2
    go_ret
    exact ⟨rfl, B1.out⟩
  | true =>
    have hs := HF.out rfl
    have c1 := keep_cell K1.out
    go_wp2_with fail
    refine (text_walk { data := #[50] } _).mono ?_
    rintro e w2 ⟨rfl, hb2⟩
    have B2 := Lib.hid (below_trans B1.out hb2)
    have K2 := Lib.hid (keep K1.out hb2)
    clear hb2
    go_wp2_with fail
    refine (toNumber_two _ (T.below B2.out)).mono ?_
    rintro e w3 ⟨rfl, hb3⟩
    have B3 := Lib.hid (below_trans B2.out hb3)
    have K3 := Lib.hid (keep K2.out hb3)
    clear hb3 c1
    have c3 := keep_cell K3.out
    have h22 := two_two
    go_wp2_with fail
    refine (Calls.mono (HS hs w3 B3.out).out ?_)
    rintro e w4 ⟨rfl, hb4⟩
    have B4 := Lib.hid (below_trans B3.out hb4)
    have K4 := Lib.hid (keep K3.out hb4)
    clear hb4 c3
    have c4 := keep_cell K4.out
    go_wp2_with fail
    refine (isData_walk b x t A n c B m d w4 k hN.1 hm hs).mono ?_
    rintro e w5 ⟨r5, rfl, hb5, hr5⟩
    have B5 := Lib.hid (below_trans B4.out hb5)
    have K5 := Lib.hid (keep K4.out hb5)
    have HR5 := Lib.hid hr5
    clear hb5 c4 hr5
    have c5 := keep_cell K5.out
    cases r5 with
    | false =>
      go_wp2
      go_ret
      exact ⟨rfl, B5.out⟩
    | true =>
      cases said with
      | false =>
        go_wp2
        go_ret
        exact ⟨rfl, B5.out⟩
      | true =>
        cases hk : (k == 0) with
        | true =>
          go_wp2
          go_ret
          exact ⟨rfl, B5.out⟩
        | false =>
          obtain ⟨r, ok, h7, hok, heq⟩ := HR.out hs rfl hk (HR5.out rfl)
          have H7 := Lib.hid (h7 w5 B5.out)
          clear h7
          cases ok with
          | false =>
            go_wp2_with fail
            refine (Calls.mono H7.out ?_)
            rintro e w6 ⟨rfl, hb6⟩
            have B6 := Lib.hid (below_trans B5.out hb6)
            clear hb6
            go_wp2
            go_ret
            exact ⟨rfl, B6.out⟩
          | true =>
            have hq := heq rfl
            clear heq
            go_wp2_with fail
            refine (Calls.mono H7.out ?_)
            rintro e w6 ⟨rfl, hb6⟩
            have B6 := Lib.hid (below_trans B5.out hb6)
            clear hb6
            go_wp2
            go_ret
            exact ⟨rfl, B6.out⟩

/-- THE LAW FnToNumber AT EVERY VALUE. -/
theorem num_all (k : Int) (b : Bool) (x : Nat) (t : ByteArray) (A : Option Addr) (n c : Nat) (B : Option Addr) (m d : Nat) (w : World) (T : Tabs w)
    (hN : Names w A n) (hm : m ≤ 9223372036854775807) (ht : t.size ≤ 9223372036854775807) :
    Calls Tryd.prog 3 #[vOf k b x t A n c B m d] w (IsTrue w) := by
  by_cases h2 : k = 2
  · subst h2
    refine num_law 2 b x t A n c B m d w T hN hm ht x true true (fun _ W _ => specNum_number b x t A n c B m d W) (fun _ _ _ hk => ⟨x, true, fun W _ => toNumber_number b x t A n c B m d W, rfl, fun _ => ?_⟩)
    have hf : finB x = true := by
      rcases hk with h | h | h | h
      · omega
      · omega
      · exact h.2
      · omega
    rw [order_self (notNaN_of_fin hf)]
    rfl
  by_cases h3 : k = 3
  · subst h3
    cases hp : plainB t.data.toList with
    | true =>
      refine num_law 3 b x t A n c B m d w T hN hm ht (pfOf t.data.toList) true true (fun hs W hW => specNum_plain b x t A n c B m d W (T.below hW) hs hp) (fun _ _ _ _ => ⟨pfOf t.data.toList, true, fun W hW => toNumber_plain b x t A n c B m d W (T.below hW) hp, rfl, fun _ => ?_⟩)
      rw [order_self (pfOf_notNaN hp)]
      rfl
    | false =>
      exact num_law 3 b x t A n c B m d w T hN hm ht 0 false (noNumB t.data.toList) (fun hs W _ => specNum_text b x t A n c B m d W hs hp) (fun hs hq _ _ => ⟨0, false, fun W hW => toNumber_noNum b x t A n c B m d W (T.below hW) hs hq, rfl, fun h => by cases h⟩)
  by_cases h1 : k = 1
  · subst h1
    exact num_law 1 b x t A n c B m d w T hN hm ht 0 false false (fun _ W _ => specNum_truth b x t A n c B m d W) (fun _ h => by cases h)
  · refine num_law k b x t A n c B m d w T hN hm ht 0 false true (fun _ W _ => specNum_other b x t A n c B m d W k (by simpa using h1) (by simpa using h2) (by simpa using h3)) (fun _ _ h0 hk => ?_)
    exfalso
    have h0' : ¬ k = 0 := by simpa using h0
    omega

#print axioms num_all
end Go.Proofs.YtodpjpbkefihfaaDoor
