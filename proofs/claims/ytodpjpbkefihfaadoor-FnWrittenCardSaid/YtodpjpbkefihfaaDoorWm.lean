/-
The walk of the law FnWritten.
-/
import Derived.Test.YtodpjpbkefihfaaDoorWl
namespace Go.Proofs.YtodpjpbkefihfaaDoor
open Go.RowKit Go.Sort Go.Lib

/-- What the world must hold for the numerals. -/
structure Tabs5 (w : World) : Prop where
  tab : Lib.TabIs Tryd.prog w "internal/strconv.uint64pow10" .u64 Lib.pow10Tab
  pow : PowRows w
theorem Tabs5.below {w w' : World} (T : Tabs5 w) (hb : Below w.heap.size w w') : Tabs5 w' :=
  ⟨tabBelow_of_tabIs T.tab _ hb, fun p h1 h2 => ⟨(hb.cell (World.block_lt_of_cell? _ _ (T.pow p h1 h2).1)).trans (T.pow p h1 h2).1, (hb.cell (World.block_lt_of_cell? _ _ (T.pow p h1 h2).2)).trans (T.pow p h1 h2).2⟩⟩

def IsTrue5 (w : World) (e : Ending) (w' : World) : Prop := e = .returned (.bool true) ∧ Below w.heap.size w w'

theorem of_text (s : ByteArray) (w : World) : Calls Tryd.prog 15 #[vOf 3 false 0 s none 0 0 none 0 0] w fun e w' => e = .returned (.string s) ∧ Below w.heap.size w w' :=
  textOf_of _ _ _ _ _ _ _ _ _ w 3 _ s (fun W => data_text _ _ _ _ _ _ _ _ _ W) (fun W _ => zz_text s W)
theorem of_truth (b : Bool) (w : World) : Calls Tryd.prog 15 #[vOf 1 b 0 { data := #[] } none 0 0 none 0 0] w fun e w' => e = .returned (.string ⟨(Lib.formatBool b).toArray⟩) ∧ Below w.heap.size w w' :=
  textOf_of _ _ _ _ _ _ _ _ _ w 1 _ _ (fun W => data_truth _ _ _ _ _ _ _ _ _ W) (fun W _ => zz_truth b W)
theorem of_number (n : Int) (hn1 : -100000 ≤ n) (hn2 : n ≤ 100000) (w : World) (T : Tabs5 w) : Calls Tryd.prog 15 #[vOf 2 false (floatOfInt .f64 n) { data := #[] } none 0 0 none 0 0] w fun e w' => e = .returned (.string ⟨(Lib.itoa n).toArray⟩) ∧ Below w.heap.size w w' :=
  textOf_of _ _ _ _ _ _ _ _ _ w 2 _ _ (fun W => data_number _ _ _ _ _ _ _ _ _ W) (fun W hW => zz_number _ _ W fun W' g hW' hR =>
    ftoa_all g n W' hn1 hn2 hR ((T.below hW).below hW').tab (fun _ hW'' => (((T.below hW).below hW').below hW'').pow))
theorem of_itoa (n : Int) (hn1 : -100000 ≤ n) (hn2 : n ≤ 100000) (w : World) (T : Tabs5 w) : Calls Tryd.prog 16 #[.int .i64 n] w fun e w' => e = .returned (.string ⟨(Lib.itoa n).toArray⟩) ∧ Below w.heap.size w w' :=
  (Tryd.strconv_Itoa n (by omega) (by omega) w T.tab).mono fun _ _ ⟨h, k, os, e⟩ => ⟨h, e ▸ below_grow _ w (Nat.le_refl _) k os⟩
theorem of_format (b : Bool) (w : World) : Calls Tryd.prog 18 #[.bool b] w fun e w' => e = .returned (.string ⟨(Lib.formatBool b).toArray⟩) ∧ Below w.heap.size w w' :=
  (Tryd.strconv_FormatBool b w).mono fun _ _ ⟨h, e⟩ => ⟨h, e ▸ Below.refl _ _⟩

set_option maxRecDepth 100000 in
set_option maxHeartbeats 1000000 in
theorem wr_out (t : ByteArray) (n : Int) (b : Bool) (w : World) (hn : n < -100000 ∨ 100000 < n) : Calls Tryd.prog 5 #[.string t, .int .i64 n, .bool b] w (IsTrue5 w) := by
  have H15 := fun W => Lib.hid (of_text { data := #[97] } W)
  by_cases hs : (2147483647 : Int) < t.size
  · clear hn
    go_enter Tryd.func5, Tryd.ntmps5
    go_wp2
    go_ret
    exact ⟨rfl, Below.refl _ _⟩
  rcases hn with hn | hn
  · go_enter Tryd.func5, Tryd.ntmps5
    go_wp2_with (first
      | (go_at_call 8; refine (text_walk _ _).mono ?_; rintro e w1 ⟨rfl, hb1⟩)
      | (go_at_call 15; refine (Calls.mono (H15 _).out ?_); rintro e w2 ⟨rfl, hb2⟩))
    go_ret
    exact ⟨rfl, below_seq hb1 hb2⟩
  · have hn' : ¬ n < -100000 := by omega
    go_enter Tryd.func5, Tryd.ntmps5
    go_wp2_with (first
      | (go_at_call 8; refine (text_walk _ _).mono ?_; rintro e w1 ⟨rfl, hb1⟩)
      | (go_at_call 15; refine (Calls.mono (H15 _).out ?_); rintro e w2 ⟨rfl, hb2⟩))
    go_ret
    exact ⟨rfl, below_seq hb1 hb2⟩

set_option maxRecDepth 100000 in
set_option maxHeartbeats 2000000 in
theorem wr_in (t : ByteArray) (n : Int) (b : Bool) (w : World) (T : Tabs5 w) (hn1 : -100000 ≤ n) (hn2 : n ≤ 100000) : Calls Tryd.prog 5 #[.string t, .int .i64 n, .bool b] w (IsTrue5 w) := by
  have ha := fun W => of_text t W
  have hb := fun W hW => of_number n hn1 hn2 W (T.below hW)
  have hc := fun W hW => of_itoa n hn1 hn2 W (T.below hW)
  have hd := fun W => of_truth b W
  have he := fun W => of_format b W
  generalize (⟨(Lib.itoa n).toArray⟩ : ByteArray) = S1 at hb hc
  generalize (⟨(Lib.formatBool b).toArray⟩ : ByteArray) = S2 at hd he
  have HA := fun W => Lib.hid (ha W)
  have HB := fun W hW => Lib.hid (hb W hW)
  have HC := fun W hW => Lib.hid (hc W hW)
  have HD := fun W => Lib.hid (hd W)
  have HE := fun W => Lib.hid (he W)
  clear ha hb hc hd he
  by_cases hs : (2147483647 : Int) < t.size
  · go_enter Tryd.func5, Tryd.ntmps5
    go_wp2
    go_ret
    exact ⟨rfl, Below.refl _ _⟩
  · have hn1' : ¬ n < -100000 := by omega
    have hn2' : ¬ 100000 < n := by omega
    go_enter Tryd.func5, Tryd.ntmps5
    go_wp2_with fail
    refine (text_walk _ _).mono ?_
    rintro e w1 ⟨rfl, hb1⟩
    go_wp2_with fail
    refine (Calls.mono (HA _).out ?_)
    rintro e w2 ⟨rfl, hb2⟩
    have B2 := Lib.hid (below_seq hb1 hb2)
    clear hb1 hb2
    go_wp2_with fail
    refine (number_walk _ _).mono ?_
    rintro e w3 ⟨rfl, hb3⟩
    have B3 := Lib.hid (below_seq B2.out hb3)
    clear hb3
    go_wp2_with fail
    refine (Calls.mono (HB _ B3.out).out ?_)
    rintro e w4 ⟨rfl, hb4⟩
    have B4 := Lib.hid (below_seq B3.out hb4)
    clear hb4
    go_wp2_with fail
    refine (Calls.mono (HC _ B4.out).out ?_)
    rintro e w5 ⟨rfl, hb5⟩
    have B5 := Lib.hid (below_seq B4.out hb5)
    clear hb5
    go_wp2_with fail
    refine (truth_walk _ _).mono ?_
    rintro e w6 ⟨rfl, hb6⟩
    have B6 := Lib.hid (below_seq B5.out hb6)
    clear hb6
    go_wp2_with fail
    refine (Calls.mono (HD _).out ?_)
    rintro e w7 ⟨rfl, hb7⟩
    have B7 := Lib.hid (below_seq B6.out hb7)
    clear hb7
    go_wp2_with fail
    refine (Calls.mono (HE _).out ?_)
    rintro e w8 ⟨rfl, hb8⟩
    have B8 := Lib.hid (below_seq B7.out hb8)
    clear hb8
    go_wp2_with fail
    go_ret
    exact ⟨rfl, B8.out⟩

/-- THE LAW FnWritten AT EVERY TEXT, NUMBER AND TRUTH. -/
theorem wr_all (t : ByteArray) (n : Int) (b : Bool) (w : World) (T : Tabs5 w) : Calls Tryd.prog 5 #[.string t, .int .i64 n, .bool b] w (IsTrue5 w) := by
  by_cases h1 : n < -100000
  · exact wr_out t n b w (Or.inl h1)
  by_cases h2 : 100000 < n
  · exact wr_out t n b w (Or.inr h2)
  · exact wr_in t n b w T (by omega) (by omega)
#print axioms wr_all
end Go.Proofs.YtodpjpbkefihfaaDoor
