/-
Walks: zzText, ZZText, TextOf.
-/
import Derived.Test.YtodpjpbkefihfaaDoorWj
import Derived.Test.YtodpjpbkefihfaaDoorVa
namespace Go.Proofs.YtodpjpbkefihfaaDoor
open Go.RowKit Go.Sort Go.Lib
attribute [local go_sem] ta9_9 ta9_4 ta22_22 ta22_4 ta22_9 ta4_4

set_option maxRecDepth 100000 in
theorem zz_text (t : ByteArray) (w : World) : Calls Tryd.prog 36 #[.iface 9 (.string t)] w fun e w' => e = .returned (.string t) ∧ Below w.heap.size w w' := by
  go_enter Tryd.func36, Tryd.ntmps36
  go_wp2
  go_ret
  exact ⟨rfl, Below.refl _ _⟩
set_option maxRecDepth 100000 in
theorem zz_truth (b : Bool) (w : World) : Calls Tryd.prog 36 #[.iface 4 (.bool b)] w fun e w' => e = .returned (.string ⟨(Lib.formatBool b).toArray⟩) ∧ Below w.heap.size w w' := by
  go_enter Tryd.func36, Tryd.ntmps36
  go_wp2_with (first
    | (go_at_call 18; refine (Tryd.strconv_FormatBool _ _).mono ?_; rintro e w3 ⟨rfl, rfl⟩))
  go_ret
  exact ⟨rfl, Below.refl _ _⟩
set_option maxRecDepth 100000 in
theorem zz_number (x : Nat) (L : List UInt8) (w : World) (h : ∀ W g, Below w.heap.size w W → Row24 g [] W → Calls Tryd.prog 82 #[.slice (some ⟨g, 0, none⟩) 0 24, .float .f64 x, .int .u8 103, .int .i64 (-1)] W (FmtP g L W)) :
    Calls Tryd.prog 36 #[.iface 22 (.float .f64 x)] w (TextP L w) := by
  have H := Lib.hid (sff_walk x L w h)
  clear h
  go_enter Tryd.func36, Tryd.ntmps36
  go_wp2_with (first
    | (go_at_call 45; refine (Calls.mono H.out ?_); rintro e w3 ⟨rfl, hb⟩))
  go_ret
  exact ⟨rfl, hb⟩

set_option maxRecDepth 100000 in
theorem zzText_of (w : World) (v : Value) (s : ByteArray) (h : Calls Tryd.prog 36 #[v] w fun e w' => e = .returned (.string s) ∧ Below w.heap.size w w') :
    Calls Tryd.prog 27 #[v] w fun e w' => e = .returned (.string s) ∧ Below w.heap.size w w' := by
  have H := Lib.hid h
  clear h
  go_enter Tryd.func27, Tryd.ntmps27
  go_wp2_with (go_at_call 36; refine (Calls.mono H.out ?_); rintro e w' ⟨rfl, hb⟩)
  go_ret
  exact ⟨rfl, hb⟩

section
variable (b : Bool) (x : Nat) (t : ByteArray) (A : Option Addr) (n c : Nat) (B : Option Addr) (m d : Nat) (w : World)
set_option maxRecDepth 100000 in
theorem textOf_of (k : Int) (v : Value) (s : ByteArray)
    (h1 : ∀ W, Calls Tryd.prog 21 #[vOf k b x t A n c B m d] W fun e w' => e = .returned v ∧ Below W.heap.size W w')
    (h2 : ∀ W, Below w.heap.size w W → Calls Tryd.prog 36 #[v] W fun e w' => e = .returned (.string s) ∧ Below W.heap.size W w') :
    Calls Tryd.prog 15 #[vOf k b x t A n c B m d] w fun e w' => e = .returned (.string s) ∧ Below w.heap.size w w' := by
  have H1 := fun W => Lib.hid (h1 W)
  have H2 := fun W hW => Lib.hid (zzText_of W v s (h2 W hW))
  clear h1 h2
  go_enter Tryd.func15, Tryd.ntmps15
  go_wp2_with (first
    | (go_at_call 21; refine (Calls.mono (H1 _).out ?_); rintro e w1 ⟨rfl, hb1⟩)
    | (go_at_call 27; refine (Calls.mono (H2 _ (below_seq (below_new _ _) hb1)).out ?_); rintro e w2 ⟨rfl, hb2⟩))
  go_ret
  exact ⟨rfl, below_seq (below_seq (below_new _ _) hb1) hb2⟩
end
end Go.Proofs.YtodpjpbkefihfaaDoor
