/-
Walks: impl.ToNumber, impl.ToTruth and what they call.
-/
import Derived.Test.YtodpjpbkefihfaaDoorVa
namespace Go.Proofs.YtodpjpbkefihfaaDoor
open Go.RowKit

theorem cell_below {w w' : World} (hb : Below w.heap.size w w') {p : Addr} {v : Value} (h : w.cell? p = some v) : w'.cell? p = some v :=
  (hb.cell (World.block_lt_of_cell? _ _ h)).trans h
theorem Tabs.below {w w' : World} (T : Tabs w) (hb : Below w.heap.size w w') : Tabs w' := by
  refine ⟨cell_below hb T.info, cell_below hb T.opt, ?_, ?_⟩
  · obtain ⟨a, cap, h, hc⟩ := T.pow
    exact ⟨a, cap, cell_below hb h, fun j hj => cell_below hb (hc j hj)⟩
  · obtain ⟨tp, p, h⟩ := T.syn
    exact ⟨tp, p, cell_below hb h⟩
theorem below_alloc (w : World) (o : Obj) : Below w.heap.size w (w.alloc o) := (Below.refl _ _).alloc (Nat.le_refl _) _
theorem below_trans {a b c : World} (h : Below a.heap.size a b) (k : Below b.heap.size b c) : Below a.heap.size a c := h.trans (k.mono h.size)

theorem below_drewN_refl (w : World) {N : Nat} (n : Nat) : Below N w (w.drewN n) := ⟨rfl, rfl, rfl, Nat.le_refl _, fun _ _ => rfl⟩
section
variable (b : Bool) (x : Nat) (t : ByteArray) (A : Option Addr) (n c : Nat) (B : Option Addr) (m d : Nat) (w : World)
set_option maxRecDepth 100000 in
theorem zzToFloat (v : Value) (r : Nat) (ok : Bool) (h : Calls Tryd.prog 30 #[v] w fun e w' => e = .returned (.tuple #[.float .f64 r, .bool ok]) ∧ Below w.heap.size w w') :
    Calls Tryd.prog 20 #[v] w fun e w' => e = .returned (.tuple #[.float .f64 r, .bool ok]) ∧ Below w.heap.size w w' := by
  have H := Lib.hid h
  clear h
  go_enter Tryd.func20, Tryd.ntmps20
  go_wp2_with (go_at_call 30; refine (Calls.mono H.out ?_); rintro e w' ⟨rfl, hb⟩)
  go_ret2
  exact ⟨rfl, hb⟩

set_option maxRecDepth 100000 in
/-- impl.ToNumber, by what data hands on and what convertToFloat tells of it. -/
theorem toNumber_of (k : Int) (v : Value) (r : Nat) (ok : Bool)
    (h1 : ∀ W, Calls Tryd.prog 21 #[vOf k b x t A n c B m d] W fun e w' => e = .returned v ∧ Below W.heap.size W w')
    (h2 : ∀ W, Below w.heap.size w W → Calls Tryd.prog 30 #[v] W fun e w' => e = .returned (.tuple #[.float .f64 r, .bool ok]) ∧ Below W.heap.size W w') :
    Calls Tryd.prog 7 #[vOf k b x t A n c B m d] w fun e w' => e = .returned (.tuple #[.float .f64 r, .bool ok]) ∧ Below w.heap.size w w' := by
  have H1 := fun W => Lib.hid (h1 W)
  have H2 := fun W hW => Lib.hid (zzToFloat W v r ok (h2 W hW))
  clear h1 h2
  go_enter Tryd.func7, Tryd.ntmps7
  go_wp2_with (first
    | (go_at_call 21; refine (Calls.mono (H1 _).out ?_); rintro e w1 ⟨rfl, hb1⟩)
    | (go_at_call 20; refine (Calls.mono (H2 _ (below_trans (below_alloc _ _) hb1)).out ?_); rintro e w2 ⟨rfl, hb2⟩))
  go_ret2
  exact ⟨rfl, below_trans (below_trans (below_alloc _ _) hb1) hb2⟩

theorem toNumber_number : Calls Tryd.prog 7 #[vOf 2 b x t A n c B m d] w fun e w' => e = .returned (.tuple #[.float .f64 x, .bool true]) ∧ Below w.heap.size w w' :=
  toNumber_of b x t A n c B m d w 2 _ x true (fun W => data_number b x t A n c B m d W) (fun W _ => (toFloat_float x W).mono fun _ _ ⟨he, hw⟩ => ⟨he, hw ▸ Below.refl _ _⟩)
theorem toNumber_plain (T : Tabs w) (h : plainB t.data.toList = true) : Calls Tryd.prog 7 #[vOf 3 b x t A n c B m d] w fun e w' => e = .returned (.tuple #[.float .f64 (pfOf t.data.toList), .bool true]) ∧ Below w.heap.size w w' :=
  toNumber_of b x t A n c B m d w 3 _ _ true (fun W => data_text b x t A n c B m d W) (fun W hW => (toFloat_plain t W (T.below hW) h).mono fun _ _ ⟨he, hw⟩ => ⟨he, hw ▸ Below.refl _ _⟩)
theorem toNumber_noNum (T : Tabs w) (hs : t.size ≤ 2147483647) (h : noNumB t.data.toList = true) : Calls Tryd.prog 7 #[vOf 3 b x t A n c B m d] w fun e w' => e = .returned (.tuple #[.float .f64 0, .bool false]) ∧ Below w.heap.size w w' :=
  toNumber_of b x t A n c B m d w 3 _ 0 false (fun W => data_text b x t A n c B m d W) (fun W hW => toFloat_noNum t W (T.below hW) hs h)

set_option maxRecDepth 100000 in
/-- spec.ToNumber of a number. -/
theorem specNum_number : Calls Tryd.prog 9 #[vOf 2 b x t A n c B m d] w fun e w' => e = .returned (.tuple #[.float .f64 x, .bool true, .bool true]) ∧ Below w.heap.size w w' := by
  go_enter Tryd.func9, Tryd.ntmps9
  go_wp2
  go_ret3
  exact ⟨rfl, below_alloc _ _⟩
set_option maxRecDepth 100000 in
/-- spec.ToNumber of a truth. -/
theorem specNum_truth : Calls Tryd.prog 9 #[vOf 1 b x t A n c B m d] w fun e w' => e = .returned (.tuple #[.float .f64 0, .bool false, .bool false]) ∧ Below w.heap.size w w' := by
  go_enter Tryd.func9, Tryd.ntmps9
  go_wp2
  go_ret3
  exact ⟨rfl, below_alloc _ _⟩
set_option maxRecDepth 100000 in
/-- spec.ToNumber of any other kind but a text. -/
theorem specNum_other (k : Int) (h1 : (k == 1) = false) (h2 : (k == 2) = false) (h3 : (k == 3) = false) : Calls Tryd.prog 9 #[vOf k b x t A n c B m d] w fun e w' => e = .returned (.tuple #[.float .f64 0, .bool false, .bool true]) ∧ Below w.heap.size w w' := by
  go_enter Tryd.func9, Tryd.ntmps9
  go_wp2
  go_ret3
  exact ⟨rfl, below_alloc _ _⟩
set_option maxRecDepth 100000 in
/-- spec.ToNumber of a text that is no plain number. -/
theorem specNum_text (hs : t.size ≤ 2147483647) (hp : plainB t.data.toList = false) : Calls Tryd.prog 9 #[vOf 3 b x t A n c B m d] w fun e w' => e = .returned (.tuple #[.float .f64 0, .bool false, .bool (noNumB t.data.toList)]) ∧ Below w.heap.size w w' := by
  have H1 := fun W => Lib.hid (plain_walk t W hs)
  have H2 := fun W => Lib.hid (noNum_walk t W hs)
  rw [hp] at H1
  clear hp hs
  generalize noNumB t.data.toList = q at H2 ⊢
  cases q with
  | false =>
    go_enter Tryd.func9, Tryd.ntmps9
    go_wp2_with (first
      | (go_at_call 22; refine (Calls.mono (H1 _).out ?_); rintro e w1 ⟨rfl, rfl⟩)
      | (go_at_call 24; refine (Calls.mono (H2 _).out ?_); rintro e w1 ⟨rfl, rfl⟩))
    go_ret3
    exact ⟨rfl, below_alloc _ _⟩
  | true =>
    go_enter Tryd.func9, Tryd.ntmps9
    go_wp2_with (first
      | (go_at_call 22; refine (Calls.mono (H1 _).out ?_); rintro e w1 ⟨rfl, rfl⟩)
      | (go_at_call 24; refine (Calls.mono (H2 _).out ?_); rintro e w1 ⟨rfl, rfl⟩))
    go_ret3
    exact ⟨rfl, below_alloc _ _⟩
set_option maxRecDepth 100000 in
/-- spec.ToNumber of a plain number. -/
theorem specNum_plain (T : Tabs w) (hs : t.size ≤ 2147483647) (hp : plainB t.data.toList = true) : Calls Tryd.prog 9 #[vOf 3 b x t A n c B m d] w fun e w' => e = .returned (.tuple #[.float .f64 (pfOf t.data.toList), .bool true, .bool true]) ∧ Below w.heap.size w w' := by
  have H1 := fun W => Lib.hid (plain_walk t W hs)
  have H2 := fun W hW => Lib.hid (parse_plain t W (T.below hW) hp)
  rw [hp] at H1
  clear hp hs
  generalize pfOf t.data.toList = r at H2 ⊢
  go_enter Tryd.func9, Tryd.ntmps9
  go_wp2_with (first
    | (go_at_call 22; refine (Calls.mono (H1 _).out ?_); rintro e w1 ⟨rfl, rfl⟩)
    | (go_at_call 23; refine (Calls.mono (H2 _ (below_alloc _ _)).out ?_); rintro e w1 ⟨rfl, rfl⟩))
  go_quiet (fail)
  go_wp2
  go_ret3
  exact ⟨rfl, (below_alloc _ _).trans (below_drewN_refl _ _)⟩

end
end Go.Proofs.YtodpjpbkefihfaaDoor
