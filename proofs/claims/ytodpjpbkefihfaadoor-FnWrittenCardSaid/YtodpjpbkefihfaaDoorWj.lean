/-
Walks: FormatFloat, zzText, TextOf.
-/
import Derived.Test.YtodpjpbkefihfaaDoorWi
namespace Go.Proofs.YtodpjpbkefihfaaDoor
open Go.RowKit Go.Sort Go.Lib

/-- The call gives the text L, and turns nothing of what was there. -/
def TextP (L : List UInt8) (w : World) (e : Ending) (w' : World) : Prop := e = .returned (.string ⟨L.toArray⟩) ∧ Below w.heap.size w w'

theorem row_string {g : Nat} {L : List UInt8} {w : World} (h : Row24 g L w) : (convert 75 9 (.slice (some ⟨g, 0, none⟩) L.length 24)).run Tryd.prog w = .ok (.string ⟨L.toArray⟩) w := by
  refine run_convert_bytes_back (P := Tryd.prog) w 75 9 5 ⟨g, 0, none⟩ 24 L Tryd.underlying75 Tryd.underlying5 Tryd.underlying9 (fun j hj => ?_)
  exact World.ownsRow.cells h rfl j _ (by simp [hj])

theorem make24 (W : World) : (Instr.makeSlice 75 (.int .i64 0) (.int .i64 24)).run Tryd.prog W = .ok (.slice (some ⟨W.heap.size, 0, none⟩) 0 24) (W.alloc (.cells Lib.zeros24 5)) := by kernel_rfl

set_option maxRecDepth 100000 in
theorem ff_walk (x : Nat) (L : List UInt8) (w : World) (h : ∀ W g, Below w.heap.size w W → Row24 g [] W → Calls Tryd.prog 82 #[.slice (some ⟨g, 0, none⟩) 0 24, .float .f64 x, .int .u8 103, .int .i64 (-1)] W (FmtP g L W)) :
    Calls Tryd.prog 57 #[.float .f64 x, .int .u8 103, .int .i64 (-1), .int .i64 64] w (TextP L w) := by
  have hr0 : Row24 w.heap.size [] (w.alloc (.cells Lib.zeros24 5)) := World.ownsRow_made w Lib.zeros24 24 (Nat.le_refl _) (by decide) rfl
  have H := Lib.hid (h _ w.heap.size (below_new w _) hr0)
  clear h hr0
  have hmx : max (3 : Int) 24 = 24 := rfl
  have hmk := make24
  go_enter Tryd.func57, Tryd.ntmps57
  go_wp2_with fail
  refine (Calls.mono H.out ?_)
  rintro e w3 ⟨rfl, hr3, hg3⟩
  have hcv := row_string hr3
  have hb : Below w.heap.size w w3 := ⟨hg3.os, hg3.tape, hg3.output, Nat.le_trans (below_new w _).size hg3.size, fun k hk => (hg3.block k (by have := (below_new w (.cells Lib.zeros24 5)).size; omega) (by simp; omega)).trans ((below_new w _).block k hk)⟩
  have HB := Lib.hid hb
  clear hb hr3 hg3 hmk
  go_wp2
  go_ret
  exact ⟨rfl, HB.out⟩

set_option maxRecDepth 100000 in
theorem sff_walk (x : Nat) (L : List UInt8) (w : World) (h : ∀ W g, Below w.heap.size w W → Row24 g [] W → Calls Tryd.prog 82 #[.slice (some ⟨g, 0, none⟩) 0 24, .float .f64 x, .int .u8 103, .int .i64 (-1)] W (FmtP g L W)) :
    Calls Tryd.prog 45 #[.float .f64 x, .int .u8 103, .int .i64 (-1), .int .i64 64] w (TextP L w) := by
  have H := Lib.hid (ff_walk x L w h)
  clear h
  go_enter Tryd.func45, Tryd.ntmps45
  go_wp2_with (first
    | (go_at_call 57; refine (Calls.mono H.out ?_); rintro e w3 ⟨rfl, hb⟩))
  go_ret
  exact ⟨rfl, hb⟩
end Go.Proofs.YtodpjpbkefihfaaDoor
