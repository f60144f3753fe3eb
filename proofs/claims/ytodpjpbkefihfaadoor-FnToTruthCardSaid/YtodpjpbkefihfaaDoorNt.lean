/-
FnToTruth is true for every Value: truths, numbers and the words for truth and falsehood are converted to truths, and other texts are not; the row over every argument that can be read, and its tied card.
Conditions: the listed variables of Go's library (the floats' constants, the powers of ten, the sentinel errors, two great tables) hold what the program's text lays in them; the card ties that to the text. The argument may share memory within itself and hold loops. No bound of size beyond the form's own.
-/
import Derived.Test.YtodpjpbkefihfaaDoorCards
import Derived.Test.YtodpjpbkefihfaaDoorTie
import Derived.Test.YtodpjpbkefihfaaDoorTu
import Derived.Test.YtodpjpbkefihfaaDoorOp
import Derived.Lay
namespace Go.Proofs.YtodpjpbkefihfaaDoor
open Go.ChangeShapes Go.WideShapes Go.ChangeAt Go.RowKit

namespace Tru
theorem own : ownKnob Tryd.prog.godebug = none := by kernel_rfl
/-- The argument of the witness: nothing. -/
abbrev nothingV : Value := vOf 0 false 0 { data := #[] } none 0 0 none 0 0

theorem mem_info : ("internal/strconv.float64info", Rows.laid_internal_strconv_float64info) ∈ Rows.fnToTruthRow.laid := .tail _ (.tail _ (.tail _ (.head _)))
theorem mem_opt : ("internal/strconv.optimize", Rows.laid_internal_strconv_optimize) ∈ Rows.fnToTruthRow.laid := .tail _ (.tail _ (.tail _ (.tail _ (.head _))))
theorem mem_pow : ("internal/strconv.float64pow10", Rows.laid_internal_strconv_float64pow10) ∈ Rows.fnToTruthRow.laid := .tail _ (.tail _ (.tail _ (.tail _ (.tail _ (.tail _ (.head _))))))
theorem mem_syn : ("strconv.ErrSyntax", Rows.laid_strconv_ErrSyntax) ∈ Rows.fnToTruthRow.laid := .tail _ (.tail _ (.tail _ (.tail _ (.tail _ (.tail _ (.tail _ (.tail _ (.tail _ (.tail _ (.head _))))))))))

set_option maxRecDepth 100000 in
theorem laid_fits (os : Os) : (World.holding Tryd.prog os ⟨#[], #[], []⟩).layFits Tryd.prog Rows.fnToTruthRow.laid [] = true := by kernel_rfl
set_option maxRecDepth 100000 in
theorem laid_ifaces (os : Os) : (World.holding Tryd.prog os ⟨#[], #[], []⟩).layIfaces Tryd.prog Rows.fnToTruthRow.laid (World.laidAll Tryd.prog os Rows.fnToTruthRow.laid) = true := by kernel_rfl
theorem laid_plain : (Rows.fnToTruthRow.laid.all fun x => x.2.handleName?.isNone) = true := by kernel_rfl
theorem laid_met (os : Os) : laidMetH Tryd.prog Rows.fnToTruthRow.laid ((World.laidAll Tryd.prog os Rows.fnToTruthRow.laid).forCall (fun _ _ => 0) ⟨#[], #[nothingV], []⟩).memory := by
  rw [MakeChecks.laidMetH_plain _ _ _ laid_plain]
  exact laidMet_laidAll _ (laid_fits os) (laid_ifaces os)
set_option maxRecDepth 100000 in
theorem laid_shaped (os : Os) : ((World.laidAll Tryd.prog os Rows.fnToTruthRow.laid).forCall (fun _ _ => 0) ⟨#[], #[nothingV], []⟩).Shaped Tryd.prog := World.shaped_of_ZipB (by kernel_rfl) (by kernel_rfl)

set_option maxRecDepth 100000 in
/-- WHAT THE WALK GIVES, FOR EVERY ARGUMENT AND EVERY WORLD THAT HOLDS THE VARIABLES. -/
theorem contract (H : Type) (enc : TypeId × Value → H) (W : World) (base : Nat) (args : Array Value) (ds gs : List (DataW H)) (before : List MemPlace)
    (hval0 : ∀ (j : Nat) t v, Tryd.f4.params[j]? = some t → args[j]? = some v → Value.okWide Tryd.prog W .any base t v)
    (hW : DataW.Whole enc Tryd.prog Tryd.f4.params.toList Rows.fnToTruthSpec.vars false W args.toList ds gs before) (hL : laidMetH Tryd.prog Rows.fnToTruthRow.laid W) :
    Calls Tryd.prog 4 args W fun e W' => ∃ v, e = .returned v ∧ Rows.fnToTruthSpec.post enc Tryd.prog Tryd.f4 false true false false W args v W' := by
  have hval := hval0
  have hW' := hW
  obtain ⟨p, q, hA0, hV, rfl, hfz, hnd⟩ := hW
  have hA : DataW.TrodAll enc Tryd.prog W 0 (fun _ => true) true Tryd.f4.params.toList args.toList ds p := hA0
  rw [Tryd.params4] at hA hval
  obtain ⟨v0, d0, rfl, rfl, h0⟩ := trodAll_one hA
  obtain ⟨rfl, rfl⟩ := trodVars_none hV
  simp only [List.append_nil] at hW'
  have hlt : ∀ x ∈ p, x.block < W.heap.size := fun x hx => by simpa using hW'.lt x hx
  rw [MakeChecks.laidMetH_plain _ _ _ laid_plain] at hL
  have T := tabs_of hL mem_info mem_opt mem_pow mem_syn
  obtain ⟨k, b, x, t, A, n, c, B, m, d, rfl, hN, hm, ht⟩ := open_value (hval 0 26 v0 rfl rfl) h0
  refine (tru_all k b x t A n c B m d W T hN hm ht).mono fun e W' ⟨he, hb⟩ => ?_
  subst he
  have ha : DataW.TrodAll enc Tryd.prog W' 0 (fun b => decide (b < W.heap.size)) true [26] [vOf k b x t A n c B m d] [d0] p :=
    trodAll_mk1 (Below.trod laidOut (by kernel_rfl) (of_decide_eq_true (by kernel_rfl)) h0 hb hlt)
  exact ⟨_, rfl, _, _, _, [], p, [], hW', trodAll_mk1 (shut_bool Tryd.underlying4 _), ha, rfl, hb.frame _, fun h => by cases h⟩

set_option maxRecDepth 100000 in
theorem lifted (os : Os) (started : os.Started) (H : Type) (enc : TypeId × Value → H) :
    ReturnsInHanded {} Tryd.checked os 4 .any (fun w args => (Rows.fnToTruthSpec.pre enc Tryd.prog Tryd.f4 [] false w args ∧ laidMetH Tryd.prog Rows.fnToTruthRow.laid w) ∧ sizedMet enc Tryd.prog Tryd.f4 (OpenSpec.ofChange Rows.fnToTruthSpec) false w args)
      (Rows.fnToTruthSpec.post enc Tryd.prog Tryd.f4 false true false false) := by
  refine returnsInHanded_of_change_and (C := Tryd.checked) (X := fun w _ => laidMetH Tryd.prog Rows.fnToTruthRow.laid w) (fun _ _ _ hh h => h.of_heap hh) own started (by kernel_rfl) Tryd.func4
    (ChangeSpec.witness_shaped (enc := enc) (C := Tryd.checked) (os := os) (X := fun w _ => laidMetH Tryd.prog Rows.fnToTruthRow.laid w) false (World.laidAll Tryd.prog os Rows.fnToTruthRow.laid) #[nothingV] 8 (World.laidAll_os _ _ _)
      (laid_shaped os) (by kernel_rfl) (by kernel_rfl) (by kernel_rfl) (laid_met os)) ?_
  intro W base args ds gs before hval0 hW _ _ hL _
  exact contract H enc W base args ds gs before hval0 hW hL

theorem said : Rows.FnToTruthSaid :=
  OpenClaim.holds_of_wide 4 Tryd.f4 rfl rfl rfl rfl rfl rfl rfl ⟨rfl, rfl, rfl, rfl, rfl⟩ rfl rfl rfl rfl rfl (by kernel_rfl) Tryd.func4 (by kernel_rfl)
    (of_decide_eq_true (by kernel_rfl)) (by unfold Func.isWrapper; first | (rw [if_pos (by decide +kernel)]; kernel_rfl) | (rw [if_neg (by decide +kernel)]; exact ⟨rfl, rfl⟩))
    (fun os started H enc _ => lifted os started H enc)

/-- No parameter wants a stand-in; what the program's own looks say. -/
theorem plain (f : FuncId) (fn : Func) (hf : Tryd.pinned.checked.prog.funcNamed "loop.example/pub-g01480/laws.FnToTruth" = some f) (hfn : Tryd.pinned.checked.prog.funcs[f]? = some fn) :
    true = Tryd.pinned.checked.prog.looks [] ∧ ∀ (j : Nat) t, fn.params[j]? = some t → Tryd.pinned.checked.prog.wantsStandIn t = false := by
  obtain rfl : f = 4 := Option.some.inj ((show Tryd.prog.funcNamed "loop.example/pub-g01480/laws.FnToTruth" = some 4 by kernel_rfl).symm.trans hf) |>.symm
  obtain rfl : fn = Tryd.f4 := (Option.some.inj (Tryd.func4.symm.trans hfn)).symm
  refine ⟨by kernel_rfl, fun j t ht => ?_⟩
  rw [Tryd.params4] at ht
  obtain rfl : t = 26 := by simpa using Array.mem_of_getElem? ht
  exact (show Tryd.prog.wantsStandIn 26 = false by kernel_rfl)

/-- THE CARD. -/
theorem card : Rows.FnToTruthCardSaid :=
  Claim7.holds_tied_plain_at .later [] _ _ _ _ said (fun _ h => by cases h) (by kernel_rfl) (fun _ h => by cases h) fnToTruth_row_tie rfl ⟨rfl, rfl⟩ (by kernel_rfl) rfl plain (by kernel_rfl)
end Tru
/-- THE STATEMENT. -/
theorem fnToTruth_card : Rows.FnToTruthCardSaid := Tru.card
#print axioms fnToTruth_card
end Go.Proofs.YtodpjpbkefihfaaDoor
