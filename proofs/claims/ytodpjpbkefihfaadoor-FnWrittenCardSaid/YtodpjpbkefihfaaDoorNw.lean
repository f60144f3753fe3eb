/-
FnWritten is true for every text, every number and every truth: a Value's text is the text, the number's decimal numeral (from -100000 to 100000), the truth's word; the row over every argument, and its tied card.
Conditions: the listed variables of Go's library (the powers of ten, whole and scaled, and four more) hold what the program's text lays in them; the card ties that to the text. No bound of size beyond the form's own.
-/
import Derived.Test.YtodpjpbkefihfaaDoorCards
import Derived.Test.YtodpjpbkefihfaaDoorTie
import Derived.Test.YtodpjpbkefihfaaDoorLb
import Derived.RowKit
import Derived.ChangeMaps5
import Derived.Lay
namespace Go.Proofs.YtodpjpbkefihfaaDoor
open Go.ChangeShapes Go.WideShapes Go.ChangeAt Go.RowKit

namespace Wri
theorem own : ownKnob Tryd.prog.godebug = none := by kernel_rfl
theorem laidOut5 : laidOutB Tryd.prog = true := by kernel_rfl
/-- The arguments of the witness. -/
abbrev args0 : Array Value := #[.string { data := #[] }, .int .i64 0, .bool false]

theorem mem_tab : ("internal/strconv.uint64pow10", Rows.laid_internal_strconv_uint64pow10) ∈ Rows.fnWrittenRow.laid := .tail _ (.tail _ (.tail _ (.head _)))
theorem mem_pow : ("internal/strconv.pow10Tab", Rows.laid_internal_strconv_pow10Tab) ∈ Rows.fnWrittenRow.laid := .tail _ (.tail _ (.tail _ (.tail _ (.tail _ (.head _)))))

set_option maxRecDepth 100000 in
theorem laid_fits (os : Os) : (World.holding Tryd.prog os ⟨#[], #[], []⟩).layFits Tryd.prog Rows.fnWrittenRow.laid [] = true := by kernel_rfl
set_option maxRecDepth 100000 in
theorem laid_ifaces (os : Os) : (World.holding Tryd.prog os ⟨#[], #[], []⟩).layIfaces Tryd.prog Rows.fnWrittenRow.laid (World.laidAll Tryd.prog os Rows.fnWrittenRow.laid) = true := by kernel_rfl
theorem laid_plain : (Rows.fnWrittenRow.laid.all fun x => x.2.handleName?.isNone) = true := by kernel_rfl
theorem laid_met (os : Os) : laidMetH Tryd.prog Rows.fnWrittenRow.laid ((World.laidAll Tryd.prog os Rows.fnWrittenRow.laid).forCall (fun _ _ => 0) ⟨#[], args0, []⟩).memory := by
  rw [MakeChecks.laidMetH_plain _ _ _ laid_plain]
  exact laidMet_laidAll _ (laid_fits os) (laid_ifaces os)
set_option maxRecDepth 100000 in
theorem laid_shaped (os : Os) : ((World.laidAll Tryd.prog os Rows.fnWrittenRow.laid).forCall (fun _ _ => 0) ⟨#[], args0, []⟩).Shaped Tryd.prog := World.shaped_of_ZipB (by kernel_rfl) (by kernel_rfl)

set_option maxRecDepth 100000 in
/-- WHAT THE WALK GIVES, FOR EVERY ARGUMENT AND EVERY WORLD THAT HOLDS THE VARIABLES. -/
theorem contract (H : Type) (enc : TypeId × Value → H) (W : World) (base : Nat) (args : Array Value) (ds gs : List (DataW H)) (before : List MemPlace)
    (hval0 : ∀ (j : Nat) t v, Tryd.f5.params[j]? = some t → args[j]? = some v → Value.okWide Tryd.prog W .any base t v)
    (hW : DataW.Whole enc Tryd.prog Tryd.f5.params.toList Rows.fnWrittenSpec.vars false W args.toList ds gs before) (hL : laidMetH Tryd.prog Rows.fnWrittenRow.laid W) :
    Calls Tryd.prog 5 args W fun e W' => ∃ v, e = .returned v ∧ Rows.fnWrittenSpec.post enc Tryd.prog Tryd.f5 false true false false W args v W' := by
  have hval := hval0
  have hW' := hW
  obtain ⟨p, q, hA0, hV, rfl, hfz, hnd⟩ := hW
  have hA : DataW.TrodAll enc Tryd.prog W 0 (fun _ => true) true Tryd.f5.params.toList args.toList ds p := hA0
  rw [Tryd.params5] at hA hval
  obtain ⟨v0, v1, v2, d0, d1, d2, p0, p1, p2, rfl, rfl, rfl, h0, h1, h2⟩ := trodAll_three hA
  obtain ⟨rfl, rfl⟩ := trodVars_none hV
  simp only [List.append_nil] at hW'
  rw [MakeChecks.laidMetH_plain _ _ _ laid_plain] at hL
  have T := tabs5_of hL mem_tab mem_pow
  obtain ⟨t, rfl, rfl, rfl, _⟩ := Go.ChangeMaps.open_string Tryd.underlying9 (hval 0 9 v0 rfl rfl) h0
  obtain ⟨n, rfl, rfl, rfl, _⟩ := open_int Tryd.underlying3 (hval 1 3 v1 rfl rfl) h1
  obtain ⟨b, rfl, rfl, rfl⟩ := open_bool Tryd.underlying4 (hval 2 4 v2 rfl rfl) h2
  refine (wr_all t n b W T).mono fun e W' ⟨he, hb⟩ => ?_
  subst he
  have hlt : ∀ x ∈ ([] : List MemPlace), x.block < W.heap.size := fun x hx => by cases hx
  have ha := trodAll_mk3 (Below.trod laidOut5 (by kernel_rfl) (of_decide_eq_true (by kernel_rfl)) h0 hb hlt) (Below.trod laidOut5 (by kernel_rfl) (of_decide_eq_true (by kernel_rfl)) h1 hb hlt) (Below.trod laidOut5 (by kernel_rfl) (of_decide_eq_true (by kernel_rfl)) h2 hb hlt)
  exact ⟨_, rfl, _, _, _, [], [], [], hW', trodAll_mk1 (shut_bool Tryd.underlying4 _), ha, rfl, hb.frame _, fun h => by cases h⟩

set_option maxRecDepth 100000 in
theorem lifted (os : Os) (started : os.Started) (H : Type) (enc : TypeId × Value → H) :
    ReturnsInHanded {} Tryd.checked os 5 .any (fun w args => (Rows.fnWrittenSpec.pre enc Tryd.prog Tryd.f5 [] false w args ∧ laidMetH Tryd.prog Rows.fnWrittenRow.laid w) ∧ sizedMet enc Tryd.prog Tryd.f5 (OpenSpec.ofChange Rows.fnWrittenSpec) false w args)
      (Rows.fnWrittenSpec.post enc Tryd.prog Tryd.f5 false true false false) := by
  refine returnsInHanded_of_change_and (C := Tryd.checked) (X := fun w _ => laidMetH Tryd.prog Rows.fnWrittenRow.laid w) (fun _ _ _ hh h => h.of_heap hh) own started (by kernel_rfl) Tryd.func5
    (ChangeSpec.witness_shaped (enc := enc) (C := Tryd.checked) (os := os) (X := fun w _ => laidMetH Tryd.prog Rows.fnWrittenRow.laid w) false (World.laidAll Tryd.prog os Rows.fnWrittenRow.laid) args0 8 (World.laidAll_os _ _ _)
      (laid_shaped os) (by kernel_rfl) (by kernel_rfl) (by kernel_rfl) (laid_met os)) ?_
  intro W base args ds gs before hval0 hW _ _ hL _
  exact contract H enc W base args ds gs before hval0 hW hL

theorem said : Rows.FnWrittenSaid :=
  OpenClaim.holds_of_wide 5 Tryd.f5 rfl rfl rfl rfl rfl rfl rfl ⟨rfl, rfl, rfl, rfl, rfl⟩ rfl rfl rfl rfl rfl (by kernel_rfl) Tryd.func5 (by kernel_rfl)
    (of_decide_eq_true (by kernel_rfl)) (by unfold Func.isWrapper; first | (rw [if_pos (by decide +kernel)]; kernel_rfl) | (rw [if_neg (by decide +kernel)]; exact ⟨rfl, rfl⟩))
    (fun os started H enc _ => lifted os started H enc)

/-- No parameter wants a stand-in; what the program's own looks say. -/
theorem plain (f : FuncId) (fn : Func) (hf : Tryd.pinned.checked.prog.funcNamed "loop.example/pub-g01480/laws.FnWritten" = some f) (hfn : Tryd.pinned.checked.prog.funcs[f]? = some fn) :
    true = Tryd.pinned.checked.prog.looks [] ∧ ∀ (j : Nat) t, fn.params[j]? = some t → Tryd.pinned.checked.prog.wantsStandIn t = false := by
  obtain rfl : f = 5 := Option.some.inj ((show Tryd.prog.funcNamed "loop.example/pub-g01480/laws.FnWritten" = some 5 by kernel_rfl).symm.trans hf) |>.symm
  obtain rfl : fn = Tryd.f5 := (Option.some.inj (Tryd.func5.symm.trans hfn)).symm
  refine ⟨by kernel_rfl, fun j t ht => ?_⟩
  rw [Tryd.params5] at ht
  have hm : t = 9 ∨ t = 3 ∨ t = 4 := by simpa using Array.mem_of_getElem? ht
  rcases hm with rfl | rfl | rfl
  · exact (show Tryd.prog.wantsStandIn 9 = false by kernel_rfl)
  · exact (show Tryd.prog.wantsStandIn 3 = false by kernel_rfl)
  · exact (show Tryd.prog.wantsStandIn 4 = false by kernel_rfl)

/-- THE CARD. -/
theorem card : Rows.FnWrittenCardSaid :=
  Claim7.holds_tied_plain_at .later [] _ _ _ _ said (fun _ h => by cases h) (by kernel_rfl) (fun _ h => by cases h) fnWritten_row_tie rfl ⟨rfl, rfl⟩ (by kernel_rfl) rfl plain (by kernel_rfl)
end Wri
/-- THE STATEMENT. -/
theorem fnWritten_card : Rows.FnWrittenCardSaid := Wri.card
#print axioms fnWritten_card
end Go.Proofs.YtodpjpbkefihfaaDoor
