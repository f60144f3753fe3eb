/-
A Value that comes in as an argument, opened to its parts.
-/
import Derived.Test.YtodpjpbkefihfaaDoorLa
import Derived.Lib.SmallJoins
import Derived.SliceStrings
import Derived.Deep.Fields
namespace Go.Proofs.YtodpjpbkefihfaaDoor
open Go.Joins Go.ChangeShapes Go.WideShapes Go.RowKit Go.Deep

section
variable {H : Type} {enc : TypeId × Value → H} {P : Program} {W : World} {base : Nat} {spare : Nat → Bool} {held : Bool}
/-- A struct of six one-cell fields, by value: its cells, each with its own reading. -/
theorem six_cells {r : Reach} {b0 : Nat} {t : TypeId} {f0 f1 f2 f3 f4 f5 : Field} {v : Value} {d : DataW H} {p : List MemPlace} (hs : P.underlying t = some (.struct #[f0, f1, f2, f3, f4, f5])) (hone : oneCellFields P #[f0, f1, f2, f3, f4, f5] = true) (hC : P.cellsOf t = 6)
    (hv : Value.okWide P W r b0 t v) (h : DataW.Trod enc P W base spare held t v d p) :
    ∃ (v0 v1 v2 v3 v4 v5 : Value) (n : Nat), v = .agg #[v0, v1, v2, v3, v4, v5] ∧
      (∃ y, DataW.trod enc P W base spare held n f0.type [v0] = some y) ∧ (∃ y, DataW.trod enc P W base spare held n f1.type [v1] = some y) ∧ (∃ y, DataW.trod enc P W base spare held n f2.type [v2] = some y) ∧
      (∃ y, DataW.trod enc P W base spare held n f3.type [v3] = some y) ∧ (∃ y, DataW.trod enc P W base spare held n f4.type [v4] = some y) ∧ (∃ y, DataW.trod enc P W base spare held n f5.type [v5] = some y) := by
  obtain ⟨cs, rfl, hsz⟩ := okWide_struct hs hv
  obtain ⟨l⟩ := cs
  match l, hsz.trans hC with
  | [c0, c1, c2, c3, c4, c5], _ =>
    obtain ⟨fuel, hf⟩ := h
    obtain ⟨xs, n, _, _, _, hlen, hg⟩ := DataW.trod_struct hs hf
    obtain ⟨o0, k0⟩ := hone_of hone 0 f0 rfl
    obtain ⟨o1, k1⟩ := hone_of hone 1 f1 rfl
    obtain ⟨o2, k2⟩ := hone_of hone 2 f2 rfl
    obtain ⟨o3, k3⟩ := hone_of hone 3 f3 rfl
    obtain ⟨o4, k4⟩ := hone_of hone 4 f4 rfl
    obtain ⟨o5, k5⟩ := hone_of hone 5 f5 rfl
    match xs, hlen with
    | [y0, y1, y2, y3, y4, y5], _ =>
      exact ⟨c0, c1, c2, c3, c4, c5, n, rfl, ⟨y0, by simpa [Value.cells, o0, k0] using hg 0 f0 rfl⟩, ⟨y1, by simpa [Value.cells, o1, k1] using hg 1 f1 rfl⟩, ⟨y2, by simpa [Value.cells, o2, k2] using hg 2 f2 rfl⟩, ⟨y3, by simpa [Value.cells, o3, k3] using hg 3 f3 rfl⟩, ⟨y4, by simpa [Value.cells, o4, k4] using hg 4 f4 rfl⟩, ⟨y5, by simpa [Value.cells, o5, k5] using hg 5 f5 rfl⟩⟩
end

theorem cells26 : Tryd.prog.cellsOf 26 = 6 := by kernel_rfl
theorem cells9 : Tryd.prog.cellsOf 9 = 1 := by kernel_rfl
theorem laidOut : laidOutB Tryd.prog = true := by kernel_rfl

section
variable {H : Type} {enc : TypeId × Value → H} {W : World}
set_option maxRecDepth 100000 in
theorem open_value {v : Value} {d : DataW H} {p : List MemPlace} {b0 : Nat} (hv : Value.okWide Tryd.prog W .any b0 26 v) (h : DataW.Trod enc Tryd.prog W 0 (fun _ => true) true 26 v d p) :
    ∃ (k : Int) (b : Bool) (x : Nat) (t : ByteArray) (A : Option Addr) (n c : Nat) (B : Option Addr) (m e : Nat), v = vOf k b x t A n c B m e ∧ Names W A n ∧ m ≤ 9223372036854775807 ∧ t.size ≤ 9223372036854775807 := by
  obtain ⟨v0, v1, v2, v3, v4, v5, n, rfl, ⟨y0, h0⟩, ⟨y1, h1⟩, ⟨y2, h2⟩, ⟨y3, h3⟩, ⟨y4, h4⟩, ⟨y5, h5⟩⟩ := six_cells Tryd.underlying26 (by kernel_rfl) cells26 hv h
  obtain ⟨k, e0, _, _⟩ := DataW.trod_int Tryd.underlying3 h0
  obtain ⟨b, e1, _⟩ := DataW.trod_bool Tryd.underlying4 h1
  obtain ⟨x, e2, _, _⟩ := trod_float Tryd.underlying22 h2
  obtain ⟨t, e3, _, ht⟩ := DataW.trod_string Tryd.underlying9 h3
  simp only [List.cons.injEq, and_true] at e0 e1 e3
  subst e0 e1 e2 e3
  have ht' : t.size ≤ 9223372036854775807 := by unfold maxLen at ht; omega
  have hN : ∃ (A : Option Addr) (n c : Nat), v4 = .slice A n c ∧ Names W A n := by
    rcases open_strings Tryd.underlying23 Tryd.underlying9 cells9 h4 with ⟨hc, _⟩ | ⟨a, len, cap, ss, hc, _, hl, hm, hsl, _, hcell, hws⟩
    · simp only [List.cons.injEq, and_true] at hc
      exact ⟨none, 0, 0, hc, by omega, fun h => by omega⟩
    · simp only [List.cons.injEq, and_true] at hc
      simp only [if_true] at hsl
      unfold maxLen at hm
      refine ⟨some a, len, cap, hc, by omega, fun hpos => ⟨a, rfl, ?_, fun i hi => ?_⟩⟩
      · have h0 := World.block_lt_of_cell? _ _ (hcell 0 (by omega))
        have e : (a.add 0).block = a.block := by unfold Addr.add; split <;> rfl
        rw [e] at h0
        exact h0
      · refine ⟨ss.getD i ByteArray.empty, ?_, hcell i (by omega)⟩
        have hi' : i < ss.length := by omega
        have hmem : ss.getD i ByteArray.empty ∈ ss := by
          rw [List.getD_eq_getElem?_getD, List.getElem?_eq_getElem hi']
          exact List.getElem_mem hi'
        have := hws _ hmem
        unfold maxLen at this
        omega
  have hM : ∃ (B : Option Addr) (m e : Nat), v5 = .slice B m e ∧ m ≤ 9223372036854775807 := by
    rcases open_slice Tryd.underlying24 h5 with ⟨hc, _⟩ | ⟨a, len, cap, m, n', D, Pl, hc, _, hl, hm, _, _, _⟩
    · simp only [List.cons.injEq, and_true] at hc
      exact ⟨none, 0, 0, hc, by omega⟩
    · simp only [List.cons.injEq, and_true] at hc
      unfold maxLen at hm
      exact ⟨some a, len, cap, hc, by omega⟩
  obtain ⟨A, n, c, rfl, hN⟩ := hN
  obtain ⟨B, m, e, rfl, hm⟩ := hM
  exact ⟨k, b, x, t, A, n, c, B, m, e, rfl, hN, hm, ht'⟩
end
end Go.Proofs.YtodpjpbkefihfaaDoor
