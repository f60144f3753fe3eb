/-
What the list of FnWritten's row gives the walks: the powers of ten, whole and scaled.
-/
import Derived.Test.YtodpjpbkefihfaaDoorRows
import Derived.Test.YtodpjpbkefihfaaDoorWm
import Derived.ProofKit
import Derived.Lib.LaidU8
import Derived.LaidLaws
import Derived.Deep.Slices
import Derived.OpenShut
namespace Go.Proofs.YtodpjpbkefihfaaDoor
open Go.Lib Go.Deep

theorem g2 : Tryd.prog.globalNamed "internal/strconv.uint64pow10" = some 2 := by kernel_rfl
theorem g11 : Tryd.prog.globalNamed "internal/strconv.pow10Tab" = some 11 := by kernel_rfl
theorem t2 : (Tryd.prog.globals[2]?).map (·.type) = some 102 := by kernel_rfl
theorem t11 : (Tryd.prog.globals[11]?).map (·.type) = some 184 := by kernel_rfl
theorem cells72 : Tryd.prog.cellsOf 72 = 1 := by kernel_rfl
theorem cells183 : Tryd.prog.cellsOf 183 = 2 := by kernel_rfl
theorem cells102 : Tryd.prog.cellsOf 102 = 20 := by kernel_rfl

theorem tab_of {W : World} (h : VarReads Tryd.prog W "internal/strconv.uint64pow10" Rows.laid_internal_strconv_uint64pow10) : Lib.TabIs Tryd.prog W "internal/strconv.uint64pow10" .u64 Lib.pow10Tab := by
  obtain ⟨g, t, cs, fuel, p, hg, hty, hvar, hd⟩ := h
  obtain rfl := Option.some.inj (g2.symm.trans hg)
  obtain rfl := Option.some.inj (t2.symm.trans hty)
  have e : (Rows.laid_internal_strconv_uint64pow10 : DataW Unit) = tabData .u64 pow10Tab := by rfl
  rw [e] at hd
  have hc := cells_of_tab Tryd.underlying102 Tryd.underlying72 cells72 cells102 hd
  unfold TabIs
  rw [hvar, ← hc]


theorem lit_at {W : World} {cs : List Value} {i : Nat} {a : Int} {fuel : Nat} {p : List MemPlace} (h : DataW.trod (fun _ => ()) Tryd.prog W 0 (fun _ => true) false fuel 72 ((cs.drop i).take 1) = some (.lit (.int .u64 a), p)) : cs[i]? = some (.int .u64 a) := by
  obtain ⟨z, hc, hx, _⟩ := DataW.trod_int Tryd.underlying72 h
  simp only [Prod.mk.injEq, DataW.lit.injEq, Lit.int.injEq, true_and] at hx
  have h1 := congrArg (·[0]?) hc
  rw [← hx.1] at h1
  simpa [List.getElem?_take, List.getElem?_drop] using h1

theorem pow_rows_of {W : World} (h : VarReads Tryd.prog W "internal/strconv.pow10Tab" Rows.laid_internal_strconv_pow10Tab) (i a b : Nat) (hi : i < 696) (hr : Go.Pinned.pow10Rows[i]? = some (a, b)) :
    W.cell? ⟨11, 2 * i, none⟩ = some (.int .u64 a) ∧ W.cell? ⟨11, 2 * i + 1, none⟩ = some (.int .u64 b) := by
  obtain ⟨g, t, cs, fuel, p, hg, hty, hvar, hd⟩ := h
  obtain rfl := Option.some.inj (g11.symm.trans hg)
  obtain rfl := Option.some.inj (t11.symm.trans hty)
  obtain ⟨xs, m, _, hx, _, hl, hf⟩ := DataW.trod_array Tryd.underlying184 hd
  have e0 := congrArg Prod.fst hx
  have e1 : (Rows.laid_internal_strconv_pow10Tab : DataW Unit) = .agg (Go.Pinned.pow10Rows.map fun x => .agg [.lit (.int .u64 x.1), .lit (.int .u64 x.2)]) := rfl
  rw [e1] at e0
  simp only [DataW.agg.injEq] at e0
  have hm := hf i hi
  rw [cells183] at hm
  obtain ⟨y, hy⟩ : ∃ y, xs[i]? = some y := ⟨_, List.getElem?_eq_getElem (by omega)⟩
  rw [hy] at hm
  have hy1 : y.1 = .agg [.lit (.int .u64 a), .lit (.int .u64 b)] := by
    have := congrArg (·[i]?) e0
    simp only [List.getElem?_map, hr, hy, Option.map_some, Option.some.injEq] at this
    exact this.symm
  obtain ⟨zs, n, _, hz, _, hzl, hzf⟩ := DataW.trod_struct Tryd.underlying183 hm
  have hz1 : y.1 = .agg (zs.map (·.1)) := congrArg Prod.fst hz
  rw [hy1] at hz1
  simp only [DataW.agg.injEq] at hz1
  have c0 := hzf 0 _ rfl
  have c1 := hzf 1 _ rfl
  match zs, hz1 with
  | [u, v], hz1 =>
    simp only [List.map_cons, List.map_nil, List.cons.injEq, and_true] at hz1
    obtain ⟨u1, u2⟩ := u
    obtain ⟨v1, v2⟩ := v
    obtain ⟨rfl, rfl⟩ := hz1
    have k0 : ((cs.toList.drop (i * 2)).take 2)[0]? = some (.int .u64 a) := lit_at (W := W) (p := u2) (fuel := n) (by
      have h : DataW.trod (fun _ => ()) Tryd.prog W 0 (fun _ => true) false n 72 ((((cs.toList.drop (i * 2)).take 2).drop 0).take (Tryd.prog.cellsOf 72)) = some (.lit (.int .u64 a), u2) := c0
      rw [cells72] at h
      exact h)
    have k1 : ((cs.toList.drop (i * 2)).take 2)[1]? = some (.int .u64 b) := lit_at (W := W) (p := v2) (fuel := n) (by
      have h : DataW.trod (fun _ => ()) Tryd.prog W 0 (fun _ => true) false n 72 ((((cs.toList.drop (i * 2)).take 2).drop 1).take (Tryd.prog.cellsOf 72)) = some (.lit (.int .u64 b), v2) := c1
      rw [cells72] at h
      exact h)
    have r0 := World.var?_cell hg hvar (2 * i)
    have r1 := World.var?_cell hg hvar (2 * i + 1)
    rw [r0, r1, ← Array.getElem?_toList, ← Array.getElem?_toList]
    constructor
    · simpa [List.getElem?_take, List.getElem?_drop, Nat.mul_comm] using k0
    · simpa [List.getElem?_take, List.getElem?_drop, Nat.mul_comm] using k1

theorem row_at : ∀ p : Fin 17, 11 ≤ p.val → Go.Pinned.pow10Rows[p.val + 348]? = some (pc p.val, 0) := by decide +kernel

/-- WHAT THE ROW's LIST GIVES. -/
theorem tabs5_of {W : World} {l : List (String × DataW Unit)} (h : laidMet Tryd.prog l W)
    (h1 : ("internal/strconv.uint64pow10", Rows.laid_internal_strconv_uint64pow10) ∈ l) (h2 : ("internal/strconv.pow10Tab", Rows.laid_internal_strconv_pow10Tab) ∈ l) : Tabs5 W :=
  ⟨tab_of (laidMet.reads h h1), fun p p1 p2 => pow_rows_of (laidMet.reads h h2) (p + 348) (pc p) 0 (by omega) (row_at ⟨p, by omega⟩ p1)⟩
end Go.Proofs.YtodpjpbkefihfaaDoor
