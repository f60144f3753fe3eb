/-
What the row's list of variables gives the walks: the cells of float64info, optimize, float64pow10 and ErrSyntax.
-/
import Derived.Test.YtodpjpbkefihfaaDoorRows
import Derived.Test.YtodpjpbkefihfaaDoorVb
import Derived.ProofKit
import Derived.Lib.LaidU8
import Derived.LaidLaws
import Derived.Deep.Slices
namespace Go.Proofs.YtodpjpbkefihfaaDoor
open Go.Lib Go.Deep

theorem g0 : Tryd.prog.globalNamed "strconv.ErrSyntax" = some 0 := by kernel_rfl
theorem g4 : Tryd.prog.globalNamed "internal/strconv.optimize" = some 4 := by kernel_rfl
theorem g5 : Tryd.prog.globalNamed "internal/strconv.float64info" = some 5 := by kernel_rfl
theorem g8 : Tryd.prog.globalNamed "internal/strconv.float64pow10" = some 8 := by kernel_rfl
theorem t0 : (Tryd.prog.globals[0]?).map (·.type) = some 47 := by kernel_rfl
theorem t4 : (Tryd.prog.globals[4]?).map (·.type) = some 4 := by kernel_rfl
theorem t5 : (Tryd.prog.globals[5]?).map (·.type) = some 112 := by kernel_rfl
theorem t8 : (Tryd.prog.globals[8]?).map (·.type) = some 159 := by kernel_rfl
theorem cells22 : Tryd.prog.cellsOf 22 = 1 := by kernel_rfl
theorem cells80 : Tryd.prog.cellsOf 80 = 1 := by kernel_rfl

theorem one_of {cs : Array Value} {v : Value} (h : cs.toList = [v]) : cs = #[v] := by
  cases cs
  simp_all

/-- A variable that reads as a truth. -/
theorem opt_of {W : World} (h : VarReads Tryd.prog W "internal/strconv.optimize" (.lit (.bool true))) : W.cell? ⟨4, 0, none⟩ = some (.bool true) := by
  obtain ⟨g, t, cs, fuel, p, hg, hty, hvar, hd⟩ := h
  obtain rfl := Option.some.inj (g4.symm.trans hg)
  obtain rfl := Option.some.inj (t4.symm.trans hty)
  obtain ⟨b, hcs, hx⟩ := DataW.trod_bool Tryd.underlying4 hd
  have hb : b = true := by simpa using (congrArg Prod.fst hx).symm
  have h0 := World.var?_cell hg hvar 0
  rw [one_of hcs, hb] at h0
  simpa using h0

theorem syn_of {W : World} {d : DataW Unit} {s : String} (h : VarReads Tryd.prog W "strconv.ErrSyntax" (.iface s d)) : ∃ (tp : TypeId) (p : Value), W.cell? ⟨0, 0, none⟩ = some (.iface tp p) := by
  obtain ⟨g, t, cs, fuel, p, hg, hty, hvar, hd⟩ := h
  obtain rfl := Option.some.inj (g0.symm.trans hg)
  obtain rfl := Option.some.inj (t0.symm.trans hty)
  obtain ⟨_, u, v, hcs, _, _⟩ := iface_of_trod Tryd.underlying47 hd
  have h0 := World.var?_cell hg hvar 0
  rw [one_of hcs] at h0
  exact ⟨u, v, by simpa using h0⟩

theorem info_of {W : World} {a b : DataW Unit} (h : VarReads Tryd.prog W "internal/strconv.float64info" (.agg [.lit (.int .u64 52), a, b])) : W.cell? ⟨5, 0, none⟩ = some (.int .u64 52) := by
  obtain ⟨g, t, cs, fuel, p, hg, hty, hvar, hd⟩ := h
  obtain rfl := Option.some.inj (g5.symm.trans hg)
  obtain rfl := Option.some.inj (t5.symm.trans hty)
  obtain ⟨xs, n, _, hx, hlen, hxl, hf⟩ := DataW.trod_struct Tryd.underlying112 hd
  have hx1 := congrArg Prod.fst hx
  simp only [DataW.agg.injEq] at hx1
  have hc0 := hf 0 _ rfl
  match xs, hx1 with
  | y :: r, hx1 =>
    simp only [List.map_cons, List.cons.injEq] at hx1
    obtain ⟨z, hz, hy, _⟩ := DataW.trod_int Tryd.underlying80 (show DataW.trod _ Tryd.prog W 0 _ false n 80 _ = some y from hc0)
    have hz1 : z = 52 := by
      have h := hx1.1
      rw [hy] at h
      simpa using h.symm
    replace hz : (cs.toList.drop 0).take (Tryd.prog.cellsOf 80) = [Value.int .u64 z] := hz
    rw [cells80] at hz
    have h0 := World.var?_cell hg hvar 0
    cases hl : cs.toList with
    | nil => rw [hl] at hz; cases hz
    | cons v l =>
      rw [hl] at hz
      have hv : v = .int .u64 z := by simpa using hz
      rw [h0, ← Array.getElem?_toList, hl, hv, hz1]
      rfl

theorem trod_float {H : Type} {enc : TypeId × Value → H} {P : Program} {W : World} {base : Nat} {spare : Nat → Bool} {held : Bool} {fuel : Nat} {t : TypeId} {k : FloatKind} {v : Value} {x : DataW H × List MemPlace}
    (ht : P.underlying t = some (.float k)) (h : DataW.trod enc P W base spare held fuel t [v] = some x) : ∃ b, v = .float k b ∧ x = (.lit (.float k b), []) ∧ (Lit.float k b).wf = true := by
  cases fuel with
  | zero => simp [DataW.trod] at h
  | succ n =>
    unfold DataW.trod at h
    rw [ht] at h
    cases v <;> simp at h
    rename_i k' b
    obtain ⟨⟨rfl, hw⟩, rfl⟩ := h
    exact ⟨b, rfl, rfl, hw⟩
theorem float_of {W : World} {fuel : Nat} {v : Value} {b : Nat} {p : List MemPlace} (h : DataW.trod (fun _ => ()) Tryd.prog W 0 (fun _ => true) false fuel 22 [v] = some (.lit (.float .f64 b), p)) : v = .float .f64 b := by
  obtain ⟨b', rfl, hx, _⟩ := trod_float Tryd.underlying22 h
  simp only [Prod.mk.injEq, DataW.lit.injEq, Lit.float.injEq, true_and] at hx
  rw [hx.1]

theorem pow_data : (Rows.laid_internal_strconv_float64pow10 : DataW Unit) = .slice (p10s.map fun x => .lit (.float .f64 x)) [] := rfl
theorem p10s_length : p10s.length = 23 := rfl

theorem pow_of {W : World} (h : VarReads Tryd.prog W "internal/strconv.float64pow10" Rows.laid_internal_strconv_float64pow10) : ∃ (a : Addr) (cap : Nat), W.cell? ⟨8, 0, none⟩ = some (.slice (some a) 23 cap) ∧ ∀ j, j < 23 → W.cell? (a.add j) = some (.float .f64 (p10 j)) := by
  rw [pow_data] at h
  obtain ⟨g, t, cs, fuel, p, hg, hty, hvar, hd⟩ := h
  obtain rfl := Option.some.inj (g8.symm.trans hg)
  obtain rfl := Option.some.inj (t8.symm.trans hty)
  rcases open_slice1 Tryd.underlying159 cells22 hd with ⟨_, hx⟩ | ⟨a, len, cap, m, n, V, D, Pl, hcs, _, hlc, _, hm, hx, hcell⟩
  · cases hx
  have e0 := congrArg Prod.fst hx
  simp only [DataW.slice.injEq] at e0
  obtain ⟨eE, _⟩ := e0
  have hlen : len = 23 := by
    have := congrArg List.length eE
    simp [p10s_length] at this
    omega
  subst hlen
  simp only [if_true] at hm
  refine ⟨a, cap, ?_, fun j hj => ?_⟩
  · have h0 := World.var?_cell hg hvar 0
    rw [one_of hcs] at h0
    simpa using h0
  · obtain ⟨hc, ht⟩ := hcell j (by omega)
    have hD : D j = .lit (.float .f64 (p10 j)) := by
      have := congrArg (·[j]?) eE
      have hj' : j < p10s.length := by rw [p10s_length]; exact hj
      simp [hj, hj'] at this
      rw [← this]
      unfold p10
      rw [List.getD_eq_getElem?_getD, List.getElem?_eq_getElem hj']
      rfl
    rw [hD] at ht
    rw [hc, float_of ht]

/-- WHAT THE ROW's LIST GIVES. -/
theorem tabs_of {W : World} {l : List (String × DataW Unit)} (h : laidMet Tryd.prog l W)
    (h1 : ("internal/strconv.float64info", Rows.laid_internal_strconv_float64info) ∈ l) (h2 : ("internal/strconv.optimize", Rows.laid_internal_strconv_optimize) ∈ l)
    (h3 : ("internal/strconv.float64pow10", Rows.laid_internal_strconv_float64pow10) ∈ l) (h4 : ("strconv.ErrSyntax", Rows.laid_strconv_ErrSyntax) ∈ l) : Tabs W :=
  ⟨info_of (laidMet.reads h h1), opt_of (laidMet.reads h h2), pow_of (laidMet.reads h h3), syn_of (laidMet.reads h h4)⟩
end Go.Proofs.YtodpjpbkefihfaaDoor
