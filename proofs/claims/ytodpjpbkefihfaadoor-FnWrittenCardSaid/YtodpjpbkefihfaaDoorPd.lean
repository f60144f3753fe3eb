/-
Walks: readFloat at a text that begins with a letter (no number), bool2, float64frombits, atof64exact.
-/
import Derived.Test.YtodpjpbkefihfaaDoorPa
import Derived.WalkMore
namespace Go.Proofs.YtodpjpbkefihfaaDoor
open Go.RowKit

theorem results_tmp7' {fn : Func} {a b c d e f g : Tmp} (h : fn.results = #[.tmp a, .tmp b, .tmp c, .tmp d, .tmp e, .tmp f, .tmp g]) (tmps : Array Value) (P : Program) (w : World) :
    (results fn tmps).run P w = .ok (.tuple #[tmps.getD a undef, tmps.getD b undef, tmps.getD c undef, tmps.getD d undef, tmps.getD e undef, tmps.getD f undef, tmps.getD g undef]) w := by simp [results, h]

set_option maxRecDepth 100000 in
set_option maxHeartbeats 1000000 in
theorem read_letter (s : ByteArray) (w : World) (hs : s.size ≤ 9223372036854775807) (h0 : 0 < s.size) (h1 : 65 ≤ (s[0]).toNat) (h2 : (s[0]).toNat ≠ 95) :
    Calls Tryd.prog 69 #[.string s] w fun e w' => e = .returned (.tuple #[.int .u64 0, .int .i64 0, .bool false, .bool false, .bool false, .int .i64 0, .bool false]) ∧ w = w' := by
  have hne : ¬ s = ByteArray.empty := by rintro rfl; simp at h0
  go_enter Tryd.func69, Tryd.ntmps69
  go_wp2_with fail
  go_step3
  go_wp2_with fail
  all_goals try go_step3
  all_goals go_wp2_with fail
  all_goals (refine wp_loop_rounds 1 ?_; rw [rounds_succ])
  all_goals go_wp2
  all_goals (try rw [Exit.noGoto_ret])
  all_goals (refine bodyPost_ret (results_tmp7' rfl _ _ _) rfl ⟨rfl, rfl⟩)

set_option maxRecDepth 100000 in
theorem bool2_u64 (b : Bool) (w : World) : Calls Tryd.prog 77 #[.bool b] w fun e w' => e = .returned (.int .u64 (if b then 1 else 0)) ∧ w = w' := by
  cases b <;> (go_enter Tryd.func77, Tryd.ntmps77; go_wp2; go_ret; exact ⟨rfl, rfl⟩)

/-- The table of the powers of ten, as words. -/
def p10s : List Nat := [4607182418800017408, 4621819117588971520, 4636737291354636288, 4652007308841189376, 4666723172467343360, 4681608360884174848, 4696837146684686336, 4711630319722168320, 4726483295884279808, 4741671816366391296, 4756540486875873280, 4771362005757984768, 4786511204640096256, 4801453603149578240, 4816244402031689728, 4831355200913801216, 4846369599423283200, 4861130398305394688, 4876203697187506176, 4891288408196988160, 4906019910204099648, 4921056587992461136, 4936209963552724370]
def p10 (j : Nat) : Nat := p10s.getD j 0

/-- The mantissa with its sign, as a float. -/
def mant0 (m : Nat) (neg : Bool) : Nat := if neg then Op.negFloat .f64 (floatOfInt .f64 m) else floatOfInt .f64 m
/-- What atof64exact tells at exponents from -15 to 0. -/
def pfVal (m : Nat) (e : Int) (neg : Bool) : Nat := if e = 0 then mant0 m neg else (floatBits .quo .f64 (mant0 m neg) (p10 (-e).toNat)).getD 0

theorem p10_number : ∀ j : Fin 23, ∃ (s : Bool) (m : Nat) (e : Int), FloatKind.f64.format.read (p10 j.val) = .number s m e ∧ m ≠ 0 := by
  have h : ∀ j : Fin 23, (match FloatKind.f64.format.read (p10 j.val) with | .number _ m _ => m != 0 | _ => false) = true := by decide +kernel
  intro j
  have := h j
  split at this
  · rename_i s m e hr; exact ⟨s, m, e, hr, by simpa using this⟩
  · cases this

theorem mant0_notNaN (m : Nat) (neg : Bool) : NotNaN (mant0 m neg) := by
  unfold mant0
  split
  · exact read_opposite _ (ofInt_notNaN _)
  · exact ofInt_notNaN _
theorem pf_quo (m : Nat) (e : Int) (neg : Bool) (h1 : -22 ≤ e) (h2 : e < 0) : floatBits .quo .f64 (mant0 m neg) (p10 (-e).toNat) = some (pfVal m e neg) ∧ NotNaN (pfVal m e neg) := by
  obtain ⟨s, m', e', hr, hm⟩ := p10_number ⟨(-e).toNat, by omega⟩
  obtain ⟨r, hq, hn⟩ := div_notNaN (mant0_notNaN m neg) hr hm
  have : pfVal m e neg = r := by unfold pfVal; rw [if_neg (by omega), hq]; rfl
  rw [this]
  exact ⟨hq, hn⟩
theorem pfVal_notNaN (m : Nat) (e : Int) (neg : Bool) (h1 : -22 ≤ e) (h2 : e ≤ 0) : NotNaN (pfVal m e neg) := by
  by_cases h : e = 0
  · unfold pfVal; rw [if_pos h]; exact mant0_notNaN m neg
  · exact (pf_quo m e neg h1 (by omega)).2

/-- What the road reads of the listed variables. -/
structure Tabs (w : World) : Prop where
  info : w.cell? ⟨5, 0, none⟩ = some (.int .u64 52)
  opt : w.cell? ⟨4, 0, none⟩ = some (.bool true)
  pow : ∃ (a : Addr) (cap : Nat), w.cell? ⟨8, 0, none⟩ = some (.slice (some a) 23 cap) ∧ ∀ j, j < 23 → w.cell? (a.add j) = some (.float .f64 (p10 j))
  syn : ∃ (tp : TypeId) (p : Value), w.cell? ⟨0, 0, none⟩ = some (.iface tp p)

theorem run_neg (b : Nat) (W : World) : (Op.unary .neg (.float .f64 b)).run Tryd.prog W = .ok (.float .f64 (Op.negFloat .f64 b)) W := rfl
theorem run_conv (m : Nat) (W : World) : (convert 72 22 (.int .u64 m)).run Tryd.prog W = .ok (.float .f64 (floatOfInt .f64 m)) W :=
  run_convert_int_float W 72 22 .u64 .f64 m (by rw [Tryd.underlying72]; rfl) Tryd.underlying22

set_option maxRecDepth 100000 in
/-- The walk, at an exponent 0: the float of the mantissa is x, less than nought it is y. -/
theorem exact_zero0 (m x : Nat) (w : World) (hinfo : w.cell? ⟨5, 0, none⟩ = some (.int .u64 52)) (hb : ((m : Int) / 4503599627370496 != 0) = false)
    (hc : ∀ W, (convert 72 22 (.int .u64 m)).run Tryd.prog W = .ok (.float .f64 x) W) :
    Calls Tryd.prog 79 #[.int .u64 m, .int .i64 0, .bool false] w fun e w' => e = .returned (.tuple #[.float .f64 x, .bool true]) ∧ w = w' := by
  go_enter Tryd.func79, Tryd.ntmps79
  go_wp2_with (simp only [hc])
  go_ret2
  exact ⟨rfl, rfl⟩
set_option maxRecDepth 100000 in
theorem exact_zero1 (m x y : Nat) (w : World) (hinfo : w.cell? ⟨5, 0, none⟩ = some (.int .u64 52)) (hb : ((m : Int) / 4503599627370496 != 0) = false)
    (hc : ∀ W, (convert 72 22 (.int .u64 m)).run Tryd.prog W = .ok (.float .f64 x) W)
    (hn : ∀ W, (Op.unary .neg (.float .f64 x)).run Tryd.prog W = .ok (.float .f64 y) W) :
    Calls Tryd.prog 79 #[.int .u64 m, .int .i64 0, .bool true] w fun e w' => e = .returned (.tuple #[.float .f64 y, .bool true]) ∧ w = w' := by
  go_enter Tryd.func79, Tryd.ntmps79
  go_wp2_with (first | simp only [hc] | simp only [hn])
  go_ret2
  exact ⟨rfl, rfl⟩
set_option maxRecDepth 100000 in
theorem exact_quo0 (m x j q r : Nat) (a : Addr) (cap : Nat) (w : World) (hinfo : w.cell? ⟨5, 0, none⟩ = some (.int .u64 52)) (hb : ((m : Int) / 4503599627370496 != 0) = false)
    (hp : w.cell? ⟨8, 0, none⟩ = some (.slice (some a) 23 cap)) (hcell : w.cell? (a.add j) = some (.float .f64 q)) (h1 : 1 ≤ j) (h2 : j ≤ 15)
    (hc : ∀ W, (convert 72 22 (.int .u64 m)).run Tryd.prog W = .ok (.float .f64 x) W)
    (hop : ∀ t W, (binOp .quo t (.float .f64 x) (.float .f64 q)).run Tryd.prog W = .ok (.float .f64 r) W) :
    Calls Tryd.prog 79 #[.int .u64 m, .int .i64 (-(j : Int)), .bool false] w fun e w' => e = .returned (.tuple #[.float .f64 r, .bool true]) ∧ w = w' := by
  go_enter Tryd.func79, Tryd.ntmps79
  go_wp2_with (first | simp only [hc] | simp only [hop])
  go_ret2
  exact ⟨rfl, rfl⟩
set_option maxRecDepth 100000 in
theorem exact_quo1 (m x y j q r : Nat) (a : Addr) (cap : Nat) (w : World) (hinfo : w.cell? ⟨5, 0, none⟩ = some (.int .u64 52)) (hb : ((m : Int) / 4503599627370496 != 0) = false)
    (hp : w.cell? ⟨8, 0, none⟩ = some (.slice (some a) 23 cap)) (hcell : w.cell? (a.add j) = some (.float .f64 q)) (h1 : 1 ≤ j) (h2 : j ≤ 15)
    (hc : ∀ W, (convert 72 22 (.int .u64 m)).run Tryd.prog W = .ok (.float .f64 x) W)
    (hn : ∀ W, (Op.unary .neg (.float .f64 x)).run Tryd.prog W = .ok (.float .f64 y) W)
    (hop : ∀ t W, (binOp .quo t (.float .f64 y) (.float .f64 q)).run Tryd.prog W = .ok (.float .f64 r) W) :
    Calls Tryd.prog 79 #[.int .u64 m, .int .i64 (-(j : Int)), .bool true] w fun e w' => e = .returned (.tuple #[.float .f64 r, .bool true]) ∧ w = w' := by
  go_enter Tryd.func79, Tryd.ntmps79
  go_wp2_with (first | simp only [hc] | simp only [hop] | simp only [hn])
  go_ret2
  exact ⟨rfl, rfl⟩

theorem small_shift (m : Nat) (hm : m ≤ 999999999999999) : ((m : Int) / 4503599627370496 != 0) = false := by simp; omega
theorem mant0_false (m : Nat) : mant0 m false = floatOfInt .f64 m := by unfold mant0; rw [if_neg (by decide)]
theorem mant0_true (m : Nat) : mant0 m true = Op.negFloat .f64 (floatOfInt .f64 m) := by unfold mant0; rw [if_pos rfl]
theorem pfVal_zero (m : Nat) (neg : Bool) : pfVal m 0 neg = mant0 m neg := by unfold pfVal; rw [if_pos rfl]

/-- atof64exact at a small mantissa and an exponent from -15 to 0. -/
theorem exact_walk (m : Nat) (e : Int) (neg : Bool) (w : World) (T : Tabs w) (hm : m ≤ 999999999999999) (h1 : -15 ≤ e) (h2 : e ≤ 0) :
    Calls Tryd.prog 79 #[.int .u64 m, .int .i64 e, .bool neg] w fun e' w' => e' = .returned (.tuple #[.float .f64 (pfVal m e neg), .bool true]) ∧ w = w' := by
  have hb := small_shift m hm
  by_cases he : e = 0
  · subst he
    rw [pfVal_zero]
    cases neg with
    | false => rw [mant0_false]; exact exact_zero0 m _ w T.info hb (run_conv m)
    | true => rw [mant0_true]; exact exact_zero1 m _ _ w T.info hb (run_conv m) (run_neg _)
  · obtain ⟨a, cap, hp, hcell⟩ := T.pow
    have hq := (pf_quo m e neg (by omega) (by omega)).1
    obtain ⟨j, rfl⟩ : ∃ j : Nat, e = -(j : Int) := ⟨(-e).toNat, by omega⟩
    rw [Int.neg_neg, Int.toNat_natCast] at hq
    generalize pfVal m (-(j : Int)) neg = r at hq ⊢
    have hc := hcell j (by omega)
    cases neg with
    | false =>
      rw [mant0_false] at hq
      exact exact_quo0 m _ j _ r a cap w T.info hb hp hc (by omega) (by omega) (run_conv m) (fun t W => run_float_arith W .quo t .f64 _ _ r hq)
    | true =>
      rw [mant0_true] at hq
      exact exact_quo1 m _ _ j _ r a cap w T.info hb hp hc (by omega) (by omega) (run_conv m) (run_neg _) (fun t W => run_float_arith W .quo t .f64 _ _ r hq)
end Go.Proofs.YtodpjpbkefihfaaDoor
