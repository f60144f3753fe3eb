/-
Walk: ftoa64 at whole numbers.
-/
import Derived.Test.YtodpjpbkefihfaaDoorWg
import Derived.Deep.RegionWith
import Derived.BigRegion
import Derived.Great.Frames
import Derived.Lib.AppendIntMem
namespace Go.Proofs.YtodpjpbkefihfaaDoor
open Go.RowKit Go.Sort Go.Lib

theorem ext112 : Extern.find Tryd.f112 = some Extern.MathFloatBits.float64bits := by kernel_rfl
theorem run_tobits (x : Nat) (W : World) : (callFunc 112 #[.float .f64 x]).run Tryd.prog W = .ok (.value (.int .u64 x)) W := by
  rw [run_callFunc_extern (fn := Tryd.f112) (e := Extern.MathFloatBits.float64bits) Tryd.func112 (by kernel_rfl) (by kernel_rfl) (by kernel_rfl) ext112]
  rfl

/-- The word of a whole number that is not nought: its sign, its exponent k, its fraction f. -/
structure WordOf (x : Nat) (neg : Bool) (k f M : Nat) : Prop where
  lt : x < 18446744073709551616
  sign : ((x : Int) / 9223372036854775808 != 0) = neg
  exp : bits .and .i64 ((x : Int) / 4503599627370496) 2047 = (k : Int) + 1023
  frac : bits .and .u64 (x : Int) 4503599627370495 = (f : Int)
  mant : bits .or .u64 (f : Int) 4503599627370496 = (M : Int)
  hk : k ≤ 16
  hM1 : 4503599627370496 ≤ M
  hM2 : M < 9007199254740992
  len : Lib.bitLen M = 53

theorem nDigits_mul (N q : Nat) (h : 1 ≤ N) : nDigits (N * 10 ^ q) = nDigits N + q := by
  induction q with
  | zero => simp
  | succ q ih =>
    have hp : 0 < 10 ^ q := Nat.pow_pos (by omega)
    have h10 : ¬ N * 10 ^ (q + 1) < 10 := by
      rw [Nat.pow_succ]
      have : 1 ≤ N * 10 ^ q := Nat.mul_pos h hp
      rw [← Nat.mul_assoc]
      omega
    rw [nDigits_big h10, Nat.pow_succ, ← Nat.mul_assoc, Nat.mul_div_cancel _ (by omega), ih]
    omega
theorem dg_mul (N q j : Nat) : dg (N * 10 ^ q) (j + q) = dg N j := by
  unfold dg
  rw [Nat.add_comm j q, Nat.pow_add, ← Nat.div_div_eq_div_mul, Nat.mul_div_cancel _ (Nat.pow_pos (by omega))]
theorem dg_low (N q j : Nat) (h : j < q) : dg (N * 10 ^ q) j = 48 := by
  unfold dg
  obtain ⟨r, rfl⟩ : ∃ r, q = j + (r + 1) := ⟨q - j - 1, by omega⟩
  rw [Nat.pow_add, Nat.mul_left_comm, Nat.mul_div_cancel_left _ (Nat.pow_pos (by omega)), Nat.pow_succ, ← Nat.mul_assoc, Nat.mul_mod_left]
  rfl

theorem digits_range (N q nd : Nat) (hnd : nd = nDigits N + q) : (List.range (nDigits N)).map (fun t => dg (N * 10 ^ q) (nd - 1 - t)) = decDigits N := by
  rw [decDigits_eq]
  refine List.map_congr_left fun t ht => ?_
  have ht' : t < nDigits N := List.mem_range.1 ht
  rw [show nd - 1 - t = nDigits N - 1 - t + q by omega, dg_mul]

theorem row_below {g B : Nat} {L : List UInt8} {w w' : World} (h : Row24 g L w) (hb : Below B w w') (hg : g < B) : Row24 g L w' := by
  unfold Row24 World.ownsRow at h ⊢
  refine ⟨h.1, ?_⟩
  rcases h.2 with h2 | ⟨g', cap, cur, e, hb', hh, rest⟩
  · exact .inl h2
  · refine .inr ⟨g', cap, cur, e, hb', ?_, rest⟩
    obtain rfl : g = g' := by
      have := congrArg Value.ownBlock e
      simpa [Value.ownBlock] using this
    rw [hb.block g hg]
    exact hh
theorem row_lt {g : Nat} {L : List UInt8} {w : World} (h : Row24 g L w) : g < w.heap.size := (World.ownsRow.lt h g rfl).2
theorem grown_of_below {w w' : World} {r : Option Nat} (h : Below w.heap.size w w') : w.grownBy w' r := ⟨h.os, h.tape, h.output, h.size, fun k hk _ => h.block k hk⟩

def zeros32 : Array Value := #[.int .u8 0, .int .u8 0, .int .u8 0, .int .u8 0, .int .u8 0, .int .u8 0, .int .u8 0, .int .u8 0, .int .u8 0, .int .u8 0, .int .u8 0, .int .u8 0, .int .u8 0, .int .u8 0, .int .u8 0, .int .u8 0, .int .u8 0, .int .u8 0, .int .u8 0, .int .u8 0, .int .u8 0, .int .u8 0, .int .u8 0, .int .u8 0, .int .u8 0, .int .u8 0, .int .u8 0, .int .u8 0, .int .u8 0, .int .u8 0, .int .u8 0, .int .u8 0]
theorem zeros32_at (i : Nat) (h : i < 32) : zeros32[i]? = some (.int .u8 0) := by
  have e : zeros32 = Array.replicate 32 (.int .u8 0) := rfl
  rw [e]
  simp [h]
theorem holds32 {w : World} {b : Nat} {T : TypeId} (h : w.heap[b]? = some (.cells zeros32 T (0, 0))) (nd : Nat) (hn : nd ≤ 32) : Holds encB w b 0 (Array.replicate nd (0 : UInt8)) := fun j hj => by
  rw [Array.size_replicate] at hj
  constructor
  · unfold World.cell?
    rw [h]
    show zeros32[0 + j]? = _
    rw [Nat.zero_add, zeros32_at j (by omega), getElem!_pos _ j (by simpa using hj)]
    simp
  · unfold World.frozen?
    rw [h]
    simp

theorem any_gen {P : Program} {md : Region.Mode} {ops : Array Oper} {Q : Exit → Act → World → Prop} {fuel : Nat} {listed : Array Bool} {a : Act} {w : World} (h : ∀ A, A = a → wpAny P md ops Q fuel listed A w) : wpAny P md ops Q fuel listed a w := h a rfl
theorem nDigits_le6 (N : Nat) (h : N ≤ 100000) : nDigits N ≤ 6 := by
  by_cases h1 : N < 10
  · rw [nDigits_small h1]; omega
  by_cases h2 : N < 100
  · rw [nDigits_unique 1 N (by omega) (by omega)]; omega
  by_cases h3 : N < 1000
  · rw [nDigits_unique 2 N (by omega) (by omega)]; omega
  by_cases h4 : N < 10000
  · rw [nDigits_unique 3 N (by omega) (by omega)]; omega
  by_cases h5 : N < 100000
  · rw [nDigits_unique 4 N (by omega) (by omega)]; omega
  · rw [nDigits_unique 5 N (by omega) (by omega)]
    omega
theorem getD_of {a : Act} {j : Nat} {v : Value} (h : a.eval (.tmp j) = v) : a.tmps[j]?.getD undef = v := by
  rw [← h]; simp [Act.eval]
theorem oper_call {P : Program} {o : Oper} {a : Act} {next : Act → World → Prop} {Q : Exit → Act → World → Prop} {w : World} (f : FuncId) (args : Array Value) (h : (execOp a.eval o).run P w = .ok (.enter f args) w)
    (hc : Calls P f args w fun | .returned v, w'' => next (a.put o.dst v) w'' | .panicked chain, w'' => Q (.panic chain) a w'' | .outgrown, _ => LetsOut Q) : o.wp P a w next Q := by
  unfold Oper.wp
  rw [h]
  exact hc
theorem wp_gen {P : Program} {c : Code} {Q : Exit → Act → World → Prop} {a : Act} {w : World} (h : ∀ A, A = a → c.wp P Q A w) : c.wp P Q a w := h a rfl

set_option maxRecDepth 100000 in
set_option maxHeartbeats 4000000 in
theorem ftoa_pos (g x k f M D p N : Nat) (w : World) (hW : WordOf x false k f M) (hR : Row24 g [] w)
    (htab : Lib.TabIs Tryd.prog w "internal/strconv.uint64pow10" .u64 Lib.pow10Tab)
    (hN : 1 ≤ N) (hN2 : N ≤ 100000) (hp : 1 ≤ p) (hD : D = N * 10 ^ (p - 1)) (hD2 : D ≤ 10000000000000000)
    (hS : ∀ W, Below w.heap.size w W → Calls Tryd.prog 121 #[.int .u64 ((M : Int) * 2048), .int .i64 ((k : Int) - 11 - 52)] W (ShortP D (-((p : Int) - 1)) W)) :
    Calls Tryd.prog 82 #[.slice (some ⟨g, 0, none⟩) 0 24, .float .f64 x, .int .u8 103, .int .i64 (-1)] w (FmtP g (decDigits N) w) := by
  obtain ⟨hlt, h1, h2, h3, h4, hk, hM1, hM2, hlen⟩ := hW
  have HD := Lib.hid hD
  clear hD
  have HS := fun W hW => Lib.hid (hS W hW)
  clear hS
  have hrb := run_tobits x
  have hl := fun W => Tryd.bits_Len64 (M : Int) W (by omega) (by omega)
  simp only [Int.toNat_natCast, hlen] at hl
  have HL := fun W => Lib.hid (hl W)
  clear hl hlen
  have ek : (k : Int) + 1023 + -1023 = k := by omega
  have hge : ((M : Int) == 0) = false := beq_eq_false_iff_ne.2 (by omega)
  go_enter Tryd.func82, Tryd.ntmps82
  go_wp2_with fail
  go_quiet (fail)
  go_wp2_with (first
    | (go_at_call 64; refine (Calls.mono (HL _).out ?_); rintro e w' ⟨rfl, rfl⟩))
  have hBw : Below w.heap.size w ((w.drewN nq).alloc (.cells zeros32 166)) := (below_drewN w nq).alloc (Nat.le_refl _) _
  have hz : ((w.drewN nq).alloc (.cells zeros32 166)).heap[w.heap.size]? = some (.cells zeros32 166 (0, 0)) := by
    show (w.heap.push _)[w.heap.size]? = _
    simp
  have hsz : w.heap.size < ((w.drewN nq).alloc (.cells zeros32 166)).heap.size := by
    show w.heap.size < (w.heap.push _).size
    simp
  refine (Calls.mono (HS _ hBw).out ?_)
  rintro e w1 ⟨rfl, hb1⟩
  have hz1 : w1.heap[w.heap.size]? = some (.cells zeros32 166 (0, 0)) := (hb1.block _ hsz).trans hz
  have hB1 := below_seq hBw (hb1.mono (Nat.le_refl _))
  clear hz hsz hb1 hBw
  have HZ1 := Lib.hid hz1
  have HB1 := Lib.hid hB1
  clear hz1 hB1
  go_wp2_with fail
  have hlenD := nDigits_mul N (p - 1) hN
  rw [← HD.out] at hlenD
  have hD1 : 1 ≤ D := by rw [HD.out]; exact Nat.mul_pos hN (Nat.pow_pos (by omega))
  have hnd20 : nDigits D ≤ 20 := by have := Lib.numDigits_eq D hD1 (by omega); split at this <;> omega
  have c1 := Tryd.internal_strconv_numDigits D hD1 (by omega) w1.drew (tabBelow_of_tabIs htab _ (HB1.out.trans (below_drewN w1 1)))
  have c2 := setDigits_walk w.heap.size D (nDigits D) (-((p : Int) - 1)) w1.drew (holds32 (T := 166) HZ1.out _ (by omega)) (lt_pow_nDigits D) (by omega) hnd20 (by omega) (by omega)
  have C1 := Lib.hid c1
  have C2 := Lib.hid c2
  clear c1 c2
  refine wp_gen ?_
  intro A0 hA0
  replace hA0 := Lib.hid hA0
  have f0_16 : A0.tmps[16]?.getD undef = .pointer (some ⟨w.heap.size, 0, none⟩) := by rw [hA0.out]; rfl
  have f0_20 : A0.eval (.tmp 20) = .int .u64 D := by rw [hA0.out]; rfl
  have f0_21 : A0.eval (.tmp 21) = .int .i64 (-((p : Int) - 1)) := by rw [hA0.out]; rfl
  have s0 : 147 < A0.tmps.size := by
    have : A0.tmps.size = 298 := by rw [hA0.out]; rfl
    omega
  have hsl : ∀ W, (Instr.sliceAt 166 (.pointer (some ⟨w.heap.size, 0, none⟩)) none none none).run Tryd.prog W = .ok (.slice (some ⟨w.heap.size, 0, none⟩) 32 32) W := fun W => by kernel_rfl
  refine wp_region_any (by kernel_rfl) ?_
  change wpAny _ _ _ _ _ _ _ (World.drew _)
  refine wpAny_take (i := 0) (v := .slice (some ⟨w.heap.size, 0, none⟩) 32 32) rfl (by kernel_rfl) (by kernel_rfl) (by kernel_rfl) (fun _ _ _ h => h) (Or.inl ⟨by rfl, fun W => ?_⟩) (any_gen (a := A0.put (some 140) _) fun A1 hA1 => ?_)
  · go_simp
  replace hA1 := Lib.hid hA1
  have f1_20 : A1.eval (.tmp 20) = .int .u64 D := by rw [hA1.out, ← f0_20]; exact Act.eval_put_ne _ _ _ _ (by decide)
  have f1_21 : A1.eval (.tmp 21) = .int .i64 (-((p : Int) - 1)) := by rw [hA1.out, ← f0_21]; exact Act.eval_put_ne _ _ _ _ (by decide)
  have f1_140 : A1.eval (.tmp 140) = .slice (some ⟨w.heap.size, 0, none⟩) 32 32 := by rw [hA1.out]; exact Act.eval_put_same _ _ _ (by omega)
  have g1_20 := getD_of f1_20
  have g1_21 := getD_of f1_21
  have g1_140 := getD_of f1_140
  have s1 : 147 < A1.tmps.size := by rw [hA1.out, Act.size_put]; exact s0
  refine wpAny_take (i := 1) (v := .int .u64 D) rfl (by kernel_rfl) (by kernel_rfl) (by kernel_rfl) (fun _ _ _ h => h) (Or.inl ⟨by rfl, fun W => ?_⟩) (any_gen (a := A1.put (some 141) _) fun A2 hA2 => ?_)
  · exact (BigFrame.run_move (.tmp 20) rfl W).trans (by rw [f1_20])
  replace hA2 := Lib.hid hA2
  have f2_20 : A2.eval (.tmp 20) = .int .u64 D := by rw [hA2.out, ← f1_20]; exact Act.eval_put_ne _ _ _ _ (by decide)
  have f2_21 : A2.eval (.tmp 21) = .int .i64 (-((p : Int) - 1)) := by rw [hA2.out, ← f1_21]; exact Act.eval_put_ne _ _ _ _ (by decide)
  have f2_140 : A2.eval (.tmp 140) = .slice (some ⟨w.heap.size, 0, none⟩) 32 32 := by rw [hA2.out, ← f1_140]; exact Act.eval_put_ne _ _ _ _ (by decide)
  have f2_141 : A2.eval (.tmp 141) = .int .u64 D := by rw [hA2.out]; exact Act.eval_put_same _ _ _ (by omega)
  have g2_20 := getD_of f2_20
  have g2_21 := getD_of f2_21
  have g2_140 := getD_of f2_140
  have g2_141 := getD_of f2_141
  have s2 : 147 < A2.tmps.size := by rw [hA2.out, Act.size_put]; exact s1
  refine wpAny_take (i := 2) (v := .int .i64 (-((p : Int) - 1))) rfl (by kernel_rfl) (by kernel_rfl) (by kernel_rfl) (fun _ _ _ h => h) (Or.inl ⟨by rfl, fun W => ?_⟩) (any_gen (a := A2.put (some 142) _) fun A3 hA3 => ?_)
  · exact (BigFrame.run_move (.tmp 21) rfl W).trans (by rw [f2_21])
  replace hA3 := Lib.hid hA3
  have f3_20 : A3.eval (.tmp 20) = .int .u64 D := by rw [hA3.out, ← f2_20]; exact Act.eval_put_ne _ _ _ _ (by decide)
  have f3_140 : A3.eval (.tmp 140) = .slice (some ⟨w.heap.size, 0, none⟩) 32 32 := by rw [hA3.out, ← f2_140]; exact Act.eval_put_ne _ _ _ _ (by decide)
  have f3_141 : A3.eval (.tmp 141) = .int .u64 D := by rw [hA3.out, ← f2_141]; exact Act.eval_put_ne _ _ _ _ (by decide)
  have f3_142 : A3.eval (.tmp 142) = .int .i64 (-((p : Int) - 1)) := by rw [hA3.out]; exact Act.eval_put_same _ _ _ (by omega)
  have g3_20 := getD_of f3_20
  have g3_140 := getD_of f3_140
  have g3_141 := getD_of f3_141
  have g3_142 := getD_of f3_142
  have s3 : 147 < A3.tmps.size := by rw [hA3.out, Act.size_put]; exact s2
  refine wpAny_take (i := 3) (v := .int .u64 D) rfl (by kernel_rfl) (by kernel_rfl) (by kernel_rfl) (fun _ _ _ h => h) (Or.inl ⟨by rfl, fun W => ?_⟩) (any_gen (a := A3.put (some 143) _) fun A4 hA4 => ?_)
  · exact (BigFrame.run_move (.tmp 20) rfl W).trans (by rw [f3_20])
  replace hA4 := Lib.hid hA4
  have f4_140 : A4.eval (.tmp 140) = .slice (some ⟨w.heap.size, 0, none⟩) 32 32 := by rw [hA4.out, ← f3_140]; exact Act.eval_put_ne _ _ _ _ (by decide)
  have f4_141 : A4.eval (.tmp 141) = .int .u64 D := by rw [hA4.out, ← f3_141]; exact Act.eval_put_ne _ _ _ _ (by decide)
  have f4_142 : A4.eval (.tmp 142) = .int .i64 (-((p : Int) - 1)) := by rw [hA4.out, ← f3_142]; exact Act.eval_put_ne _ _ _ _ (by decide)
  have f4_143 : A4.eval (.tmp 143) = .int .u64 D := by rw [hA4.out]; exact Act.eval_put_same _ _ _ (by omega)
  have g4_140 := getD_of f4_140
  have g4_141 := getD_of f4_141
  have g4_142 := getD_of f4_142
  have g4_143 := getD_of f4_143
  have s4 : 147 < A4.tmps.size := by rw [hA4.out, Act.size_put]; exact s3
  refine wpAny_ready (rs := [4]) (by kernel_rfl) (by simp) (AllReady.cons rfl (fun K hK => ?_) AllReady.nil)
  rw [if_pos (by rfl)]
  refine oper_call 50 #[.int .u64 D] ?_ ?_
  · go_simp
  refine C1.out.mono ?_
  rintro e w' ⟨rfl, rfl⟩
  refine hK _ _ (any_gen (a := A4.put (some 144) _) fun A5 hA5 => ?_)
  clear hK K
  replace hA5 := Lib.hid hA5
  have f5_140 : A5.eval (.tmp 140) = .slice (some ⟨w.heap.size, 0, none⟩) 32 32 := by rw [hA5.out, ← f4_140]; exact Act.eval_put_ne _ _ _ _ (by decide)
  have f5_141 : A5.eval (.tmp 141) = .int .u64 D := by rw [hA5.out, ← f4_141]; exact Act.eval_put_ne _ _ _ _ (by decide)
  have f5_142 : A5.eval (.tmp 142) = .int .i64 (-((p : Int) - 1)) := by rw [hA5.out, ← f4_142]; exact Act.eval_put_ne _ _ _ _ (by decide)
  have f5_144 : A5.eval (.tmp 144) = .int .i64 (nDigits D : Nat) := by rw [hA5.out]; exact Act.eval_put_same _ _ _ (by omega)
  have g5_140 := getD_of f5_140
  have g5_141 := getD_of f5_141
  have g5_142 := getD_of f5_142
  have g5_144 := getD_of f5_144
  have s5 : 147 < A5.tmps.size := by rw [hA5.out, Act.size_put]; exact s4
  refine wpAny_ready (rs := [5]) (by kernel_rfl) (by simp) (AllReady.cons rfl (fun K hK => ?_) AllReady.nil)
  rw [if_pos (by rfl)]
  refine oper_call 117 #[.slice (some ⟨w.heap.size, 0, none⟩) 32 32, .int .u64 D, .int .i64 (-((p : Int) - 1)), .int .i64 (nDigits D : Nat)] ?_ ?_
  · go_simp
  refine C2.out.mono ?_
  rintro e w2 ⟨j, rfl, hj, hb2, hc2, h48, hlast⟩
  refine hK _ _ (any_gen (a := A5.put (some 145) _) fun A6 hA6 => ?_)
  clear hK K
  replace hA6 := Lib.hid hA6
  have f6_145 : A6.eval (.tmp 145) = .tuple #[.int .i64 ((nDigits D : Int) + -((p : Int) - 1)), .int .i64 (j : Nat)] := by rw [hA6.out]; exact Act.eval_put_same _ _ _ (by omega)
  have g6_145 := getD_of f6_145
  have s6 : 147 < A6.tmps.size := by rw [hA6.out, Act.size_put]; exact s5
  refine wpAny_take (i := 6) (v := .tuple #[.int .i64 ((nDigits D : Int) + -((p : Int) - 1)), .int .i64 (j : Nat)]) rfl (by kernel_rfl) (by kernel_rfl) (by kernel_rfl) (fun _ _ _ h => h) (Or.inl ⟨by rfl, fun W => ?_⟩) (any_gen (a := A6.put (some 139) _) fun A7 hA7 => ?_)
  · exact (BigFrame.run_move (.tmp 145) rfl W).trans (by rw [f6_145])
  replace hA7 := Lib.hid hA7
  have f7_139 : A7.eval (.tmp 139) = .tuple #[.int .i64 ((nDigits D : Int) + -((p : Int) - 1)), .int .i64 (j : Nat)] := by rw [hA7.out]; exact Act.eval_put_same _ _ _ (by omega)
  have g7_139 := getD_of f7_139
  have s7 : 147 < A7.tmps.size := by rw [hA7.out, Act.size_put]; exact s6
  refine wpAny_take (i := 7) (v := .int .i64 ((nDigits D : Int) + -((p : Int) - 1))) rfl (by kernel_rfl) (by kernel_rfl) (by kernel_rfl) (fun _ _ _ h => h) (Or.inl ⟨by rfl, fun W => ?_⟩) (any_gen (a := A7.put (some 146) _) fun A8 hA8 => ?_)
  · go_simp
  replace hA8 := Lib.hid hA8
  have f8_139 : A8.eval (.tmp 139) = .tuple #[.int .i64 ((nDigits D : Int) + -((p : Int) - 1)), .int .i64 (j : Nat)] := by rw [hA8.out, ← f7_139]; exact Act.eval_put_ne _ _ _ _ (by decide)
  have f8_146 : A8.eval (.tmp 146) = .int .i64 ((nDigits D : Int) + -((p : Int) - 1)) := by rw [hA8.out]; exact Act.eval_put_same _ _ _ (by omega)
  have g8_139 := getD_of f8_139
  have g8_146 := getD_of f8_146
  have s8 : 147 < A8.tmps.size := by rw [hA8.out, Act.size_put]; exact s7
  refine wpAny_take (i := 8) (v := .int .i64 (j : Nat)) rfl (by kernel_rfl) (by kernel_rfl) (by kernel_rfl) (fun _ _ _ h => h) (Or.inl ⟨by rfl, fun W => ?_⟩) (any_gen (a := A8.put (some 147) _) fun A9 hA9 => ?_)
  · go_simp
  replace hA9 := Lib.hid hA9
  have f9_146 : A9.eval (.tmp 146) = .int .i64 ((nDigits D : Int) + -((p : Int) - 1)) := by rw [hA9.out, ← f8_146]; exact Act.eval_put_ne _ _ _ _ (by decide)
  have f9_147 : A9.eval (.tmp 147) = .int .i64 (j : Nat) := by rw [hA9.out]; exact Act.eval_put_same _ _ _ (by omega)
  have g9_146 := getD_of f9_146
  have g9_147 := getD_of f9_147
  have s9 : 147 < A9.tmps.size := by rw [hA9.out, Act.size_put]; exact s8
  refine wpAny_take (i := 9) (v := .int .i64 ((nDigits D : Int) + -((p : Int) - 1))) rfl (by kernel_rfl) (by kernel_rfl) (by kernel_rfl) (fun _ _ _ h => h) (Or.inl ⟨by rfl, fun W => ?_⟩) (any_gen (a := A9.put (some 22) _) fun A10 hA10 => ?_)
  · exact (BigFrame.run_assign (.tmp 146) rfl W).trans (by rw [f9_146])
  replace hA10 := Lib.hid hA10
  have f10_147 : A10.eval (.tmp 147) = .int .i64 (j : Nat) := by rw [hA10.out, ← f9_147]; exact Act.eval_put_ne _ _ _ _ (by decide)
  have g10_147 := getD_of f10_147
  have s10 : 147 < A10.tmps.size := by rw [hA10.out, Act.size_put]; exact s9
  refine wpAny_take (i := 10) (v := .int .i64 (j : Nat)) rfl (by kernel_rfl) (by kernel_rfl) (by kernel_rfl) (fun _ _ _ h => h) (Or.inl ⟨by rfl, fun W => ?_⟩) (any_gen (a := A10.put (some 23) _) fun A11 hA11 => ?_)
  · exact (BigFrame.run_assign (.tmp 147) rfl W).trans (by rw [f10_147])
  replace hA11 := Lib.hid hA11
  have s11 : 147 < A11.tmps.size := by rw [hA11.out, Act.size_put]; exact s10
  refine wpAny_done (by kernel_rfl) ?_ _
  have hE := hA11.out
  rw [hA10.out, hA9.out, hA8.out, hA7.out, hA6.out, hA5.out, hA4.out, hA3.out, hA2.out, hA1.out, hA0.out] at hE
  rw [hE]
  clear s11 s10 g10_147 f10_147 s9 g9_147 g9_146 f9_147 f9_146 s8 g8_146 g8_139 f8_146 f8_139 s7 g7_139 f7_139 s6 g6_145 f6_145 s5 g5_144 g5_142 g5_141 g5_140 f5_144 f5_142 f5_141 f5_140 s4 g4_143 g4_142 g4_141 g4_140 f4_143 f4_142 f4_141 f4_140 s3 g3_142 g3_141 g3_140 g3_20 f3_142 f3_141 f3_140 f3_20 s2 g2_141 g2_140 g2_21 g2_20 f2_141 f2_140 f2_21 f2_20 s1 g1_140 g1_21 g1_20 f1_140 f1_21 f1_20 s0 f0_21 f0_20 f0_16 hsl hE
  clear hA11 hA10 hA9 hA8 hA7 hA6 hA5 hA4 hA3 hA2 hA1 hA0
  clear A11 A10 A9 A8 A7 A6 A5 A4 A3 A2 A1 A0
  have HB2 := Lib.hid (HB1.out.trans ((below_drewN w1 1).trans (hb2.mono (Nat.le_refl _))))
  have HC2 := Lib.hid hc2
  have H48 := Lib.hid h48
  have HLA := Lib.hid hlast
  clear hb2 hc2 h48 hlast C1 C2 HS
  go_wp2_with fail
  have edp : (nDigits N : Int) + ((p - 1 : Nat) : Int) + -((p : Int) - 1) = (nDigits N : Int) := by omega
  rw [edp]
  have hsz : w.heap.size ≠ g := by have := row_lt hR; omega
  have hR2 := row_below hR HB2.out (row_lt hR)
  have h6 := nDigits_le6 N hN2
  have hDe := HD.out
  have hjd : j ≤ nDigits N := by
    rcases Nat.lt_or_ge (nDigits N) j with hlt | hle
    · exfalso
      refine HLA.out (by omega) ?_
      show dg D (nDigits D - 1 - (j - 1)) = 48
      rw [hDe]
      exact dg_low N (p - 1) _ (by rw [← hDe]; omega)
    · exact hle
  have hF := digits_range N (p - 1) (nDigits D) hlenD
  rw [← hDe] at hF
  have hfm := fmt_pos g w.heap.size j (nDigits N) (fun t => dg D (nDigits D - 1 - t)) w2 hR2 hsz hjd h6 (nDigits_pos N) (fun t ht => HC2.out t (by omega)) (fun t h1 h2 => H48.out t h1 (by omega))
  rw [hF] at hfm
  have HG := Lib.hid (grown_of_below (r := some g) HB2.out)
  clear hF hDe hjd h6 hR2 hsz edp HB2 HC2 H48 HLA HB1 HZ1 HD
  refine hfm.mono ?_
  rintro e w3 ⟨rfl, hr3, hg3⟩
  have HR3 := Lib.hid hr3
  have HG3 := Lib.hid (grown_seq HG.out hg3)
  clear hr3 hg3 hfm HG
  go_wp2
  go_ret
  exact ⟨rfl, HR3.out, HG3.out⟩
end Go.Proofs.YtodpjpbkefihfaaDoor
