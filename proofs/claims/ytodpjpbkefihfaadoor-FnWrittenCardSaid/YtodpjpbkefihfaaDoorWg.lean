/-
Walk: fmtEFG at whole numbers, into a row of its caller's own.
-/
import Derived.Test.YtodpjpbkefihfaaDoorWf
import Derived.WalkKit
namespace Go.Proofs.YtodpjpbkefihfaaDoor
open Go.RowKit Go.Sort Go.Lib

theorem infoB : (Tryd.prog.info? 5).map (fun i => (i.zero, i.size, i.bytes)) = some (some (.int .u8 0), 1, 1) := by kernel_rfl

/-- The row g holds the text L. -/
def Row24 (g : Nat) (L : List UInt8) (w : World) : Prop := w.ownsRow g 5 1 (.slice (some ⟨g, 0, none⟩) L.length 24) L.length (L.map encB)
def FmtP (g : Nat) (L : List UInt8) (w : World) (e : Ending) (w' : World) : Prop :=
  e = .returned (.slice (some ⟨g, 0, none⟩) L.length 24) ∧ Row24 g L w' ∧ w.grownBy w' (some g)

theorem grown_seq {a b c : World} {r : Option Nat} (h : a.grownBy b r) (k : b.grownBy c r) : a.grownBy c r :=
  ⟨k.os.trans h.os, k.tape.trans h.tape, k.output.trans h.output, Nat.le_trans h.size k.size, fun i hi hr => (k.block i (Nat.lt_of_lt_of_le hi h.size) hr).trans (h.block i hi hr)⟩

/-- One byte more in the row. -/
theorem wpList_put (W : World) {ops : Array Oper} {rest : List Oper} {o : Oper} {a : Act} {Q : Exit → Act → World → Prop}
    (hg : o.guard = none) (s x : Operand) (hop : o.op = Op.call { callee := Callee.builtin Builtin.append, args := #[s, x], argTypes := #[75, 75] })
    (g k : Nat) (L : List UInt8) (c : UInt8) (z : Int) (hz : z = (c.toNat : Int)) (hs : a.eval s = .slice (some ⟨g, 0, none⟩) k 24) (hk : k = L.length) (hR : Row24 g L W)
    (hx : a.eval x = .slice (some ⟨W.heap.size, 0, none⟩) 1 1) (hlt : L.length < 24)
    (hK : ∀ w', Row24 g (L ++ [c]) w' → W.grownBy w' (some g) → wpList Tryd.prog ops Q rest (a.put o.dst (.slice (some ⟨g, 0, none⟩) (k + 1) 24)) w') :
    wpList Tryd.prog ops Q (o :: rest) a (W.alloc (.cells #[.int .u8 z] 5)) := by
  subst hz hk
  obtain ⟨i0, hi, hz0, hz1, hz2⟩ := info_parts infoB
  refine wpList_append_fits _ hg s x 75 hop g 5 i0 1 Tryd.underlying75 hi hz1 g L.length 24 (L.map encB) hs (World.ownsRow.alloc hR _) ⟨W.heap.size, 0, none⟩ 1 1 [.int .u8 (c.toNat : Int)] hx rfl ?_ ?_ hlt ?_
  · intro j u hj
    match j, hj with
    | 0, hj =>
      simp at hj
      subst hj
      rw [Lib.add_plain, World.cell?_alloc_new]
      rfl
  · intro u hu
    simp at hu
    subst hu
    rfl
  · intro w' h1 h2
    refine hK w' ?_ (grown_seq (World.grownBy_alloc W _ _) h2)
    unfold Row24
    rw [List.length_append, List.map_append]
    exact h1

theorem row_drewN {g n : Nat} {L : List UInt8} {w : World} (h : Row24 g L w) : Row24 g L (w.drewN n) := h

set_option maxRecDepth 100000 in
set_option maxHeartbeats 1000000 in
theorem fmt_zero (g : Nat) (w : World) (hR : Row24 g [] w) :
    Calls Tryd.prog 115 #[.slice (some ⟨g, 0, none⟩) 0 24, .bool false, .slice none 0 0, .int .i64 0, .int .i64 0, .int .i64 (-1), .int .u8 103, .bool true] w (FmtP g [48] w) := by
  have HR := Lib.hid hR
  clear hR
  go_enter Tryd.func115, Tryd.ntmps115
  go_wp2_with (first
    | (at_builtin; refine wpList_put _ rfl (.tmp 209) (.tmp 210) rfl g 0 [] 48 48 rfl rfl rfl HR.out rfl (by decide) ?_))
  intro w1 hR1 hg1
  have HR1 := Lib.hid hR1
  have HG1 := Lib.hid hg1
  clear hR1 hg1
  go_wp2
  go_ret
  exact ⟨rfl, HR1.out, HG1.out⟩

set_option maxRecDepth 100000 in
set_option maxHeartbeats 2000000 in
/-- fmtEFG at the digits F 0, F 1, .. F (m - 1), the rest of the dp places being '0'. -/
theorem fmt_pos (g b m dp : Nat) (F : Nat → UInt8) (w : World) (hR : Row24 g [] w) (hb : b ≠ g) (hm : m ≤ dp) (hdp : dp ≤ 6) (hdp0 : 0 < dp)
    (hc : ∀ t, t < dp → w.cell? ⟨b, t, none⟩ = some (.int .u8 ((F t).toNat : Int))) (h0 : ∀ t, m ≤ t → t < dp → F t = 48) :
    Calls Tryd.prog 115 #[.slice (some ⟨g, 0, none⟩) 0 24, .bool false, .slice (some ⟨b, 0, none⟩) 32 32, .int .i64 dp, .int .i64 m, .int .i64 m, .int .u8 103, .bool true] w (FmtP g ((List.range dp).map F) w) := by
  have HR := Lib.hid hR
  have HC := Lib.hid hc
  have H0 := Lib.hid h0
  clear hR hc h0
  have hdec : decide (dp < m) = false := decide_eq_false (by omega)
  have hmin : min (m : Int) (dp : Int) = m := by omega
  have hmax0 : max (m : Int) 0 = m := by omega
  have hmaxd : max ((m : Int) - dp) 0 = 0 := by omega
  go_enter Tryd.func115, Tryd.ntmps115
  go_wp2_with fail
  go_loopg [0, 191] m (fun gh v0 v191 wr => ∃ i : Nat, gh = m - i ∧ i ≤ m ∧ v0 = .slice (some ⟨g, 0, none⟩) i 24 ∧ v191 = .int .i64 i ∧ Hid (Row24 g ((List.range i).map F) wr) ∧ Hid (w.grownBy wr (some g)))
  case atStart => exact ⟨0, rfl, Nat.zero_le _, rfl, rfl, HR.out, World.grownBy.refl _ _⟩
  case round =>
    obtain ⟨i, hg, hi, rfl, rfl, hR1, hG1⟩ := hrel
    rename_i W1
    by_cases hlt : i < m
    · have hci := hG1.out.cell (HC.out i (by omega)) (by simpa using hb)
      go_wp2_with (first
        | (at_builtin; refine wpList_put _ rfl (.tmp 195) (.tmp 197) rfl g i ((List.range i).map F) (F i) _ rfl rfl (by simp) hR1.out rfl (by simp; omega) ?_))
      intro w2 hR2 hG2
      have HR2 := Lib.hid hR2
      have HG2 := Lib.hid (grown_seq hG1.out hG2)
      clear hR2 hG2 hci hR1 hG1
      go_wp2
      go_roundg (m - (i + 1))
      case measure => omega
      case rel =>
        refine ⟨i + 1, rfl, by omega, rfl, by go_num, ?_, HG2.out⟩
        have h := HR2.out
        rw [List.range_succ, List.map_append]
        exact h
    · obtain rfl : i = m := by omega
      clear hlt
      go_wp2_with fail
      go_loopg [0, 203] dp (fun gh v0 v203 wr => ∃ j : Nat, gh = dp - j ∧ i + j ≤ dp ∧ v0 = .slice (some ⟨g, 0, none⟩) (i + j) 24 ∧ v203 = .int .i64 j ∧ Hid (Row24 g ((List.range (i + j)).map F) wr) ∧ Hid (w.grownBy wr (some g)))
      case atStart => exact ⟨0, rfl, hm, rfl, rfl, hR1, hG1⟩
      case round =>
        obtain ⟨j, hgj, hj, rfl, rfl, hR2, hG2⟩ := hrel
        by_cases hlt : i + j < dp
        · have h48 := H0.out (i + j) (by omega) hlt
          have hlt' : (j : Int) < (dp : Int) - i := by omega
          go_wp2_with (first
            | (at_builtin; refine wpList_put _ rfl (.tmp 205) (.tmp 206) rfl g (i + j) ((List.range (i + j)).map F) 48 48 rfl rfl (by simp) hR2.out rfl (by simp; omega) ?_))
          intro w3 hR3 hG3
          rw [← h48] at hR3
          have HR3 := Lib.hid hR3
          have HG3 := Lib.hid (grown_seq hG2.out hG3)
          clear hR3 hG3 hR2 hG2
          go_wp2
          go_roundg (dp - (j + 1))
          case measure => omega
          case rel =>
            refine ⟨j + 1, rfl, by omega, by first | rfl | go_num, by go_num, ?_, HG3.out⟩
            have h := HR3.out
            rw [← Nat.add_assoc, List.range_succ, List.map_append]
            exact h
        · obtain rfl : dp = i + j := by omega
          have hlt' : ¬ (j : Int) < ((i + j : Nat) : Int) - i := by omega
          go_wp2
          go_ret
          exact ⟨by simp, hR2.out, hG2.out⟩
set_option maxRecDepth 100000 in
set_option maxHeartbeats 2000000 in
/-- The same behind a '-': fmtEFG at the digits F 0, F 1, .. F (m - 1), the rest of the dp places being '0'. -/
theorem fmt_neg (g b m dp : Nat) (F : Nat → UInt8) (w : World) (hR : Row24 g [] w) (hb : b ≠ g) (hm : m ≤ dp) (hdp : dp ≤ 6) (hdp0 : 0 < dp)
    (hc : ∀ t, t < dp → w.cell? ⟨b, t, none⟩ = some (.int .u8 ((F t).toNat : Int))) (h0 : ∀ t, m ≤ t → t < dp → F t = 48) :
    Calls Tryd.prog 115 #[.slice (some ⟨g, 0, none⟩) 0 24, .bool true, .slice (some ⟨b, 0, none⟩) 32 32, .int .i64 dp, .int .i64 m, .int .i64 m, .int .u8 103, .bool true] w (FmtP g (45 :: (List.range dp).map F) w) := by
  have HR := Lib.hid hR
  have HC := Lib.hid hc
  have H0 := Lib.hid h0
  clear hR hc h0
  have hdec : decide (dp < m) = false := decide_eq_false (by omega)
  have hmin : min (m : Int) (dp : Int) = m := by omega
  have hmax0 : max (m : Int) 0 = m := by omega
  have hmaxd : max ((m : Int) - dp) 0 = 0 := by omega
  go_enter Tryd.func115, Tryd.ntmps115
  go_wp2_with (first
    | (at_builtin; refine wpList_put _ rfl (.tmp 179) (.tmp 180) rfl g 0 [] 45 45 rfl rfl rfl HR.out rfl (by decide) ?_))
  intro w1 hR1 hg1
  have HR1 := Lib.hid hR1
  have HG1 := Lib.hid hg1
  clear hR1 hg1 HR
  go_wp2_with fail
  go_loopg [0, 191] m (fun gh v0 v191 wr => ∃ i : Nat, gh = m - i ∧ i ≤ m ∧ v0 = .slice (some ⟨g, 0, none⟩) (i + 1) 24 ∧ v191 = .int .i64 i ∧ Hid (Row24 g (45 :: (List.range i).map F) wr) ∧ Hid (w.grownBy wr (some g)))
  case atStart => exact ⟨0, rfl, Nat.zero_le _, rfl, rfl, HR1.out, HG1.out⟩
  case round =>
    obtain ⟨i, hg, hi, rfl, rfl, hR1, hG1⟩ := hrel
    rename_i W1
    by_cases hlt : i < m
    · have hci := hG1.out.cell (HC.out i (by omega)) (by simpa using hb)
      go_wp2_with (first
        | (at_builtin; refine wpList_put _ rfl (.tmp 195) (.tmp 197) rfl g (i + 1) (45 :: (List.range i).map F) (F i) _ rfl rfl (by simp) hR1.out rfl (by simp; omega) ?_))
      intro w2 hR2 hG2
      have HR2 := Lib.hid hR2
      have HG2 := Lib.hid (grown_seq hG1.out hG2)
      clear hR2 hG2 hci hR1 hG1
      go_wp2
      go_roundg (m - (i + 1))
      case measure => omega
      case rel =>
        refine ⟨i + 1, rfl, by omega, rfl, by go_num, ?_, HG2.out⟩
        have h := HR2.out
        rw [List.range_succ, List.map_append]
        exact h
    · obtain rfl : i = m := by omega
      clear hlt
      go_wp2_with fail
      go_loopg [0, 203] dp (fun gh v0 v203 wr => ∃ j : Nat, gh = dp - j ∧ i + j ≤ dp ∧ v0 = .slice (some ⟨g, 0, none⟩) (i + j + 1) 24 ∧ v203 = .int .i64 j ∧ Hid (Row24 g (45 :: (List.range (i + j)).map F) wr) ∧ Hid (w.grownBy wr (some g)))
      case atStart => exact ⟨0, rfl, hm, rfl, rfl, hR1, hG1⟩
      case round =>
        obtain ⟨j, hgj, hj, rfl, rfl, hR2, hG2⟩ := hrel
        by_cases hlt : i + j < dp
        · have h48 := H0.out (i + j) (by omega) hlt
          have hlt' : (j : Int) < (dp : Int) - i := by omega
          go_wp2_with (first
            | (at_builtin; refine wpList_put _ rfl (.tmp 205) (.tmp 206) rfl g (i + j + 1) (45 :: (List.range (i + j)).map F) 48 48 rfl rfl (by simp) hR2.out rfl (by simp; omega) ?_))
          intro w3 hR3 hG3
          rw [← h48] at hR3
          have HR3 := Lib.hid hR3
          have HG3 := Lib.hid (grown_seq hG2.out hG3)
          clear hR3 hG3 hR2 hG2
          go_wp2
          go_roundg (dp - (j + 1))
          case measure => omega
          case rel =>
            refine ⟨j + 1, rfl, by omega, by first | rfl | go_num, by go_num, ?_, HG3.out⟩
            have h := HR3.out
            rw [← Nat.add_assoc, List.range_succ, List.map_append]
            exact h
        · obtain rfl : dp = i + j := by omega
          have hlt' : ¬ (j : Int) < ((i + j : Nat) : Int) - i := by omega
          go_wp2
          go_ret
          exact ⟨by simp, hR2.out, hG2.out⟩
end Go.Proofs.YtodpjpbkefihfaaDoor
