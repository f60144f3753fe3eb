/-
The walk of readFloat over a plain number (digits, one point inside, a '-' ahead).
-/
import Derived.Test.YtodpjpbkefihfaaDoorPb
import Derived.WalkMore
import Derived.Deep.LoopGhost
namespace Go.Proofs.YtodpjpbkefihfaaDoor
open Go.RowKit

theorem results_tmp7 {fn : Func} {a b c d e f g : Tmp} (h : fn.results = #[.tmp a, .tmp b, .tmp c, .tmp d, .tmp e, .tmp f, .tmp g]) (tmps : Array Value) (P : Program) (w : World) :
    (results fn tmps).run P w = .ok (.tuple #[tmps.getD a undef, tmps.getD b undef, tmps.getD c undef, tmps.getD d undef, tmps.getD e undef, tmps.getD f undef, tmps.getD g undef]) w := by simp [results, h]

theorem lower_fin : ∀ c : Fin 256, c.val ≠ 88 → c.val ≠ 120 → bits .or .u8 (c.val : Int) 32 ≠ 120 := by decide +kernel
theorem lower_other (c : Int) (w : World) (h0 : 0 ≤ c) (h1 : c ≤ 255) (h2 : c ≠ 88) (h3 : c ≠ 120) :
    Calls Tryd.prog 100 #[.int .u8 c] w fun e w' => ∃ v : Int, v ≠ 120 ∧ e = .returned (.int .u8 v) ∧ w = w' := by
  refine (Tryd.internal_strconv_lower c w).mono fun e w' ⟨he, hw⟩ => ?_
  obtain ⟨n, rfl⟩ : ∃ n : Nat, c = n := ⟨c.toNat, by omega⟩
  exact ⟨_, lower_fin ⟨n, by omega⟩ (by simp only; omega) (by simp only; omega), he, hw.symm⟩

theorem step_dot {t : RF} {c : UInt8} (h : c.toNat = 46) : t.step c = { t with dot := true, dp := t.nd } := by unfold RF.step; rw [if_pos h]
theorem step_zero {t : RF} {c : UInt8} (h : c.toNat = 48) (hn : t.nd = 0) : t.step c = { t with dig := true, dp := t.dp - 1 } := by unfold RF.step; rw [if_neg (by omega), if_pos ⟨h, hn⟩]
theorem step_digit {t : RF} {c : UInt8} (h : c.toNat ≠ 46) (hn : ¬ (c.toNat = 48 ∧ t.nd = 0)) : t.step c = { t with m := t.m * 10 + (c.toNat - 48), nd := t.nd + 1, dig := true } := by unfold RF.step; rw [if_neg h, if_neg hn]
theorem rfE_nodot (m nd : Nat) (dp : Int) (dig : Bool) : rfE ⟨m, nd, dp, false, dig⟩ = 0 := by unfold rfE; simp
theorem rfE_dot (m nd : Nat) (dp : Int) (dig : Bool) (h : ((m : Int) != 0) = true) : rfE ⟨m, nd, dp, true, dig⟩ = dp - nd := by
  unfold rfE; rw [if_neg (by simpa using h), if_pos rfl]
theorem rfE_nought (m nd : Nat) (dp : Int) (dot dig : Bool) (h : ((m : Int) != 0) = false) : rfE ⟨m, nd, dp, dot, dig⟩ = 0 := by
  unfold rfE; rw [if_pos (by simpa using h)]
theorem isD_iff {c : UInt8} (h : isD c = true) : 48 ≤ c.toNat ∧ c.toNat ≤ 57 := by unfold isD at h; simpa using h

theorem take_tail_snoc (s : ByteArray) (k : Nat) (h : k + 1 < s.size) : s.data.toList.tail.take (k + 1) = s.data.toList.tail.take k ++ [s[k + 1]] := by
  have hl : k < s.data.toList.tail.length := by simp; omega
  rw [List.take_succ_eq_append_getElem hl, List.getElem_tail]; rfl

set_option maxRecDepth 100000 in
set_option maxHeartbeats 4000000 in
theorem read_walk0 (s : ByteArray) (w : World) (F : PlainFacts s.data.toList) :
    Calls Tryd.prog 69 #[.string s] w fun e w' => e = .returned (.tuple #[.int .u64 (rf s.data.toList).m, .int .i64 (rfE (rf s.data.toList)), .bool false, .bool false, .bool false, .int .i64 s.size, .bool true]) ∧ w = w' := by
  have hL : s.data.toList.length = s.size := by simp
  have hs : s.size ≤ 15 := by have := F.len; omega
  have h1 : 0 < s.size := by have := F.ne; omega
  have hne : ¬ s = ByteArray.empty := by rintro rfl; simp at h1
  have hd0 := isD_iff (F.first F.ne)
  have e0 : s.data.toList[0]'F.ne = s[0] := rfl
  rw [e0] at hd0
  obtain ⟨hd1, hd2⟩ := hd0
  have hx : ∀ h : 1 < s.size, (s[1]).toNat ≤ 57 := fun h => by
    rcases F.at_ 1 (by omega) with a | ⟨a, _⟩
    · have := (isD_iff a).2
      skip
      exact this
    · have : (s.data.toList[1]'(by omega)) = s[1] := rfl
      rw [this] at a; omega
  clear e0
  have HL := Lib.hid hL
  have hcase : (¬ 2 < s.size) ∨ (2 < s.size ∧ (((s[0].toNat : Nat) : Int) == 48) = false) ∨ (∃ h : 1 < s.size, 2 < s.size ∧ (((s[0].toNat : Nat) : Int) == 48) = true ∧ (s[1]).toNat ≤ 57) := by
    by_cases h2 : 2 < s.size
    · cases hq : (((s[0].toNat : Nat) : Int) == 48) with
      | false => exact Or.inr (Or.inl ⟨h2, rfl⟩)
      | true => exact Or.inr (Or.inr ⟨by omega, h2, rfl, hx _⟩)
    · exact Or.inl h2
  clear hL hx
  go_enter Tryd.func69, Tryd.ntmps69
  go_wp2_with fail
  go_step3
  rcases hcase with h2 | ⟨h2, hq⟩ | ⟨h1x, h2, hq, hx1⟩
  all_goals go_wp2_with (go_at_call 100; refine (lower_other _ _ (by omega) (by omega) (by omega) (by omega)).mono ?_; rintro e w' ⟨v, hv, rfl, rfl⟩; have hvb : (v == 120) = false := by simpa using hv)
  all_goals try go_step3
  all_goals go_wp2_with fail
  all_goals
    go_loopg [2, 5, 7, 9, 13, 14, 15, 16, 17] s.size (fun g v2 v5 v7 v9 v13 v14 v15 v16 v17 wr => ∃ (k m nd : Nat) (dp : Int) (dot dig : Bool), w = wr ∧ g = s.size - k ∧ k ≤ s.size ∧ v2 = .int .u64 m ∧ v5 = .bool false ∧ v7 = .int .i64 k ∧ v9 = .bool false ∧ v13 = .bool dot ∧ v14 = .bool dig ∧ v15 = .int .i64 nd ∧ v16 = .int .i64 nd ∧ v17 = .int .i64 dp ∧ Hid (rf (s.data.toList.take k) = ⟨m, nd, dp, dot, dig⟩))
    case atStart => exact ⟨0, 0, 0, 0, false, false, rfl, rfl, Nat.zero_le _, rfl, rfl, rfl, rfl, rfl, rfl, rfl, rfl, rfl, rfl⟩
    case round =>
      obtain ⟨k, m, nd, dp, dot, dig, rfl, rfl, hk, rfl, rfl, rfl, rfl, rfl, rfl, rfl, rfl, rfl, HR⟩ := hrel
      have hin := F.inv k (by rw [HL.out]; exact hk)
      have hmm := rf_m F k (by rw [HL.out]; exact hk)
      rw [HR.out] at hin hmm
      have hnd := hin.nd
      have hlo := hin.lo
      have hhi := hin.hi
      simp only at hnd hlo hhi hmm
      clear hin
      by_cases hlt : k < s.size
      · have HS := Lib.hid (take_snoc s k hlt)
        have hat := F.at_ k (by rw [HL.out]; omega)
        have ek : (s.data.toList[k]'(by rw [HL.out]; omega)) = s[k] := rfl
        rw [ek, HR.out] at hat
        clear ek
        rcases hat with hD | ⟨hc, hd⟩
        · obtain ⟨hc1, hc2⟩ := isD_iff hD
          clear hD
          have hne46 : s[k].toNat ≠ 46 := by omega
          go_wp2
          · have hc : s[k].toNat = 48 := by omega
            have hn : nd = 0 := by have h := ‹((nd : Int) == 0) = true›; simpa using h
            have HR' : Hid (rf (s.data.toList.take (k + 1)) = ⟨m, nd, dp - 1, dot, true⟩) := by show _ = _; rw [HS.out, rf_snoc, HR.out, step_zero hc hn]
            go_roundg (s.size - (k + 1))
            case measure => omega
            case rel => exact ⟨k + 1, m, nd, dp - 1, dot, true, rfl, rfl, by omega, rfl, rfl, by go_num, rfl, rfl, rfl, rfl, rfl, rfl, HR'⟩
          · have hc : s[k].toNat = 48 := by omega
            have hn : ¬ (s[k].toNat = 48 ∧ nd = 0) := by have h := ‹((nd : Int) == 0) = false›; simp at h; omega
            have HR' : Hid (rf (s.data.toList.take (k + 1)) = ⟨m * 10 + (s[k].toNat - 48), nd + 1, dp, dot, true⟩) := by show _ = _; rw [HS.out, rf_snoc, HR.out, step_digit hne46 hn]
            go_roundg (s.size - (k + 1))
            case measure => omega
            case rel => exact ⟨k + 1, m * 10 + (s[k].toNat - 48), nd + 1, dp, dot, true, rfl, rfl, by omega, by first | (congr 1; omega) | (congr 1; done), rfl, by go_num, rfl, rfl, rfl, by go_num, by go_num, rfl, HR'⟩
          · have hn : ¬ (s[k].toNat = 48 ∧ nd = 0) := by omega
            have HR' : Hid (rf (s.data.toList.take (k + 1)) = ⟨m * 10 + (s[k].toNat - 48), nd + 1, dp, dot, true⟩) := by show _ = _; rw [HS.out, rf_snoc, HR.out, step_digit hne46 hn]
            go_roundg (s.size - (k + 1))
            case measure => omega
            case rel => exact ⟨k + 1, m * 10 + (s[k].toNat - 48), nd + 1, dp, dot, true, rfl, rfl, by omega, by first | (congr 1; omega) | (congr 1; done), rfl, by go_num, rfl, rfl, rfl, by go_num, by go_num, rfl, HR'⟩
        · simp only at hd
          subst hd
          go_wp2
          have HR' : Hid (rf (s.data.toList.take (k + 1)) = ⟨m, nd, nd, true, dig⟩) := by show _ = _; rw [HS.out, rf_snoc, HR.out, step_dot hc]
          go_roundg (s.size - (k + 1))
          case measure => omega
          case rel => exact ⟨k + 1, m, nd, nd, true, dig, rfl, rfl, by omega, rfl, rfl, by go_num, rfl, rfl, rfl, rfl, rfl, rfl, HR'⟩
      · have hdig : dig = true := by
          have h := F.dig
          rw [← List.take_of_length_le (l := s.data.toList) (i := k) (by rw [HL.out]; omega), HR.out] at h
          exact h
        have HE : Hid (rf s.data.toList = ⟨m, nd, dp, dot, dig⟩) := by
          show _ = _
          rw [← HR.out, List.take_of_length_le (by rw [HL.out]; omega)]
        subst hdig
        have hks : k = s.size := by omega
        have HK : Hid (Value.int .i64 k = Value.int .i64 s.size) := by show _ = _; first | (rw [← hks]; done) | (rw [← hks]; go_num)
        clear hks
        cases dot with
        | false =>
          go_wp2
          all_goals
            try rw [Exit.noGoto_ret]
            refine bodyPost_ret (results_tmp7 rfl _ _ _) rfl ⟨?_, rfl⟩
            rw [HE.out, rfE_nodot, ← HK.out]
            rfl
        | true =>
          go_wp2
          · try rw [Exit.noGoto_ret]
            refine bodyPost_ret (results_tmp7 rfl _ _ _) rfl ⟨?_, rfl⟩
            rw [HE.out, rfE_dot _ _ _ _ ‹_›, ← HK.out]
            rfl
          · try rw [Exit.noGoto_ret]
            refine bodyPost_ret (results_tmp7 rfl _ _ _) rfl ⟨?_, rfl⟩
            rw [HE.out, rfE_nought _ _ _ _ _ ‹_›, ← HK.out]
            rfl

set_option maxRecDepth 100000 in
set_option maxHeartbeats 4000000 in
theorem read_walk1 (s : ByteArray) (w : World) (h0 : 0 < s.size) (hm : (s[0]).toNat = 45) (F : PlainFacts s.data.toList.tail) :
    Calls Tryd.prog 69 #[.string s] w fun e w' => e = .returned (.tuple #[.int .u64 (rf s.data.toList.tail).m, .int .i64 (rfE (rf s.data.toList.tail)), .bool true, .bool false, .bool false, .int .i64 s.size, .bool true]) ∧ w = w' := by
  have hL : s.data.toList.tail.length = s.size - 1 := by simp
  have hs : s.size - 1 ≤ 15 := by have := F.len; omega
  have h1 : 1 < s.size := by have := F.ne; omega
  have hne : ¬ s = ByteArray.empty := by rintro rfl; simp at h1
  have hd0 := isD_iff (F.first F.ne)
  have e0 : s.data.toList.tail[0]'F.ne = s[1] := List.getElem_tail _
  rw [e0] at hd0
  obtain ⟨hd1, hd2⟩ := hd0
  have hx : ∀ h : 2 < s.size, (s[2]).toNat ≤ 57 := fun h => by
    rcases F.at_ 1 (by omega) with a | ⟨a, _⟩
    · have := (isD_iff a).2
      rw [List.getElem_tail] at this
      exact this
    · have : (s.data.toList.tail[1]'(by omega)) = s[2] := List.getElem_tail _
      rw [this] at a; omega
  clear e0
  have HL := Lib.hid hL
  have hcase : (¬ 3 < s.size) ∨ (3 < s.size ∧ (((s[1].toNat : Nat) : Int) == 48) = false) ∨ (∃ h : 2 < s.size, 3 < s.size ∧ (((s[1].toNat : Nat) : Int) == 48) = true ∧ (s[2]).toNat ≤ 57) := by
    by_cases h2 : 3 < s.size
    · cases hq : (((s[1].toNat : Nat) : Int) == 48) with
      | false => exact Or.inr (Or.inl ⟨h2, rfl⟩)
      | true => exact Or.inr (Or.inr ⟨by omega, h2, rfl, hx _⟩)
    · exact Or.inl h2
  clear hL hx
  go_enter Tryd.func69, Tryd.ntmps69
  go_wp2_with fail
  go_step3
  rcases hcase with h2 | ⟨h2, hq⟩ | ⟨h1x, h2, hq, hx1⟩
  all_goals go_wp2_with (go_at_call 100; refine (lower_other _ _ (by omega) (by omega) (by omega) (by omega)).mono ?_; rintro e w' ⟨v, hv, rfl, rfl⟩; have hvb : (v == 120) = false := by simpa using hv)
  all_goals try go_step3
  all_goals go_wp2_with fail
  all_goals
    go_loopg [2, 5, 7, 9, 13, 14, 15, 16, 17] s.size (fun g v2 v5 v7 v9 v13 v14 v15 v16 v17 wr => ∃ (k m nd : Nat) (dp : Int) (dot dig : Bool), w = wr ∧ g = s.size - k ∧ k ≤ s.size - 1 ∧ v2 = .int .u64 m ∧ v5 = .bool false ∧ v7 = .int .i64 ((k : Int) + 1) ∧ v9 = .bool false ∧ v13 = .bool dot ∧ v14 = .bool dig ∧ v15 = .int .i64 nd ∧ v16 = .int .i64 nd ∧ v17 = .int .i64 dp ∧ Hid (rf (s.data.toList.tail.take k) = ⟨m, nd, dp, dot, dig⟩))
    case atStart => exact ⟨0, 0, 0, 0, false, false, rfl, rfl, Nat.zero_le _, rfl, rfl, rfl, rfl, rfl, rfl, rfl, rfl, rfl, rfl⟩
    case round =>
      obtain ⟨k, m, nd, dp, dot, dig, rfl, rfl, hk, rfl, rfl, rfl, rfl, rfl, rfl, rfl, rfl, rfl, HR⟩ := hrel
      have hin := F.inv k (by rw [HL.out]; exact hk)
      have hmm := rf_m F k (by rw [HL.out]; exact hk)
      rw [HR.out] at hin hmm
      have hnd := hin.nd
      have hlo := hin.lo
      have hhi := hin.hi
      simp only at hnd hlo hhi hmm
      clear hin
      by_cases hlt : k + 1 < s.size
      · have HS := Lib.hid (take_tail_snoc s k hlt)
        have hat := F.at_ k (by rw [HL.out]; omega)
        have ek : (s.data.toList.tail[k]'(by rw [HL.out]; omega)) = s[k + 1] := List.getElem_tail _
        rw [ek, HR.out] at hat
        clear ek
        rcases hat with hD | ⟨hc, hd⟩
        · obtain ⟨hc1, hc2⟩ := isD_iff hD
          clear hD
          have hne46 : s[k + 1].toNat ≠ 46 := by omega
          go_wp2
          · have hc : s[k + 1].toNat = 48 := by omega
            have hn : nd = 0 := by have h := ‹((nd : Int) == 0) = true›; simpa using h
            have HR' : Hid (rf (s.data.toList.tail.take (k + 1)) = ⟨m, nd, dp - 1, dot, true⟩) := by show _ = _; rw [HS.out, rf_snoc, HR.out, step_zero hc hn]
            go_roundg (s.size - (k + 1))
            case measure => omega
            case rel => exact ⟨k + 1, m, nd, dp - 1, dot, true, rfl, rfl, by omega, rfl, rfl, by go_num, rfl, rfl, rfl, rfl, rfl, rfl, HR'⟩
          · have hc : s[k + 1].toNat = 48 := by omega
            have hn : ¬ (s[k + 1].toNat = 48 ∧ nd = 0) := by have h := ‹((nd : Int) == 0) = false›; simp at h; omega
            have HR' : Hid (rf (s.data.toList.tail.take (k + 1)) = ⟨m * 10 + (s[k + 1].toNat - 48), nd + 1, dp, dot, true⟩) := by show _ = _; rw [HS.out, rf_snoc, HR.out, step_digit hne46 hn]
            go_roundg (s.size - (k + 1))
            case measure => omega
            case rel => exact ⟨k + 1, m * 10 + (s[k + 1].toNat - 48), nd + 1, dp, dot, true, rfl, rfl, by omega, by first | (congr 1; omega) | (congr 1; done), rfl, by go_num, rfl, rfl, rfl, by go_num, by go_num, rfl, HR'⟩
          · have hn : ¬ (s[k + 1].toNat = 48 ∧ nd = 0) := by omega
            have HR' : Hid (rf (s.data.toList.tail.take (k + 1)) = ⟨m * 10 + (s[k + 1].toNat - 48), nd + 1, dp, dot, true⟩) := by show _ = _; rw [HS.out, rf_snoc, HR.out, step_digit hne46 hn]
            go_roundg (s.size - (k + 1))
            case measure => omega
            case rel => exact ⟨k + 1, m * 10 + (s[k + 1].toNat - 48), nd + 1, dp, dot, true, rfl, rfl, by omega, by first | (congr 1; omega) | (congr 1; done), rfl, by go_num, rfl, rfl, rfl, by go_num, by go_num, rfl, HR'⟩
        · simp only at hd
          subst hd
          go_wp2
          have HR' : Hid (rf (s.data.toList.tail.take (k + 1)) = ⟨m, nd, nd, true, dig⟩) := by show _ = _; rw [HS.out, rf_snoc, HR.out, step_dot hc]
          go_roundg (s.size - (k + 1))
          case measure => omega
          case rel => exact ⟨k + 1, m, nd, nd, true, dig, rfl, rfl, by omega, rfl, rfl, by go_num, rfl, rfl, rfl, rfl, rfl, rfl, HR'⟩
      · have hdig : dig = true := by
          have h := F.dig
          rw [← List.take_of_length_le (l := s.data.toList.tail) (i := k) (by rw [HL.out]; omega), HR.out] at h
          exact h
        have HE : Hid (rf s.data.toList.tail = ⟨m, nd, dp, dot, dig⟩) := by
          show _ = _
          rw [← HR.out, List.take_of_length_le (by rw [HL.out]; omega)]
        subst hdig
        have hks : k + 1 = s.size := by omega
        have HK : Hid (Value.int .i64 ((k : Int) + 1) = Value.int .i64 s.size) := by show _ = _; first | (rw [← hks]; done) | (rw [← hks]; go_num)
        clear hks
        cases dot with
        | false =>
          go_wp2
          all_goals
            try rw [Exit.noGoto_ret]
            refine bodyPost_ret (results_tmp7 rfl _ _ _) rfl ⟨?_, rfl⟩
            rw [HE.out, rfE_nodot, ← HK.out]
            rfl
        | true =>
          go_wp2
          · try rw [Exit.noGoto_ret]
            refine bodyPost_ret (results_tmp7 rfl _ _ _) rfl ⟨?_, rfl⟩
            rw [HE.out, rfE_dot _ _ _ _ ‹_›, ← HK.out]
            rfl
          · try rw [Exit.noGoto_ret]
            refine bodyPost_ret (results_tmp7 rfl _ _ _) rfl ⟨?_, rfl⟩
            rw [HE.out, rfE_nought _ _ _ _ _ ‹_›, ← HK.out]
            rfl
end Go.Proofs.YtodpjpbkefihfaaDoor
