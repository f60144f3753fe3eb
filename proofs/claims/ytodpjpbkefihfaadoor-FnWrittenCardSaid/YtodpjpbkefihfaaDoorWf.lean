/-
Walk: setDigits.
-/
import Derived.Test.YtodpjpbkefihfaaDoorWe
import Derived.Deep.LoopGhost
namespace Go.Proofs.YtodpjpbkefihfaaDoor
open Go.RowKit Go.Sort Go.Lib

abbrev encB : UInt8 → Value := fun b => Value.int .u8 (b.toNat : Int)

/-- What setDigits leaves: j digits, the rest of the row's first nd are '0'. -/
def SetP (b nd : Nat) (dp : Int) (f : Nat → UInt8) (w : World) (e : Ending) (w' : World) : Prop :=
  ∃ j : Nat, e = .returned (.tuple #[.int .i64 dp, .int .i64 j]) ∧ j ≤ nd ∧ Below b w w' ∧ (∀ t, t < nd → w'.cell? ⟨b, t, none⟩ = some (.int .u8 ((f t).toNat : Int))) ∧ (∀ t, j ≤ t → t < nd → f t = 48) ∧ (0 < j → f (j - 1) ≠ 48)

theorem below_putRow (w : World) (b : Nat) (dk : Array UInt8) (n : Nat) : Below b w ((putRow encB w b 0 dk).drewN n) := by
  refine ⟨rfl, rfl, rfl, ?_, fun k hk => ?_⟩
  · show w.heap.size ≤ (w.heap.modify b _).size
    simp
  · show (w.heap.modify b _)[k]? = w.heap[k]?
    rw [Array.getElem?_modify, if_neg (by omega)]

set_option maxRecDepth 100000 in
set_option maxHeartbeats 1000000 in
theorem setDigits_walk (b D nd : Nat) (ex : Int) (w : World) (hH : Holds encB w b 0 (Array.replicate nd 0)) (hD : D < 10 ^ nd) (hD64 : D < 18446744073709551616) (hnd : nd ≤ 20) (h1 : -100 ≤ ex) (h2 : ex ≤ 100) :
    Calls Tryd.prog 117 #[.slice (some ⟨b, 0, none⟩) 32 32, .int .u64 D, .int .i64 ex, .int .i64 nd] w (SetP b nd (nd + ex) (fun t => dg D (nd - 1 - t)) w) := by
  have hf := Tryd.internal_strconv_formatBase10 b 0 32 D (Array.replicate nd 0) w hH (by simpa using hD) hD64 (by rw [Array.size_replicate]; omega)
  rw [Array.size_replicate] at hf
  have HF := Lib.hid hf
  have HH := Lib.hid hH
  clear hf hH
  go_enter Tryd.func117, Tryd.ntmps117
  go_wp2_with fail
  refine (Calls.mono HF.out ?_)
  rintro e w' ⟨rfl, n, v', dk, rfl, hI⟩
  have hb := below_putRow w b dk n
  have hc : ∀ t, t < nd → ((putRow encB w b 0 dk).drewN n).cell? ⟨b, t, none⟩ = some (.int .u8 ((dg D (nd - 1 - t)).toNat : Int)) := fun t ht => by
    have h := cell?_putRow encB w b 0 _ dk HH.out (by rw [hI.size, Array.size_replicate]) t (by rw [hI.size]; exact ht)
    rw [Nat.zero_add, hI.done t (Nat.zero_le _) ht] at h
    rw [World.cell?_drewN]
    exact h
  generalize (putRow encB w b 0 dk).drewN n = w1 at hb hc
  clear hI HH HF
  have HB := Lib.hid hb
  have HC := Lib.hid hc
  clear hb hc
  go_wp2
  go_loopg [3] nd (fun g v3 wr => ∃ j : Nat, w1 = wr ∧ g = j ∧ j ≤ nd ∧ v3 = .int .i64 j ∧ Hid (∀ t, j ≤ t → t < nd → dg D (nd - 1 - t) = 48))
  case atStart => exact ⟨nd, rfl, rfl, Nat.le_refl _, rfl, fun t h1 h2 => by omega⟩
  case round =>
    obtain ⟨j, rfl, hg, hj, rfl, hz⟩ := hrel
    cases j with
    | zero =>
      go_wp2
      go_ret2
      exact ⟨0, rfl, Nat.zero_le _, HB.out, HC.out, hz.out, fun h => by omega⟩
    | succ i =>
      have hci := HC.out i (by omega)
      by_cases h48 : dg D (nd - 1 - i) = 48
      · rw [h48] at hci
        go_wp2
        go_roundg i
        case measure => omega
        case rel =>
          refine ⟨i, rfl, rfl, by omega, rfl, fun t h1 h2 => ?_⟩
          by_cases e : t = i
          · rw [e]; exact h48
          · exact hz.out t (by omega) h2
      · have hne : (((dg D (nd - 1 - i)).toNat : Int) == 48) = false := by
          refine beq_eq_false_iff_ne.2 fun e => h48 ?_
          have e' : (dg D (nd - 1 - i)).toNat = 48 := by omega
          exact UInt8.toNat_inj.1 e'
        generalize ((dg D (nd - 1 - i)).toNat : Int) = gz at hci hne
        go_wp2
        go_ret2
        exact ⟨i + 1, rfl, hj, HB.out, HC.out, hz.out, fun _ => h48⟩
end Go.Proofs.YtodpjpbkefihfaaDoor
