/-
Walk: shortFloat at a whole number's mantissa.
-/
import Derived.Test.YtodpjpbkefihfaaDoorWc
namespace Go.Proofs.YtodpjpbkefihfaaDoor
open Go.RowKit

theorem below_drewN (w : World) {N : Nat} (n : Nat) : Below N w (w.drewN n) := ⟨rfl, rfl, rfl, Nat.le_refl _, fun _ _ => rfl⟩
theorem below_new (w : World) (o : Obj) : Below w.heap.size w (w.alloc o) := (Below.refl _ _).alloc (Nat.le_refl _) _
theorem below_seq {a b c : World} (h : Below a.heap.size a b) (k : Below b.heap.size b c) : Below a.heap.size a c := h.trans (k.mono h.size)

theorem cell149 (w : World) (C s n : Nat) : (((w.alloc (o149 C s)).drewN n).cell? ⟨w.heap.size, 0, none⟩ = some (.int .u64 C)) ∧ (((w.alloc (o149 C s)).drewN n).cell? ⟨w.heap.size, 1, none⟩ = some (.int .u64 0)) ∧ (((w.alloc (o149 C s)).drewN n).cell? ⟨w.heap.size, 2, none⟩ = some (.int .i64 s)) := by
  rw [World.cell?_drewN, World.cell?_drewN, World.cell?_drewN, World.cell?_alloc_new, World.cell?_alloc_new, World.cell?_alloc_new]
  exact ⟨rfl, rfl, rfl⟩

def ShortP (D : Nat) (p : Int) (w : World) (e : Ending) (w' : World) : Prop := e = .returned (.tuple #[.int .u64 D, .int .i64 p]) ∧ Below w.heap.size w w'

/-- The numbers of one whole number, for shortFloat: h1, h2: what uscale gives at the two borders; D: the digits. -/
structure ShortN (k p C s L a b D : Nat) : Prop where
  hk : k ≤ 16
  hp : p = 11 ∨ p = 12 ∨ p = 13 ∨ p = 14 ∨ p = 15 ∨ p = 16
  hs : s = 5 ∨ s = 6 ∨ s = 7 ∨ s = 8
  hL : p * 108853 / 32768 = L
  hsL : s + k + L = 60
  hC : C < 18446744073709551616
  ha : a < 18446744073709551616
  hb : b < 18446744073709551616
  hD : D ≤ 10000000000000000
  hA : a * C / 18446744073709551616 / 2 ^ s < 40 * D
  hB : b * C / 18446744073709551616 / 2 ^ s / 4 / 10 = D

set_option maxRecDepth 100000 in
set_option maxHeartbeats 1000000 in
theorem short_odd (m k p C s L D : Nat) (w : World) (hm1 : 9223372036854775808 < m) (hm2 : m ≤ 18446744073709540000) (hN : ShortN k p C s L (m - 1024) (m + 1024) D) (hR : PowRow w p C)
    (hodd : bits BinOp.and .i64 ((m : Int) / 2048) 1 = 0)
    (hq : ((k : Int) - 63 + 11) * 78913 / 262144 = - (p : Int)) :
    Calls Tryd.prog 121 #[.int .u64 m, .int .i64 ((k : Int) - 63)] w (ShortP D (-((p : Int) - 1)) w) := by
  obtain ⟨hk, hp, hs, hL, hsL, hC, ha, hb, hD, hA, hB⟩ := hN
  have c1 := l10p2_walk ((k : Int) - 63 + 11) (by omega) (by omega)
  rw [hq] at c1
  have c2 := l2p10_walk (p : Int) (by omega) (by omega)
  have eL : (p : Int) * 108853 / 32768 = (L : Int) := by omega
  rw [eL] at c2
  have c3 := prescale_walk p C ((k : Int) - 63) L s w hp (by omega) (by omega) (by omega) (by omega) (by omega) hR
  have c4 := fun n => uscale_walk (m - 1024) C s w.heap.size ((w.alloc (o149 C s)).drewN n) hs ha hC (cell149 w C s n).1 (cell149 w C s n).2.1 (cell149 w C s n).2.2
  have c5 := fun n => uscale_walk (m + 1024) C s w.heap.size ((w.alloc (o149 C s)).drewN n) hs hb hC (cell149 w C s n).1 (cell149 w C s n).2.1 (cell149 w C s n).2.2
  generalize (m - 1024) * C / 18446744073709551616 / 2 ^ s = h1 at hA c4
  generalize (m + 1024) * C / 18446744073709551616 / 2 ^ s = h2 at hB c5
  have C1 := fun W => Lib.hid (c1 W)
  have C2 := fun W => Lib.hid (c2 W)
  have C3 := Lib.hid c3
  have C4 := Lib.hid (c4 0)
  have C5 := fun n => Lib.hid (c5 n)
  rw [World.drewN_zero] at C4
  have HA := Lib.hid hA
  have HB := Lib.hid hB
  have HP := Lib.hid hp
  have HS := Lib.hid hs
  clear c1 c2 c3 c4 c5 hA hB hL hsL hC eL hp hs
  have e1 : ((m - 1024 : Nat) : Int) = (m : Int) - 1024 := by omega
  have e2 : ((m + 1024 : Nat) : Int) = (m : Int) + 1024 := by omega
  rw [e1] at C4
  rw [e2] at C5
  have hp0 : (p : Int) ≤ 16 := by have := HP.out; omega
  go_enter Tryd.func121, Tryd.ntmps121
  go_wp2_with (first
    | (go_at_call 63; refine (Calls.mono (C1 _).out ?_); rintro e w' ⟨rfl, rfl⟩)
    | (go_at_call 102; refine (Calls.mono (C2 _).out ?_); rintro e w' ⟨rfl, rfl⟩)
    | (go_at_call 103; refine (Calls.mono C3.out ?_); rintro e w' ⟨rfl, rfl⟩))
  refine (Calls.mono C4.out ?_)
  rintro e w' ⟨u, n, rfl, rfl, hu1, hu2⟩
  have hq1 : (u + 3) / 4 ≤ 10 * D := by have := HA.out; omega
  have c6 := nudge_walk u (by omega)
  have c7 := ceil_walk u (by omega)
  generalize (u + 3) / 4 = q1 at hq1 c7
  have C6 := fun W => Lib.hid (c6 W)
  have C7 := fun W => Lib.hid (c7 W)
  clear c6 c7 hu1 hu2
  go_wp2_with (first
    | (go_at_call 137; refine (Calls.mono (C6 _).out ?_); rintro e w' ⟨rfl, rfl⟩)
    | (go_at_call 138; refine (Calls.mono (C7 _).out ?_); rintro e w' ⟨rfl, rfl⟩))
  refine (Calls.mono (C5 n).out ?_)
  rintro e w' ⟨u', n', rfl, rfl, hu1, hu2⟩
  have hq2 : u' / 4 / 10 = D := by have := HB.out; omega
  have c6 := nudge_walk u' (by omega)
  have c7 := floor_walk u' (by omega)
  generalize u' / 4 = q2 at hq2 c7
  have C6' := fun W => Lib.hid (c6 W)
  have C7' := fun W => Lib.hid (c7 W)
  clear c6 c7 hu1 hu2
  have hq3 : (q2 : Int) / 10 = (D : Int) := by omega
  go_wp2_with (first
    | (go_at_call 137; refine (Calls.mono (C6' _).out ?_); rintro e w' ⟨rfl, rfl⟩)
    | (go_at_call 139; refine (Calls.mono (C7' _).out ?_); rintro e w' ⟨rfl, rfl⟩))
  go_ret2
  exact ⟨rfl, below_seq (below_new w _) (below_drewN _ _)⟩
set_option maxRecDepth 100000 in
set_option maxHeartbeats 1000000 in
theorem short_two (k p C s L D : Nat) (w : World) (hN : ShortN k p C s L 9223372036854775296 9223372036854776832 D) (hR : PowRow w p C)
    (hq : (((k : Int) - 63 + 11) * 631305 - 261663) / 2097152 = - (p : Int)) :
    Calls Tryd.prog 121 #[.int .u64 9223372036854775808, .int .i64 ((k : Int) - 63)] w (ShortP D (-((p : Int) - 1)) w) := by
  obtain ⟨hk, hp, hs, hL, hsL, hC, ha, hb, hD, hA, hB⟩ := hN
  have c1 := skewed_walk ((k : Int) - 63 + 11) (by omega) (by omega)
  rw [hq] at c1
  have c2 := l2p10_walk (p : Int) (by omega) (by omega)
  have eL : (p : Int) * 108853 / 32768 = (L : Int) := by omega
  rw [eL] at c2
  have c3 := prescale_walk p C ((k : Int) - 63) L s w hp (by omega) (by omega) (by omega) (by omega) (by omega) hR
  have c4 := fun n => uscale_walk 9223372036854775296 C s w.heap.size ((w.alloc (o149 C s)).drewN n) hs ha hC (cell149 w C s n).1 (cell149 w C s n).2.1 (cell149 w C s n).2.2
  have c5 := fun n => uscale_walk 9223372036854776832 C s w.heap.size ((w.alloc (o149 C s)).drewN n) hs hb hC (cell149 w C s n).1 (cell149 w C s n).2.1 (cell149 w C s n).2.2
  generalize 9223372036854775296 * C / 18446744073709551616 / 2 ^ s = h1 at hA c4
  generalize 9223372036854776832 * C / 18446744073709551616 / 2 ^ s = h2 at hB c5
  have C1 := fun W => Lib.hid (c1 W)
  have C2 := fun W => Lib.hid (c2 W)
  have C3 := Lib.hid c3
  have C4 := Lib.hid (c4 0)
  have C5 := fun n => Lib.hid (c5 n)
  rw [World.drewN_zero] at C4
  have HA := Lib.hid hA
  have HB := Lib.hid hB
  have HP := Lib.hid hp
  have HS := Lib.hid hs
  clear c1 c2 c3 c4 c5 hA hB hL hsL hC eL hp hs
  have hodd : bits BinOp.and .i64 4503599627370496 1 = 0 := by decide +kernel
  have hp0 : (p : Int) ≤ 16 := by have := HP.out; omega
  go_enter Tryd.func121, Tryd.ntmps121
  go_wp2_with (first
    | (go_at_call 136; refine (Calls.mono (C1 _).out ?_); rintro e w' ⟨rfl, rfl⟩)
    | (go_at_call 102; refine (Calls.mono (C2 _).out ?_); rintro e w' ⟨rfl, rfl⟩)
    | (go_at_call 103; refine (Calls.mono C3.out ?_); rintro e w' ⟨rfl, rfl⟩))
  refine (Calls.mono C4.out ?_)
  rintro e w' ⟨u, n, rfl, rfl, hu1, hu2⟩
  have hq1 : (u + 3) / 4 ≤ 10 * D := by have := HA.out; omega
  have c6 := nudge_walk u (by omega)
  have c7 := ceil_walk u (by omega)
  generalize (u + 3) / 4 = q1 at hq1 c7
  have C6 := fun W => Lib.hid (c6 W)
  have C7 := fun W => Lib.hid (c7 W)
  clear c6 c7 hu1 hu2
  go_wp2_with (first
    | (go_at_call 137; refine (Calls.mono (C6 _).out ?_); rintro e w' ⟨rfl, rfl⟩)
    | (go_at_call 138; refine (Calls.mono (C7 _).out ?_); rintro e w' ⟨rfl, rfl⟩))
  refine (Calls.mono (C5 n).out ?_)
  rintro e w' ⟨u', n', rfl, rfl, hu1, hu2⟩
  have hq2 : u' / 4 / 10 = D := by have := HB.out; omega
  have c6 := nudge_walk u' (by omega)
  have c7 := floor_walk u' (by omega)
  generalize u' / 4 = q2 at hq2 c7
  have C6' := fun W => Lib.hid (c6 W)
  have C7' := fun W => Lib.hid (c7 W)
  clear c6 c7 hu1 hu2
  have hq3 : (q2 : Int) / 10 = (D : Int) := by omega
  go_wp2_with (first
    | (go_at_call 137; refine (Calls.mono (C6' _).out ?_); rintro e w' ⟨rfl, rfl⟩)
    | (go_at_call 139; refine (Calls.mono (C7' _).out ?_); rintro e w' ⟨rfl, rfl⟩))
  go_ret2
  exact ⟨rfl, below_seq (below_new w _) (below_drewN _ _)⟩
end Go.Proofs.YtodpjpbkefihfaaDoor
