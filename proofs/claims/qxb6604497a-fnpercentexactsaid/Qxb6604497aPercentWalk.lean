/-
  THE WALK over the law FnPercentExact (seat b6604497a).
-/
import Derived.Test.Qxb6604497aTierWalks
import Derived.Test.Qxb6604497aWideWalks
namespace Go.Proofs.Qxb6604497a
open Go.RowKit
set_option linter.unusedVariables false

theorem mul_as (a b X Y : Int) (w : World) (h0 : 0 ≤ a) (h1 : a ≤ 18446744073709551615) (h2 : 0 ≤ b) (h3 : b ≤ 18446744073709551615) (hX : mulHi a b = X) (hY : mulLo a b = Y) :
    Calls Try.prog 9 #[.int .u64 a, .int .u64 b] w fun e w' => e = .returned (.tuple #[.int .u64 X, .int .u64 Y]) ∧ w' = w := by
  subst hX hY
  exact mul_any a b w h0 h1 h2 h3

/-! ### the plain law -/
theorem perc_law (B U : Int) (h0 : 0 < B) (hB : B ≤ 18446744073709551615) (hmod : B % 100 = 0) (hU : 0 ≤ U) (hU2 : U ≤ 18446744073709551615) :
    0 ≤ U / (B / 100) ∧ U / (B / 100) ≤ 18446744073709551615 ∧ U / (B / 100) * B ≤ U * 100 ∧ U * 100 < U / (B / 100) * B + B := by
  obtain ⟨H, hH⟩ : ∃ H, H = B / 100 := ⟨_, rfl⟩
  have eB : B = 100 * H := by omega
  have h1 : 1 ≤ H := by omega
  rw [← hH]
  have q0 : 0 ≤ U / H := Int.ediv_nonneg hU (by omega)
  have d := Int.mul_ediv_add_emod U H
  have r0 := Int.emod_nonneg U (show H ≠ 0 by omega)
  have r1 := Int.emod_lt_of_pos U (show 0 < H by omega)
  have le : U / H ≤ U := Int.ediv_le_self H hU
  have e : U / H * B = 100 * (H * (U / H)) := by
    rw [eB, ← Int.mul_assoc, Int.mul_comm (U / H) 100, Int.mul_assoc, Int.mul_comm (U / H) H]
  rw [e]
  refine ⟨q0, by omega, ?_, ?_⟩
  · omega
  · omega

set_option maxHeartbeats 1600000 in
theorem percent_main (B U : Int) (ao : Option Addr) (n cap : Nat) (w : World) (ps ds us : Nat → Int) (h0 : 0 < B) (hB : B ≤ 18446744073709551615) (hmod : B % 100 = 0) (hU : 0 ≤ U) (hU2 : U ≤ 18446744073709551615) (hn : n ≤ 32768) (hnil : ao = none → n = 0) (hr : Rd3 w ao n ps ds us) :
    Calls Try.prog 5 #[.int .u64 B, .slice ao n cap, .int .u64 U] w fun e w' => e = .returned (.bool true) ∧ Below w.heap.size w w' := by
  have HR : Hid (Rd3 w ao n ps ds us) := hr
  have HNIL : Hid (ao = none → n = 0) := hnil
  have hh : 1 ≤ B / 100 := by omega
  have L := perc_law B U h0 hB hmod hU hU2
  obtain ⟨P, hP⟩ : ∃ P, U / (B / 100) = P := ⟨_, rfl⟩
  rw [hP] at L
  obtain ⟨p0, p1, L1, L2⟩ := L
  have HP : Hid (U / (B / 100) = P) := hP
  obtain ⟨X, hX⟩ : ∃ X, mulHi U 100 = X := ⟨_, rfl⟩
  obtain ⟨Y, hY⟩ : ∃ Y, mulLo U 100 = Y := ⟨_, rfl⟩
  obtain ⟨Z, hZ⟩ : ∃ Z, mulHi P B = Z := ⟨_, rfl⟩
  obtain ⟨V, hV⟩ : ∃ V, mulLo P B = V := ⟨_, rfl⟩
  have HX : Hid (mulHi U 100 = X) := hX
  have HY : Hid (mulLo U 100 = Y) := hY
  have HZ : Hid (mulHi P B = Z) := hZ
  have HV : Hid (mulLo P B = V) := hV
  have m1 := mul_exact U 100 hU hU2 (by omega) (by omega)
  have m2 := mul_exact P B p0 p1 (by omega) hB
  rw [hX, hY] at m1
  rw [hZ, hV] at m2
  obtain ⟨m1e, x0, x1, y0, y1⟩ := m1
  obtain ⟨m2e, z0, z1, v0, v1⟩ := m2
  rw [← m2e] at L1 L2
  have M1 : Hid (X * 18446744073709551616 + Y = U * 100) := m1e
  have K1 : Hid (Z * 18446744073709551616 + V ≤ U * 100) := L1
  have K2 : Hid (U * 100 < Z * 18446744073709551616 + V + B) := L2
  have z2 : Z < 18446744073709551615 := by omega
  have hd0 : (B == 0) = false := by
    have : ¬ B = 0 := by omega
    simpa using this
  have hd1 : (B % 100 != 0) = false := by rw [hmod]; rfl
  clear hP hX hY hZ hV hr hnil hmod L1 L2 m1e m2e
  go_enter Try.func5, Try.ntmps5
  go_wp2_with (go_at_call 13; go_in)
  refine (quota_any B ao n cap w hn ps ds us HNIL.out HR.out).mono ?_
  rintro e1 w1 ⟨ro, rfl, r1, b1⟩
  have B1 : Hid (Below w.heap.size w w1) := b1
  clear r1 b1
  go_wp2_with fail
  refine (perc_is B U P ro n _ h0 hB hU hU2 hh HP.out).mono ?_
  rintro e2 w2 ⟨rfl, b2⟩
  have B2 : Hid (Below w.heap.size w w2) := (B1.out.alloc B1.out.size _).trans (b2.mono (by have := B1.out.size; simp; omega))
  clear b2
  go_wp2_with fail
  refine (mul_as U 100 X Y w2 hU hU2 (by omega) (by omega) HX.out HY.out).mono ?_
  rintro e3 w3 ⟨rfl, hw⟩
  obtain rfl := hw.symm
  clear hw
  go_wp2_with fail
  refine (mul_as P B Z V _ p0 p1 (by omega) hB HZ.out HV.out).mono ?_
  rintro e4 w4 ⟨rfl, hw⟩
  obtain rfl := hw.symm
  clear hw
  go_wp2_with fail
  refine (add_any Z V B _ z0 z2 v0 v1 (by omega) hB).mono ?_
  rintro e5 w5 ⟨⟨s, t, rfl, st, s0, s1, t0, t1⟩, hw⟩
  obtain rfl := hw.symm
  have ST : Hid (s * 18446744073709551616 + t = Z * 18446744073709551616 + V + B) := st
  clear hw st
  go_wp2_with fail
  refine (less_no X Y Z V _ y0 y1 v0 v1 (by have a := M1.out; have b := K1.out; omega)).mono ?_
  rintro e6 w6 ⟨rfl, hw⟩
  obtain rfl := hw.symm
  clear hw
  go_wp2_with fail
  refine (less_yes X Y s t _ y0 y1 t0 t1 (by have a := M1.out; have b := K2.out; have c := ST.out; omega)).mono ?_
  rintro e7 w7 ⟨rfl, hw⟩
  obtain rfl := hw.symm
  clear hw
  go_wp2
  go_ret
  exact ⟨rfl, B2.out⟩

set_option maxHeartbeats 1600000 in
theorem percent_zero (U : Int) (ao : Option Addr) (n cap : Nat) (w : World) (ps ds us : Nat → Int) (hn : n ≤ 32768) (hnil : ao = none → n = 0) (hr : Rd3 w ao n ps ds us) :
    Calls Try.prog 5 #[.int .u64 0, .slice ao n cap, .int .u64 U] w fun e w' => e = .returned (.bool true) ∧ Below w.heap.size w w' := by
  have HR : Hid (Rd3 w ao n ps ds us) := hr
  have HNIL : Hid (ao = none → n = 0) := hnil
  clear hr hnil
  go_enter Try.func5, Try.ntmps5
  go_wp2_with (go_at_call 13; go_in)
  refine (quota_any 0 ao n cap w hn ps ds us HNIL.out HR.out).mono ?_
  rintro e1 w1 ⟨ro, rfl, r1, b1⟩
  have B1 : Hid (Below w.heap.size w w1) := b1
  clear r1 b1
  go_wp2_with fail
  refine (perc_no U ro n _).mono ?_
  rintro e2 w2 ⟨rfl, b2⟩
  have B2 : Hid (Below w.heap.size w w2) := (B1.out.alloc B1.out.size _).trans (b2.mono (by have := B1.out.size; simp; omega))
  clear b2
  go_wp2
  go_ret
  exact ⟨rfl, B2.out⟩

set_option maxHeartbeats 800000 in
theorem percent_long (B U : Int) (ao : Option Addr) (n cap : Nat) (w : World) (hn : ¬ n ≤ 32768) (hn2 : n ≤ 9223372036854775807) :
    Calls Try.prog 5 #[.int .u64 B, .slice ao n cap, .int .u64 U] w fun e w' => e = .returned (.bool true) ∧ Below w.heap.size w w' := by
  go_enter Try.func5, Try.ntmps5
  go_wp2
  all_goals (go_ret; exact ⟨rfl, Below.refl _ _⟩)
set_option maxHeartbeats 800000 in
theorem percent_odd (B U : Int) (ao : Option Addr) (n cap : Nat) (w : World) (hB0 : 0 ≤ B) (hB : B ≤ 18446744073709551615) (hn : n ≤ 32768) (hb : ¬ B % 100 = 0) :
    Calls Try.prog 5 #[.int .u64 B, .slice ao n cap, .int .u64 U] w fun e w' => e = .returned (.bool true) ∧ Below w.heap.size w w' := by
  have h2 : (B % 100 != 0) = true := by simpa using hb
  clear hb
  go_enter Try.func5, Try.ntmps5
  go_wp2
  all_goals (go_ret; exact ⟨rfl, Below.refl _ _⟩)

theorem percent_any (B U : Int) (ao : Option Addr) (n cap : Nat) (w : World) (ps ds us : Nat → Int) (hB0 : 0 ≤ B) (hB : B ≤ 18446744073709551615) (hU : 0 ≤ U) (hU2 : U ≤ 18446744073709551615) (hn2 : n ≤ maxLen) (hnil : ao = none → n = 0) (hr : Rd3 w ao n ps ds us) :
    Calls Try.prog 5 #[.int .u64 B, .slice ao n cap, .int .u64 U] w fun e w' => e = .returned (.bool true) ∧ Below w.heap.size w w' := by
  by_cases hn : n ≤ 32768
  · by_cases hb : B % 100 = 0
    · by_cases hz : B = 0
      · subst hz
        exact percent_zero U ao n cap w ps ds us hn hnil hr
      · exact percent_main B U ao n cap w ps ds us (by omega) hB hb hU hU2 hn hnil hr
    · exact percent_odd B U ao n cap w hB0 hB hn hb
  · exact percent_long B U ao n cap w hn (by unfold maxLen at hn2; omega)
/-- Where there are tiers the slice is not nil. -/
theorem Rd3.nil_of {w : World} {ao : Option Addr} {n : Nat} {ps ds us : Nat → Int} (h : Rd3 w ao n ps ds us) : ao = none → n = 0 := by
  intro q
  rcases Nat.eq_zero_or_pos n with z | z
  · exact z
  · obtain ⟨b, off, e, _⟩ := h 0 z
    rw [q] at e
    cases e

end Go.Proofs.Qxb6604497a
