/-
  THE WALK over the law FnThresholdPercentRoundTrip (seat b6604497a).
-/
import Derived.Test.Qxb6604497aTierWalks
namespace Go.Proofs.Qxb6604497a
open Go.RowKit
set_option linter.unusedVariables false

/-! ### the plain arithmetic -/
theorem fits_of {h p M : Int} (hp : 1 ≤ p) (q : ¬ M / p < h) : h * p ≤ M := by
  have a : h ≤ M / p := by omega
  have b : h * p ≤ M / p * p := Int.mul_le_mul_of_nonneg_right a (by omega)
  have c := Int.mul_ediv_add_emod M p
  have d := Int.emod_nonneg M (show p ≠ 0 by omega)
  have e : p * (M / p) = M / p * p := Int.mul_comm _ _
  omega
theorem back_p {h p : Int} (hh : 1 ≤ h) : h * p / h = p := Int.mul_ediv_cancel_left p (by omega)
theorem back_p1 {h p : Int} (hh : 1 ≤ h) : (h * p - 1) / h = p - 1 := by
  have e : h * p - 1 = h - 1 + h * (p - 1) := by
    rw [Int.mul_sub, Int.mul_one]
    omega
  rw [e, Int.add_mul_ediv_left _ _ (show h ≠ 0 by omega), Int.ediv_eq_zero_of_lt (by omega) (by omega)]
  omega
theorem prod_pos {h p : Int} (hh : 1 ≤ h) (hp : 1 ≤ p) : 1 ≤ h * p := by
  have : 0 < h * p := Int.mul_pos (by omega) (by omega)
  omega

/-- The tests ahead of the work say no: the law answers true. -/
def Out (w : World) (e : Ending) (w' : World) : Prop := e = .returned (.bool true) ∧ Below w.heap.size w w'

set_option maxHeartbeats 1600000 in
theorem round_main (B : Int) (ao : Option Addr) (n cap m : Nat) (w : World) (ps ds us : Nat → Int) (p : Int) (h0 : 0 < B) (hB : B ≤ 18446744073709551615) (hmod : B % 100 = 0) (hn : n ≤ 32768) (hm1 : 1 ≤ m) (hm : m ≤ n) (hr : Rd3 w ao n ps ds us) (hps : p = ps (m - 1)) (hp1 : 1 ≤ p) (hp : p ≤ 1000)
    (hov : ¬ (18446744073709551615 / p < B / 100)) :
    Calls Try.prog 4 #[.int .u64 B, .slice ao n cap, .int .i64 m] w fun e w' => e = .returned (.bool true) ∧ Below w.heap.size w w' := by
  obtain ⟨b, off, ho, c0, c1, c2⟩ := hr (m - 1) (by omega)
  subst ho
  rw [← hps] at c0
  have HR : Hid (Rd3 w (some ⟨b, off, none⟩) n ps ds us) := hr
  have HPS : Hid (p = ps (m - 1)) := hps
  have hh : 1 ≤ B / 100 := by omega
  obtain ⟨T, hT⟩ : ∃ T, T = B / 100 * p := ⟨_, rfl⟩
  have hT1 : T ≤ 18446744073709551615 := by rw [hT]; exact fits_of hp1 hov
  have hT0 : 1 ≤ T := by rw [hT]; exact prod_pos hh hp1
  have Q1 : Hid (T / (B / 100) = p) := by unfold Hid; rw [hT]; exact back_p hh
  have Q2 : Hid ((T - 1) / (B / 100) = p - 1) := by unfold Hid; rw [hT]; exact back_p1 hh
  have HT : Hid (T = B / 100 * p) := hT
  clear hT hr hps c1 c2
  have hd0 : (B == 0) = false := by
    have : ¬ B = 0 := by omega
    simpa using this
  have hd1 : (B % 100 != 0) = false := by rw [hmod]; rfl
  have hd2 : decide (18446744073709551615 / p < B / 100) = false := decide_eq_false hov
  have hd3 : (T == 0) = false := by
    have : ¬ T = 0 := by omega
    simpa using this
  have HM : Hid (B % 100 = 0) := hmod
  clear hmod
  have l0 : (0 : Int) ≤ (m : Int) - 1 := by omega
  have l1 : (m : Int) - 1 < (n : Int) := by omega
  go_enter Try.func4, Try.ntmps4
  go_wp2_with (go_at_call 11; go_in)
  refine (quota_any B _ n cap w hn ps ds us (fun q => by cases q) HR.out).mono ?_
  rintro e1 w1 ⟨ro, rfl, r1, b1⟩
  have R1 : Hid (RdP w1 ro n ps) := r1
  have B1 : Hid (Below w.heap.size w w1) := b1
  clear r1 b1 c0
  go_wp2_with fail
  refine (thresh_is B ro n m ps p T _ (by omega) hB hm1 hm hn (R1.out.below ((Below.refl _ _).alloc (Nat.le_refl _) _)) HPS.out hp1 hp HT.out (by omega) hT1).mono ?_
  rintro e2 w2 ⟨rfl, b2⟩
  have g0 : w2.cell? ⟨w1.heap.size, 0, none⟩ = some (.int .u64 B) := (b2.cell (p := ⟨w1.heap.size, 0, none⟩) (by simp)).trans (by simp)
  have g1 : w2.cell? ⟨w1.heap.size, 1, none⟩ = some (.slice ro n n) := (b2.cell (p := ⟨w1.heap.size, 1, none⟩) (by simp)).trans (by simp)
  have z2 : w1.heap.size < w2.heap.size := by have := b2.size; simp at this; omega
  have B2 : Hid (Below w.heap.size w w2) := (B1.out.alloc B1.out.size _).trans (b2.mono (by have := B1.out.size; simp; omega))
  clear b2
  go_wp2_with fail
  refine (perc_is B T p ro n w2 h0 hB (by omega) hT1 hh Q1.out).mono ?_
  rintro e3 w3 ⟨rfl, b3⟩
  have g2 : w3.cell? ⟨w1.heap.size, 0, none⟩ = some (.int .u64 B) := (b3.cell (p := ⟨w1.heap.size, 0, none⟩) z2).trans g0
  have g3 : w3.cell? ⟨w1.heap.size, 1, none⟩ = some (.slice ro n n) := (b3.cell (p := ⟨w1.heap.size, 1, none⟩) z2).trans g1
  have B3 : Hid (Below w.heap.size w w3) := B2.out.trans (b3.mono B2.out.size)
  clear b3 g0 g1
  go_wp2_with fail
  refine (perc_is B (T - 1) (p - 1) ro n w3 h0 hB (by omega) (by omega) hh Q2.out).mono ?_
  rintro e4 w4 ⟨rfl, b4⟩
  have B4 : Hid (Below w.heap.size w w4) := B3.out.trans (b4.mono B3.out.size)
  clear b4
  go_wp2
  go_ret
  exact ⟨rfl, B4.out⟩

end Go.Proofs.Qxb6604497a
