/-
  THE LAW FnThresholdPercentRoundTrip AT EVERY INPUT (seat b6604497a): the tests ahead of the work.
-/
import Derived.Test.Qxb6604497aRoundWalk
namespace Go.Proofs.Qxb6604497a
open Go.RowKit
set_option linter.unusedVariables false

set_option maxHeartbeats 800000 in
theorem round_long (B x : Int) (ao : Option Addr) (n cap : Nat) (w : World) (hn : ¬ n ≤ 32768) (hn2 : n ≤ 9223372036854775807) :
    Calls Try.prog 4 #[.int .u64 B, .slice ao n cap, .int .i64 x] w fun e w' => e = .returned (.bool true) ∧ Below w.heap.size w w' := by
  go_enter Try.func4, Try.ntmps4
  go_wp2
  all_goals (go_ret; exact ⟨rfl, Below.refl _ _⟩)
set_option maxHeartbeats 800000 in
theorem round_off (B x : Int) (ao : Option Addr) (n cap : Nat) (w : World) (hn : n ≤ 32768) (hx : ¬ (1 ≤ x ∧ x ≤ n)) :
    Calls Try.prog 4 #[.int .u64 B, .slice ao n cap, .int .i64 x] w fun e w' => e = .returned (.bool true) ∧ Below w.heap.size w w' := by
  by_cases h : x < 1
  · clear hx
    go_enter Try.func4, Try.ntmps4
    go_wp2
    all_goals (go_ret; exact ⟨rfl, Below.refl _ _⟩)
  · have h2 : (n : Int) < x := by omega
    clear hx
    go_enter Try.func4, Try.ntmps4
    go_wp2
    all_goals (go_ret; exact ⟨rfl, Below.refl _ _⟩)
set_option maxHeartbeats 800000 in
theorem round_odd (B : Int) (ao : Option Addr) (n cap m : Nat) (w : World) (hB0 : 0 ≤ B) (hB : B ≤ 18446744073709551615) (hn : n ≤ 32768) (hm1 : 1 ≤ m) (hm : m ≤ n) (hb : ¬ (0 < B ∧ B % 100 = 0)) :
    Calls Try.prog 4 #[.int .u64 B, .slice ao n cap, .int .i64 m] w fun e w' => e = .returned (.bool true) ∧ Below w.heap.size w w' := by
  by_cases h : B = 0
  · subst h
    clear hb
    go_enter Try.func4, Try.ntmps4
    go_wp2
    all_goals (go_ret; exact ⟨rfl, Below.refl _ _⟩)
  · have h1 : (B == 0) = false := by simpa using h
    have h2 : (B % 100 != 0) = true := by
      have : ¬ B % 100 = 0 := fun q => hb ⟨by omega, q⟩
      simpa using this
    clear hb h
    go_enter Try.func4, Try.ntmps4
    go_wp2
    all_goals (go_ret; exact ⟨rfl, Below.refl _ _⟩)
set_option maxHeartbeats 800000 in
theorem round_pct (B : Int) (ao : Option Addr) (n cap m : Nat) (w : World) (ps ds us : Nat → Int) (p : Int) (hB0 : 0 < B) (hB : B ≤ 18446744073709551615) (hmod : B % 100 = 0) (hn : n ≤ 32768) (hm1 : 1 ≤ m) (hm : m ≤ n) (hr : Rd3 w ao n ps ds us) (hps : p = ps (m - 1)) (hp : ¬ (1 ≤ p ∧ p ≤ 1000)) :
    Calls Try.prog 4 #[.int .u64 B, .slice ao n cap, .int .i64 m] w fun e w' => e = .returned (.bool true) ∧ Below w.heap.size w w' := by
  obtain ⟨b, off, ho, c0, c1, c2⟩ := hr (m - 1) (by omega)
  subst ho
  rw [← hps] at c0
  clear hr hps c1 c2
  have hd0 : (B == 0) = false := by
    have : ¬ B = 0 := by omega
    simpa using this
  have hd1 : (B % 100 != 0) = false := by rw [hmod]; rfl
  clear hmod
  have l0 : (0 : Int) ≤ (m : Int) - 1 := by omega
  have l1 : (m : Int) - 1 < (n : Int) := by omega
  by_cases h : p < 1
  · clear hp
    go_enter Try.func4, Try.ntmps4
    go_wp2
    all_goals (go_ret; exact ⟨rfl, Below.refl _ _⟩)
  · have h2 : 1000 < p := by omega
    clear hp
    go_enter Try.func4, Try.ntmps4
    go_wp2
    all_goals (go_ret; exact ⟨rfl, Below.refl _ _⟩)
set_option maxHeartbeats 800000 in
theorem round_over (B : Int) (ao : Option Addr) (n cap m : Nat) (w : World) (ps ds us : Nat → Int) (p : Int) (hB0 : 0 < B) (hB : B ≤ 18446744073709551615) (hmod : B % 100 = 0) (hn : n ≤ 32768) (hm1 : 1 ≤ m) (hm : m ≤ n) (hr : Rd3 w ao n ps ds us) (hps : p = ps (m - 1)) (hp1 : 1 ≤ p) (hp : p ≤ 1000)
    (hov : 18446744073709551615 / p < B / 100) :
    Calls Try.prog 4 #[.int .u64 B, .slice ao n cap, .int .i64 m] w fun e w' => e = .returned (.bool true) ∧ Below w.heap.size w w' := by
  obtain ⟨b, off, ho, c0, c1, c2⟩ := hr (m - 1) (by omega)
  subst ho
  rw [← hps] at c0
  clear hr hps c1 c2
  have hd0 : (B == 0) = false := by
    have : ¬ B = 0 := by omega
    simpa using this
  have hd1 : (B % 100 != 0) = false := by rw [hmod]; rfl
  clear hmod
  have l0 : (0 : Int) ≤ (m : Int) - 1 := by omega
  have l1 : (m : Int) - 1 < (n : Int) := by omega
  go_enter Try.func4, Try.ntmps4
  go_wp2
  all_goals (go_ret; exact ⟨rfl, Below.refl _ _⟩)

theorem round_any (B x : Int) (ao : Option Addr) (n cap : Nat) (w : World) (ps ds us : Nat → Int) (hB0 : 0 ≤ B) (hB : B ≤ 18446744073709551615) (hn2 : n ≤ maxLen) (hr : Rd3 w ao n ps ds us) :
    Calls Try.prog 4 #[.int .u64 B, .slice ao n cap, .int .i64 x] w fun e w' => e = .returned (.bool true) ∧ Below w.heap.size w w' := by
  by_cases hn : n ≤ 32768
  · by_cases hx : 1 ≤ x ∧ x ≤ n
    · obtain ⟨m, rfl⟩ : ∃ m : Nat, x = (m : Int) := ⟨x.toNat, by omega⟩
      by_cases hb : 0 < B ∧ B % 100 = 0
      · by_cases hp : 1 ≤ ps (m - 1) ∧ ps (m - 1) ≤ 1000
        · by_cases hov : 18446744073709551615 / ps (m - 1) < B / 100
          · exact round_over B ao n cap m w ps ds us _ hb.1 hB hb.2 hn (by omega) (by omega) hr rfl hp.1 hp.2 hov
          · exact round_main B ao n cap m w ps ds us _ hb.1 hB hb.2 hn (by omega) (by omega) hr rfl hp.1 hp.2 hov
        · exact round_pct B ao n cap m w ps ds us _ hb.1 hB hb.2 hn (by omega) (by omega) hr rfl hp
      · exact round_odd B ao n cap m w hB0 hB hn (by omega) (by omega) hb
    · exact round_off B x ao n cap w hn hx
  · exact round_long B x ao n cap w hn (by unfold maxLen at hn2; omega)

end Go.Proofs.Qxb6604497a
