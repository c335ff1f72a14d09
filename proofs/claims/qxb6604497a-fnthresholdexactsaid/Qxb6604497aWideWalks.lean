/-
  THE WALKS over mul128, div128by100, add128, less128 (seat b6604497a).
-/
import Derived.Test.Qxb6604497aWide
import Derived.WalkSpells
namespace Go.Proofs.Qxb6604497a
open Go.RowKit
set_option linter.unusedVariables false

set_option maxHeartbeats 800000 in
theorem mul_any (a b : Int) (w : World) (h0 : 0 ≤ a) (h1 : a ≤ 18446744073709551615) (h2 : 0 ≤ b) (h3 : b ≤ 18446744073709551615) :
    Calls Try.prog 9 #[.int .u64 a, .int .u64 b] w fun e w' => e = .returned (.tuple #[.int .u64 (mulHi a b), .int .u64 (mulLo a b)]) ∧ w' = w := by
  go_enter Try.func9, Try.ntmps9
  go_wp2
  go_ret2
  exact ⟨rfl, rfl⟩

set_option maxHeartbeats 800000 in
theorem div_any (a b : Int) (w : World) (h0 : 0 ≤ a) (h1 : a ≤ 18446744073709551615) (h2 : 0 ≤ b) (h3 : b ≤ 18446744073709551615) :
    Calls Try.prog 10 #[.int .u64 a, .int .u64 b] w fun e w' => e = .returned (.int .u64 (divOut a b)) ∧ w' = w := by
  go_enter Try.func10, Try.ntmps10
  go_wp2
  go_ret
  exact ⟨rfl, rfl⟩

/-- add128(ah, al, 0, bl), where the sum fits. -/
def Added (ah al bl : Int) (e : Ending) : Prop :=
  ∃ x y : Int, e = .returned (.tuple #[.int .u64 x, .int .u64 y]) ∧ x * 18446744073709551616 + y = ah * 18446744073709551616 + al + bl ∧ 0 ≤ x ∧ x ≤ 18446744073709551615 ∧ 0 ≤ y ∧ y ≤ 18446744073709551615
set_option maxHeartbeats 800000 in
theorem add_any (ah al bl : Int) (w : World) (h0 : 0 ≤ ah) (h1 : ah < 18446744073709551615) (h2 : 0 ≤ al) (h3 : al ≤ 18446744073709551615) (h4 : 0 ≤ bl) (h5 : bl ≤ 18446744073709551615) :
    Calls Try.prog 14 #[.int .u64 ah, .int .u64 al, .int .u64 0, .int .u64 bl] w fun e w' => Added ah al bl e ∧ w' = w := by
  by_cases h : al + bl ≤ 18446744073709551615
  · go_enter Try.func14, Try.ntmps14
    go_wp2
    go_ret2
    exact ⟨⟨_, _, rfl, by omega, by omega, by omega, by omega, by omega⟩, rfl⟩
  · obtain ⟨s, hs⟩ : ∃ s, IntKind.u64.wrap (al + bl) = s := ⟨_, rfl⟩
    have es : s = al + bl - 18446744073709551616 := by rw [← hs, IntKind.wrap_u64]; omega
    have ES : Hid (s = al + bl - 18446744073709551616) := es
    have hl : s < al := by omega
    have s0 : 0 ≤ s := by omega
    have s1 : s ≤ 18446744073709551615 := by omega
    clear es
    go_enter Try.func14, Try.ntmps14
    go_wp2
    go_ret2
    have e := ES.out
    exact ⟨⟨_, _, rfl, by omega, by omega, by omega, by omega, by omega⟩, rfl⟩

set_option maxHeartbeats 800000 in
theorem less_yes (ah al bh bl : Int) (w : World) (h1 : 0 ≤ al) (h2 : al ≤ 18446744073709551615) (h3 : 0 ≤ bl) (h4 : bl ≤ 18446744073709551615) (h : ah * 18446744073709551616 + al < bh * 18446744073709551616 + bl) :
    Calls Try.prog 15 #[.int .u64 ah, .int .u64 al, .int .u64 bh, .int .u64 bl] w fun e w' => e = .returned (.bool true) ∧ w' = w := by
  by_cases g : ah < bh
  · clear h
    go_enter Try.func15, Try.ntmps15
    go_wp2
    go_ret
    exact ⟨rfl, rfl⟩
  · obtain rfl : ah = bh := by omega
    have g2 : al < bl := by omega
    clear h
    go_enter Try.func15, Try.ntmps15
    go_wp2
    go_ret
    exact ⟨rfl, rfl⟩
set_option maxHeartbeats 800000 in
theorem less_no (ah al bh bl : Int) (w : World) (h1 : 0 ≤ al) (h2 : al ≤ 18446744073709551615) (h3 : 0 ≤ bl) (h4 : bl ≤ 18446744073709551615) (h : ¬ ah * 18446744073709551616 + al < bh * 18446744073709551616 + bl) :
    Calls Try.prog 15 #[.int .u64 ah, .int .u64 al, .int .u64 bh, .int .u64 bl] w fun e w' => e = .returned (.bool false) ∧ w' = w := by
  by_cases g : ah = bh
  · subst g
    have g2 : ¬ al < bl := by omega
    have g3 : decide (al < bl) = false := decide_eq_false g2
    clear h
    go_enter Try.func15, Try.ntmps15
    go_wp2
    go_ret
    exact ⟨rfl, rfl⟩
  · have g1 : ¬ ah < bh := by omega
    have g2 : decide (ah < bh) = false := decide_eq_false g1
    have g3 : (ah == bh) = false := by simpa using g
    clear h g
    go_enter Try.func15, Try.ntmps15
    go_wp2
    go_ret
    exact ⟨rfl, rfl⟩

end Go.Proofs.Qxb6604497a
