/-
  THE WALK over the law FnThresholdExact (seat b6604497a).
-/
import Derived.Test.Qxb6604497aTierWalks
import Derived.Test.Qxb6604497aWideWalks
namespace Go.Proofs.Qxb6604497a
open Go.RowKit
set_option linter.unusedVariables false

/-! ### the contracts, their answers under names -/
theorem thresh_w (B : Int) (ro : Option Addr) (n m : Nat) (ps : Nat → Int) (p T : Int) (w : World) (h0 : 0 ≤ B) (hB : B ≤ 18446744073709551615) (hm1 : 1 ≤ m) (hm : m ≤ n) (hn : n ≤ 32768) (hr : RdP w ro n ps) (hps : p = ps (m - 1)) (hp1 : 1 ≤ p) (hp : p ≤ 1000) (hT : IntKind.u64.wrap (B / 100 * p) = T) :
    Calls Try.prog 8 #[.agg #[.int .u64 B, .slice ro n n], .int .i64 m] w fun e w' => e = .returned (.int .u64 T) ∧ Below w.heap.size w w' := by
  subst hT
  exact thresh_any B ro n m ps p w h0 hB hm1 hm hn hr hps hp1 hp
theorem mul_is (a b X Y : Int) (w : World) (h0 : 0 ≤ a) (h1 : a ≤ 18446744073709551615) (h2 : 0 ≤ b) (h3 : b ≤ 18446744073709551615) (hX : mulHi a b = X) (hY : mulLo a b = Y) :
    Calls Try.prog 9 #[.int .u64 a, .int .u64 b] w fun e w' => e = .returned (.tuple #[.int .u64 X, .int .u64 Y]) ∧ w' = w := by
  subst hX hY
  exact mul_any a b w h0 h1 h2 h3
theorem div_is (a b T : Int) (w : World) (h0 : 0 ≤ a) (h1 : a ≤ 18446744073709551615) (h2 : 0 ≤ b) (h3 : b ≤ 18446744073709551615) (hT : divOut a b = T) :
    Calls Try.prog 10 #[.int .u64 a, .int .u64 b] w fun e w' => e = .returned (.int .u64 T) ∧ w' = w := by
  subst hT
  exact div_any a b w h0 h1 h2 h3

/-- The plain law: the exact quotient. -/
theorem exact_law (B p : Int) (h0 : 0 ≤ B) (hB : B ≤ 18446744073709551615) (hmod : B % 100 = 0) (hp1 : 1 ≤ p) (hp : p ≤ 1000) : divOut (mulHi B p) (mulLo B p) = IntKind.u64.wrap (B / 100 * p) := by
  have m := mul_exact B p h0 hB (by omega) (by omega)
  rw [div_exact _ _ m.2.2.2.1 m.2.2.2.2, m.1, IntKind.wrap_u64]
  have e : B * p = 100 * (B / 100 * p) := by
    rw [← Int.mul_assoc]
    have : 100 * (B / 100) = B := by omega
    rw [this]
  rw [e, Int.mul_ediv_cancel_left _ (by omega)]

set_option maxHeartbeats 1600000 in
theorem exact_main (B : Int) (ao : Option Addr) (n cap m : Nat) (w : World) (ps ds us : Nat → Int) (p : Int) (h0 : 0 ≤ B) (hB : B ≤ 18446744073709551615) (hmod : B % 100 = 0) (hn : n ≤ 32768) (hm1 : 1 ≤ m) (hm : m ≤ n) (hr : Rd3 w ao n ps ds us) (hps : p = ps (m - 1)) (hp1 : 1 ≤ p) (hp : p ≤ 1000) :
    Calls Try.prog 3 #[.int .u64 B, .slice ao n cap, .int .i64 m] w fun e w' => e = .returned (.bool true) ∧ Below w.heap.size w w' := by
  obtain ⟨b, off, ho, c0, c1, c2⟩ := hr (m - 1) (by omega)
  subst ho
  rw [← hps] at c0
  have HR : Hid (Rd3 w (some ⟨b, off, none⟩) n ps ds us) := hr
  have HPS : Hid (p = ps (m - 1)) := hps
  obtain ⟨T, hT⟩ : ∃ T, IntKind.u64.wrap (B / 100 * p) = T := ⟨_, rfl⟩
  have HT : Hid (IntKind.u64.wrap (B / 100 * p) = T) := hT
  obtain ⟨X, hX⟩ : ∃ X, mulHi B p = X := ⟨_, rfl⟩
  obtain ⟨Y, hY⟩ : ∃ Y, mulLo B p = Y := ⟨_, rfl⟩
  have HX : Hid (mulHi B p = X) := hX
  have HY : Hid (mulLo B p = Y) := hY
  have me := mul_exact B p h0 hB (by omega) (by omega)
  rw [hX, hY] at me
  obtain ⟨_, x0, x1, y0, y1⟩ := me
  have HD : Hid (divOut X Y = T) := by unfold Hid; rw [← hX, ← hY, ← hT]; exact exact_law B p h0 hB hmod hp1 hp
  have hd1 : (B % 100 != 0) = false := by rw [hmod]; rfl
  clear hT hX hY hr hps c1 c2 hmod
  have l0 : (0 : Int) ≤ (m : Int) - 1 := by omega
  have l1 : (m : Int) - 1 < (n : Int) := by omega
  go_enter Try.func3, Try.ntmps3
  go_wp2_with (go_at_call 6; go_in)
  refine (quota_any B _ n cap w hn ps ds us (fun q => by cases q) HR.out).mono ?_
  rintro e1 w1 ⟨ro, rfl, r1, b1⟩
  have R1 : Hid (RdP w1 ro n ps) := r1
  have B1 : Hid (Below w.heap.size w w1) := b1
  clear r1 b1 c0
  go_wp2_with fail
  refine (thresh_w B ro n m ps p T w1 h0 hB hm1 hm hn R1.out HPS.out hp1 hp HT.out).mono ?_
  rintro e2 w2 ⟨rfl, b2⟩
  have B2 : Hid (Below w.heap.size w w2) := B1.out.trans (b2.mono B1.out.size)
  clear b2
  go_wp2_with fail
  refine (mul_is B p X Y w2 h0 hB (by omega) (by omega) HX.out HY.out).mono ?_
  rintro e3 w3 ⟨rfl, hw⟩
  obtain rfl := hw.symm
  clear hw
  go_wp2_with fail
  refine (div_is X Y T _ x0 x1 y0 y1 HD.out).mono ?_
  rintro e4 w4 ⟨rfl, hw⟩
  obtain rfl := hw.symm
  clear hw
  go_wp2
  go_ret
  exact ⟨rfl, B2.out⟩

set_option maxHeartbeats 800000 in
theorem exact_long (B x : Int) (ao : Option Addr) (n cap : Nat) (w : World) (hn : ¬ n ≤ 32768) (hn2 : n ≤ 9223372036854775807) :
    Calls Try.prog 3 #[.int .u64 B, .slice ao n cap, .int .i64 x] w fun e w' => e = .returned (.bool true) ∧ Below w.heap.size w w' := by
  go_enter Try.func3, Try.ntmps3
  go_wp2
  all_goals (go_ret; exact ⟨rfl, Below.refl _ _⟩)
set_option maxHeartbeats 800000 in
theorem exact_off (B x : Int) (ao : Option Addr) (n cap : Nat) (w : World) (hn : n ≤ 32768) (hx : ¬ (1 ≤ x ∧ x ≤ n)) :
    Calls Try.prog 3 #[.int .u64 B, .slice ao n cap, .int .i64 x] w fun e w' => e = .returned (.bool true) ∧ Below w.heap.size w w' := by
  by_cases h : x < 1
  · clear hx
    go_enter Try.func3, Try.ntmps3
    go_wp2
    all_goals (go_ret; exact ⟨rfl, Below.refl _ _⟩)
  · have h2 : (n : Int) < x := by omega
    clear hx
    go_enter Try.func3, Try.ntmps3
    go_wp2
    all_goals (go_ret; exact ⟨rfl, Below.refl _ _⟩)
set_option maxHeartbeats 800000 in
theorem exact_odd (B : Int) (ao : Option Addr) (n cap m : Nat) (w : World) (hB0 : 0 ≤ B) (hB : B ≤ 18446744073709551615) (hn : n ≤ 32768) (hm1 : 1 ≤ m) (hm : m ≤ n) (hb : ¬ B % 100 = 0) :
    Calls Try.prog 3 #[.int .u64 B, .slice ao n cap, .int .i64 m] w fun e w' => e = .returned (.bool true) ∧ Below w.heap.size w w' := by
  have h2 : (B % 100 != 0) = true := by simpa using hb
  clear hb
  go_enter Try.func3, Try.ntmps3
  go_wp2
  all_goals (go_ret; exact ⟨rfl, Below.refl _ _⟩)
set_option maxHeartbeats 800000 in
theorem exact_pct (B : Int) (ao : Option Addr) (n cap m : Nat) (w : World) (ps ds us : Nat → Int) (p : Int) (hB0 : 0 ≤ B) (hB : B ≤ 18446744073709551615) (hmod : B % 100 = 0) (hn : n ≤ 32768) (hm1 : 1 ≤ m) (hm : m ≤ n) (hr : Rd3 w ao n ps ds us) (hps : p = ps (m - 1)) (hp : ¬ (1 ≤ p ∧ p ≤ 1000)) :
    Calls Try.prog 3 #[.int .u64 B, .slice ao n cap, .int .i64 m] w fun e w' => e = .returned (.bool true) ∧ Below w.heap.size w w' := by
  obtain ⟨b, off, ho, c0, c1, c2⟩ := hr (m - 1) (by omega)
  subst ho
  rw [← hps] at c0
  clear hr hps c1 c2
  have hd1 : (B % 100 != 0) = false := by rw [hmod]; rfl
  clear hmod
  have l0 : (0 : Int) ≤ (m : Int) - 1 := by omega
  have l1 : (m : Int) - 1 < (n : Int) := by omega
  by_cases h : p < 1
  · clear hp
    go_enter Try.func3, Try.ntmps3
    go_wp2
    all_goals (go_ret; exact ⟨rfl, Below.refl _ _⟩)
  · have h2 : 1000 < p := by omega
    clear hp
    go_enter Try.func3, Try.ntmps3
    go_wp2
    all_goals (go_ret; exact ⟨rfl, Below.refl _ _⟩)

theorem exact_any (B x : Int) (ao : Option Addr) (n cap : Nat) (w : World) (ps ds us : Nat → Int) (hB0 : 0 ≤ B) (hB : B ≤ 18446744073709551615) (hn2 : n ≤ maxLen) (hr : Rd3 w ao n ps ds us) :
    Calls Try.prog 3 #[.int .u64 B, .slice ao n cap, .int .i64 x] w fun e w' => e = .returned (.bool true) ∧ Below w.heap.size w w' := by
  by_cases hn : n ≤ 32768
  · by_cases hx : 1 ≤ x ∧ x ≤ n
    · obtain ⟨m, rfl⟩ : ∃ m : Nat, x = (m : Int) := ⟨x.toNat, by omega⟩
      by_cases hb : B % 100 = 0
      · by_cases hp : 1 ≤ ps (m - 1) ∧ ps (m - 1) ≤ 1000
        · exact exact_main B ao n cap m w ps ds us _ hB0 hB hb hn (by omega) (by omega) hr rfl hp.1 hp.2
        · exact exact_pct B ao n cap m w ps ds us _ hB0 hB hb hn (by omega) (by omega) hr rfl hp
      · exact exact_odd B ao n cap m w hB0 hB hn (by omega) (by omega) hb
    · exact exact_off B x ao n cap w hn hx
  · exact exact_long B x ao n cap w hn (by unfold maxLen at hn2; omega)

end Go.Proofs.Qxb6604497a
