/-
  THE WALKS over isShellName, alphabetIndex and shellByAlphabet (seat b6603810a).
-/
import Derived.Test.Qxb6603810aNameWalks
namespace Go.Proofs.Qxb6603810a
open Go.RowKit

theorem sh_kinds (x : Int) (k : Nat) : (65 ≤ x ∧ x ≤ 90) ∨ (97 ≤ x ∧ x ≤ 122) ∨ x = 95 ∨ (48 ≤ x ∧ x ≤ 57 ∧ 0 < k) ∨ (48 ≤ x ∧ x ≤ 57 ∧ k = 0) ∨ x < 48 ∨ (57 < x ∧ x < 65) ∨ (90 < x ∧ x < 97 ∧ x ≠ 95) ∨ 122 < x := by omega

set_option maxHeartbeats 1600000 in
theorem isShell_any (s : ByteArray) (w : World) (hs : s.size ≤ 1048576) : Calls Try.prog 26 #[.string s] w fun e w' => Ans (shUp (bAt s) s.size) e ∧ w' = w := by
  go_enter Try.func26, Try.ntmps26
  go_wp2
  go_loop [3] (fun i => ∃ k : Nat, k ≤ s.size ∧ i = .int .i64 k ∧ shUp (bAt s) k) (fun i => s.size - (intOf i).toNat)
  case atStart => exact ⟨0, by omega, rfl, shUp_zero _⟩
  case round =>
    obtain ⟨k, hk, rfl, hg⟩ := hrel
    by_cases hlt : k < s.size
    · have B0 : Hid (bAt s k = ((s[k]'hlt).toNat : Int)) := bAt_of s k hlt
      rcases sh_kinds ((s[k]'hlt).toNat : Int) k with c | c | c | c | c | c | c | c | c
      · have d1 : decide (((s[k]'hlt).toNat : Int) ≤ 57) = false := decide_eq_false (by omega)
        go_wp2
        go_round
        case rel => exact ⟨k + 1, by omega, by go_num, shUp_succ hg (by rw [B0.out]; exact .inl c)⟩
        case measure => simp [intOf]; omega
      · have d1 : decide (((s[k]'hlt).toNat : Int) ≤ 57) = false := decide_eq_false (by omega)
        have d2 : decide (((s[k]'hlt).toNat : Int) ≤ 90) = false := decide_eq_false (by omega)
        go_wp2
        go_round
        case rel => exact ⟨k + 1, by omega, by go_num, shUp_succ hg (by rw [B0.out]; exact .inr (.inl c))⟩
        case measure => simp [intOf]; omega
      · have C : Hid (((s[k]'hlt).toNat : Int) = 95) := c
        go_wp2
        go_round
        case rel => exact ⟨k + 1, by omega, by go_num, shUp_succ hg (by rw [B0.out]; exact .inr (.inr (.inl C.out)))⟩
        case measure => simp [intOf]; omega
      · have d3 : (((s[k]'hlt).toNat : Int) != 95) = true := by
          have : ¬ ((s[k]'hlt).toNat : Int) = 95 := by omega
          simpa using this
        go_wp2
        go_round
        case rel => exact ⟨k + 1, by omega, by go_num, shUp_succ hg (by rw [B0.out]; exact .inr (.inr (.inr c)))⟩
        case measure => simp [intOf]; omega
      · have d3 : (((s[k]'hlt).toNat : Int) != 95) = true := by
          have : ¬ ((s[k]'hlt).toNat : Int) = 95 := by omega
          simpa using this
        have D : Hid (¬ shOk ((s[k]'hlt).toNat : Int) k) := by unfold Hid shOk; omega
        have d4 : decide (0 < k) = false := decide_eq_false (by omega)
        have c' := c.1
        have c'' := c.2.1
        clear c
        go_wp2
        go_ret
        exact ⟨Ans.no (not_shUp hlt (by rw [B0.out]; exact D.out)), rfl⟩
      all_goals
        have D : Hid (¬ shOk ((s[k]'hlt).toNat : Int) k) := by unfold Hid shOk; omega
        have d3 : (((s[k]'hlt).toNat : Int) != 95) = true := by
          have : ¬ ((s[k]'hlt).toNat : Int) = 95 := by omega
          simpa using this
        first | have d1 : decide (((s[k]'hlt).toNat : Int) ≤ 57) = false := decide_eq_false (by omega) | skip
        first | have d2 : decide (((s[k]'hlt).toNat : Int) ≤ 90) = false := decide_eq_false (by omega) | skip
        first | have d4 : decide (((s[k]'hlt).toNat : Int) ≤ 122) = false := decide_eq_false (by omega) | skip
        go_wp2
        go_ret
        exact ⟨Ans.no (not_shUp hlt (by rw [B0.out]; exact D.out)), rfl⟩
    · have HG : Hid (shUp (bAt s) s.size) := by
        obtain rfl : k = s.size := by omega
        exact hg
      clear hg
      go_wp2
      go_ret
      exact ⟨Ans.yes HG.out, rfl⟩

theorem ret_int {k : IntKind} {a b : Int} (h : a = b) : Ending.returned (.int k a) = .returned (.int k b) := by rw [h]

def alphaLit : ByteArray := ⟨#[65, 66, 67, 68, 69, 70, 71, 72, 73, 74, 75, 76, 77, 78, 79, 80, 81, 82, 83, 84, 85, 86, 87, 88, 89, 90, 97, 98, 99, 100, 101, 102, 103, 104, 105, 106, 107, 108, 109, 110, 111, 112, 113, 114, 115, 116, 117, 118, 119, 120, 121, 122, 95, 48, 49, 50, 51, 52, 53, 54, 55, 56, 57]⟩
theorem alphaLit_all : ∀ k : Fin 63, bAt alphaLit k.val = alphaAt k.val := by decide +kernel
theorem alphaLit_at (k : Nat) (h : k < alphaLit.size) : ((alphaLit[k]'h).toNat : Int) = alphaAt k := by
  rw [← bAt_of alphaLit k h]
  exact alphaLit_all ⟨k, h⟩
theorem alpha_hit (k : Nat) (h : k < alphaLit.size) (x : Int) (e : (((alphaLit[k]'h).toNat : Int) == x) = true) : alphaIdx x = k := by
  rw [alphaLit_at k h] at e
  have e' : alphaAt k = x := by simpa using e
  rw [← e']
  exact alphaIdx_at k h
theorem alpha_miss (k : Nat) (h : k < alphaLit.size) (x : Int) (e : (((alphaLit[k]'h).toNat : Int) == x) = false) (g : ∀ j, j < k → alphaAt j ≠ x) : ∀ j, j < k + 1 → alphaAt j ≠ x := by
  rw [alphaLit_at k h] at e
  have e' : ¬ alphaAt k = x := by simpa using e
  intro j hj
  by_cases q : j = k
  · subst q; exact e'
  · exact g j (by omega)

set_option maxHeartbeats 400000 in
theorem alpha_any (x : Int) (w : World) : Calls Try.prog 27 #[.int .u8 x] w fun e w' => e = .returned (.int .i64 (alphaIdx x)) ∧ w' = w := by
  go_enter Try.func27, Try.ntmps27
  go_wp2
  go_loop [3] (fun i => ∃ k : Nat, k ≤ 63 ∧ i = .int .i64 k ∧ ∀ j, j < k → alphaAt j ≠ x) (fun i => 63 - (intOf i).toNat)
  case atStart => exact ⟨0, by omega, rfl, fun j h => by omega⟩
  case round =>
    obtain ⟨k, hk, rfl, hg⟩ := hrel
    have HG := show Hid (∀ j, j < k → alphaAt j ≠ x) from hg
    clear hg
    by_cases hlt : k < 63
    · go_wp2
      · go_ret
        exact ⟨ret_int (alpha_hit k hlt x (by assumption)).symm, rfl⟩
      · go_round
        case rel => exact ⟨k + 1, by omega, by go_num, alpha_miss k hlt x (by assumption) HG.out⟩
        case measure => simp [intOf]; omega
    · go_wp2
      go_ret
      exact ⟨ret_int (alphaIdx_none x (fun j hj => HG.out j (by omega))).symm, rfl⟩

set_option maxHeartbeats 800000 in
theorem byAlpha_any (s : ByteArray) (w : World) (hs : s.size ≤ 1048576) : Calls Try.prog 13 #[.string s] w fun e w' => Ans (shUp (bAt s) s.size) e ∧ w' = w := by
  by_cases hz : 0 < s.size
  · have H0 : Hid (bAt s 0 = ((s[0]'hz).toNat : Int)) := bAt_of s 0 hz
    have h1 := alphaIdx_bd ((s[0]'hz).toNat : Int)
    have h2 := alphaIdx_starter ((s[0]'hz).toNat : Int)
    by_cases g : 0 ≤ alphaIdx ((s[0]'hz).toNat : Int) ∧ alphaIdx ((s[0]'hz).toNat : Int) < 53
    · have S0 : Hid (shOk ((s[0]'hz).toNat : Int) 0) := h2.1 g
      obtain ⟨g1, g2⟩ := g
      clear h1 h2
      go_enter Try.func13, Try.ntmps13
      go_wp2_with (go_at_call 27; refine (alpha_any _ _).mono ?_; rintro e1 w1 ⟨rfl, rfl⟩)
      go_loop [4] (fun i => ∃ k : Nat, k ≤ s.size ∧ i = .int .i64 k ∧ shUp (bAt s) k) (fun i => s.size - (intOf i).toNat)
      case atStart => exact ⟨0, by omega, rfl, shUp_zero _⟩
      case round =>
        obtain ⟨k, hk, rfl, hg⟩ := hrel
        by_cases hlt : k < s.size
        · have B0 : Hid (bAt s k = ((s[k]'hlt).toNat : Int)) := bAt_of s k hlt
          have h1 := alphaIdx_bd ((s[k]'hlt).toNat : Int)
          by_cases gk : 0 ≤ alphaIdx ((s[k]'hlt).toNat : Int)
          · have SK : Hid (shOk ((s[k]'hlt).toNat : Int) k) := by
              rcases Nat.eq_zero_or_pos k with q | q
              · subst q; exact S0.out
              · exact (alphaIdx_in _ k q).1 gk
            go_wp2_with (go_at_call 27; refine (alpha_any _ _).mono ?_; rintro e1 w1 ⟨rfl, rfl⟩)
            go_round
            case rel => exact ⟨k + 1, by omega, by go_num, shUp_succ hg (by rw [B0.out]; exact SK.out)⟩
            case measure => simp [intOf]; omega
          · have SK : Hid (¬ shOk ((s[k]'hlt).toNat : Int) k) := by
              rcases Nat.eq_zero_or_pos k with q | q
              · subst q; exact absurd g1 gk
              · exact fun o => gk ((alphaIdx_in _ k q).2 o)
            go_wp2_with (go_at_call 27; refine (alpha_any _ _).mono ?_; rintro e1 w1 ⟨rfl, rfl⟩)
            go_ret
            exact ⟨Ans.no (not_shUp hlt (by rw [B0.out]; exact SK.out)), rfl⟩
        · have HG : Hid (shUp (bAt s) s.size) := by
            obtain rfl : k = s.size := by omega
            exact hg
          clear hg
          go_wp2
          go_ret
          exact ⟨Ans.yes HG.out, rfl⟩
    · have S0 : Hid (¬ shUp (bAt s) s.size) := not_shUp hz (by rw [H0.out]; exact fun o => g (h2.2 o))
      have h1a := h1.1
      have h1b := h1.2
      clear h2 h1
      by_cases gn : alphaIdx ((s[0]'hz).toNat : Int) < 0
      · clear g
        go_enter Try.func13, Try.ntmps13
        go_wp2_with (go_at_call 27; refine (alpha_any _ _).mono ?_; rintro e1 w1 ⟨rfl, rfl⟩)
        go_ret
        exact ⟨Ans.no S0.out, rfl⟩
      · have gn' : 53 ≤ alphaIdx ((s[0]'hz).toNat : Int) := by omega
        clear g
        go_enter Try.func13, Try.ntmps13
        go_wp2_with (go_at_call 27; refine (alpha_any _ _).mono ?_; rintro e1 w1 ⟨rfl, rfl⟩)
        go_ret
        exact ⟨Ans.no S0.out, rfl⟩
  · have HG : Hid (shUp (bAt s) s.size) := fun i hi => by omega
    go_enter Try.func13, Try.ntmps13
    go_wp2
    go_ret
    exact ⟨Ans.yes HG.out, rfl⟩

end Go.Proofs.Qxb6603810a
