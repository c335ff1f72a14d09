/-
  THE WALK over nameBySegments (seat b6603810a).
-/
import Derived.Test.Qxb6603810aNameWalks
namespace Go.Proofs.Qxb6603810a
open Go.RowKit

set_option maxHeartbeats 1600000 in
theorem seg_any (s : ByteArray) (w : World) (hs : s.size ≤ 1048576) : Calls Try.prog 10 #[.string s] w fun e w' => Ans (nameP (bAt s) s.size) e ∧ w' = w := by
  by_cases hz : 0 < s.size
  · have H0 : Hid (bAt s 0 = ((s[0]'hz).toNat : Int)) := bAt_of s 0 hz
    by_cases g1 : ((s[0]'hz).toNat : Int) < 97
    · go_enter Try.func10, Try.ntmps10
      go_wp2
      go_ret
      exact ⟨Ans.no fun h => by have := h.2.1; rw [H0.out] at this; omega, rfl⟩
    by_cases g2 : (122 : Int) < ((s[0]'hz).toNat : Int)
    · go_enter Try.func10, Try.ntmps10
      go_wp2
      go_ret
      exact ⟨Ans.no fun h => by have := h.2.2.1; rw [H0.out] at this; omega, rfl⟩
    have G1 : Hid (97 ≤ bAt s 0) := by unfold Hid; rw [H0.out]; omega
    have G2 : Hid (bAt s 0 ≤ 122) := by unfold Hid; rw [H0.out]; omega
    go_enter Try.func10, Try.ntmps10
    go_wp2
    go_loop [3] (fun i => ∃ a : Nat, a ≤ s.size ∧ i = .int .i64 a ∧ segAt (bAt s) s.size a) (fun i => s.size + 1 - (intOf i).toNat)
    case atStart => exact ⟨0, Nat.zero_le _, rfl, segAt_zero _ _⟩
    case round =>
      obtain ⟨a, ha, rfl, hseg⟩ := hrel
      go_wp2
      go_loop [4] (fun j => ∃ e : Nat, a ≤ e ∧ e ≤ s.size ∧ j = .int .i64 e ∧ noHy (bAt s) a e) (fun j => s.size - (intOf j).toNat)
      case atStart => exact ⟨a, Nat.le_refl _, ha, rfl, noHy_nil _ _⟩
      case round =>
        obtain ⟨e, hae, he, rfl, hhy⟩ := hrel
        by_cases hmore : e < s.size ∧ bAt s e ≠ 45
        · obtain ⟨hlt, hne⟩ := hmore
          have B0 : Hid (bAt s e = ((s[e]'hlt).toNat : Int)) := bAt_of s e hlt
          have c' : (((s[e]'hlt).toNat : Int) != 45) = true := by rw [← B0.out]; simpa using hne
          have C : Hid (bAt s e ≠ 45) := hne
          clear hne
          go_wp2
          go_round
          case rel => exact ⟨e + 1, by omega, by omega, by go_num, noHy_succ hhy C.out⟩
          case measure => simp [intOf]; omega
        · have X : Hid (e = s.size ∨ (e < s.size ∧ bAt s e = 45)) := by
            unfold Hid
            by_cases hlt : e < s.size
            · right
              refine ⟨hlt, ?_⟩
              by_cases q : bAt s e = 45
              · exact q
              · exact absurd ⟨hlt, q⟩ hmore
            · left; omega
          have Y : (∃ hlt : e < s.size, (((s[e]'hlt).toNat : Int) != 45) = false) ∨ ¬ e < s.size := by
            rcases X.out with q | ⟨q, q'⟩
            · right; omega
            · left; refine ⟨q, ?_⟩; rw [← bAt_of s e q, q']; decide
          clear hmore
          by_cases hq : e = a
          · have HX : Hid (¬ nameP (bAt s) s.size) := by
              unfold Hid
              subst hq
              rcases X.out with q | ⟨q, q'⟩
              · exact seg_empty_end hz hseg q
              · exact seg_empty_hy G1.out hseg q q'
            have hq' : ((e : Int) == (a : Int)) = true := by rw [hq]; simp
            clear hq
            rcases Y with ⟨hlt, y⟩ | y
            all_goals
              go_wp2
              go_ret
              exact ⟨Ans.no HX.out, rfl⟩
          · have hq' : ((e : Int) == (a : Int)) = false := by
              have : ¬ (e : Int) = (a : Int) := by omega
              simpa using this
            have hlt0 : a < e := by omega
            clear hq
            rcases Y with ⟨hlt, y⟩ | y
            all_goals
              go_wp2
              go_loop [5] (fun j => ∃ m : Nat, a ≤ m ∧ m ≤ e ∧ j = .int .i64 m ∧ allLod (bAt s) a m) (fun j => e - (intOf j).toNat)
              case atStart => exact ⟨a, Nat.le_refl _, hae, rfl, allLod_nil _ _⟩
              case round =>
                obtain ⟨m, ham, hme, rfl, hlod⟩ := hrel
                by_cases hml : m < e
                · have hms : m < s.size := by omega
                  have B0 : Hid (bAt s m = ((s[m]'hms).toNat : Int)) := bAt_of s m hms
                  clear y
                  go_wp2_with (go_at_call 25; refine (lod_any _ _).mono ?_; rintro e1 w1 ⟨⟨r, rfl, hr⟩, rfl⟩; cases r)
                  · go_ret
                    exact ⟨Ans.no (seg_bad G1.out G2.out he hhy ham hml (by rw [B0.out]; intro q; exact absurd (hr.out.2 q) (by simp))), rfl⟩
                  · go_round
                    case rel => exact ⟨m + 1, by omega, by omega, by go_num, allLod_succ hlod (by rw [B0.out]; exact hr.out.1 (by trivial))⟩
                    case measure => simp [intOf]; omega
                · obtain rfl : m = e := by omega
                  clear y
                  rcases X.out with q | ⟨q, q'⟩
                  · have q2 : ((m : Int) == (s.size : Int)) = true := by rw [q]; simp
                    have HD : Hid (nameP (bAt s) s.size) := by
                      unfold Hid
                      refine seg_done G1.out G2.out hz hseg (by omega) ?_ ?_
                      · rw [← q]; exact hhy
                      · rw [← q]; exact hlod
                    clear q X
                    go_wp2
                    go_ret
                    exact ⟨Ans.yes HD.out, rfl⟩
                  · have q2 : ((m : Int) == (s.size : Int)) = false := by
                      have : ¬ (m : Int) = (s.size : Int) := by omega
                      simpa using this
                    have HN := seg_next hseg hlt0 q hhy hlod q'
                    clear q' X
                    go_wp2
                    go_round
                    case rel => exact ⟨m + 1, by omega, by go_num, HN⟩
                    case measure => simp [intOf]; omega
  · go_enter Try.func10, Try.ntmps10
    go_wp2
    go_ret
    exact ⟨Ans.no fun h => hz h.1, rfl⟩

end Go.Proofs.Qxb6603810a
