/-
  THE WALKS over bytesEqual and bytesEqualString (seat b6603810a).
-/
import Derived.Test.Qxb6603810aNameWalks
import Derived.Test.Qxb6603810aMem
import Derived.Deep.QuietTactic
import Derived.BigQuiet
import Derived.WalkSmall
namespace Go.Proofs.Qxb6603810a
open Go.RowKit

/-- No block has turned. -/
def Still (w w' : World) : Prop := ∀ B, Below B w w'
theorem Still.refl (w : World) : Still w w := fun B => Below.refl B w
theorem Still.drewN {w w' : World} (h : Still w w') (n : Nat) : Still w (w'.drewN n) := fun B => (h B).trans (below_drewN (Below.refl B w') n)

theorem take_succ_getD (xs : List Int) (k : Nat) (h : k < xs.length) : xs.take (k + 1) = xs.take k ++ [xs.getD k 0] := by
  rw [List.take_succ_eq_append_getElem h, List.getD_eq_getElem?_getD, List.getElem?_eq_getElem h]
  rfl
theorem take_agree {xs ys : List Int} {k : Nat} (h : xs.take k = ys.take k) (hx : k < xs.length) (hy : k < ys.length) (e : xs.getD k 0 = ys.getD k 0) : xs.take (k + 1) = ys.take (k + 1) := by
  rw [take_succ_getD xs k hx, take_succ_getD ys k hy, h, e]

set_option maxHeartbeats 800000 in
theorem equal_any (ao bo : Option Addr) (xs ys : List Int) (n m ca cb : Nat) (w : World) (hN : n = xs.length) (hM : m = ys.length) (hn : n ≤ 4194304) (hm : m ≤ 4194304) (ha : Rd w ao xs) (hb : Rd w bo ys) :
    Calls Try.prog 19 #[.slice ao n ca, .slice bo m cb] w fun e w' => Ans (xs = ys) e ∧ Still w w' := by
  have HN : Hid (n = xs.length) := hN
  have HM : Hid (m = ys.length) := hM
  clear hN hM
  by_cases hnm : n = m
  · obtain ⟨q, hq⟩ : ∃ q, q = m := ⟨_, rfl⟩
    subst hnm
    clear hq
    go_enter Try.func19, Try.ntmps19
    go_wp2
    go_loopw [5] (fun i wr => ∃ k : Nat, k ≤ n ∧ i = .int .i64 k ∧ xs.take k = ys.take k ∧ Still w wr) (fun i _ => n - (intOf i).toNat)
    case atStart => exact ⟨0, Nat.zero_le _, rfl, rfl, Still.refl _⟩
    case round =>
      obtain ⟨k, hk, rfl, htk, hst⟩ := hrel
      have HT : Hid (xs.take k = ys.take k) := htk
      have HS : Hid (Still w wr) := hst
      clear htk hst
      by_cases hlt : k < n
      · obtain ⟨b, off, e, hc⟩ := ha.at (by rw [← HN.out]; omega)
        obtain ⟨b', off', e', hc'⟩ := hb.at (by rw [← HM.out]; omega)
        cases e
        cases e'
        have h1 : wr.cell? ⟨b, off + k, none⟩ = some (.int .u8 (xs.getD k 0)) := ((HS.out (b + 1)).cell (p := ⟨b, off + k, none⟩) (Nat.lt_succ_self _)).trans (hc k (by rw [← HN.out]; exact hlt))
        have h2 : wr.cell? ⟨b', off' + k, none⟩ = some (.int .u8 (ys.getD k 0)) := ((HS.out (b' + 1)).cell (p := ⟨b', off' + k, none⟩) (Nat.lt_succ_self _)).trans (hc' k (by rw [← HM.out]; exact hlt))
        generalize hX : xs.getD k 0 = X at h1
        generalize hY : ys.getD k 0 = Y at h2
        have GX : Hid (xs.getD k 0 = X) := hX
        have GY : Hid (ys.getD k 0 = Y) := hY
        clear hX hY hc hc' ha hb
        have l0 : (0 : Int) ≤ (k : Int) := by omega
        have l1 : (k : Int) < (n : Int) := by omega
        by_cases hXY : X = Y
        · subst hXY
          go_wp2
          go_quiet (fail)
          go_wp2
          go_roundw
          case rel => exact ⟨k + 1, by omega, by go_num, take_agree HT.out (by rw [← HN.out]; exact hlt) (by rw [← HM.out]; exact hlt) (GX.out.trans GY.out.symm), HS.out.drewN _⟩
          case measure => simp [intOf]; omega
        · have hne : (X != Y) = true := by simpa using hXY
          have HXY : Hid (¬ X = Y) := hXY
          clear hXY
          go_wp2
          go_quiet (fail)
          go_wp2
          go_ret
          refine ⟨Ans.no ?_, HS.out.drewN _⟩
          intro h
          exact HXY.out (by rw [← GX.out, ← GY.out, h])
      · go_wp2
        go_ret
        refine ⟨Ans.yes ?_, HS.out⟩
        have h := HT.out
        rw [List.take_of_length_le (by rw [← HN.out]; omega), List.take_of_length_le (by rw [← HM.out]; omega)] at h
        exact h
  · have hne : ((n : Int) != (m : Int)) = true := by
      have : ¬ (n : Int) = (m : Int) := by omega
      simpa using this
    have HNM : Hid (¬ xs = ys) := fun h => hnm (by rw [HN.out, HM.out, h])
    clear hnm
    go_enter Try.func19, Try.ntmps19
    go_wp2
    go_ret
    exact ⟨Ans.no HNM.out, Still.refl _⟩

end Go.Proofs.Qxb6603810a
