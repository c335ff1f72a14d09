/-
  THE WALKS over isName and nameBySegments (seat b6603810a).
-/
import Derived.Test.Qxb6603810aProg
import Derived.Test.Qxb6603810aPlain
import Derived.WalkKit
import Derived.WalkSpells
namespace Go.Proofs.Qxb6603810a
open Go.RowKit

/-- The call hands back the truth of P. -/
def Ans (P : Prop) (e : Ending) : Prop := ∃ r : Bool, e = .returned (.bool r) ∧ Hid (r = true ↔ P)
theorem Ans.yes {P : Prop} (h : P) : Ans P (.returned (.bool true)) := ⟨true, rfl, show true = true ↔ P from ⟨fun _ => h, fun _ => rfl⟩⟩
theorem Ans.no {P : Prop} (h : ¬ P) : Ans P (.returned (.bool false)) := ⟨false, rfl, show false = true ↔ P from ⟨fun q => absurd q (by decide), fun q => absurd q h⟩⟩

/-- lowerOrDigit. -/
theorem lod_any (x : Int) (w : World) : Calls Try.prog 25 #[.int .u8 x] w fun e w' => Ans (lod x) e ∧ w' = w := by
  by_cases h1 : 97 ≤ x
  · by_cases h2 : x ≤ 122
    · go_enter Try.func25, Try.ntmps25
      go_wp2
      go_ret
      exact ⟨Ans.yes (.inl ⟨h1, h2⟩), rfl⟩
    · by_cases h4 : x ≤ 57
      · omega
      · have h3 : 48 ≤ x := by omega
        have hd : decide (x ≤ 57) = false := by simpa using h4
        go_enter Try.func25, Try.ntmps25
        go_wp2
        go_ret
        exact ⟨Ans.no (by unfold lod; omega), rfl⟩
  · by_cases h3 : 48 ≤ x
    · by_cases h4 : x ≤ 57
      · go_enter Try.func25, Try.ntmps25
        go_wp2
        go_ret
        exact ⟨Ans.yes (.inr ⟨h3, h4⟩), rfl⟩
      · have hd : decide (x ≤ 57) = false := by simpa using h4
        go_enter Try.func25, Try.ntmps25
        go_wp2
        go_ret
        exact ⟨Ans.no (by unfold lod; omega), rfl⟩
    · go_enter Try.func25, Try.ntmps25
      go_wp2
      go_ret
      exact ⟨Ans.no (by unfold lod; omega), rfl⟩

theorem toList_empty {s : ByteArray} (h : ¬ 0 < s.size) : s.toList = [] := by
  rw [ByteArray.toList_eq]
  apply List.eq_nil_of_length_eq_zero
  have : s.data.toList.length = s.size := by simp
  omega
theorem toList_isEmpty {s : ByteArray} (h : 0 < s.size) : s.toList.isEmpty = false := by
  rw [ByteArray.toList_eq, List.isEmpty_eq_false_iff]
  intro q
  have : s.data.toList.length = s.size := by simp
  rw [q] at this
  simp at this
  omega

theorem byte_kinds (x : Int) : (97 ≤ x ∧ x ≤ 122) ∨ (48 ≤ x ∧ x ≤ 57) ∨ x = 45 ∨ (122 < x ∧ x ≠ 45) ∨ (57 < x ∧ x < 97 ∧ x ≠ 45) ∨ (x < 48 ∧ x ≠ 45) := by omega
theorem good_of {c : Nat → Int} {k : Nat} {x y : Int} (h : c k = x) (h' : c (k - 1) = y) (g : okc x) (n : ¬ (x = 45 ∧ y = 45)) : good c k := by
  unfold good
  rw [h, h']
  exact ⟨g, n⟩
theorem bad_of {c : Nat → Int} {k : Nat} {x y : Int} (h : c k = x) (h' : c (k - 1) = y) (g : ¬ okc x ∨ (x = 45 ∧ y = 45)) : ¬ good c k := by
  unfold good
  rw [h, h']
  rintro ⟨a, b⟩
  rcases g with g | g
  · exact g a
  · exact b g

set_option maxHeartbeats 1600000 in
theorem isName_any (s : ByteArray) (w : World) (hs : s.size ≤ 1048576) : Calls Try.prog 24 #[.string s] w fun e w' => Ans (nameP (bAt s) s.size) e ∧ w' = w := by
  by_cases hz : 0 < s.size
  · have H0 : Hid (bAt s 0 = ((s[0]'hz).toNat : Int)) := bAt_of s 0 hz
    have H1 : Hid (bAt s (s.size - 1) = ((s[s.size - 1]'(by omega)).toNat : Int)) := bAt_of s (s.size - 1) (by omega)
    have hE := toList_isEmpty hz
    by_cases g1 : ((s[0]'hz).toNat : Int) < 97
    · go_enter Try.func24, Try.ntmps24
      go_wp2
      go_ret
      exact ⟨Ans.no fun h => by have := h.2.1; rw [H0.out] at this; omega, rfl⟩
    by_cases g2 : (122 : Int) < ((s[0]'hz).toNat : Int)
    · go_enter Try.func24, Try.ntmps24
      go_wp2
      go_ret
      exact ⟨Ans.no fun h => by have := h.2.2.1; rw [H0.out] at this; omega, rfl⟩
    by_cases g3 : ((s[s.size - 1]'(by omega)).toNat : Int) = 45
    · have g3' : (((s[s.size - 1]'(by omega)).toNat : Int) == 45) = true := by simpa using g3
      have G3 : Hid (((s[s.size - 1]'(by omega)).toNat : Int) = 45) := g3
      clear g3
      go_enter Try.func24, Try.ntmps24
      go_wp2
      go_ret
      exact ⟨Ans.no fun h => by have := h.2.2.2.1; rw [H1.out] at this; exact this G3.out, rfl⟩
    have g3' : (((s[s.size - 1]'(by omega)).toNat : Int) == 45) = false := by simpa using g3
    have G3 : Hid (¬ ((s[s.size - 1]'(by omega)).toNat : Int) = 45) := g3
    clear g3
    go_enter Try.func24, Try.ntmps24
    go_wp2
    go_loop [3] (fun i => ∃ k : Nat, 1 ≤ k ∧ k ≤ s.size ∧ i = .int .i64 k ∧ allGood (bAt s) k) (fun i => s.size - (intOf i).toNat)
    case atStart => exact ⟨1, by omega, by omega, rfl, allGood_one _⟩
    case round =>
      obtain ⟨k, hk1, hk, rfl, hg⟩ := hrel
      by_cases hlt : k < s.size
      · have B0 : Hid (bAt s k = ((s[k]'hlt).toNat : Int)) := bAt_of s k hlt
        have B1 : Hid (bAt s (k - 1) = ((s[k - 1]'(by omega)).toNat : Int)) := bAt_of s (k - 1) (by omega)
        clear g3'
        rcases byte_kinds ((s[k]'hlt).toNat : Int) with c | c | c | c | c | c
        · go_wp2
          go_round
          case rel => exact ⟨k + 1, by omega, by omega, by go_num, allGood_succ hg (good_of B0.out B1.out (.inl c) (by omega))⟩
          case measure => simp [intOf]; omega
        · go_wp2
          go_round
          case rel => exact ⟨k + 1, by omega, by omega, by go_num, allGood_succ hg (good_of B0.out B1.out (.inr (.inl c)) (by omega))⟩
          case measure => simp [intOf]; omega
        · by_cases q : ((s[k - 1]'(by omega)).toNat : Int) = 45
          · have q' : (((s[k - 1]'(by omega)).toNat : Int) == 45) = true := by simpa using q
            have Q : Hid (((s[k - 1]'(by omega)).toNat : Int) = 45) := q
            have C : Hid (((s[k]'hlt).toNat : Int) = 45) := c
            clear q
            go_wp2
            go_ret
            exact ⟨Ans.no (not_name_of_bad hk1 hlt (bad_of B0.out B1.out (.inr ⟨C.out, Q.out⟩))), rfl⟩
          · have q' : (((s[k - 1]'(by omega)).toNat : Int) == 45) = false := by simpa using q
            have Q : Hid (¬ ((s[k - 1]'(by omega)).toNat : Int) = 45) := q
            have C : Hid (((s[k]'hlt).toNat : Int) = 45) := c
            clear q
            go_wp2
            go_round
            case rel => exact ⟨k + 1, by omega, by omega, by go_num, allGood_succ hg (good_of B0.out B1.out (.inr (.inr C.out)) (fun h => Q.out h.2))⟩
            case measure => simp [intOf]; omega
        · have D : Hid (¬ okc ((s[k]'hlt).toNat : Int)) := by unfold Hid okc; omega
          have d1 : decide (((s[k]'hlt).toNat : Int) ≤ 122) = false := decide_eq_false (by omega)
          have d2 : decide (((s[k]'hlt).toNat : Int) ≤ 57) = false := decide_eq_false (by omega)
          have d3 : (((s[k]'hlt).toNat : Int) == 45) = false := by simpa using c.2
          go_wp2
          go_ret
          exact ⟨Ans.no (not_name_of_bad hk1 hlt (bad_of B0.out B1.out (.inl D.out))), rfl⟩
        · have D : Hid (¬ okc ((s[k]'hlt).toNat : Int)) := by unfold Hid okc; omega
          have d2 : decide (((s[k]'hlt).toNat : Int) ≤ 57) = false := decide_eq_false (by omega)
          have d3 : (((s[k]'hlt).toNat : Int) == 45) = false := by simpa using c.2.2
          go_wp2
          go_ret
          exact ⟨Ans.no (not_name_of_bad hk1 hlt (bad_of B0.out B1.out (.inl D.out))), rfl⟩
        · have D : Hid (¬ okc ((s[k]'hlt).toNat : Int)) := by unfold Hid okc; omega
          have d3 : (((s[k]'hlt).toNat : Int) == 45) = false := by simpa using c.2
          go_wp2
          go_ret
          exact ⟨Ans.no (not_name_of_bad hk1 hlt (bad_of B0.out B1.out (.inl D.out))), rfl⟩
      · obtain rfl : k = s.size := by omega
        go_wp2
        go_ret
        exact ⟨Ans.yes ⟨hz, by rw [H0.out]; omega, by rw [H0.out]; omega, by rw [H1.out]; exact G3.out, hg⟩, rfl⟩
  · have hE := toList_empty hz
    go_enter Try.func24, Try.ntmps24
    go_wp2
    go_ret
    exact ⟨Ans.no fun h => hz h.1, rfl⟩

end Go.Proofs.Qxb6603810a
