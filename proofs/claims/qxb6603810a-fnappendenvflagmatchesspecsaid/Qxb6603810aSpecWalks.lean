/-
  THE WALKS over stripEnvPrefix, envByteOK and envSpellingOfFlagByte (seat b6603810a).
-/
import Derived.Test.Qxb6603810aRowUse
namespace Go.Proofs.Qxb6603810a
open Go.RowKit

theorem envOk_any (x : Int) (w : World) : Calls Try.prog 17 #[.int .u8 x] w fun e w' => Ans (envc x) e ∧ w' = w := by
  rcases env_kinds x with c | c | c | c | c | c
  · go_enter Try.func17, Try.ntmps17
    go_wp2
    go_ret
    exact ⟨Ans.yes (.inl c), rfl⟩
  · subst c
    go_enter Try.func17, Try.ntmps17
    go_wp2
    go_ret
    exact ⟨Ans.yes (.inr (.inr rfl)), rfl⟩
  · go_enter Try.func17, Try.ntmps17
    go_wp2
    go_ret
    exact ⟨Ans.yes (.inr (.inl c)), rfl⟩
  all_goals
    have D : Hid (¬ envc x) := by unfold Hid envc; omega
    have d3 : (x == 95) = false := by
      have : ¬ x = 95 := by omega
      simpa using this
    first | have d1 : decide (x ≤ 57) = false := decide_eq_false (by omega) | skip
    first | have d2 : decide (x ≤ 90) = false := decide_eq_false (by omega) | skip
    go_enter Try.func17, Try.ntmps17
    go_wp2
    go_ret
    exact ⟨Ans.no D.out, rfl⟩

theorem ret_pair {k : IntKind} {a b : Int} {r : Bool} (h : a = b) : Ending.returned (.tuple #[.int k a, .bool r]) = .returned (.tuple #[.int k b, .bool r]) := by rw [h]

theorem spell_any (x y : Int) (w : World) (hy : envc y) (hx : x = flagOf y) : Calls Try.prog 20 #[.int .u8 x] w fun e w' => e = .returned (.tuple #[.int .u8 y, .bool true]) ∧ w' = w := by
  unfold flagOf at hx
  rcases hy with c | c | c
  · rw [if_pos c] at hx
    have h1 : 97 ≤ x := by omega
    have h2 : x ≤ 122 := by omega
    have HX : Hid (x - 32 = y) := by unfold Hid; omega
    clear hx
    go_enter Try.func20, Try.ntmps20
    go_wp2
    go_ret2
    exact ⟨ret_pair HX.out, rfl⟩
  · rw [if_neg (by omega), if_neg (by omega)] at hx
    subst hx
    go_enter Try.func20, Try.ntmps20
    go_wp2
    go_ret2
    exact ⟨rfl, rfl⟩
  · rw [if_neg (by omega), if_pos c] at hx
    subst hx
    subst c
    go_enter Try.func20, Try.ntmps20
    go_wp2
    go_ret2
    exact ⟨rfl, rfl⟩

/-- What stripEnvPrefix hands back. -/
def Stripped (nm pr : ByteArray) (e : Ending) : Prop :=
  (preOk nm pr → e = .returned (.tuple #[.string (restOf nm pr), .bool true])) ∧ (¬ preOk nm pr → e = .returned (.tuple #[.string ByteArray.empty, .bool false]))
theorem Stripped.yes {nm pr : ByteArray} (h : preOk nm pr) : Stripped nm pr (.returned (.tuple #[.string (restOf nm pr), .bool true])) := ⟨fun _ => rfl, fun q => absurd h q⟩
theorem Stripped.no {nm pr : ByteArray} (h : ¬ preOk nm pr) : Stripped nm pr (.returned (.tuple #[.string ByteArray.empty, .bool false])) := ⟨fun q => absurd q h, fun _ => rfl⟩

set_option maxHeartbeats 800000 in
theorem strip_any (nm pr : ByteArray) (w : World) (hn : nm.size ≤ 524288) (hp : pr.size ≤ 524288) : Calls Try.prog 16 #[.string nm, .string pr] w fun e w' => Stripped nm pr e ∧ Still w w' := by
  by_cases hz : 0 < pr.size
  · have hE := toList_isEmpty hz
    by_cases hx : pr.size < nm.size
    · have hd1 : decide (nm.size < pr.size + 1) = false := decide_eq_false (by omega)
      have hd2 : decide ((nm.size : Int) < (pr.size : Int) + 1) = false := decide_eq_false (by omega)
      go_enter Try.func16, Try.ntmps16
      go_wp2
      go_loopw [6] (fun i wr => ∃ k : Nat, k ≤ pr.size ∧ i = .int .i64 k ∧ (∀ j, j < k → bAt nm j = bAt pr j) ∧ Still w wr) (fun i _ => pr.size - (intOf i).toNat)
      case atStart => exact ⟨0, Nat.zero_le _, rfl, (fun j h => absurd h (Nat.not_lt_zero j)), Still.refl _⟩
      case round =>
        obtain ⟨k, hk, rfl, hs, hst⟩ := hrel
        have HS : Hid (∀ j, j < k → bAt nm j = bAt pr j) := hs
        have HT : Hid (Still w wr) := hst
        clear hs hst
        by_cases hlt : k < pr.size
        · have hkn : k < nm.size := by omega
          have B0 : Hid (bAt nm k = ((nm[k]'hkn).toNat : Int)) := bAt_of nm k hkn
          have B1 : Hid (bAt pr k = ((pr[k]'hlt).toNat : Int)) := bAt_of pr k hlt
          have l0 : (0 : Int) ≤ (k : Int) := by omega
          have l1 : (k : Int) < (nm.size : Int) := by omega
          have l2 : (k : Int) < (pr.size : Int) := by omega
          by_cases he : ((nm[k]'hkn).toNat : Int) = ((pr[k]'hlt).toNat : Int)
          · have hd3 : (((nm[k]'hkn).toNat : Int) != ((pr[k]'hlt).toNat : Int)) = false := by rw [he]; simp
            have GE : Hid (bAt nm k = bAt pr k) := by unfold Hid; rw [B0.out, B1.out, he]
            clear he
            go_wp2
            go_quiet (fail)
            go_wp2
            go_roundw
            case rel =>
              refine ⟨k + 1, by omega, by go_num, fun j hj => ?_, HT.out.drewN _⟩
              by_cases q : j = k
              · subst q; exact GE.out
              · exact HS.out j (by omega)
            case measure => simp [intOf]; omega
          · have hd3 : (((nm[k]'hkn).toNat : Int) != ((pr[k]'hlt).toNat : Int)) = true := by simpa using he
            have GE : Hid (¬ preOk nm pr) := by
              rintro (q | q)
              · omega
              · have z := q.2.1 k hlt
                rw [B0.out, B1.out] at z
                exact he z
            clear he
            go_wp2
            go_quiet (fail)
            go_wp2
            go_ret2
            exact ⟨Stripped.no GE.out, HT.out.drewN _⟩
        · obtain rfl : k = pr.size := by omega
          have B0 : Hid (bAt nm pr.size = ((nm[pr.size]'hx).toNat : Int)) := bAt_of nm pr.size hx
          by_cases he : ((nm[pr.size]'hx).toNat : Int) = 95
          · have hd3 : (((nm[pr.size]'hx).toNat : Int) != 95) = false := by rw [he]; decide
            have GE : Hid (Stripped nm pr (.returned (.tuple #[.string (nm.extract (pr.size + 1) nm.size), .bool true]))) := by
              have e := restOf_pos (nm := nm) (pr := pr) (by omega)
              rw [← e]
              exact Stripped.yes (.inr ⟨hx, HS.out, by rw [B0.out]; exact he⟩)
            clear he
            go_wp2
            go_ret2
            exact ⟨GE.out, HT.out⟩
          · have hd3 : (((nm[pr.size]'hx).toNat : Int) != 95) = true := by simpa using he
            have GE : Hid (¬ preOk nm pr) := by
              rintro (q | q)
              · omega
              · have z := q.2.2
                rw [B0.out] at z
                exact he z
            clear he
            go_wp2
            go_ret2
            exact ⟨Stripped.no GE.out, HT.out⟩
    · have GE : Hid (¬ preOk nm pr) := by
        rintro (q | q)
        · omega
        · exact hx q.1
      go_enter Try.func16, Try.ntmps16
      go_wp2
      go_ret2
      exact ⟨Stripped.no GE.out, Still.refl _⟩
  · have hE := toList_empty hz
    have GE : Hid (Stripped nm pr (.returned (.tuple #[.string nm, .bool true]))) := by
      have e := restOf_zero (nm := nm) (pr := pr) (by omega)
      have q : preOk nm pr := .inl (by omega)
      have z := Stripped.yes q
      rw [e] at z
      exact z
    go_enter Try.func16, Try.ntmps16
    go_wp2
    go_ret2
    exact ⟨GE.out, Still.refl _⟩

end Go.Proofs.Qxb6603810a
