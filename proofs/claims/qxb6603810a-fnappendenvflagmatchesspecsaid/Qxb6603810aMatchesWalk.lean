/-
  THE WALK over the law FnAppendEnvFlagMatchesSpec (seat b6603810a).
-/
import Derived.Test.Qxb6603810aSpecWalks
namespace Go.Proofs.Qxb6603810a
open Go.RowKit

set_option maxHeartbeats 800000 in
theorem matches_big (a0 : Option Addr) (len0 cap0 : Nat) (nm pr : ByteArray) (w : World) (w0 : len0 ≤ maxLen) (w1 : nm.size ≤ maxLen) (w2 : pr.size ≤ maxLen)
    (h : ¬ (len0 ≤ 262144 ∧ nm.size ≤ 262144 ∧ pr.size ≤ 262144)) :
    Calls Try.prog 5 #[.slice a0 len0 cap0, .string nm, .string pr] w fun e w' => e = .returned (.bool true) ∧ Below w.heap.size w w' := by
  unfold maxLen at w0 w1 w2
  by_cases h1 : len0 ≤ 262144
  · by_cases h2 : nm.size ≤ 262144
    · have h3 : ¬ pr.size ≤ 262144 := fun q => h ⟨h1, h2, q⟩
      clear h
      go_enter Try.func5, Try.ntmps5
      go_wp2
      all_goals (go_ret; exact ⟨rfl, Below.refl _ _⟩)
    · clear h
      go_enter Try.func5, Try.ntmps5
      go_wp2
      all_goals (go_ret; exact ⟨rfl, Below.refl _ _⟩)
  · clear h
    go_enter Try.func5, Try.ntmps5
    go_wp2
    all_goals (go_ret; exact ⟨rfl, Below.refl _ _⟩)

theorem verdict_no {P : Prop} {r : Bool} (h : Hid (r = true ↔ P)) (k : ¬ P) : r = false := by
  have h := h.out
  cases r
  · rfl
  · exact absurd (h.1 rfl) k
theorem verdict_yes {P : Prop} {r : Bool} (h : Hid (r = true ↔ P)) (k : P) : r = true := h.out.2 k
theorem flags_getD (xs : List Int) (r : ByteArray) (k : Nat) (hk : k < r.size) : (xs ++ flags r r.size).getD (xs.length + k) 0 = flagOf ((r[k]'hk).toNat : Int) := by
  rw [flags_all, List.getD_eq_getElem?_getD, List.getElem?_append_right (by omega)]
  have e : xs.length + k - xs.length = k := by omega
  rw [e, List.getElem?_map, List.getElem?_eq_getElem (by rw [bl_length]; exact hk), bl_get r k hk]
  rfl
theorem restOf_le (nm pr : ByteArray) : (restOf nm pr).size ≤ nm.size := by
  unfold restOf
  split
  · exact Nat.le_refl _
  · rw [ByteArray.size_extract]; omega

set_option maxHeartbeats 3200000 in
theorem matches_small (a0 : Option Addr) (xs : List Int) (n cap0 : Nat) (nm pr : ByteArray) (w : World) (hN : n = xs.length) (hn : n ≤ 262144) (h1 : nm.size ≤ 262144) (h2 : pr.size ≤ 262144) (hnil : a0 = none → xs = []) (hr : Rd w a0 xs) :
    Calls Try.prog 5 #[.slice a0 n cap0, .string nm, .string pr] w fun e w' => e = .returned (.bool true) ∧ Below w.heap.size w w' := by
  have HN : Hid (n = xs.length) := hN
  have HNIL : Hid (a0 = none → xs = []) := hnil
  have HR : Hid (Rd w a0 xs) := hr
  clear hN hnil hr
  have hd1 : decide ((262144 : Int) < (n : Int)) = false := decide_eq_false (by omega)
  have hd2 : decide ((262144 : Int) < (nm.size : Int)) = false := decide_eq_false (by omega)
  have hd3 : decide ((262144 : Int) < (pr.size : Int)) = false := decide_eq_false (by omega)
  go_enter Try.func5, Try.ntmps5
  go_wp2_with (go_at_call 14; go_in)
  refine (clone_n a0 xs n cap0 w HN.out (by omega) HNIL.out HR.out).mono ?_
  rintro e1 w1 ⟨b0, rfl, n1, r1, b1⟩
  have N1 : Hid (b0 = none → xs = []) := n1
  have R1 : Hid (Rd w1 b0 xs) := r1
  have B1 : Hid (Below w.heap.size w w1) := b1
  clear n1 r1 b1
  go_wp2_with fail
  refine (clone_n b0 xs n n w1 HN.out (by omega) N1.out R1.out).mono ?_
  rintro e2 w2 ⟨k0, rfl, n2, r2, b2⟩
  have R2 : Hid (Rd w2 k0 xs) := r2
  have B2 : Hid (Below w1.heap.size w1 w2) := b2
  clear n2 r2 b2
  go_wp2_with fail
  refine (strip_any nm pr w2 (by omega) (by omega)).mono ?_
  rintro e3 w3 ⟨st, hst⟩
  have B3 : Hid (Still w2 w3) := hst
  clear hst
  have D3 : Hid (Below w.heap.size w w3) := (B1.out.trans (B2.out.mono B1.out.size)).trans (B3.out _)
  have K3 : Hid (Rd w3 k0 xs) := R2.out.below (B3.out _)
  have R3 : Hid (Rd w3 b0 xs) := (R1.out.below B2.out).below (B3.out _)
  by_cases hp : preOk nm pr
  · obtain rfl := st.1 hp
    obtain ⟨r, hr⟩ : ∃ r, r = restOf nm pr := ⟨_, rfl⟩
    have hrs : r.size ≤ 262144 := by rw [hr]; have := restOf_le nm pr; omega
    rw [← hr]
    have HRR : Hid (r = restOf nm pr) := hr
    have HP : Hid (preOk nm pr) := hp
    clear hr st hp
    go_wp2_with fail
    go_loop [9, 10] (fun v i => ∃ k : Nat, k ≤ r.size ∧ i = .int .i64 k ∧ v = .bool true ∧ allEnv r k) (fun _ i => r.size - (intOf i).toNat)
    case atStart => exact ⟨0, Nat.zero_le _, rfl, rfl, allEnv_zero r⟩
    case round =>
      obtain ⟨k, hk, rfl, rfl, hae⟩ := hrel
      have HA : Hid (allEnv r k) := hae
      clear hae
      by_cases hlt : k < r.size
      · have B0 : Hid (bAt r k = ((r[k]'hlt).toNat : Int)) := bAt_of r k hlt
        go_wp2_with (go_at_call 17; refine (envOk_any _ _).mono ?_; rintro e4 w4 ⟨⟨q, rfl, hq⟩, hw⟩; obtain rfl := hw.symm; clear hw; cases q)
        · have HPN : Hid (¬ envV nm pr) := by
            intro z
            have z2 := z.2
            rw [← HRR.out] at z2
            have z3 := z2 k hlt
            rw [B0.out] at z3
            exact absurd (hq.out.2 z3) (by simp)
          clear hq
          go_wp2_with fail
          refine (zzflag_any b0 xs n nm pr w3 HN.out (by omega) (by omega) (by omega) N1.out R3.out).mono ?_
          rintro e4 w4 ⟨o1, c1, v1, out1, rfl, s1, s2, s3, r4, b4, iff1, y1, y2⟩
          obtain rfl := verdict_no iff1 HPN.out
          obtain rfl := y2 rfl
          rw [← HN.out] at s1 ⊢
          have R4 : Hid (Rd w4 o1 out1) := r4
          have B4 : Hid (Below w3.heap.size w3 w4) := b4
          have D4 : Hid (Below w.heap.size w w4) := D3.out.trans (B4.out.mono D3.out.size)
          have K4 : Hid (Rd w4 k0 out1) := K3.out.below B4.out
          clear s3 r4 b4 iff1 y1 y2
          go_wp2_with fail
          refine (equal_yes o1 k0 out1 out1 n n c1 n w4 HN.out HN.out (by omega) R4.out K4.out rfl).mono ?_
          rintro e5 w5 ⟨rfl, hs⟩
          have HS : Hid (Still w4 w5) := hs
          clear hs
          go_wp2
          go_ret
          exact ⟨rfl, D4.out.trans (HS.out _)⟩
        · go_round
          case rel => exact ⟨k + 1, by omega, by go_num, rfl, allEnv_succ HA.out (by rw [B0.out]; exact hq.out.1 (by trivial))⟩
          case measure => simp [intOf]; omega
      · have HV : Hid (envV nm pr) := by
          refine ⟨HP.out, ?_⟩
          rw [← HRR.out]
          intro i hi
          exact HA.out i (by omega)
        go_wp2_with fail
        refine (zzflag_any b0 xs n nm pr _ HN.out (by omega) (by omega) (by omega) N1.out R3.out).mono ?_
        rintro e4 w4 ⟨o1, c1, v1, out1, rfl, s1, s2, s3, r4, b4, iff1, y1, y2⟩
        obtain rfl := verdict_yes iff1 HV.out
        have e0 := y1 rfl
        rw [← HRR.out] at e0
        have el : out1.length = n + r.size := by rw [e0, List.length_append, flags_length r r.size (Nat.le_refl _), HN.out]
        rw [el] at s1 ⊢
        have EL : Hid (out1.length = n + r.size) := el
        have E0 : Hid (out1 = xs ++ flags r r.size) := e0
        have ET : Hid (out1.take n = xs) := by unfold Hid; rw [e0, HN.out, List.take_left]
        have R4 : Hid (Rd w4 o1 out1) := r4
        have B4 : Hid (Below w3.heap.size w3 w4) := b4
        have D4 : Hid (Below w.heap.size w w4) := D3.out.trans (B4.out.mono D3.out.size)
        have K4 : Hid (Rd w4 k0 xs) := K3.out.below B4.out
        clear s3 r4 b4 iff1 y1 y2 el e0
        have hc1 : n ≤ c1 := by omega
        go_wp2_with fail
        refine (equal_yes o1 k0 (out1.take n) xs n n c1 n w4 (by rw [ET.out]; exact HN.out) HN.out (by omega) (R4.out.take n) K4.out ET.out).mono ?_
        rintro e5 w5 ⟨rfl, hs⟩
        have HS : Hid (Still w4 w5) := hs
        clear hs
        have R5 : Hid (Rd w5 o1 out1) := R4.out.below (HS.out _)
        have D5 : Hid (Below w.heap.size w w5) := D4.out.trans (HS.out _)
        go_wp2_with fail
        go_loop [13] (fun i => ∃ k : Nat, k ≤ r.size ∧ i = .int .i64 k) (fun i => r.size - (intOf i).toNat)
        case atStart => exact ⟨0, Nat.zero_le _, rfl⟩
        case round =>
          obtain ⟨m, hm, rfl⟩ := hrel
          by_cases hml : m < r.size
          · obtain ⟨b, off, ho, hc⟩ := R5.out.at (by rw [EL.out]; omega)
            have hcm : w5.cell? ⟨b, off + (n + m), none⟩ = some (.int .u8 (flagOf ((r[m]'hml).toNat : Int))) := by
              rw [hc (n + m) (by rw [EL.out]; omega), E0.out]
              have z := flags_getD xs r m hml
              rw [← HN.out] at z
              rw [z]
            have HE : Hid (envc ((r[m]'hml).toNat : Int)) := by
              have z := HV.out.2
              rw [← HRR.out] at z
              have z2 := z m hml
              rw [bAt_of r m hml] at z2
              exact z2
            subst ho
            clear hc
            generalize hF : flagOf ((r[m]'hml).toNat : Int) = F at hcm
            have HF : Hid (F = flagOf ((r[m]'hml).toNat : Int)) := hF.symm
            clear hF
            have l1 : (n : Int) + (m : Int) < (n : Int) + (r.size : Int) := by omega
            go_wp2_with (go_at_call 20; refine (spell_any _ _ _ HE.out HF.out).mono ?_; rintro e6 w6 ⟨rfl, rfl⟩)
            go_round
            case rel => exact ⟨m + 1, by omega, by go_num⟩
            case measure => simp [intOf]; omega
          · go_wp2
            go_ret
            exact ⟨rfl, D5.out⟩
  · obtain rfl := st.2 hp
    have HP : Hid (¬ envV nm pr) := fun q => hp q.1
    clear st hp
    go_wp2_with fail
    refine (zzflag_any b0 xs n nm pr w3 HN.out (by omega) (by omega) (by omega) N1.out R3.out).mono ?_
    rintro e4 w4 ⟨o1, c1, v1, out1, rfl, s1, s2, s3, r4, b4, iff1, y1, y2⟩
    obtain rfl := verdict_no iff1 HP.out
    obtain rfl := y2 rfl
    rw [← HN.out] at s1 ⊢
    have R4 : Hid (Rd w4 o1 out1) := r4
    have B4 : Hid (Below w3.heap.size w3 w4) := b4
    have D4 : Hid (Below w.heap.size w w4) := D3.out.trans (B4.out.mono D3.out.size)
    have K4 : Hid (Rd w4 k0 out1) := K3.out.below B4.out
    clear s3 r4 b4 iff1 y1 y2
    go_wp2_with fail
    refine (equal_yes o1 k0 out1 out1 n n c1 n w4 HN.out HN.out (by omega) R4.out K4.out rfl).mono ?_
    rintro e5 w5 ⟨rfl, hs⟩
    have HS : Hid (Still w4 w5) := hs
    clear hs
    go_wp2
    go_ret
    exact ⟨rfl, D4.out.trans (HS.out _)⟩

end Go.Proofs.Qxb6603810a
