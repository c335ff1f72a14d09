/-
  THE WALK over the law FnAppendEnvFlagIgnoresWhatBHolds (seat b6603810a).
-/
import Derived.Test.Qxb6603810aRowUse
namespace Go.Proofs.Qxb6603810a
open Go.RowKit

set_option maxHeartbeats 800000 in
theorem ignores_big (a0 : Option Addr) (len0 cap0 : Nat) (nm pr : ByteArray) (w : World) (w0 : len0 ≤ maxLen) (w1 : nm.size ≤ maxLen) (w2 : pr.size ≤ maxLen)
    (h : ¬ (len0 ≤ 262144 ∧ nm.size ≤ 262144 ∧ pr.size ≤ 262144)) :
    Calls Try.prog 6 #[.slice a0 len0 cap0, .string nm, .string pr] w fun e w' => e = .returned (.bool true) ∧ Below w.heap.size w w' := by
  unfold maxLen at w0 w1 w2
  by_cases h1 : len0 ≤ 262144
  · by_cases h2 : nm.size ≤ 262144
    · have h3 : ¬ pr.size ≤ 262144 := fun q => h ⟨h1, h2, q⟩
      clear h
      go_enter Try.func6, Try.ntmps6
      go_wp2
      all_goals (go_ret; exact ⟨rfl, Below.refl _ _⟩)
    · clear h
      go_enter Try.func6, Try.ntmps6
      go_wp2
      all_goals (go_ret; exact ⟨rfl, Below.refl _ _⟩)
  · clear h
    go_enter Try.func6, Try.ntmps6
    go_wp2
    all_goals (go_ret; exact ⟨rfl, Below.refl _ _⟩)

theorem restOf_le (nm pr : ByteArray) : (restOf nm pr).size ≤ nm.size := by
  unfold restOf
  split
  · exact Nat.le_refl _
  · rw [ByteArray.size_extract]; omega

set_option maxHeartbeats 1600000 in
theorem ignores_small (a0 : Option Addr) (xs : List Int) (n cap0 : Nat) (nm pr : ByteArray) (w : World) (hN : n = xs.length) (hn : n ≤ 262144) (h1 : nm.size ≤ 262144) (h2 : pr.size ≤ 262144) (hnil : a0 = none → xs = []) (hr : Rd w a0 xs) :
    Calls Try.prog 6 #[.slice a0 n cap0, .string nm, .string pr] w fun e w' => e = .returned (.bool true) ∧ Below w.heap.size w w' := by
  have HN : Hid (n = xs.length) := hN
  have HNIL : Hid (a0 = none → xs = []) := hnil
  have HR : Hid (Rd w a0 xs) := hr
  clear hN hnil hr
  go_enter Try.func6, Try.ntmps6
  go_wp2_with (go_at_call 21; go_in)
  refine (clone_n a0 xs n cap0 w HN.out (by omega) HNIL.out HR.out).mono ?_
  rintro e1 w1 ⟨b0, rfl, n1, r1, b1⟩
  have N1 : Hid (b0 = none → xs = []) := n1
  have R1 : Hid (Rd w1 b0 xs) := r1
  have B1 : Hid (Below w.heap.size w w1) := b1
  clear n1 r1 b1
  go_wp2_with fail
  refine (clone_n b0 xs n n w1 HN.out (by omega) N1.out R1.out).mono ?_
  rintro e2 w2 ⟨k0, rfl, n2, r2, b2⟩
  have R2 : Hid (Rd w2 k0 xs) := r2
  have B2 : Hid (Below w1.heap.size w1 w2) := b2
  clear n2 r2 b2
  go_wp2_with fail
  refine (zzflag_any b0 xs n nm pr w2 HN.out (by omega) (by omega) (by omega) N1.out (R1.out.below B2.out)).mono ?_
  rintro e3 w3 ⟨o1, c1, v1, out1, rfl, s1, s2, s3, r3, b3, iff1, y1, y2⟩
  obtain ⟨l1, hl1⟩ : ∃ l1, l1 = out1.length := ⟨_, rfl⟩
  rw [← hl1] at s1 ⊢
  have L1 : Hid (l1 = out1.length) := hl1
  have S3 : Hid (o1 = none → c1 = 0) := s3
  have R3 : Hid (Rd w3 o1 out1) := r3
  have B3 : Hid (Below w2.heap.size w2 w3) := b3
  have Y1 : Hid (v1 = true → out1 = xs ++ flags (restOf nm pr) (restOf nm pr).size) := y1
  have Y2 : Hid (v1 = false → out1 = xs) := y2
  clear hl1 s3 r3 b3 y1 y2
  go_wp2_with fail
  refine (zzflag_any none [] 0 nm pr w3 rfl (by omega) (by omega) (by omega) (fun _ => rfl) (Rd.nil _ _)).mono ?_
  rintro e4 w4 ⟨o2, c2, v2, out2, rfl, t1, t2, t3, r4, b4, iff2, y3, y4⟩
  have hv := verdicts iff1 iff2
  subst hv
  obtain ⟨l2, hl2⟩ : ∃ l2, l2 = out2.length := ⟨_, rfl⟩
  rw [← hl2] at t1 ⊢
  have L2 : Hid (l2 = out2.length) := hl2
  have R4 : Hid (Rd w4 o2 out2) := r4
  have B4 : Hid (Below w3.heap.size w3 w4) := b4
  have Y3 : Hid (v2 = true → out2 = [] ++ flags (restOf nm pr) (restOf nm pr).size) := y3
  have Y4 : Hid (v2 = false → out2 = []) := y4
  clear hl2 t3 r4 b4 y3 y4 iff1 iff2
  have D1 : Hid (Below w.heap.size w w4) := ((B1.out.trans (B2.out.mono B1.out.size)).trans (B3.out.mono (Nat.le_trans B1.out.size B2.out.size))).trans (B4.out.mono (Nat.le_trans B1.out.size (Nat.le_trans B2.out.size B3.out.size)))
  have K4 : Hid (Rd w4 k0 xs) := (R2.out.below B3.out).below B4.out
  have O4 : Hid (Rd w4 o1 out1) := R3.out.below B4.out
  cases v2
  · have e1 := Y2.out rfl
    have e2 := Y4.out rfl
    obtain rfl : l1 = n := by rw [L1.out, e1]; exact HN.out.symm
    obtain rfl : l2 = 0 := by rw [L2.out, e2]; rfl
    have E1 : Hid (out1 = xs) := e1
    clear e1 e2
    go_wp2_with fail
    refine (equal_yes o1 k0 out1 xs l1 l1 c1 l1 w4 L1.out HN.out (by omega) O4.out K4.out E1.out).mono ?_
    rintro e5 w5 ⟨rfl, hs⟩
    have HS : Hid (Still w4 w5) := hs
    clear hs
    go_wp2
    go_ret
    exact ⟨rfl, D1.out.trans (HS.out _)⟩
  · have e1 := Y1.out rfl
    have e2 := Y3.out rfl
    rw [List.nil_append] at e2
    have hl2 : l2 ≤ 262144 := by
      have q := flags_length (restOf nm pr) (restOf nm pr).size (Nat.le_refl _)
      have q2 := restOf_le nm pr
      rw [L2.out, e2, q]
      omega
    have e3 : out1 = xs ++ out2 := by rw [e1, e2]
    obtain rfl : l1 = n + l2 := by rw [L1.out, e3, List.length_append, ← HN.out, ← L2.out]
    have E1 : Hid (out1.take n = xs) := by unfold Hid; rw [e3, HN.out, List.take_left]
    have E2 : Hid (out1.drop n = out2) := by unfold Hid; rw [e3, HN.out, List.drop_left]
    have hc1 : n ≤ c1 := by omega
    clear e1 e2 e3
    go_wp2_with fail
    refine (equal_yes o1 k0 (out1.take n) xs n n c1 n w4 (by rw [E1.out]; exact HN.out) HN.out (by omega) (O4.out.take n) K4.out E1.out).mono ?_
    rintro e5 w5 ⟨rfl, hs⟩
    have HS : Hid (Still w4 w5) := hs
    clear hs
    have O5 : Hid (Rd w5 o1 out1) := O4.out.below (HS.out _)
    have P5 : Hid (Rd w5 o2 out2) := R4.out.below (HS.out _)
    have FIN : Hid (∀ w', Still w5 w' → Below w.heap.size w w') := fun w' h => (D1.out.trans (HS.out _)).trans (h _)
    have EN : Hid (l2 = (out1.drop n).length) := by unfold Hid; rw [E2.out]; exact L2.out
    by_cases hl : n + l2 = 0
    · have hn0 : n = 0 := by omega
      have hl0 : l2 = 0 := by omega
      have X : Hid (out1.drop n = []) := by unfold Hid; rw [E2.out]; exact List.eq_nil_of_length_eq_zero (by rw [← L2.out]; exact hl0)
      clear hl
      have HN0 : Hid (n = 0) := hn0
      subst hl0
      clear hn0
      go_wp2_with fail
      all_goals
        refine (equal_yes _ o2 (out1.drop n) out2 _ 0 _ c2 w5 ?_ L2.out ?_ ?_ P5.out E2.out).mono ?_
        · have z := HN0.out; have q := EN.out; omega
        · have z := HN0.out; omega
        · rw [X.out]; exact Rd.nil _ _
        rintro e6 w6 ⟨rfl, hs⟩
        have HS2 : Hid (Still w5 w6) := hs
        clear hs
        go_wp2
        go_ret
        exact ⟨rfl, FIN.out _ HS2.out⟩
    · obtain ⟨b, off, ho, _⟩ := O5.out.at (by rw [← L1.out]; omega)
      subst ho
      have Q5 := O5.out.drop n
      have HQ5 : Hid (Rd w5 (some ⟨b, off + n, none⟩) (out1.drop n)) := Q5
      clear Q5
      by_cases hcn : c1 = n
      · have hl0 : l2 = 0 := by omega
        have X : Hid (out1.drop n = []) := by unfold Hid; rw [E2.out]; exact List.eq_nil_of_length_eq_zero (by rw [← L2.out]; exact hl0)
        subst hl0
        subst hcn
        go_wp2_with fail
        refine (equal_yes _ o2 (out1.drop c1) out2 _ 0 _ c2 w5 ?_ L2.out ?_ ?_ P5.out E2.out).mono ?_
        · have q := EN.out; omega
        · omega
        · rw [X.out]; exact Rd.nil _ _
        rintro e6 w6 ⟨rfl, hs⟩
        have HS2 : Hid (Still w5 w6) := hs
        clear hs
        go_wp2
        go_ret
        exact ⟨rfl, FIN.out _ HS2.out⟩
      · go_wp2_with fail
        refine (equal_yes _ o2 (out1.drop n) out2 l2 l2 _ c2 w5 EN.out L2.out (by omega) HQ5.out P5.out E2.out).mono ?_
        rintro e6 w6 ⟨rfl, hs⟩
        have HS2 : Hid (Still w5 w6) := hs
        clear hs
        go_wp2
        go_ret
        exact ⟨rfl, FIN.out _ HS2.out⟩

end Go.Proofs.Qxb6603810a
