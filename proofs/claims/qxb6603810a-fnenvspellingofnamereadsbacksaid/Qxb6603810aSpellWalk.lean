/-
  THE WALK over the law FnEnvSpellingOfNameReadsBack (seat b6603810a).
-/
import Derived.Test.Qxb6603810aSpellPlain
import Derived.Test.Qxb6603810aShellWalks
namespace Go.Proofs.Qxb6603810a
open Go.RowKit
set_option linter.unusedVariables false

theorem zzname_any (s : ByteArray) (w : World) (hs : s.size ≤ 1048576) : Calls Try.prog 9 #[.string s] w fun e w' => Ans (nameP (bAt s) s.size) e ∧ w' = w := by
  go_enter Try.func9, Try.ntmps9
  go_wp2_with (go_at_call 24; refine (isName_any s _ hs).mono ?_; rintro e1 w1 ⟨⟨r, rfl, hr⟩, rfl⟩)
  go_ret
  exact ⟨⟨r, rfl, hr⟩, rfl⟩
theorem zzshell_yes (s : ByteArray) (w : World) (hs : s.size ≤ 1048576) (h : shUp (bAt s) s.size) : Calls Try.prog 12 #[.string s] w fun e w' => e = .returned (.bool true) ∧ w' = w := by
  have H : Hid (shUp (bAt s) s.size) := h
  clear h
  go_enter Try.func12, Try.ntmps12
  go_wp2_with (go_at_call 26; refine (isShell_any s _ hs).mono ?_; rintro e1 w1 ⟨⟨r, rfl, hr⟩, rfl⟩)
  go_ret
  have q : r = true := hr.out.2 H.out
  subst q
  exact ⟨rfl, rfl⟩

set_option maxHeartbeats 800000 in
theorem spelling_big (a0 : Option Addr) (len0 cap0 : Nat) (s pr : ByteArray) (w : World) (w0 : len0 ≤ maxLen) (w1 : s.size ≤ maxLen) (w2 : pr.size ≤ maxLen)
    (h : ¬ (len0 ≤ 262144 ∧ s.size ≤ 262144 ∧ pr.size ≤ 262144)) :
    Calls Try.prog 7 #[.slice a0 len0 cap0, .string s, .string pr] w fun e w' => e = .returned (.bool true) ∧ Below w.heap.size w w' := by
  unfold maxLen at w0 w1 w2
  by_cases h1 : len0 ≤ 262144
  · by_cases h2 : s.size ≤ 262144
    · have h3 : ¬ pr.size ≤ 262144 := fun q => h ⟨h1, h2, q⟩
      clear h
      go_enter Try.func7, Try.ntmps7
      go_wp2
      all_goals (go_ret; exact ⟨rfl, Below.refl _ _⟩)
    · clear h
      go_enter Try.func7, Try.ntmps7
      go_wp2
      all_goals (go_ret; exact ⟨rfl, Below.refl _ _⟩)
  · clear h
    go_enter Try.func7, Try.ntmps7
    go_wp2
    all_goals (go_ret; exact ⟨rfl, Below.refl _ _⟩)

/-- What is known of the buffer. -/
def bufRel (W : World) (L : List Int) (v : Value) (wr : World) : Prop := Mine wr W.heap.size v L ∧ Below W.heap.size W wr
theorem bufRel_step {W wr w1 : World} {L : List Int} {v v' : Value} {o : Obj} {c : Int} (h : bufRel W L v wr) (h1 : w1.ownsRow W.heap.size 5 1 v' (L ++ [c]).length ((L ++ [c]).map (Value.int .u8))) (h2 : Below W.heap.size (wr.alloc o) w1) :
    bufRel W (L ++ [c]) v' w1 := ⟨.own h1, (h.2.alloc h.2.size o).trans h2⟩
theorem bufRel_to {W wr : World} {L L' : List Int} {v : Value} (h : bufRel W L v wr) (e : L = L') : bufRel W L' v wr := by rw [← e]; exact h
theorem head_len (pr : ByteArray) : (headOf pr).length ≤ pr.size + 1 := by
  unfold headOf
  split
  · simp
  · rw [List.length_append, bl_length]; simp
theorem spelt_all {s pr : ByteArray} {x : Int} (h : x ∈ headOf pr ++ ups s s.size) : 0 ≤ x ∧ x ≤ 255 := by
  rw [ups_all] at h
  rcases List.mem_append.1 h with q | q
  · unfold headOf at q
    split at q
    · cases q
    · rcases List.mem_append.1 q with z | z
      · exact bl_range z
      · simp at z; omega
  · obtain ⟨y, hy, rfl⟩ := List.mem_map.1 q
    exact up_range (bl_range hy)
theorem verdict_yes' {P : Prop} {r : Bool} (h : Hid (r = true ↔ P)) (k : P) : r = true := h.out.2 k

set_option maxHeartbeats 3200000 in
theorem spelling_bare (a0 : Option Addr) (xs : List Int) (n cap0 : Nat) (s pr : ByteArray) (w : World) (hN : n = xs.length) (hn : n ≤ 262144) (h1 : s.size ≤ 262144) (h2 : pr.size ≤ 262144) (hnil : a0 = none → xs = []) (hr : Rd w a0 xs) (hz : ¬ 0 < pr.size) :
    Calls Try.prog 7 #[.slice a0 n cap0, .string s, .string pr] w fun e w' => e = .returned (.bool true) ∧ Below w.heap.size w w' := by
  have hEmp := toList_empty hz
  have HN : Hid (n = xs.length) := hN
  have HNIL : Hid (a0 = none → xs = []) := hnil
  have HR : Hid (Rd w a0 xs) := hr
  clear hN hnil hr
  obtain ⟨i0, hi, hz0, hz1, hz2⟩ := info_parts Try.info5
  have hd1 : decide ((262144 : Int) < (n : Int)) = false := decide_eq_false (by omega)
  have hd2 : decide ((262144 : Int) < (s.size : Int)) = false := decide_eq_false (by omega)
  have hd3 : decide ((262144 : Int) < (pr.size : Int)) = false := decide_eq_false (by omega)
  go_enter Try.func7, Try.ntmps7
  go_wp2_with (go_at_call 22; go_in)
  refine (zzname_any s _ (by omega)).mono ?_
  rintro e0 w0 ⟨⟨r, rfl, hr⟩, hw⟩
  obtain rfl := hw.symm
  clear hw
  cases r
  · go_wp2
    go_ret
    exact ⟨rfl, Below.refl _ _⟩
  have NAME : Hid (nameP (bAt s) s.size) := hr.out.1 (by trivial)
  have hs0 : 0 < s.size := NAME.out.1
  clear hr
  go_wp2_with fail
  refine (clone_n a0 xs n cap0 w HN.out (by omega) HNIL.out HR.out).mono ?_
  rintro e1 w1 ⟨b0, rfl, n1, r1, b1⟩
  have N1 : Hid (b0 = none → xs = []) := n1
  have R1 : Hid (Rd w1 b0 xs) := r1
  have B1 : Hid (Below w.heap.size w w1) := b1
  clear n1 r1 b1
  go_wp2_with fail
  refine (clone_n b0 xs n n w1 HN.out (by omega) N1.out R1.out).mono ?_
  rintro e2 w2 ⟨k0, rfl, n2, r2, b2⟩
  have R2 : Hid (Rd w2 k0 xs) := r2
  have B2 : Hid (Below w1.heap.size w1 w2) := b2
  clear n2 r2 b2
  have D2 : Hid (Below w.heap.size w w2) := B1.out.trans (B2.out.mono B1.out.size)
  have Q2 : Hid (Rd w2 b0 xs) := R1.out.below B2.out
  go_wp2_with (at_make; refine wpList_make_own _ rfl _ _ 23 rfl w2.heap.size 5 i0 (.int .u8 0) 1 Try.underlying23 hi hz0 hz1 _ _ _ (s.size) rfl rfl (by omega) (by rw [hz2]; omega) (by unfold maxLen; omega) (Nat.le_refl _) ?_; intro w3 hown hgrow)
  have START2 : Hid (bufRel w2 (headOf pr ++ ups s 0) (.slice (some ⟨w2.heap.size, 0, none⟩) 0 s.size) w3) := by
    unfold Hid
    rw [headOf_zero (by omega), ups_zero]
    exact ⟨Mine.own (xs := []) hown, (Below.refl _ _).grown hgrow (Nat.le_refl _) (fun k hk => by cases hk)⟩
  clear hown hgrow
  go_loopw [9, 11] (fun v i wr => ∃ k : Nat, k ≤ s.size ∧ i = .int .i64 k ∧ bufRel w2 (headOf pr ++ ups s k) v wr) (fun _ i _ => s.size - (intOf i).toNat)
  case atStart => exact ⟨0, Nat.zero_le _, rfl, START2.out⟩
  case round =>
    obtain ⟨k, hk, rfl, hrel⟩ := hrel
    have hsz := hrel.2.size
    have hlen : (headOf pr ++ ups s k).length ≤ 1048576 := by
      have q1 := head_len pr
      have q2 := ups_length s k hk
      rw [List.length_append]
      omega
    by_cases hlt : k < s.size
    · rcases up_kinds ((s[k]'hlt).toNat : Int) with c | c | c | c
      · have KF : Hid (upOf ((s[k]'hlt).toNat : Int) = ((s[k]'hlt).toNat : Int) - 32) := upOf_a c
        go_wp2_with (at_builtin; refine wpList_append_mine _ rfl _ _ 23 rfl i0 Try.underlying23 hi hz0 hz1 hz2 w2.heap.size _ _ rfl (hrel.1.alloc _) ⟨wr.heap.size, 0, none⟩ (((s[k]'hlt).toNat : Int) - 32) rfl (by simp) hlen (by simp; omega) ?_; intro v' w4 hown hbel)
        have R : bufRel w2 (headOf pr ++ ups s (k + 1)) v' w4 := bufRel_to (bufRel_step hrel hown hbel) (by rw [ups_succ s k hlt, KF.out, List.append_assoc])
        clear hown hbel hrel
        go_wp2
        go_roundw
        case rel =>
          first
            | exact ⟨k + 1, by omega, by go_num, R⟩
            | ((repeat apply Exists.intro); exact ⟨⟨k + 1, by omega, by go_num, R⟩, rfl⟩)
            | ((repeat apply Exists.intro); exact ⟨⟨k + 1, by omega, by go_num, R⟩, rfl, rfl, rfl⟩)
            | ((repeat apply Exists.intro); exact ⟨⟨k + 1, by omega, by go_num, R⟩, rfl, rfl, rfl, rfl⟩)
        case measure => simp [intOf]; omega
      · have KF : Hid (upOf ((s[k]'hlt).toNat : Int) = 95) := upOf_b c
        go_wp2_with (at_builtin; refine wpList_append_mine _ rfl _ _ 23 rfl i0 Try.underlying23 hi hz0 hz1 hz2 w2.heap.size _ _ rfl (hrel.1.alloc _) ⟨wr.heap.size, 0, none⟩ (95) rfl (by simp) hlen (by simp; omega) ?_; intro v' w4 hown hbel)
        have R : bufRel w2 (headOf pr ++ ups s (k + 1)) v' w4 := bufRel_to (bufRel_step hrel hown hbel) (by rw [ups_succ s k hlt, KF.out, List.append_assoc])
        clear hown hbel hrel
        go_wp2
        go_roundw
        case rel =>
          first
            | exact ⟨k + 1, by omega, by go_num, R⟩
            | ((repeat apply Exists.intro); exact ⟨⟨k + 1, by omega, by go_num, R⟩, rfl⟩)
            | ((repeat apply Exists.intro); exact ⟨⟨k + 1, by omega, by go_num, R⟩, rfl, rfl, rfl⟩)
            | ((repeat apply Exists.intro); exact ⟨⟨k + 1, by omega, by go_num, R⟩, rfl, rfl, rfl, rfl⟩)
        case measure => simp [intOf]; omega
      · have KF : Hid (upOf ((s[k]'hlt).toNat : Int) = ((s[k]'hlt).toNat : Int)) := upOf_c c
        have c1 := c.1
        have c2 : (((s[k]'hlt).toNat : Int) == 45) = false := by simpa using c.2
        clear c
        go_wp2_with (at_builtin; refine wpList_append_mine _ rfl _ _ 23 rfl i0 Try.underlying23 hi hz0 hz1 hz2 w2.heap.size _ _ rfl (hrel.1.alloc _) ⟨wr.heap.size, 0, none⟩ (((s[k]'hlt).toNat : Int)) rfl (by simp) hlen (by simp; omega) ?_; intro v' w4 hown hbel)
        have R : bufRel w2 (headOf pr ++ ups s (k + 1)) v' w4 := bufRel_to (bufRel_step hrel hown hbel) (by rw [ups_succ s k hlt, KF.out, List.append_assoc])
        clear hown hbel hrel
        go_wp2
        go_roundw
        case rel =>
          first
            | exact ⟨k + 1, by omega, by go_num, R⟩
            | ((repeat apply Exists.intro); exact ⟨⟨k + 1, by omega, by go_num, R⟩, rfl⟩)
            | ((repeat apply Exists.intro); exact ⟨⟨k + 1, by omega, by go_num, R⟩, rfl, rfl, rfl⟩)
            | ((repeat apply Exists.intro); exact ⟨⟨k + 1, by omega, by go_num, R⟩, rfl, rfl, rfl, rfl⟩)
        case measure => simp [intOf]; omega
      · have KF : Hid (upOf ((s[k]'hlt).toNat : Int) = ((s[k]'hlt).toNat : Int)) := upOf_d c
        go_wp2_with (at_builtin; refine wpList_append_mine _ rfl _ _ 23 rfl i0 Try.underlying23 hi hz0 hz1 hz2 w2.heap.size _ _ rfl (hrel.1.alloc _) ⟨wr.heap.size, 0, none⟩ (((s[k]'hlt).toNat : Int)) rfl (by simp) hlen (by simp; omega) ?_; intro v' w4 hown hbel)
        have R : bufRel w2 (headOf pr ++ ups s (k + 1)) v' w4 := bufRel_to (bufRel_step hrel hown hbel) (by rw [ups_succ s k hlt, KF.out, List.append_assoc])
        clear hown hbel hrel
        go_wp2
        go_roundw
        case rel =>
          first
            | exact ⟨k + 1, by omega, by go_num, R⟩
            | ((repeat apply Exists.intro); exact ⟨⟨k + 1, by omega, by go_num, R⟩, rfl⟩)
            | ((repeat apply Exists.intro); exact ⟨⟨k + 1, by omega, by go_num, R⟩, rfl, rfl, rfl⟩)
            | ((repeat apply Exists.intro); exact ⟨⟨k + 1, by omega, by go_num, R⟩, rfl, rfl, rfl, rfl⟩)
        case measure => simp [intOf]; omega
    · obtain rfl : k = s.size := by omega
      have B3 : Hid (Below w2.heap.size w2 wr) := hrel.2
      obtain ⟨ao, cap, rfl, q1, q2, q3, q4⟩ := hrel.1.shape (by unfold maxLen; omega)
      have hus := ups_length s s.size (Nat.le_refl _)
      obtain ⟨b, off, ho, hc⟩ := q4.at (by rw [List.length_append]; omega)
      subst ho
      have hcv := run_convert_bytes_arg (P := Try.prog) wr 23 5 Try.underlying23 Try.underlying5 b off (headOf pr ++ ups s s.size).length cap (headOf pr ++ ups s s.size) rfl hc 9 Try.underlying9
      obtain ⟨E, hE⟩ : ∃ E, strOfNums (headOf pr ++ ups s s.size) = E := ⟨_, rfl⟩
      rw [hE] at hcv
      have BE : Hid (bl E = headOf pr ++ (bl s).map upOf) := by
        unfold Hid
        rw [← hE, bl_strOfNums _ (fun x hx => spelt_all hx), ups_all]
      have sE : E.size = (headOf pr).length + s.size := by rw [← bl_length, BE.out, List.length_append, List.length_map, bl_length]
      have hl := head_len pr
      have hE1 : s.size ≤ E.size := by omega
      have hE2 : E.size ≤ 524289 := by omega
      obtain ⟨T, hT⟩ : ∃ T, E.extract (E.size - s.size) E.size = T := ⟨_, rfl⟩
      have BT : Hid (bl T = (bl s).map upOf) := by
        unfold Hid
        rw [← hT]
        exact spelt_tail BE.out (by rw [List.length_map, bl_length])
      have hTs : T.size = s.size := size_up BT.out
      have ST : Hid (shUp (bAt T) T.size) := shell_of_name BT.out NAME.out
      have EV : Hid (envV E pr) := ⟨spelt_pre BE.out, allEnv_up (spelt_rest BE.out) NAME.out⟩
      have EF : Hid (flags (restOf E pr) (restOf E pr).size = bl s) := flags_up (spelt_rest BE.out) NAME.out
      have hTb : T.size ≤ 1048576 := by omega
      generalize (headOf pr ++ ups s s.size).length = L at *
      have D3 : Hid (Below w.heap.size w wr) := D2.out.trans (B3.out.mono D2.out.size)
      have Q3 : Hid (Rd wr b0 xs) := Q2.out.below B3.out
      have K3 : Hid (Rd wr k0 xs) := R2.out.below B3.out
      clear hrel q3 q4 hc hE hus sE hl hTs
      go_wp2_with fail
      refine (zzshell_yes T wr hTb ST.out).mono ?_
      rintro e3 w3 ⟨rfl, hw⟩
      obtain rfl := hw.symm
      clear hw hT hcv
      go_wp2_with fail
      refine (zzflag_any b0 xs n E pr _ HN.out (by omega) (by omega) (by omega) N1.out Q3.out).mono ?_
      rintro e4 w4 ⟨o1, c1, v1, out1, rfl, s1, s2, s3, r4, b4, iff1, y1, y2⟩
      obtain rfl := verdict_yes' iff1 EV.out
      have e0 := y1 rfl
      rw [EF.out] at e0
      have el : out1.length = n + s.size := by rw [e0, List.length_append, bl_length, HN.out]
      rw [el] at s1 ⊢
      have EL : Hid (out1.length = n + s.size) := el
      have ET : Hid (out1.take n = xs) := by unfold Hid; rw [e0, HN.out, List.take_left]
      have ED : Hid (out1.drop n = bl s) := by unfold Hid; rw [e0, HN.out, List.drop_left]
      have R4 : Hid (Rd w4 o1 out1) := r4
      have D4 : Hid (Below w.heap.size w w4) := D3.out.trans (b4.mono D3.out.size)
      have K4 : Hid (Rd w4 k0 xs) := K3.out.below b4
      clear s3 r4 b4 iff1 y1 y2 el e0
      have hc1 : n ≤ c1 := by omega
      have hcn : ¬ c1 = n := by omega
      go_wp2_with fail
      refine (equal_yes o1 k0 (out1.take n) xs n n c1 n w4 (by rw [ET.out]; exact HN.out) HN.out (by omega) (R4.out.take n) K4.out ET.out).mono ?_
      rintro e5 w5 ⟨rfl, hs⟩
      have HS : Hid (Still w4 w5) := hs
      clear hs
      have R5 : Hid (Rd w5 o1 out1) := R4.out.below (HS.out _)
      have D5 : Hid (Below w.heap.size w w5) := D4.out.trans (HS.out _)
      obtain ⟨b', off', ho, _⟩ := R5.out.at (by rw [EL.out]; omega)
      subst ho
      have HQ5 : Hid (Rd w5 (some ⟨b', off' + n, none⟩) (out1.drop n)) := R5.out.drop n
      go_wp2_with fail
      refine (eqstr_yes _ (out1.drop n) s s.size _ w5 (by rw [ED.out, bl_length]) (by omega) HQ5.out ED.out).mono ?_
      rintro e6 w6 ⟨rfl, hs⟩
      have HS2 : Hid (Still w5 w6) := hs
      clear hs
      go_wp2
      go_ret
      exact ⟨rfl, D5.out.trans (HS2.out _)⟩

set_option maxHeartbeats 3200000 in
theorem spelling_pre (a0 : Option Addr) (xs : List Int) (n cap0 : Nat) (s pr : ByteArray) (w : World) (hN : n = xs.length) (hn : n ≤ 262144) (h1 : s.size ≤ 262144) (h2 : pr.size ≤ 262144) (hnil : a0 = none → xs = []) (hr : Rd w a0 xs) (hz : 0 < pr.size) :
    Calls Try.prog 7 #[.slice a0 n cap0, .string s, .string pr] w fun e w' => e = .returned (.bool true) ∧ Below w.heap.size w w' := by
  have hEmp := toList_isEmpty hz
  have HN : Hid (n = xs.length) := hN
  have HNIL : Hid (a0 = none → xs = []) := hnil
  have HR : Hid (Rd w a0 xs) := hr
  clear hN hnil hr
  obtain ⟨i0, hi, hz0, hz1, hz2⟩ := info_parts Try.info5
  have hd1 : decide ((262144 : Int) < (n : Int)) = false := decide_eq_false (by omega)
  have hd2 : decide ((262144 : Int) < (s.size : Int)) = false := decide_eq_false (by omega)
  have hd3 : decide ((262144 : Int) < (pr.size : Int)) = false := decide_eq_false (by omega)
  go_enter Try.func7, Try.ntmps7
  go_wp2_with (go_at_call 22; go_in)
  refine (zzname_any s _ (by omega)).mono ?_
  rintro e0 w0 ⟨⟨r, rfl, hr⟩, hw⟩
  obtain rfl := hw.symm
  clear hw
  cases r
  · go_wp2
    go_ret
    exact ⟨rfl, Below.refl _ _⟩
  have NAME : Hid (nameP (bAt s) s.size) := hr.out.1 (by trivial)
  have hs0 : 0 < s.size := NAME.out.1
  clear hr
  go_wp2_with fail
  refine (clone_n a0 xs n cap0 w HN.out (by omega) HNIL.out HR.out).mono ?_
  rintro e1 w1 ⟨b0, rfl, n1, r1, b1⟩
  have N1 : Hid (b0 = none → xs = []) := n1
  have R1 : Hid (Rd w1 b0 xs) := r1
  have B1 : Hid (Below w.heap.size w w1) := b1
  clear n1 r1 b1
  go_wp2_with fail
  refine (clone_n b0 xs n n w1 HN.out (by omega) N1.out R1.out).mono ?_
  rintro e2 w2 ⟨k0, rfl, n2, r2, b2⟩
  have R2 : Hid (Rd w2 k0 xs) := r2
  have B2 : Hid (Below w1.heap.size w1 w2) := b2
  clear n2 r2 b2
  have D2 : Hid (Below w.heap.size w w2) := B1.out.trans (B2.out.mono B1.out.size)
  have Q2 : Hid (Rd w2 b0 xs) := R1.out.below B2.out
  go_wp2_with (at_make; refine wpList_make_own _ rfl _ _ 23 rfl w2.heap.size 5 i0 (.int .u8 0) 1 Try.underlying23 hi hz0 hz1 _ _ _ (s.size + pr.size + 1) rfl rfl (by omega) (by rw [hz2]; omega) (by unfold maxLen; omega) (Nat.le_refl _) ?_; intro w3 hown hgrow)
  have START1 : Hid (bufRel w2 ((bl pr).take 0) (.slice (some ⟨w2.heap.size, 0, none⟩) 0 (s.size + pr.size + 1)) w3) :=
    ⟨Mine.own (xs := []) hown, (Below.refl _ _).grown hgrow (Nat.le_refl _) (fun k hk => by cases hk)⟩
  clear hown hgrow
  go_loopw [9, 10] (fun v i wr => ∃ k : Nat, k ≤ pr.size ∧ i = .int .i64 k ∧ bufRel w2 ((bl pr).take k) v wr) (fun _ i _ => pr.size - (intOf i).toNat)
  case atStart => exact ⟨0, Nat.zero_le _, rfl, START1.out⟩
  case round =>
    obtain ⟨k, hk, rfl, hrel⟩ := hrel
    have hsz := hrel.2.size
    have hlen : ((bl pr).take k).length ≤ 1048576 := by rw [List.length_take, bl_length]; omega
    by_cases hlt : k < pr.size
    · go_wp2_with (at_builtin; refine wpList_append_mine _ rfl _ _ 23 rfl i0 Try.underlying23 hi hz0 hz1 hz2 w2.heap.size _ _ rfl (hrel.1.alloc _) ⟨wr.heap.size, 0, none⟩ (((pr[k]'hlt).toNat : Int)) rfl (by simp) hlen (by simp; omega) ?_; intro v' w4 hown hbel)
      have R : bufRel w2 ((bl pr).take (k + 1)) v' w4 := bufRel_to (bufRel_step hrel hown hbel) (by rw [bl_take_succ pr k hlt])
      clear hown hbel hrel
      go_wp2
      go_roundw
      case rel =>
        first
          | exact ⟨k + 1, by omega, by go_num, R⟩
          | ((repeat apply Exists.intro); exact ⟨⟨k + 1, by omega, by go_num, R⟩, rfl⟩)
          | ((repeat apply Exists.intro); exact ⟨⟨k + 1, by omega, by go_num, R⟩, rfl, rfl, rfl⟩)
          | ((repeat apply Exists.intro); exact ⟨⟨k + 1, by omega, by go_num, R⟩, rfl, rfl, rfl, rfl⟩)
      case measure => simp [intOf]; omega
    · go_wp2_with (at_builtin; refine wpList_append_mine _ rfl _ _ 23 rfl i0 Try.underlying23 hi hz0 hz1 hz2 w2.heap.size _ _ rfl (hrel.1.alloc _) ⟨wr.heap.size, 0, none⟩ (95) rfl (by simp) hlen (by simp; omega) ?_; intro v' w4 hown hbel)
      have START2 : Hid (bufRel w2 (headOf pr ++ ups s 0) v' w4) := by
        refine bufRel_to (bufRel_step hrel hown hbel) ?_
        rw [headOf_pos (by omega), ups_zero, List.append_nil, List.take_of_length_le (by rw [bl_length]; omega)]
      clear hown hbel hrel hsz hlen
      go_wp2
      go_loopw [9, 11] (fun v i wr => ∃ k : Nat, k ≤ s.size ∧ i = .int .i64 k ∧ bufRel w2 (headOf pr ++ ups s k) v wr) (fun _ i _ => s.size - (intOf i).toNat)
      case atStart => exact ⟨0, Nat.zero_le _, rfl, START2.out⟩
      case round =>
        obtain ⟨k, hk, rfl, hrel⟩ := hrel
        have hsz := hrel.2.size
        have hlen : (headOf pr ++ ups s k).length ≤ 1048576 := by
          have q1 := head_len pr
          have q2 := ups_length s k hk
          rw [List.length_append]
          omega
        by_cases hlt : k < s.size
        · rcases up_kinds ((s[k]'hlt).toNat : Int) with c | c | c | c
          · have KF : Hid (upOf ((s[k]'hlt).toNat : Int) = ((s[k]'hlt).toNat : Int) - 32) := upOf_a c
            go_wp2_with (at_builtin; refine wpList_append_mine _ rfl _ _ 23 rfl i0 Try.underlying23 hi hz0 hz1 hz2 w2.heap.size _ _ rfl (hrel.1.alloc _) ⟨wr.heap.size, 0, none⟩ (((s[k]'hlt).toNat : Int) - 32) rfl (by simp) hlen (by simp; omega) ?_; intro v' w4 hown hbel)
            have R : bufRel w2 (headOf pr ++ ups s (k + 1)) v' w4 := bufRel_to (bufRel_step hrel hown hbel) (by rw [ups_succ s k hlt, KF.out, List.append_assoc])
            clear hown hbel hrel
            go_wp2
            go_roundw
            case rel =>
              first
                | exact ⟨k + 1, by omega, by go_num, R⟩
                | ((repeat apply Exists.intro); exact ⟨⟨k + 1, by omega, by go_num, R⟩, rfl⟩)
                | ((repeat apply Exists.intro); exact ⟨⟨k + 1, by omega, by go_num, R⟩, rfl, rfl, rfl⟩)
                | ((repeat apply Exists.intro); exact ⟨⟨k + 1, by omega, by go_num, R⟩, rfl, rfl, rfl, rfl⟩)
            case measure => simp [intOf]; omega
          · have KF : Hid (upOf ((s[k]'hlt).toNat : Int) = 95) := upOf_b c
            go_wp2_with (at_builtin; refine wpList_append_mine _ rfl _ _ 23 rfl i0 Try.underlying23 hi hz0 hz1 hz2 w2.heap.size _ _ rfl (hrel.1.alloc _) ⟨wr.heap.size, 0, none⟩ (95) rfl (by simp) hlen (by simp; omega) ?_; intro v' w4 hown hbel)
            have R : bufRel w2 (headOf pr ++ ups s (k + 1)) v' w4 := bufRel_to (bufRel_step hrel hown hbel) (by rw [ups_succ s k hlt, KF.out, List.append_assoc])
            clear hown hbel hrel
            go_wp2
            go_roundw
            case rel =>
              first
                | exact ⟨k + 1, by omega, by go_num, R⟩
                | ((repeat apply Exists.intro); exact ⟨⟨k + 1, by omega, by go_num, R⟩, rfl⟩)
                | ((repeat apply Exists.intro); exact ⟨⟨k + 1, by omega, by go_num, R⟩, rfl, rfl, rfl⟩)
                | ((repeat apply Exists.intro); exact ⟨⟨k + 1, by omega, by go_num, R⟩, rfl, rfl, rfl, rfl⟩)
            case measure => simp [intOf]; omega
          · have KF : Hid (upOf ((s[k]'hlt).toNat : Int) = ((s[k]'hlt).toNat : Int)) := upOf_c c
            have c1 := c.1
            have c2 : (((s[k]'hlt).toNat : Int) == 45) = false := by simpa using c.2
            clear c
            go_wp2_with (at_builtin; refine wpList_append_mine _ rfl _ _ 23 rfl i0 Try.underlying23 hi hz0 hz1 hz2 w2.heap.size _ _ rfl (hrel.1.alloc _) ⟨wr.heap.size, 0, none⟩ (((s[k]'hlt).toNat : Int)) rfl (by simp) hlen (by simp; omega) ?_; intro v' w4 hown hbel)
            have R : bufRel w2 (headOf pr ++ ups s (k + 1)) v' w4 := bufRel_to (bufRel_step hrel hown hbel) (by rw [ups_succ s k hlt, KF.out, List.append_assoc])
            clear hown hbel hrel
            go_wp2
            go_roundw
            case rel =>
              first
                | exact ⟨k + 1, by omega, by go_num, R⟩
                | ((repeat apply Exists.intro); exact ⟨⟨k + 1, by omega, by go_num, R⟩, rfl⟩)
                | ((repeat apply Exists.intro); exact ⟨⟨k + 1, by omega, by go_num, R⟩, rfl, rfl, rfl⟩)
                | ((repeat apply Exists.intro); exact ⟨⟨k + 1, by omega, by go_num, R⟩, rfl, rfl, rfl, rfl⟩)
            case measure => simp [intOf]; omega
          · have KF : Hid (upOf ((s[k]'hlt).toNat : Int) = ((s[k]'hlt).toNat : Int)) := upOf_d c
            go_wp2_with (at_builtin; refine wpList_append_mine _ rfl _ _ 23 rfl i0 Try.underlying23 hi hz0 hz1 hz2 w2.heap.size _ _ rfl (hrel.1.alloc _) ⟨wr.heap.size, 0, none⟩ (((s[k]'hlt).toNat : Int)) rfl (by simp) hlen (by simp; omega) ?_; intro v' w4 hown hbel)
            have R : bufRel w2 (headOf pr ++ ups s (k + 1)) v' w4 := bufRel_to (bufRel_step hrel hown hbel) (by rw [ups_succ s k hlt, KF.out, List.append_assoc])
            clear hown hbel hrel
            go_wp2
            go_roundw
            case rel =>
              first
                | exact ⟨k + 1, by omega, by go_num, R⟩
                | ((repeat apply Exists.intro); exact ⟨⟨k + 1, by omega, by go_num, R⟩, rfl⟩)
                | ((repeat apply Exists.intro); exact ⟨⟨k + 1, by omega, by go_num, R⟩, rfl, rfl, rfl⟩)
                | ((repeat apply Exists.intro); exact ⟨⟨k + 1, by omega, by go_num, R⟩, rfl, rfl, rfl, rfl⟩)
            case measure => simp [intOf]; omega
        · obtain rfl : k = s.size := by omega
          have B3 : Hid (Below w2.heap.size w2 wr) := hrel.2
          obtain ⟨ao, cap, rfl, q1, q2, q3, q4⟩ := hrel.1.shape (by unfold maxLen; omega)
          have hus := ups_length s s.size (Nat.le_refl _)
          obtain ⟨b, off, ho, hc⟩ := q4.at (by rw [List.length_append]; omega)
          subst ho
          have hcv := run_convert_bytes_arg (P := Try.prog) wr 23 5 Try.underlying23 Try.underlying5 b off (headOf pr ++ ups s s.size).length cap (headOf pr ++ ups s s.size) rfl hc 9 Try.underlying9
          obtain ⟨E, hE⟩ : ∃ E, strOfNums (headOf pr ++ ups s s.size) = E := ⟨_, rfl⟩
          rw [hE] at hcv
          have BE : Hid (bl E = headOf pr ++ (bl s).map upOf) := by
            unfold Hid
            rw [← hE, bl_strOfNums _ (fun x hx => spelt_all hx), ups_all]
          have sE : E.size = (headOf pr).length + s.size := by rw [← bl_length, BE.out, List.length_append, List.length_map, bl_length]
          have hl := head_len pr
          have hE1 : s.size ≤ E.size := by omega
          have hE2 : E.size ≤ 524289 := by omega
          obtain ⟨T, hT⟩ : ∃ T, E.extract (E.size - s.size) E.size = T := ⟨_, rfl⟩
          have BT : Hid (bl T = (bl s).map upOf) := by
            unfold Hid
            rw [← hT]
            exact spelt_tail BE.out (by rw [List.length_map, bl_length])
          have hTs : T.size = s.size := size_up BT.out
          have ST : Hid (shUp (bAt T) T.size) := shell_of_name BT.out NAME.out
          have EV : Hid (envV E pr) := ⟨spelt_pre BE.out, allEnv_up (spelt_rest BE.out) NAME.out⟩
          have EF : Hid (flags (restOf E pr) (restOf E pr).size = bl s) := flags_up (spelt_rest BE.out) NAME.out
          have hTb : T.size ≤ 1048576 := by omega
          generalize (headOf pr ++ ups s s.size).length = L at *
          have D3 : Hid (Below w.heap.size w wr) := D2.out.trans (B3.out.mono D2.out.size)
          have Q3 : Hid (Rd wr b0 xs) := Q2.out.below B3.out
          have K3 : Hid (Rd wr k0 xs) := R2.out.below B3.out
          clear hrel q3 q4 hc hE hus sE hl hTs
          go_wp2_with fail
          refine (zzshell_yes T wr hTb ST.out).mono ?_
          rintro e3 w3 ⟨rfl, hw⟩
          obtain rfl := hw.symm
          clear hw hT hcv
          go_wp2_with fail
          refine (zzflag_any b0 xs n E pr _ HN.out (by omega) (by omega) (by omega) N1.out Q3.out).mono ?_
          rintro e4 w4 ⟨o1, c1, v1, out1, rfl, s1, s2, s3, r4, b4, iff1, y1, y2⟩
          obtain rfl := verdict_yes' iff1 EV.out
          have e0 := y1 rfl
          rw [EF.out] at e0
          have el : out1.length = n + s.size := by rw [e0, List.length_append, bl_length, HN.out]
          rw [el] at s1 ⊢
          have EL : Hid (out1.length = n + s.size) := el
          have ET : Hid (out1.take n = xs) := by unfold Hid; rw [e0, HN.out, List.take_left]
          have ED : Hid (out1.drop n = bl s) := by unfold Hid; rw [e0, HN.out, List.drop_left]
          have R4 : Hid (Rd w4 o1 out1) := r4
          have D4 : Hid (Below w.heap.size w w4) := D3.out.trans (b4.mono D3.out.size)
          have K4 : Hid (Rd w4 k0 xs) := K3.out.below b4
          clear s3 r4 b4 iff1 y1 y2 el e0
          have hc1 : n ≤ c1 := by omega
          have hcn : ¬ c1 = n := by omega
          go_wp2_with fail
          refine (equal_yes o1 k0 (out1.take n) xs n n c1 n w4 (by rw [ET.out]; exact HN.out) HN.out (by omega) (R4.out.take n) K4.out ET.out).mono ?_
          rintro e5 w5 ⟨rfl, hs⟩
          have HS : Hid (Still w4 w5) := hs
          clear hs
          have R5 : Hid (Rd w5 o1 out1) := R4.out.below (HS.out _)
          have D5 : Hid (Below w.heap.size w w5) := D4.out.trans (HS.out _)
          obtain ⟨b', off', ho, _⟩ := R5.out.at (by rw [EL.out]; omega)
          subst ho
          have HQ5 : Hid (Rd w5 (some ⟨b', off' + n, none⟩) (out1.drop n)) := R5.out.drop n
          go_wp2_with fail
          refine (eqstr_yes _ (out1.drop n) s s.size _ w5 (by rw [ED.out, bl_length]) (by omega) HQ5.out ED.out).mono ?_
          rintro e6 w6 ⟨rfl, hs⟩
          have HS2 : Hid (Still w5 w6) := hs
          clear hs
          go_wp2
          go_ret
          exact ⟨rfl, D5.out.trans (HS2.out _)⟩

theorem spelling_small (a0 : Option Addr) (xs : List Int) (n cap0 : Nat) (s pr : ByteArray) (w : World) (hN : n = xs.length) (hn : n ≤ 262144) (h1 : s.size ≤ 262144) (h2 : pr.size ≤ 262144) (hnil : a0 = none → xs = []) (hr : Rd w a0 xs) :
    Calls Try.prog 7 #[.slice a0 n cap0, .string s, .string pr] w fun e w' => e = .returned (.bool true) ∧ Below w.heap.size w w' := by
  by_cases hz : 0 < pr.size
  · exact spelling_pre a0 xs n cap0 s pr w hN hn h1 h2 hnil hr hz
  · exact spelling_bare a0 xs n cap0 s pr w hN hn h1 h2 hnil hr hz

end Go.Proofs.Qxb6603810a
