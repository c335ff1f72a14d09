/-
  THE WALK over appendEnvFlag (seat b6603810a).
-/
import Derived.Test.Qxb6603810aNameWalks
import Derived.Test.Qxb6603810aCloneWalk
import Derived.Test.Qxb6603810aEnvPlain
namespace Go.Proofs.Qxb6603810a
open Go.RowKit
set_option linter.unusedVariables false

/-- What appendEnvFlag hands back. -/
def Flagged (w : World) (bs : List Int) (nm pr : ByteArray) (e : Ending) (w' : World) : Prop :=
  ∃ ro cap, ∃ r : Bool, ∃ out : List Int, e = .returned (.tuple #[.slice ro out.length cap, .bool r]) ∧ out.length ≤ cap ∧ cap ≤ maxLen ∧ (ro = none → cap = 0) ∧ Rd w' ro out ∧ Below w.heap.size w w' ∧
    Hid (r = true ↔ envV nm pr) ∧ (r = true → out = bs ++ flags (restOf nm pr) (restOf nm pr).size) ∧ (r = false → out = bs)

theorem Flagged.no {w w' : World} {bs : List Int} {nm pr : ByteArray} {ro : Option Addr} {cap : Nat} {l : Nat} (hl : l = bs.length) (h1 : l ≤ cap) (h2 : cap ≤ maxLen) (h3 : ro = none → cap = 0) (h4 : Rd w' ro bs) (h5 : Below w.heap.size w w') (h : ¬ envV nm pr) :
    Flagged w bs nm pr (.returned (.tuple #[.slice ro l cap, .bool false])) w' := by
  subst hl
  exact ⟨ro, cap, false, bs, rfl, h1, h2, h3, h4, h5, show (false = true ↔ _) from ⟨fun q => absurd q (by decide), fun q => absurd q h⟩, fun q => absurd q (by decide), fun _ => rfl⟩
theorem Flagged.yes {w w' : World} {bs : List Int} {nm pr : ByteArray} {v : Value} {B : Nat} (hv : Mine w' B v (bs ++ flags (restOf nm pr) (restOf nm pr).size)) (hx : (bs ++ flags (restOf nm pr) (restOf nm pr).size).length ≤ maxLen)
    (h5 : Below w.heap.size w w') (h : envV nm pr) : Flagged w bs nm pr (.returned (.tuple #[v, .bool true])) w' := by
  obtain ⟨ao, cap, rfl, a1, a2, a3, a4⟩ := hv.shape hx
  exact ⟨ao, cap, true, _, rfl, a1, a2, a3, a4, h5, show (true = true ↔ _) from ⟨fun _ => h, fun _ => rfl⟩, fun _ => rfl, fun q => absurd q (by decide)⟩

theorem env_kinds (x : Int) : (65 ≤ x ∧ x ≤ 90) ∨ x = 95 ∨ (48 ≤ x ∧ x ≤ 57) ∨ (x < 48) ∨ (57 < x ∧ x < 65) ∨ (90 < x ∧ x ≠ 95) := by omega

/-- What the loop knows behind k rounds. -/
def flagRel (w : World) (bs : List Int) (r : ByteArray) (k : Nat) (v : Value) (wr : World) : Prop :=
  allEnv r k ∧ Mine wr w.heap.size v (bs ++ flags r k) ∧ Below w.heap.size w wr
theorem flagRel_step {w wr w1 : World} {bs : List Int} {r : ByteArray} {k : Nat} {v v' : Value} {o : Obj} {c : Int} (h : flagRel w bs r k v wr) (hk : k < r.size) (he : envc ((r[k]'hk).toNat : Int)) (hc : flagOf ((r[k]'hk).toNat : Int) = c)
    (h1 : w1.ownsRow w.heap.size 5 1 v' (bs ++ flags r k ++ [c]).length ((bs ++ flags r k ++ [c]).map (Value.int .u8))) (h2 : Below w.heap.size (wr.alloc o) w1) : flagRel w bs r (k + 1) v' w1 := by
  refine ⟨allEnv_succ h.1 (by rw [bAt_of r k hk]; exact he), ?_, (h.2.2.alloc h.2.2.size o).trans h2⟩
  rw [flags_succ r k hk, hc, ← List.append_assoc]
  exact .own h1

set_option maxHeartbeats 800000 in
theorem flag_early (ao : Option Addr) (bs : List Int) (nm pr : ByteArray) (w : World) (hb : bs.length ≤ 1048576) (hn : nm.size ≤ 1048576) (hp : pr.size ≤ 1048576) (hnil : ao = none → bs = []) (hr : Rd w ao bs)
    (hpre : ¬ preOk nm pr) : Calls Try.prog 28 #[.slice ao bs.length bs.length, .string nm, .string pr] w fun e w' => Flagged w bs nm pr e w' := by
  have FIN : Hid (Flagged w bs nm pr (.returned (.tuple #[.slice ao bs.length bs.length, .bool false])) w) :=
    Flagged.no rfl (Nat.le_refl _) (by unfold maxLen; omega) (fun q => by rw [hnil q]; rfl) hr (Below.refl _ _) (fun h => hpre h.1)
  have hz : 0 < pr.size := by
    rcases Nat.eq_zero_or_pos pr.size with q | q
    · exact absurd (.inl q) hpre
    · exact q
  have hE := toList_isEmpty hz
  obtain ⟨n, hN⟩ : ∃ n, n = bs.length := ⟨_, rfl⟩
  rw [← hN] at FIN hb ⊢
  clear hN hnil hr
  by_cases h1 : nm.size ≤ pr.size
  · clear hpre
    go_enter Try.func28, Try.ntmps28
    go_wp2
    go_ret2
    exact FIN.out
  · by_cases h2 : samePre nm pr
    · have hx : pr.size < nm.size := by omega
      have h2' : ((nm.extract 0 pr.size).toList == pr.toList) = true := (pre_beq nm pr (by omega)).2 h2
      have h3 : (((nm[pr.size]'hx).toNat : Int) != 95) = true := by
        have : ¬ ((nm[pr.size]'hx).toNat : Int) = 95 := fun q => hpre (.inr ⟨hx, h2, by rw [bAt_of nm pr.size hx]; exact q⟩)
        simpa using this
      clear hpre h2
      go_enter Try.func28, Try.ntmps28
      go_wp2
      go_ret2
      exact FIN.out
    · have h2' : ((nm.extract 0 pr.size).toList == pr.toList) = false := by
        cases q : ((nm.extract 0 pr.size).toList == pr.toList)
        · rfl
        · exact absurd ((pre_beq nm pr (by omega)).1 q) h2
      clear hpre h2
      go_enter Try.func28, Try.ntmps28
      go_wp2
      go_ret2
      exact FIN.out

set_option maxHeartbeats 3200000 in
theorem flag_pre (ao : Option Addr) (bs : List Int) (nm pr : ByteArray) (w : World) (hb : bs.length ≤ 300000) (hn : nm.size ≤ 700000) (hp : pr.size ≤ 700000) (hnil : ao = none → bs = []) (hr : Rd w ao bs)
    (hpre : preOk nm pr) (hz : 0 < pr.size) : Calls Try.prog 28 #[.slice ao bs.length bs.length, .string nm, .string pr] w fun e w' => Flagged w bs nm pr e w' := by
  obtain ⟨i0, hi, hz0, hz1, hz2⟩ := info_parts Try.info5
  have MINE : Hid (Mine w w.heap.size (.slice ao bs.length bs.length) bs) := Mine.full hnil hr
  obtain ⟨n, hN⟩ : ∃ n, n = bs.length := ⟨_, rfl⟩
  rw [← hN] at MINE hb ⊢
  have HN : Hid (n = bs.length) := hN
  clear hN hnil hr
  have hE := toList_isEmpty hz
  have hx : pr.size < nm.size := by
    rcases hpre with q | q
    · omega
    · exact q.1
  have h2' : ((nm.extract 0 pr.size).toList == pr.toList) = true := by
    rcases hpre with q | q
    · omega
    · exact (pre_beq nm pr (by omega)).2 q.2.1
  have h3 : (((nm[pr.size]'hx).toNat : Int) != 95) = false := by
    rcases hpre with q | q
    · omega
    · rw [← bAt_of nm pr.size hx, q.2.2]; decide
  obtain ⟨r, hr⟩ : ∃ r, nm.extract (pr.size + 1) nm.size = r := ⟨_, rfl⟩
  have HR : Hid (restOf nm pr = r) := by rw [restOf_pos (by omega)]; exact hr
  have HP : Hid (preOk nm pr) := hpre
  have hrs : r.size ≤ 700000 := by rw [← hr, ByteArray.size_extract]; omega
  have START : Hid (flagRel w bs r 0 (.slice ao n n) w) := ⟨allEnv_zero r, by rw [flags_zero, List.append_nil]; exact MINE.out, Below.refl _ _⟩
  clear hpre
  have hd1 : decide (nm.size ≤ pr.size) = false := decide_eq_false (by omega)
  have hd2 : decide ((nm.size : Int) ≤ (pr.size : Int)) = false := decide_eq_false (by omega)
  go_enter Try.func28, Try.ntmps28
  go_wp2
  clear hr
  go_loopw [0, 9] (fun v i wr => ∃ k : Nat, k ≤ r.size ∧ i = .int .i64 k ∧ flagRel w bs r k v wr) (fun _ i _ => r.size - (intOf i).toNat)
  case atStart => exact ⟨0, Nat.zero_le _, rfl, START.out⟩
  case round =>
    obtain ⟨k, hk, rfl, hrel⟩ := hrel
    have hsz := hrel.2.2.size
    have hlen : (bs ++ flags r k).length ≤ 1048576 := by
      have h1 := flags_length r k hk
      have h2 := HN.out
      rw [List.length_append]
      omega
    by_cases hlt : k < r.size
    · have B0 : Hid (bAt r k = ((r[k]'hlt).toNat : Int)) := bAt_of r k hlt
      rcases env_kinds ((r[k]'hlt).toNat : Int) with c | c | c | c | c | c
      · have KE : Hid (envc ((r[k]'hlt).toNat : Int)) := .inl c
        have KF : Hid (flagOf ((r[k]'hlt).toNat : Int) = ((r[k]'hlt).toNat : Int) + 32) := by unfold Hid flagOf; rw [if_pos c]
        go_wp2_with (at_builtin; refine wpList_append_mine _ rfl _ _ 23 rfl i0 Try.underlying23 hi hz0 hz1 hz2 w.heap.size _ _ rfl (hrel.2.1.alloc _) ⟨wr.heap.size, 0, none⟩ (((r[k]'hlt).toNat : Int) + 32) rfl (by simp) hlen (by simp; omega) ?_; intro v' w1 hown hbel)
        have R := flagRel_step hrel hlt KE.out KF.out hown hbel
        clear hown hbel hrel
        go_wp2
        go_roundw
        case rel =>
          first
            | exact ⟨k + 1, by omega, by go_num, R⟩
            | ((repeat apply Exists.intro); exact ⟨⟨k + 1, by omega, by go_num, R⟩, rfl⟩)
            | ((repeat apply Exists.intro); exact ⟨⟨k + 1, by omega, by go_num, R⟩, rfl, rfl, rfl, rfl⟩)
        case measure => simp [intOf]; omega
      · have KE : Hid (envc ((r[k]'hlt).toNat : Int)) := .inr (.inr c)
        have KF : Hid (flagOf ((r[k]'hlt).toNat : Int) = 45) := by unfold Hid flagOf; rw [if_neg (by omega), if_pos c]
        go_wp2_with (at_builtin; refine wpList_append_mine _ rfl _ _ 23 rfl i0 Try.underlying23 hi hz0 hz1 hz2 w.heap.size _ _ rfl (hrel.2.1.alloc _) ⟨wr.heap.size, 0, none⟩ (45) rfl (by simp) hlen (by simp; omega) ?_; intro v' w1 hown hbel)
        have R := flagRel_step hrel hlt KE.out KF.out hown hbel
        clear hown hbel hrel
        go_wp2
        go_roundw
        case rel =>
          first
            | exact ⟨k + 1, by omega, by go_num, R⟩
            | ((repeat apply Exists.intro); exact ⟨⟨k + 1, by omega, by go_num, R⟩, rfl⟩)
            | ((repeat apply Exists.intro); exact ⟨⟨k + 1, by omega, by go_num, R⟩, rfl, rfl, rfl, rfl⟩)
        case measure => simp [intOf]; omega
      · have KE : Hid (envc ((r[k]'hlt).toNat : Int)) := .inr (.inl c)
        have KF : Hid (flagOf ((r[k]'hlt).toNat : Int) = ((r[k]'hlt).toNat : Int)) := by unfold Hid flagOf; rw [if_neg (by omega), if_neg (by omega)]
        go_wp2_with (at_builtin; refine wpList_append_mine _ rfl _ _ 23 rfl i0 Try.underlying23 hi hz0 hz1 hz2 w.heap.size _ _ rfl (hrel.2.1.alloc _) ⟨wr.heap.size, 0, none⟩ (((r[k]'hlt).toNat : Int)) rfl (by simp) hlen (by simp; omega) ?_; intro v' w1 hown hbel)
        have R := flagRel_step hrel hlt KE.out KF.out hown hbel
        clear hown hbel hrel
        go_wp2
        go_roundw
        case rel =>
          first
            | exact ⟨k + 1, by omega, by go_num, R⟩
            | ((repeat apply Exists.intro); exact ⟨⟨k + 1, by omega, by go_num, R⟩, rfl⟩)
            | ((repeat apply Exists.intro); exact ⟨⟨k + 1, by omega, by go_num, R⟩, rfl, rfl, rfl, rfl⟩)
        case measure => simp [intOf]; omega
      · have KE : Hid (¬ envc ((r[k]'hlt).toNat : Int)) := by unfold Hid envc; omega
        obtain ⟨ao', cap', rfl, q1, q2, q3, q4⟩ := hrel.2.1.shape (by unfold maxLen; omega)
        have hcap : n ≤ cap' := by have := HN.out; rw [List.length_append] at q1; omega
        have FIN : Hid (Flagged w bs nm pr (.returned (.tuple #[.slice ao' n cap', .bool false])) wr) := by
          refine Flagged.no HN.out hcap q2 q3 ?_ hrel.2.2 ?_
          · have q5 := q4.take bs.length
            rw [List.take_left] at q5
            exact q5
          · intro h
            have h2 := h.2
            rw [HR.out] at h2
            have h3 := h2 k hlt
            rw [B0.out] at h3
            exact KE.out h3
        generalize (bs ++ flags r k).length = L at *
        clear q4 hrel q3
        go_wp2
        go_ret2
        exact FIN.out
      · have KE : Hid (¬ envc ((r[k]'hlt).toNat : Int)) := by unfold Hid envc; omega
        obtain ⟨ao', cap', rfl, q1, q2, q3, q4⟩ := hrel.2.1.shape (by unfold maxLen; omega)
        have hcap : n ≤ cap' := by have := HN.out; rw [List.length_append] at q1; omega
        have FIN : Hid (Flagged w bs nm pr (.returned (.tuple #[.slice ao' n cap', .bool false])) wr) := by
          refine Flagged.no HN.out hcap q2 q3 ?_ hrel.2.2 ?_
          · have q5 := q4.take bs.length
            rw [List.take_left] at q5
            exact q5
          · intro h
            have h2 := h.2
            rw [HR.out] at h2
            have h3 := h2 k hlt
            rw [B0.out] at h3
            exact KE.out h3
        generalize (bs ++ flags r k).length = L at *
        clear q4 hrel q3
        go_wp2
        go_ret2
        exact FIN.out
      · have KE : Hid (¬ envc ((r[k]'hlt).toNat : Int)) := by unfold Hid envc; omega
        obtain ⟨ao', cap', rfl, q1, q2, q3, q4⟩ := hrel.2.1.shape (by unfold maxLen; omega)
        have hcap : n ≤ cap' := by have := HN.out; rw [List.length_append] at q1; omega
        have FIN : Hid (Flagged w bs nm pr (.returned (.tuple #[.slice ao' n cap', .bool false])) wr) := by
          refine Flagged.no HN.out hcap q2 q3 ?_ hrel.2.2 ?_
          · have q5 := q4.take bs.length
            rw [List.take_left] at q5
            exact q5
          · intro h
            have h2 := h.2
            rw [HR.out] at h2
            have h3 := h2 k hlt
            rw [B0.out] at h3
            exact KE.out h3
        generalize (bs ++ flags r k).length = L at *
        clear q4 hrel q3
        go_wp2
        go_ret2
        exact FIN.out
    · obtain rfl : k = r.size := by omega
      have HREL : Hid (flagRel w bs r r.size _ wr) := hrel
      clear hrel
      go_wp2
      go_ret2
      have e := HR.out
      have f := HREL.out
      rw [← e] at f hlen
      exact Flagged.yes f.2.1 (by unfold maxLen; omega) f.2.2 ⟨HP.out, f.1⟩

set_option maxHeartbeats 3200000 in
theorem flag_bare (ao : Option Addr) (bs : List Int) (nm pr : ByteArray) (w : World) (hb : bs.length ≤ 300000) (hn : nm.size ≤ 700000) (hnil : ao = none → bs = []) (hr : Rd w ao bs)
    (hz : ¬ 0 < pr.size) : Calls Try.prog 28 #[.slice ao bs.length bs.length, .string nm, .string pr] w fun e w' => Flagged w bs nm pr e w' := by
  obtain ⟨i0, hi, hz0, hz1, hz2⟩ := info_parts Try.info5
  have MINE : Hid (Mine w w.heap.size (.slice ao bs.length bs.length) bs) := Mine.full hnil hr
  obtain ⟨n, hN⟩ : ∃ n, n = bs.length := ⟨_, rfl⟩
  rw [← hN] at MINE hb ⊢
  have HN : Hid (n = bs.length) := hN
  clear hN hnil hr
  have hE := toList_empty hz
  obtain ⟨r, hr⟩ : ∃ r, nm = r := ⟨_, rfl⟩
  have HR : Hid (restOf nm pr = r) := by rw [restOf_zero (by omega)]; exact hr
  have HP : Hid (preOk nm pr) := .inl (by omega)
  have hrs : r.size ≤ 700000 := by rw [← hr]; exact hn
  have START : Hid (flagRel w bs r 0 (.slice ao n n) w) := ⟨allEnv_zero r, by rw [flags_zero, List.append_nil]; exact MINE.out, Below.refl _ _⟩
  subst hr
  go_enter Try.func28, Try.ntmps28
  go_wp2
  go_loopw [0, 9] (fun v i wr => ∃ k : Nat, k ≤ nm.size ∧ i = .int .i64 k ∧ flagRel w bs nm k v wr) (fun _ i _ => nm.size - (intOf i).toNat)
  case atStart => exact ⟨0, Nat.zero_le _, rfl, START.out⟩
  case round =>
    obtain ⟨k, hk, rfl, hrel⟩ := hrel
    have hsz := hrel.2.2.size
    have hlen : (bs ++ flags nm k).length ≤ 1048576 := by
      have h1 := flags_length nm k hk
      have h2 := HN.out
      rw [List.length_append]
      omega
    by_cases hlt : k < nm.size
    · have B0 : Hid (bAt nm k = ((nm[k]'hlt).toNat : Int)) := bAt_of nm k hlt
      rcases env_kinds ((nm[k]'hlt).toNat : Int) with c | c | c | c | c | c
      · have KE : Hid (envc ((nm[k]'hlt).toNat : Int)) := .inl c
        have KF : Hid (flagOf ((nm[k]'hlt).toNat : Int) = ((nm[k]'hlt).toNat : Int) + 32) := by unfold Hid flagOf; rw [if_pos c]
        go_wp2_with (at_builtin; refine wpList_append_mine _ rfl _ _ 23 rfl i0 Try.underlying23 hi hz0 hz1 hz2 w.heap.size _ _ rfl (hrel.2.1.alloc _) ⟨wr.heap.size, 0, none⟩ (((nm[k]'hlt).toNat : Int) + 32) rfl (by simp) hlen (by simp; omega) ?_; intro v' w1 hown hbel)
        have R := flagRel_step hrel hlt KE.out KF.out hown hbel
        clear hown hbel hrel
        go_wp2
        go_roundw
        case rel =>
          first
            | exact ⟨k + 1, by omega, by go_num, R⟩
            | ((repeat apply Exists.intro); exact ⟨⟨k + 1, by omega, by go_num, R⟩, rfl⟩)
            | ((repeat apply Exists.intro); exact ⟨⟨k + 1, by omega, by go_num, R⟩, rfl, rfl, rfl, rfl⟩)
        case measure => simp [intOf]; omega
      · have KE : Hid (envc ((nm[k]'hlt).toNat : Int)) := .inr (.inr c)
        have KF : Hid (flagOf ((nm[k]'hlt).toNat : Int) = 45) := by unfold Hid flagOf; rw [if_neg (by omega), if_pos c]
        go_wp2_with (at_builtin; refine wpList_append_mine _ rfl _ _ 23 rfl i0 Try.underlying23 hi hz0 hz1 hz2 w.heap.size _ _ rfl (hrel.2.1.alloc _) ⟨wr.heap.size, 0, none⟩ (45) rfl (by simp) hlen (by simp; omega) ?_; intro v' w1 hown hbel)
        have R := flagRel_step hrel hlt KE.out KF.out hown hbel
        clear hown hbel hrel
        go_wp2
        go_roundw
        case rel =>
          first
            | exact ⟨k + 1, by omega, by go_num, R⟩
            | ((repeat apply Exists.intro); exact ⟨⟨k + 1, by omega, by go_num, R⟩, rfl⟩)
            | ((repeat apply Exists.intro); exact ⟨⟨k + 1, by omega, by go_num, R⟩, rfl, rfl, rfl, rfl⟩)
        case measure => simp [intOf]; omega
      · have KE : Hid (envc ((nm[k]'hlt).toNat : Int)) := .inr (.inl c)
        have KF : Hid (flagOf ((nm[k]'hlt).toNat : Int) = ((nm[k]'hlt).toNat : Int)) := by unfold Hid flagOf; rw [if_neg (by omega), if_neg (by omega)]
        go_wp2_with (at_builtin; refine wpList_append_mine _ rfl _ _ 23 rfl i0 Try.underlying23 hi hz0 hz1 hz2 w.heap.size _ _ rfl (hrel.2.1.alloc _) ⟨wr.heap.size, 0, none⟩ (((nm[k]'hlt).toNat : Int)) rfl (by simp) hlen (by simp; omega) ?_; intro v' w1 hown hbel)
        have R := flagRel_step hrel hlt KE.out KF.out hown hbel
        clear hown hbel hrel
        go_wp2
        go_roundw
        case rel =>
          first
            | exact ⟨k + 1, by omega, by go_num, R⟩
            | ((repeat apply Exists.intro); exact ⟨⟨k + 1, by omega, by go_num, R⟩, rfl⟩)
            | ((repeat apply Exists.intro); exact ⟨⟨k + 1, by omega, by go_num, R⟩, rfl, rfl, rfl, rfl⟩)
        case measure => simp [intOf]; omega
      · have KE : Hid (¬ envc ((nm[k]'hlt).toNat : Int)) := by unfold Hid envc; omega
        obtain ⟨ao', cap', rfl, q1, q2, q3, q4⟩ := hrel.2.1.shape (by unfold maxLen; omega)
        have hcap : n ≤ cap' := by have := HN.out; rw [List.length_append] at q1; omega
        have FIN : Hid (Flagged w bs nm pr (.returned (.tuple #[.slice ao' n cap', .bool false])) wr) := by
          refine Flagged.no HN.out hcap q2 q3 ?_ hrel.2.2 ?_
          · have q5 := q4.take bs.length
            rw [List.take_left] at q5
            exact q5
          · intro h
            have h2 := h.2
            rw [HR.out] at h2
            have h3 := h2 k hlt
            rw [B0.out] at h3
            exact KE.out h3
        generalize (bs ++ flags nm k).length = L at *
        clear q4 hrel q3
        go_wp2
        go_ret2
        exact FIN.out
      · have KE : Hid (¬ envc ((nm[k]'hlt).toNat : Int)) := by unfold Hid envc; omega
        obtain ⟨ao', cap', rfl, q1, q2, q3, q4⟩ := hrel.2.1.shape (by unfold maxLen; omega)
        have hcap : n ≤ cap' := by have := HN.out; rw [List.length_append] at q1; omega
        have FIN : Hid (Flagged w bs nm pr (.returned (.tuple #[.slice ao' n cap', .bool false])) wr) := by
          refine Flagged.no HN.out hcap q2 q3 ?_ hrel.2.2 ?_
          · have q5 := q4.take bs.length
            rw [List.take_left] at q5
            exact q5
          · intro h
            have h2 := h.2
            rw [HR.out] at h2
            have h3 := h2 k hlt
            rw [B0.out] at h3
            exact KE.out h3
        generalize (bs ++ flags nm k).length = L at *
        clear q4 hrel q3
        go_wp2
        go_ret2
        exact FIN.out
      · have KE : Hid (¬ envc ((nm[k]'hlt).toNat : Int)) := by unfold Hid envc; omega
        obtain ⟨ao', cap', rfl, q1, q2, q3, q4⟩ := hrel.2.1.shape (by unfold maxLen; omega)
        have hcap : n ≤ cap' := by have := HN.out; rw [List.length_append] at q1; omega
        have FIN : Hid (Flagged w bs nm pr (.returned (.tuple #[.slice ao' n cap', .bool false])) wr) := by
          refine Flagged.no HN.out hcap q2 q3 ?_ hrel.2.2 ?_
          · have q5 := q4.take bs.length
            rw [List.take_left] at q5
            exact q5
          · intro h
            have h2 := h.2
            rw [HR.out] at h2
            have h3 := h2 k hlt
            rw [B0.out] at h3
            exact KE.out h3
        generalize (bs ++ flags nm k).length = L at *
        clear q4 hrel q3
        go_wp2
        go_ret2
        exact FIN.out
    · obtain rfl : k = nm.size := by omega
      have HREL : Hid (flagRel w bs nm nm.size _ wr) := hrel
      clear hrel
      go_wp2
      go_ret2
      have e := HR.out
      have f := HREL.out
      rw [← e] at f hlen
      exact Flagged.yes f.2.1 (by unfold maxLen; omega) f.2.2 ⟨HP.out, f.1⟩

theorem flag_any (ao : Option Addr) (bs : List Int) (nm pr : ByteArray) (w : World) (hb : bs.length ≤ 300000) (hn : nm.size ≤ 700000) (hp : pr.size ≤ 700000) (hnil : ao = none → bs = []) (hr : Rd w ao bs) :
    Calls Try.prog 28 #[.slice ao bs.length bs.length, .string nm, .string pr] w fun e w' => Flagged w bs nm pr e w' := by
  by_cases hz : 0 < pr.size
  · by_cases hpre : preOk nm pr
    · exact flag_pre ao bs nm pr w hb hn hp hnil hr hpre hz
    · exact flag_early ao bs nm pr w (by omega) (by omega) (by omega) hnil hr hpre
  · exact flag_bare ao bs nm pr w hb hn hnil hr hz

/-- ZZappendEnvFlag. -/
theorem zzflag_any (ao : Option Addr) (bs : List Int) (n : Nat) (nm pr : ByteArray) (w : World) (hN : n = bs.length) (hb : n ≤ 300000) (hn : nm.size ≤ 700000) (hp : pr.size ≤ 700000) (hnil : ao = none → bs = []) (hr : Rd w ao bs) :
    Calls Try.prog 18 #[.slice ao n n, .string nm, .string pr] w fun e w' => Flagged w bs nm pr e w' := by
  subst hN
  have H := Hid (Rd w ao bs)
  go_enter Try.func18, Try.ntmps18
  go_wp2_with fail
  refine (flag_any ao bs nm pr w hb hn hp hnil hr).mono ?_
  rintro e w' ⟨ro, cap, r, out, rfl, rest⟩
  have REST : Hid _ := rest
  clear rest
  go_wp2
  go_ret2
  exact ⟨ro, cap, r, out, rfl, REST.out⟩

end Go.Proofs.Qxb6603810a
