/-
  THE PLAIN LAWS OF A NAME's ENVIRONMENT SPELLING; THE WALK over bytesEqualString (seat b6603810a).
-/
import Derived.Test.Qxb6603810aRowUse
import Derived.Laws.BytesArg
namespace Go.Proofs.Qxb6603810a
open Go.RowKit

def upOf (x : Int) : Int := if 97 ≤ x ∧ x ≤ 122 then x - 32 else if x = 45 then 95 else x
def ups (s : ByteArray) (k : Nat) : List Int := ((bl s).take k).map upOf
theorem up_kinds (x : Int) : (97 ≤ x ∧ x ≤ 122) ∨ x = 45 ∨ (x < 97 ∧ x ≠ 45) ∨ 122 < x := by omega
theorem upOf_a {x : Int} (h : 97 ≤ x ∧ x ≤ 122) : upOf x = x - 32 := if_pos h
theorem upOf_b {x : Int} (h : x = 45) : upOf x = 95 := by unfold upOf; rw [if_neg (by omega), if_pos h]
theorem upOf_c {x : Int} (h : x < 97 ∧ x ≠ 45) : upOf x = x := by unfold upOf; rw [if_neg (by omega), if_neg h.2]
theorem upOf_d {x : Int} (h : 122 < x) : upOf x = x := by unfold upOf; rw [if_neg (by omega), if_neg (by omega)]
theorem ups_zero (s : ByteArray) : ups s 0 = [] := rfl
theorem ups_length (s : ByteArray) (k : Nat) (h : k ≤ s.size) : (ups s k).length = k := by
  unfold ups
  rw [List.length_map, List.length_take, bl_length]
  omega
theorem ups_succ (s : ByteArray) (k : Nat) (h : k < s.size) : ups s (k + 1) = ups s k ++ [upOf ((s[k]'h).toNat : Int)] := by
  unfold ups
  rw [bl_take_succ s k h, List.map_append]
  rfl
theorem ups_all (s : ByteArray) : ups s s.size = (bl s).map upOf := by
  unfold ups
  rw [List.take_of_length_le (by rw [bl_length]; exact Nat.le_refl _)]

theorem flag_up {x : Int} (h : okc x) : flagOf (upOf x) = x := by
  unfold okc at h
  unfold flagOf upOf
  (repeat' split) <;> omega
theorem env_up {x : Int} (h : okc x) : envc (upOf x) := by
  unfold okc at h
  unfold envc upOf
  (repeat' split) <;> omega
theorem name_okc {s : ByteArray} (h : nameP (bAt s) s.size) (i : Nat) (hi : i < s.size) : okc (bAt s i) := by
  rcases Nat.eq_zero_or_pos i with q | q
  · subst q; exact .inl ⟨h.2.1, h.2.2.1⟩
  · exact (h.2.2.2.2 i q hi).1
theorem mem_bl {s : ByteArray} {x : Int} (h : x ∈ bl s) : ∃ i, i < s.size ∧ bAt s i = x := by
  obtain ⟨i, hi, e⟩ := List.getElem_of_mem h
  rw [bl_length] at hi
  refine ⟨i, hi, ?_⟩
  rw [bAt_of s i hi, ← bl_get s i hi]
  exact e
theorem bl_range {s : ByteArray} {x : Int} (h : x ∈ bl s) : 0 ≤ x ∧ x ≤ 255 := by
  obtain ⟨i, _, e⟩ := mem_bl h
  have := bAt_le s i
  omega
theorem up_range {x : Int} (h : 0 ≤ x ∧ x ≤ 255) : 0 ≤ upOf x ∧ upOf x ≤ 255 := by
  unfold upOf
  (repeat' split) <;> omega
theorem bl_strOfNums (xs : List Int) (h : ∀ x ∈ xs, 0 ≤ x ∧ x ≤ 255) : bl (strOfNums xs) = xs := by
  unfold bl
  rw [strOfNums_data, List.map_map]
  conv => rhs; rw [← List.map_id xs]
  apply List.map_congr_left
  intro x hx
  have := h x hx
  simp only [Function.comp, UInt8.toNat_ofNat', id]
  omega
theorem bAt_up {T s : ByteArray} (hT : bl T = (bl s).map upOf) (i : Nat) (hi : i < s.size) : bAt T i = upOf (bAt s i) := by
  rw [← bl_getD, ← bl_getD, hT, List.getD_eq_getElem?_getD, List.getD_eq_getElem?_getD, List.getElem?_map, List.getElem?_eq_getElem (by rw [bl_length]; exact hi)]
  rfl
theorem size_up {T s : ByteArray} (hT : bl T = (bl s).map upOf) : T.size = s.size := by
  rw [← bl_length, hT, List.length_map, bl_length]
theorem shell_of_name {T s : ByteArray} (hT : bl T = (bl s).map upOf) (h : nameP (bAt s) s.size) : shUp (bAt T) T.size := by
  intro i hi
  rw [size_up hT] at hi
  rw [bAt_up hT i hi]
  have o := name_okc h i hi
  unfold shOk
  rcases Nat.eq_zero_or_pos i with q | q
  · subst q
    have a := h.2.1
    have b := h.2.2.1
    rw [upOf_a ⟨a, b⟩]
    omega
  · have e := env_up o
    unfold envc at e
    omega
theorem allEnv_up {R s : ByteArray} (hR : bl R = (bl s).map upOf) (h : nameP (bAt s) s.size) : allEnv R R.size := by
  intro i hi
  rw [size_up hR] at hi
  rw [bAt_up hR i hi]
  exact env_up (name_okc h i hi)
theorem flags_up {R s : ByteArray} (hR : bl R = (bl s).map upOf) (h : nameP (bAt s) s.size) : flags R R.size = bl s := by
  rw [flags_all, hR, List.map_map]
  conv => rhs; rw [← List.map_id (bl s)]
  apply List.map_congr_left
  intro x hx
  obtain ⟨i, hi, e⟩ := mem_bl hx
  have o := name_okc h i hi
  rw [e] at o
  exact flag_up o
/-- What stands before the name's own spelling. -/
def headOf (pr : ByteArray) : List Int := if pr.size = 0 then [] else bl pr ++ [95]
theorem headOf_zero {pr : ByteArray} (h : pr.size = 0) : headOf pr = [] := if_pos h
theorem headOf_pos {pr : ByteArray} (h : ¬ pr.size = 0) : headOf pr = bl pr ++ [95] := if_neg h
theorem spelt_pre {E pr : ByteArray} {us : List Int} (hE : bl E = headOf pr ++ us) : preOk E pr := by
  by_cases hz : pr.size = 0
  · exact .inl hz
  · rw [headOf_pos hz] at hE
    have hl : E.size = pr.size + 1 + us.length := by rw [← bl_length E, hE, List.length_append, List.length_append, bl_length]; rfl
    refine .inr ⟨by omega, fun i hi => ?_, ?_⟩
    · rw [← bl_getD, ← bl_getD, hE, List.append_assoc, List.getD_eq_getElem?_getD, List.getD_eq_getElem?_getD, List.getElem?_append_left (by rw [bl_length]; exact hi)]
    · rw [← bl_getD, hE, List.append_assoc, List.getD_eq_getElem?_getD, List.getElem?_append_right (by rw [bl_length]; exact Nat.le_refl _), bl_length, Nat.sub_self]
      rfl
theorem spelt_rest {E pr : ByteArray} {us : List Int} (hE : bl E = headOf pr ++ us) : bl (restOf E pr) = us := by
  by_cases hz : pr.size = 0
  · rw [restOf_zero hz, hE, headOf_zero hz, List.nil_append]
  · rw [restOf_pos hz, bl_extract, List.take_of_length_le (by rw [bl_length]; exact Nat.le_refl _), hE, headOf_pos hz]
    have e : (bl pr ++ [95]).length = pr.size + 1 := by rw [List.length_append, bl_length]; rfl
    rw [← e, List.drop_left]
theorem spelt_tail {E s : ByteArray} {h us : List Int} (hE : bl E = h ++ us) (hu : us.length = s.size) : bl (E.extract (E.size - s.size) E.size) = us := by
  rw [bl_extract, List.take_of_length_le (by rw [bl_length]; exact Nat.le_refl _)]
  have e : E.size - s.size = h.length := by rw [← bl_length E, hE, List.length_append]; omega
  rw [e, hE, List.drop_left]

/-! ### bytesEqualString -/
set_option maxHeartbeats 800000 in
theorem eqstr_yes (ao : Option Addr) (xs : List Int) (s : ByteArray) (n ca : Nat) (w : World) (hN : n = xs.length) (hn : n ≤ 4194304) (ha : Rd w ao xs) (hxs : xs = bl s) :
    Calls Try.prog 23 #[.slice ao n ca, .string s] w fun e w' => e = .returned (.bool true) ∧ Still w w' := by
  have hns : n = s.size := by rw [hN, hxs, bl_length]
  subst hns
  have HX : Hid (xs = bl s) := hxs
  clear hN hxs
  go_enter Try.func23, Try.ntmps23
  go_wp2
  go_loopw [5] (fun i wr => ∃ k : Nat, k ≤ s.size ∧ i = .int .i64 k ∧ Still w wr) (fun i _ => s.size - (intOf i).toNat)
  case atStart => exact ⟨0, Nat.zero_le _, rfl, Still.refl _⟩
  case round =>
    obtain ⟨k, hk, rfl, hst⟩ := hrel
    have HS : Hid (Still w wr) := hst
    clear hst
    by_cases hlt : k < s.size
    · have hxl : k < xs.length := by rw [HX.out, bl_length]; exact hlt
      obtain ⟨b, off, e, hc⟩ := ha.at (by omega)
      cases e
      have h1 : wr.cell? ⟨b, off + k, none⟩ = some (.int .u8 ((s[k]'hlt).toNat : Int)) := by
        refine ((HS.out (b + 1)).cell (p := ⟨b, off + k, none⟩) (Nat.lt_succ_self _)).trans ?_
        rw [hc k hxl, HX.out, bl_getD, bAt_of s k hlt]
      clear hc ha hxl
      have l0 : (0 : Int) ≤ (k : Int) := by omega
      have l1 : (k : Int) < (s.size : Int) := by omega
      go_wp2
      go_quiet (fail)
      go_wp2
      go_roundw
      case rel => exact ⟨k + 1, by omega, by go_num, HS.out.drewN _⟩
      case measure => simp [intOf]; omega
    · go_wp2
      go_ret
      exact ⟨rfl, HS.out⟩

end Go.Proofs.Qxb6603810a
