/-
  THE PLAIN LAWS OF ENVIRONMENT NAMES AND FLAGS (seat b6603810a): no Go in sight.
-/
import Derived.Test.Qxb6603810aMem
namespace Go.Proofs.Qxb6603810a
open Go.RowKit

def envc (x : Int) : Prop := (65 ≤ x ∧ x ≤ 90) ∨ (48 ≤ x ∧ x ≤ 57) ∨ x = 95
def flagOf (x : Int) : Int := if 65 ≤ x ∧ x ≤ 90 then x + 32 else if x = 95 then 45 else x
def samePre (nm pr : ByteArray) : Prop := ∀ i, i < pr.size → bAt nm i = bAt pr i
def preOk (nm pr : ByteArray) : Prop := pr.size = 0 ∨ (pr.size < nm.size ∧ samePre nm pr ∧ bAt nm pr.size = 95)
def restOf (nm pr : ByteArray) : ByteArray := if pr.size = 0 then nm else nm.extract (pr.size + 1) nm.size
def allEnv (r : ByteArray) (k : Nat) : Prop := ∀ i, i < k → envc (bAt r i)
def envV (nm pr : ByteArray) : Prop := preOk nm pr ∧ allEnv (restOf nm pr) (restOf nm pr).size
def flags (r : ByteArray) (k : Nat) : List Int := ((bl r).take k).map flagOf

theorem allEnv_zero (r : ByteArray) : allEnv r 0 := fun i h => by omega
theorem allEnv_succ {r : ByteArray} {k : Nat} (h : allEnv r k) (x : envc (bAt r k)) : allEnv r (k + 1) := fun i hi => by
  by_cases q : i = k
  · subst q; exact x
  · exact h i (by omega)
theorem flags_zero (r : ByteArray) : flags r 0 = [] := rfl
theorem flags_length (r : ByteArray) (k : Nat) (h : k ≤ r.size) : (flags r k).length = k := by
  unfold flags
  rw [List.length_map, List.length_take, bl_length]
  omega
theorem flags_succ (r : ByteArray) (k : Nat) (h : k < r.size) : flags r (k + 1) = flags r k ++ [flagOf ((r[k]'h).toNat : Int)] := by
  unfold flags
  rw [bl_take_succ r k h, List.map_append]
  rfl
theorem flags_all (r : ByteArray) : flags r r.size = (bl r).map flagOf := by
  unfold flags
  rw [List.take_of_length_le (by rw [bl_length]; exact Nat.le_refl _)]
theorem restOf_zero {nm pr : ByteArray} (h : pr.size = 0) : restOf nm pr = nm := if_pos h
theorem restOf_pos {nm pr : ByteArray} (h : ¬ pr.size = 0) : restOf nm pr = nm.extract (pr.size + 1) nm.size := if_neg h

theorem bl_inj {a b : ByteArray} (h : bl a = bl b) : a.data.toList = b.data.toList := by
  unfold bl at h
  have inj : Function.Injective (fun x : UInt8 => (x.toNat : Int)) := by
    intro x y e
    have e0 : (x.toNat : Int) = (y.toNat : Int) := e
    have e' : x.toNat = y.toNat := by omega
    exact UInt8.toNat_inj.1 e'
  exact (List.map_inj_right (fun x y e => inj e)).1 h
theorem bl_ext {xs ys : List Int} (hl : xs.length = ys.length) (h : ∀ i, i < xs.length → xs.getD i 0 = ys.getD i 0) : xs = ys := by
  apply List.ext_getElem hl
  intro i h1 h2
  have := h i h1
  rw [List.getD_eq_getElem?_getD, List.getD_eq_getElem?_getD, List.getElem?_eq_getElem h1, List.getElem?_eq_getElem h2] at this
  exact this
theorem bl_extract (s : ByteArray) (a b : Nat) : bl (s.extract a b) = ((bl s).take b).drop a := by
  unfold bl
  rw [ByteArray.data_extract, Array.toList_extract, List.extract_eq_take_drop, List.map_take, List.map_drop, ← List.drop_take]
theorem pre_beq (nm pr : ByteArray) (h : pr.size ≤ nm.size) : ((nm.extract 0 pr.size).toList == pr.toList) = true ↔ samePre nm pr := by
  rw [ByteArray.toList_eq, ByteArray.toList_eq, beq_iff_eq]
  constructor
  · intro e i hi
    have e2 : bl (nm.extract 0 pr.size) = bl pr := by unfold bl; rw [e]
    rw [bl_extract nm 0 pr.size, List.drop_zero] at e2
    rw [← bl_getD, ← bl_getD, ← e2, List.getD_eq_getElem?_getD, List.getD_eq_getElem?_getD, List.getElem?_take, if_pos hi]
  · intro e
    apply bl_inj
    rw [bl_extract nm 0 pr.size, List.drop_zero]
    apply bl_ext
    · rw [List.length_take, bl_length, bl_length]; omega
    · intro i hi
      rw [List.length_take, bl_length] at hi
      have e' := e i (by omega)
      rw [← bl_getD, ← bl_getD] at e'
      rw [← e', List.getD_eq_getElem?_getD, List.getD_eq_getElem?_getD, List.getElem?_take, if_pos (by omega)]

end Go.Proofs.Qxb6603810a
