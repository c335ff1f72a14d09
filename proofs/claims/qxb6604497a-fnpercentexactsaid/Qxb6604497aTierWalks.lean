/-
  THE WALKS over Threshold and Percent (seat b6604497a).
-/
import Derived.Test.Qxb6604497aQuotaWalk
import Derived.Laws.Bits64
namespace Go.Proofs.Qxb6604497a
open Go.RowKit

set_option maxHeartbeats 800000 in
theorem thresh_any (B : Int) (ro : Option Addr) (n m : Nat) (ps : Nat → Int) (p : Int) (w : World) (h0 : 0 ≤ B) (hB : B ≤ 18446744073709551615) (hm1 : 1 ≤ m) (hm : m ≤ n) (hn : n ≤ 32768) (hr : RdP w ro n ps) (hps : p = ps (m - 1)) (hp1 : 1 ≤ p) (hp : p ≤ 1000) :
    Calls Try.prog 8 #[.agg #[.int .u64 B, .slice ro n n], .int .i64 m] w fun e w' => e = .returned (.int .u64 (IntKind.u64.wrap (B / 100 * p))) ∧ Below w.heap.size w w' := by
  obtain ⟨b, off, ho, hc⟩ := hr (m - 1) (by omega)
  subst ho
  rw [← hps] at hc
  have hc' : (w.alloc (.cells #[.int .u64 B, .slice (some ⟨b, off, none⟩) n n] 29)).cell? ⟨b, off + (m - 1) * 3, none⟩ = some (.int .i64 p) := by
    rw [World.cell?_alloc_past _ _ _ (show b < w.heap.size from block_lt_of_cell hc)]; exact hc
  have l0 : (0 : Int) ≤ (m : Int) - 1 := by omega
  have l1 : (m : Int) - 1 < (n : Int) := by omega
  clear hc hr hps
  go_enter Try.func8, Try.ntmps8
  go_wp2
  go_quiet (fail)
  go_wp2
  go_ret
  exact ⟨rfl, below_drewN ((Below.refl _ _).alloc (Nat.le_refl _) _) _⟩

set_option maxHeartbeats 800000 in
theorem perc_yes (B U : Int) (ro : Option Addr) (n : Nat) (w : World) (h0 : 0 < B) (hB : B ≤ 18446744073709551615) (hU : 0 ≤ U) (hU2 : U ≤ 18446744073709551615) (hd : 1 ≤ B / 100) :
    Calls Try.prog 12 #[.agg #[.int .u64 B, .slice ro n n], .int .u64 U] w fun e w' => e = .returned (.tuple #[.int .u64 (U / (B / 100)), .bool true]) ∧ Below w.heap.size w w' := by
  have hb : (B == 0) = false := by
    have : ¬ B = 0 := by omega
    simpa using this
  go_enter Try.func12, Try.ntmps12
  go_wp2
  go_ret2
  exact ⟨rfl, (Below.refl _ _).alloc (Nat.le_refl _) _⟩

set_option maxHeartbeats 800000 in
theorem perc_no (U : Int) (ro : Option Addr) (n : Nat) (w : World) :
    Calls Try.prog 12 #[.agg #[.int .u64 0, .slice ro n n], .int .u64 U] w fun e w' => e = .returned (.tuple #[.int .u64 0, .bool false]) ∧ Below w.heap.size w w' := by
  go_enter Try.func12, Try.ntmps12
  go_wp2
  go_ret2
  exact ⟨rfl, (Below.refl _ _).alloc (Nat.le_refl _) _⟩

theorem ret_u64 {k : IntKind} {a b : Int} (h : a = b) : Ending.returned (.int k a) = .returned (.int k b) := by rw [h]

/-- Threshold, where the product fits. -/
theorem thresh_is (B : Int) (ro : Option Addr) (n m : Nat) (ps : Nat → Int) (p T : Int) (w : World) (h0 : 0 ≤ B) (hB : B ≤ 18446744073709551615) (hm1 : 1 ≤ m) (hm : m ≤ n) (hn : n ≤ 32768) (hr : RdP w ro n ps) (hps : p = ps (m - 1)) (hp1 : 1 ≤ p) (hp : p ≤ 1000)
    (hT : T = B / 100 * p) (hT0 : 0 ≤ T) (hT1 : T ≤ 18446744073709551615) :
    Calls Try.prog 8 #[.agg #[.int .u64 B, .slice ro n n], .int .i64 m] w fun e w' => e = .returned (.int .u64 T) ∧ Below w.heap.size w w' := by
  refine (thresh_any B ro n m ps p w h0 hB hm1 hm hn hr hps hp1 hp).mono ?_
  rintro e w' ⟨rfl, hb⟩
  refine ⟨ret_u64 ?_, hb⟩
  rw [← hT, IntKind.wrap_u64]
  omega
/-- Percent, its answer under a name. -/
theorem perc_is (B U q : Int) (ro : Option Addr) (n : Nat) (w : World) (h0 : 0 < B) (hB : B ≤ 18446744073709551615) (hU : 0 ≤ U) (hU2 : U ≤ 18446744073709551615) (hd : 1 ≤ B / 100) (hq : U / (B / 100) = q) :
    Calls Try.prog 12 #[.agg #[.int .u64 B, .slice ro n n], .int .u64 U] w fun e w' => e = .returned (.tuple #[.int .u64 q, .bool true]) ∧ Below w.heap.size w w' := by
  subst hq
  exact perc_yes B U ro n w h0 hB hU hU2 hd

end Go.Proofs.Qxb6604497a
