/-
  THE WALK over cloneBytes (seat b6603810a).
-/
import Derived.Test.Qxb6603810aProg
import Derived.Test.Qxb6603810aMem
namespace Go.Proofs.Qxb6603810a
open Go.RowKit

theorem Try.info5 : (Try.prog.info? 5).map (fun i => (i.zero, i.size, i.bytes)) = some (some (.int .u8 0), 1, 1) := by kernel_rfl

/-- A copy in new memory (nil stays nil), full. -/
def Cloned (w : World) (xs : List Int) (e : Ending) (w' : World) : Prop :=
  ∃ ro, e = .returned (.slice ro xs.length xs.length) ∧ (ro = none → xs = []) ∧ Rd w' ro xs ∧ Below w.heap.size w w'

/-- The row behind k rounds: the first k bytes of xs, then zeros. -/
def half (xs : List Int) (k : Nat) : List Value := (xs.take k ++ List.replicate (xs.length - k) 0).map (Value.int .u8)
theorem half_zero (xs : List Int) : half xs 0 = (madeCells (Value.int .u8 0).cells (xs.length * 1)).toList := by
  have e : (Value.int .u8 0).cells = #[Value.int .u8 0] := rfl
  rw [e, toList_madeCells_one]
  simp [half]
theorem half_full (xs : List Int) : half xs xs.length = xs.map (Value.int .u8) := by simp [half]
theorem half_at (xs : List Int) (k : Nat) (h : k < xs.length) : (half xs k)[k]? = some (.int .u8 0) := by
  unfold half
  rw [List.getElem?_map, List.getElem?_append_right (by simp; omega)]
  have e : k - (xs.take k).length = 0 := by simp; omega
  rw [e, List.getElem?_replicate, if_pos (by omega)]
  rfl
theorem half_succ (xs : List Int) (k : Nat) (h : k < xs.length) : (half xs k).set k (.int .u8 (xs.getD k 0)) = half xs (k + 1) := by
  unfold half
  rw [List.take_succ_eq_append_getElem h]
  have e : xs.length - k = (xs.length - (k + 1)) + 1 := by omega
  rw [e, List.replicate_succ, List.map_append, List.map_append, List.set_append_right _ _ (by simp; omega)]
  have e2 : k - ((xs.take k).map (Value.int .u8)).length = 0 := by simp; omega
  rw [e2, List.map_append, List.append_assoc, List.getD_eq_getElem?_getD, List.getElem?_eq_getElem h]
  rfl

/-- What the loop knows behind k rounds. -/
def cloneRel (w : World) (n : Nat) (xs : List Int) (k : Nat) (wr : World) : Prop :=
  wr.ownsRow w.heap.size 5 1 (.slice (some ⟨w.heap.size, 0, none⟩) n n) n (half xs k) ∧ Below w.heap.size w wr
theorem cloneRel_step {w wr : World} {n : Nat} {xs : List Int} {k : Nat} (hn : n = xs.length) (hk : k < n) (h : cloneRel w n xs k wr) :
    cloneRel w n xs (k + 1) (wr.setCell ⟨w.heap.size, k, none⟩ (.int .u8 (xs.getD k 0))) := by
  subst hn
  have s := h.1.stored k (.int .u8 (xs.getD k 0))
  rw [half_succ xs k hk] at s
  exact ⟨s.1, h.2.setCell (p := ⟨w.heap.size, k, none⟩) (Nat.le_refl _) _⟩

set_option maxHeartbeats 800000 in
theorem clone_any (ao : Option Addr) (xs : List Int) (cap : Nat) (w : World) (hn : xs.length ≤ 1048576) (hnil : ao = none → xs = []) (hr : Rd w ao xs) :
    Calls Try.prog 15 #[.slice ao xs.length cap] w fun e w' => Cloned w xs e w' := by
  obtain ⟨i0, hi, hz0, hz1, hz2⟩ := info_parts Try.info5
  cases ao with
  | none =>
    obtain rfl := hnil rfl
    have hq := fun w => Lib.run_eql_slice_nil (P := Try.prog) w 23 5 none 0 cap 0 0 Try.underlying23
    show Calls Try.prog 15 #[.slice none 0 cap] w fun e w' => Cloned w [] e w'
    clear hr hnil hn
    go_enter Try.func15, Try.ntmps15
    go_wp2
    go_ret
    exact ⟨none, rfl, fun _ => rfl, Rd.nil _ _, Below.refl _ _⟩
  | some ad =>
    obtain ⟨n, hN⟩ : ∃ n, n = xs.length := ⟨_, rfl⟩
    have hq := fun w => Lib.run_eql_slice_nil (P := Try.prog) w 23 5 (some ad) n cap 0 0 Try.underlying23
    rw [← hN] at hn ⊢
    have HN : Hid (n = xs.length) := hN
    clear hN hnil
    go_enter Try.func15, Try.ntmps15
    go_wp2_with (at_make; refine wpList_make_full _ rfl _ _ 23 rfl w.heap.size 5 i0 (.int .u8 0) 1 Try.underlying23 hi hz0 hz1 _ _ _ _ n rfl rfl (by omega) (by omega) (by rw [hz2]; omega) (by unfold maxLen; omega) (Nat.le_refl _) ?_; intro w1 hown hgrow)
    go_loopw [4] (fun i wr => ∃ k : Nat, k ≤ n ∧ i = .int .i64 k ∧ cloneRel w n xs k wr) (fun i _ => n - (intOf i).toNat)
    case atStart => exact ⟨0, Nat.zero_le _, rfl, by rw [half_zero, ← HN.out]; exact hown, (Below.refl _ _).grown hgrow (Nat.le_refl _) (fun k hk => by cases hk)⟩
    case round =>
      obtain ⟨k, hk, rfl, hrel⟩ := hrel
      clear hown hgrow
      by_cases hlt : k < n
      · obtain ⟨b, off, e, hc⟩ := hr.at (by rw [← HN.out]; omega)
        cases e
        have hck : wr.cell? ⟨b, off + k, none⟩ = some (.int .u8 (xs.getD k 0)) := (hrel.2.cell (p := ⟨b, off + k, none⟩) (block_lt_of_cell (hc k (by rw [← HN.out]; exact hlt)))).trans (hc k (by rw [← HN.out]; exact hlt))
        have hcz : wr.cell? ⟨w.heap.size, k, none⟩ = some (.int .u8 0) := by rw [hrel.1.cellAt k (by omega)]; exact half_at xs k (by rw [← HN.out]; exact hlt)
        have hfz : wr.frozen? ⟨w.heap.size, k, none⟩ = false := hrel.1.frozenAt k
        have R := cloneRel_step HN.out hlt hrel
        have RH : Hid (cloneRel w n xs (k + 1) (wr.setCell ⟨w.heap.size, k, none⟩ (.int .u8 (xs.getD k 0)))) := R
        clear R hrel hc hr
        go_wp2
        go_roundw
        case rel => exact ⟨k + 1, by omega, by go_num, RH.out⟩
        case measure => simp [intOf]; omega
      · obtain rfl : k = n := by omega
        go_wp2
        go_ret
        have e := HN.out
        refine ⟨some ⟨w.heap.size, 0, none⟩, by rw [← e]; rfl, (fun q => by cases q), ?_, hrel.2⟩
        refine Rd.of fun j hj => ?_
        have c := World.ownsRow.cellAt hrel.1 j (by omega)
        rw [Nat.zero_add, c, e, half_full, List.getElem?_map, List.getD_eq_getElem?_getD, List.getElem?_eq_getElem hj]
        rfl

end Go.Proofs.Qxb6603810a
