/-
  THE WALK over quotaOf (seat b6604497a): the tiers copied into a new row of structs; the quota handed back by value.
-/
import Derived.Test.Qxb6604497aProg
import Derived.WalkKit
import Derived.WalkSpells
import Derived.WalkSmall
import Derived.Deep.QuietTactic
import Derived.BigQuiet
namespace Go.Proofs.Qxb6604497a
open Go.RowKit

theorem Try.info42 : (Try.prog.info? 42).map (fun i => (i.zero, i.size, i.bytes)) = some (some (.agg #[.int .i64 0, .int .i64 0, .int .i64 0]), 3, 24) := by kernel_rfl

/-- A slice of tiers that came in: three numbers a tier. -/
def Rd3 (w : World) (ao : Option Addr) (n : Nat) (ps ds us : Nat → Int) : Prop :=
  ∀ j, j < n → ∃ b off, ao = some ⟨b, off, none⟩ ∧ w.cell? ⟨b, off + j * 3, none⟩ = some (.int .i64 (ps j)) ∧ w.cell? ⟨b, off + j * 3 + 1, none⟩ = some (.int .i64 (ds j)) ∧ w.cell? ⟨b, off + j * 3 + 2, none⟩ = some (.int .i64 (us j))
/-- A slice of tiers of which the percents are told. -/
def RdP (w : World) (ao : Option Addr) (n : Nat) (ps : Nat → Int) : Prop :=
  ∀ j, j < n → ∃ b off, ao = some ⟨b, off, none⟩ ∧ w.cell? ⟨b, off + j * 3, none⟩ = some (.int .i64 (ps j))
theorem RdP.below {w w' : World} {ao : Option Addr} {n : Nat} {ps : Nat → Int} (h : RdP w ao n ps) (k : Below w.heap.size w w') : RdP w' ao n ps := fun j hj => by
  obtain ⟨b, off, e, c⟩ := h j hj
  exact ⟨b, off, e, (k.cell (p := ⟨b, off + j * 3, none⟩) (block_lt_of_cell c)).trans c⟩

/-- What quotaOf hands back. -/
def Quotad (w : World) (B : Int) (n : Nat) (ps : Nat → Int) (e : Ending) (w' : World) : Prop :=
  ∃ ro, e = .returned (.agg #[.int .u64 B, .slice ro n n]) ∧ RdP w' ro n ps ∧ Below w.heap.size w w'

/-- What the loop knows behind k rounds. -/
def qRel (w : World) (n : Nat) (ps : Nat → Int) (k : Nat) (wr : World) : Prop :=
  ∃ cs : List Value, wr.ownsRow (w.heap.size + 1) 42 3 (.slice (some ⟨w.heap.size + 1, 0, none⟩) n n) n cs ∧ (∀ i, i < k → cs[i * 3]? = some (.int .i64 (ps i))) ∧ (∀ i, i < n * 3 → ∃ v : Int, cs[i]? = some (.int .i64 v)) ∧
    wr.heap[w.heap.size]? = some (.cells #[.int .u64 0, .slice none 0 0] 29 (0, 0)) ∧ Below w.heap.size w wr

theorem made_zero (n i : Nat) (h : i < n * 3) : (madeCells (Value.agg #[.int .i64 0, .int .i64 0, .int .i64 0]).cells (n * 3)).toList[i]? = some (.int .i64 0) := by
  have e : (Value.agg #[.int .i64 0, .int .i64 0, .int .i64 0]).cells = #[.int .i64 0, .int .i64 0, .int .i64 0] := rfl
  rw [e]
  unfold madeCells
  simp only [Array.toList_map, Array.toList_range, List.getElem?_map, List.getElem?_range h, Option.map_some, Option.some.injEq]
  have h3 : i % 3 = 0 ∨ i % 3 = 1 ∨ i % 3 = 2 := by omega
  show (#[Value.int .i64 0, .int .i64 0, .int .i64 0] : Array Value)[i % 3]! = _
  rcases h3 with q | q | q <;> rw [q] <;> rfl

theorem qRel_start {w w1 : World} {n : Nat} {ps : Nat → Int}
    (hown : w1.ownsRow (w.heap.size + 1) 42 3 (.slice (some ⟨w.heap.size + 1, 0, none⟩) n n) n (madeCells (Value.agg #[.int .i64 0, .int .i64 0, .int .i64 0]).cells (n * 3)).toList)
    (hgrow : (w.alloc (.cells #[.int .u64 0, .slice none 0 0] 29)).grownBy w1 none) : qRel w n ps 0 w1 := by
  refine ⟨_, hown, fun i hi => absurd hi (Nat.not_lt_zero i), fun i hi => ⟨0, made_zero n i hi⟩, ?_, ?_⟩
  · rw [hgrow.block w.heap.size (by simp) (by simp)]
    exact heap_alloc_new w _
  · exact ((Below.refl _ _).alloc (Nat.le_refl _) _).grown hgrow (by simp) (fun k hk => by cases hk)

theorem qRel_cell {w wr : World} {n : Nat} {ps : Nat → Int} {k : Nat} (h : qRel w n ps k wr) (i : Nat) (hi : i < n * 3) : ∃ v : Int, wr.cell? ⟨w.heap.size + 1, i, none⟩ = some (.int .i64 v) := by
  obtain ⟨cs, h1, _, h3, _⟩ := h
  obtain ⟨v, hv⟩ := h3 i hi
  exact ⟨v, by rw [h1.cellAt i hi]; exact hv⟩
theorem qRel_frozen {w wr : World} {n : Nat} {ps : Nat → Int} {k : Nat} (h : qRel w n ps k wr) (i : Nat) : wr.frozen? ⟨w.heap.size + 1, i, none⟩ = false := by
  obtain ⟨cs, h1, _⟩ := h
  exact h1.frozenAt i

theorem qRel_step {w wr : World} {n : Nat} {ps : Nat → Int} {k : Nat} (h : qRel w n ps k wr) (hk : k < n) (d u : Int) :
    qRel w n ps (k + 1) (((wr.setCell ⟨w.heap.size + 1, k * 3, none⟩ (.int .i64 (ps k))).setCell ⟨w.heap.size + 1, k * 3 + 1, none⟩ (.int .i64 d)).setCell ⟨w.heap.size + 1, k * 3 + 2, none⟩ (.int .i64 u)).drew := by
  obtain ⟨cs, h1, h2, h3, h4, h5⟩ := h
  have a1 := h1.stored (k * 3) (.int .i64 (ps k))
  have a2 := a1.1.stored (k * 3 + 1) (.int .i64 d)
  have a3 := a2.1.stored (k * 3 + 2) (.int .i64 u)
  have hl : cs.length = n * 3 := h1.1
  refine ⟨_, a3.1.drew, fun i hi => ?_, fun i hi => ?_, ?_, (((h5.setCell (p := ⟨w.heap.size + 1, k * 3, none⟩) (Nat.le_succ _) _).setCell (p := ⟨w.heap.size + 1, k * 3 + 1, none⟩) (Nat.le_succ _) _).setCell (p := ⟨w.heap.size + 1, k * 3 + 2, none⟩) (Nat.le_succ _) _).drew⟩
  · rw [List.getElem?_set_ne (by omega), List.getElem?_set_ne (by omega)]
    by_cases q : i = k
    · subst q
      rw [List.getElem?_set_self (by omega)]
    · rw [List.getElem?_set_ne (by omega)]
      exact h2 i (by omega)
  · by_cases q2 : k * 3 + 2 = i
    · subst q2
      exact ⟨u, by rw [List.getElem?_set_self (by simp; omega)]⟩
    rw [List.getElem?_set_ne q2]
    by_cases q1 : k * 3 + 1 = i
    · subst q1
      exact ⟨d, by rw [List.getElem?_set_self (by simp; omega)]⟩
    rw [List.getElem?_set_ne q1]
    by_cases q0 : k * 3 = i
    · subst q0
      exact ⟨ps k, by rw [List.getElem?_set_self (by omega)]⟩
    rw [List.getElem?_set_ne q0]
    exact h3 i hi
  · show (((wr.setCell ⟨w.heap.size + 1, k * 3, none⟩ (.int .i64 (ps k))).setCell ⟨w.heap.size + 1, k * 3 + 1, none⟩ (.int .i64 d)).setCell ⟨w.heap.size + 1, k * 3 + 2, none⟩ (.int .i64 u)).heap[w.heap.size]? = _
    rw [Below.heap_setCell _ _ _ _ (by simp), Below.heap_setCell _ _ _ _ (by simp), Below.heap_setCell _ _ _ _ (by simp)]
    exact h4

set_option maxHeartbeats 1600000 in
theorem quota_any (B : Int) (ao : Option Addr) (n cap : Nat) (w : World) (hn : n ≤ 32768) (ps ds us : Nat → Int) (hnil : ao = none → n = 0) (hr : Rd3 w ao n ps ds us) :
    Calls Try.prog 7 #[.int .u64 B, .slice ao n cap] w fun e w' => Quotad w B n ps e w' := by
  obtain ⟨i0, hi, hz0, hz1, hz2⟩ := info_parts Try.info42
  cases ao with
  | none =>
    obtain rfl := hnil rfl
    have hq := fun w => run_neq_slice_nil_any (P := Try.prog) w 23 26 none 0 cap 0 0 Try.underlying23
    clear hr hnil hn
    go_enter Try.func7, Try.ntmps7
    go_wp2
    refine bodyPost_ret (v := .agg #[.int .u64 B, .slice none 0 0]) (by simp [results, Try.results7, go_sem]) rfl ?_
    exact ⟨none, rfl, fun j hj => absurd hj (Nat.not_lt_zero j), (Below.refl _ _).alloc (Nat.le_refl _) _⟩
  | some ad =>
    have HR : Hid (Rd3 w (some ad) n ps ds us) := hr
    have hq := fun w => run_neq_slice_nil_any (P := Try.prog) w 23 26 (some ad) n cap 0 0 Try.underlying23
    clear hr hnil
    go_enter Try.func7, Try.ntmps7
    go_wp2_with (at_make; refine wpList_make_full _ rfl _ _ 27 rfl (w.heap.size + 1) 42 i0 (.agg #[.int .i64 0, .int .i64 0, .int .i64 0]) 3 Try.underlying27 hi hz0 hz1 _ _ _ _ n rfl rfl (by omega) (by omega) (by rw [hz2]; omega) (by unfold maxLen; omega) (by simp) ?_; intro w1 hown hgrow)
    have START : Hid (qRel w n ps 0 w1) := qRel_start (by simpa using hown) (by simpa using hgrow)
    clear hown hgrow
    go_loopw [6] (fun i wr => ∃ k : Nat, k ≤ n ∧ i = .int .i64 k ∧ qRel w n ps k wr) (fun i _ => n - (intOf i).toNat)
    case atStart => exact ⟨0, Nat.zero_le _, rfl, START.out⟩
    case round =>
      obtain ⟨k, hk, rfl, hrel⟩ := hrel
      have HREL : Hid (qRel w n ps k wr) := hrel
      clear hrel
      by_cases hlt : k < n
      · obtain ⟨b, off, e, c0', c1', c2'⟩ := HR.out k hlt
        cases e
        have hb : b < w.heap.size := block_lt_of_cell c0'
        have HB : Below w.heap.size w wr := by obtain ⟨_, _, _, _, _, q⟩ := HREL.out; exact q
        have c0 : wr.cell? ⟨b, off + k * 3, none⟩ = some (.int .i64 (ps k)) := (HB.cell (p := ⟨b, off + k * 3, none⟩) hb).trans c0'
        have c1 : wr.cell? ⟨b, off + k * 3 + 1, none⟩ = some (.int .i64 (ds k)) := (HB.cell (p := ⟨b, off + k * 3 + 1, none⟩) hb).trans c1'
        have c2 : wr.cell? ⟨b, off + k * 3 + 2, none⟩ = some (.int .i64 (us k)) := (HB.cell (p := ⟨b, off + k * 3 + 2, none⟩) hb).trans c2'
        obtain ⟨v0, e0⟩ := qRel_cell HREL.out (k * 3) (by omega)
        obtain ⟨v1, e1⟩ := qRel_cell HREL.out (k * 3 + 1) (by omega)
        obtain ⟨v2, e2⟩ := qRel_cell HREL.out (k * 3 + 2) (by omega)
        have f0 := qRel_frozen HREL.out (k * 3)
        have f1 := qRel_frozen HREL.out (k * 3 + 1)
        have f2 := qRel_frozen HREL.out (k * 3 + 2)
        have l0 : (0 : Int) ≤ (k : Int) := by omega
        have l1 : (k : Int) < (n : Int) := by omega
        have R : Hid (qRel w n ps (k + 1) (((wr.setCell ⟨w.heap.size + 1, k * 3, none⟩ (.int .i64 (ps k))).setCell ⟨w.heap.size + 1, k * 3 + 1, none⟩ (.int .i64 (ds k))).setCell ⟨w.heap.size + 1, k * 3 + 2, none⟩ (.int .i64 (us k))).drew) := qRel_step HREL.out hlt _ _
        clear HB c0' c1' c2'
        go_wp2
        go_region
        go_wp2
        go_roundw
        case rel => exact ⟨k + 1, by omega, by go_num, R.out⟩
        case measure => simp [intOf]; omega
      · obtain rfl : k = n := by omega
        obtain ⟨cs, h1, h2, h3, h4, h5⟩ := HREL.out
        have g0 : wr.cell? ⟨w.heap.size, 0, none⟩ = some (.int .u64 0) := by simp [World.cell?, h4]
        have g1 : wr.cell? ⟨w.heap.size, 1, none⟩ = some (.slice none 0 0) := by simp [World.cell?, h4]
        have g2 : wr.frozen? ⟨w.heap.size, 0, none⟩ = false := by simp [World.frozen?, h4]
        have g3 : wr.frozen? ⟨w.heap.size, 1, none⟩ = false := by simp [World.frozen?, h4]
        have H1 : Hid (wr.ownsRow (w.heap.size + 1) 42 3 (.slice (some ⟨w.heap.size + 1, 0, none⟩) k k) k cs) := h1
        have H2 : Hid (∀ i, i < k → cs[i * 3]? = some (.int .i64 (ps i))) := h2
        have H5 : Hid (Below w.heap.size w wr) := h5
        clear h1 h2 h3 h4 h5
        go_wp2
        refine bodyPost_ret (v := .agg #[.int .u64 B, .slice (some ⟨w.heap.size + 1, 0, none⟩) k k]) (by simp [results, Try.results7, go_sem, g0, g1]) rfl ?_
        refine ⟨_, rfl, fun j hj => ⟨w.heap.size + 1, 0, rfl, ?_⟩, (H5.out.setCell (p := ⟨w.heap.size, 0, none⟩) (Nat.le_refl _) _).setCell (p := ⟨w.heap.size, 1, none⟩) (Nat.le_refl _) _⟩
        have c := H1.out.cellAt (j * 3) (by omega)
        rw [H2.out j hj] at c
        rw [World.cell?_of_block (w := wr) (by rw [Below.heap_setCell _ _ _ _ (by simp), Below.heap_setCell _ _ _ _ (by simp)]), Nat.zero_add]
        exact c

end Go.Proofs.Qxb6604497a
