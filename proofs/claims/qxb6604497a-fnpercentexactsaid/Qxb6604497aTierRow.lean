/-
  A SLICE OF TIERS THAT CAME IN, OPENED (seat b6604497a): three numbers a tier.
-/
import Derived.Test.Qxb6604497aQuotaWalk
import Derived.Deep.Slices
import Derived.Deep.Strs
namespace Go.Proofs.Qxb6604497a
open Go.RowKit Go.Deep

theorem Try.cells26 : Try.prog.cellsOf 26 = 3 := by kernel_rfl
theorem Try.cells3 : Try.prog.cellsOf 3 = 1 := by kernel_rfl
theorem Try.cells2 : Try.prog.cellsOf 2 = 1 := by kernel_rfl

theorem open_tiers {H : Type} {enc : TypeId × Value → H} {W : World} {base : Nat} {spare : Nat → Bool} {held : Bool} {fuel : Nat} {a0 : Option Addr} {len0 cap0 : Nat} {x : DataW H × List MemPlace}
    (h : DataW.trod enc Try.prog W base spare held fuel 23 [.slice a0 len0 cap0] = some x) : ∃ ps ds us : Nat → Int, Rd3 W a0 len0 ps ds us ∧ len0 ≤ maxLen := by
  rcases open_slice Try.underlying23 h with ⟨hcs, _⟩ | ⟨a, len, cap, m, n, D, Pl, hcs, _, hl, hm, hmm, _, hx⟩
  · simp at hcs
    obtain ⟨rfl, rfl, rfl⟩ := hcs
    exact ⟨fun _ => 0, fun _ => 0, fun _ => 0, fun j hj => absurd hj (Nat.not_lt_zero j), Nat.zero_le _⟩
  · simp at hcs
    obtain ⟨rfl, rfl, rfl⟩ := hcs
    have hle : len0 ≤ m := by rw [hmm]; split <;> omega
    have each : ∀ i, i < len0 → ∃ t : Int × Int × Int, W.cell? ((a.add (i * 3)).add 0) = some (.int .i64 t.1) ∧ W.cell? ((a.add (i * 3)).add 1) = some (.int .i64 t.2.1) ∧ W.cell? ((a.add (i * 3)).add 2) = some (.int .i64 t.2.2) := by
      intro i hi
      obtain ⟨cs', hc, ht⟩ := hx i (by omega)
      rw [Try.cells26] at hc
      obtain ⟨_, hcl, hcc⟩ := World.cells?_some hc
      obtain ⟨y0, y1, y2, k, _, _, t0, t1, t2⟩ := trod_struct3 Try.underlying26 ht
      obtain ⟨p, e0, _, _⟩ := DataW.trod_int Try.underlying3 t0
      obtain ⟨d, e1, _, _⟩ := DataW.trod_int Try.underlying2 t1
      obtain ⟨u, e2, _, _⟩ := DataW.trod_int Try.underlying2 t2
      rw [Try.cells3] at e0
      rw [Try.cells2] at e1 e2
      match cs', hcl with
      | [x0, x1, x2], _ =>
        simp at e0 e1 e2
        subst e0 e1 e2
        exact ⟨(p, d, u), hcc 0 (by omega), hcc 1 (by omega), hcc 2 (by omega)⟩
    obtain ⟨f, hf⟩ := choose_lt each
    refine ⟨fun i => (f i).1, fun i => (f i).2.1, fun i => (f i).2.2, fun j hj => ?_, Nat.le_trans hl hm⟩
    have hs : a.spot = none := by
      have c := (hf 0 (by omega)).1
      have q := World.cell?_spot c
      obtain ⟨b, off, spot⟩ := a
      simpa [Addr.add] using q
    obtain ⟨b, off, spot⟩ := a
    simp at hs
    subst hs
    obtain ⟨c0, c1, c2⟩ := hf j hj
    rw [Addr.add_lit, Addr.add_lit] at c0 c1 c2
    exact ⟨b, off, rfl, c0, c1, c2⟩

theorem u64_bounds {x : Int} (h : (Lit.int .u64 x).wf = true) : 0 ≤ x ∧ x ≤ 18446744073709551615 := by
  simp [Lit.wf, IntKind.min, IntKind.max, IntKind.signed, IntKind.bits] at h
  omega

end Go.Proofs.Qxb6604497a
