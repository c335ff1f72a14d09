/-
  FORMS OF THE CONTRACTS THAT THE LAWS' WALKS TAKE (seat b6603810a): lengths as letters of their own; 'equal' where the truth is known.
-/
import Derived.Test.Qxb6603810aFlagWalk
import Derived.Test.Qxb6603810aEqualWalk
namespace Go.Proofs.Qxb6603810a
open Go.RowKit

theorem clone_n (ao : Option Addr) (xs : List Int) (n cap : Nat) (w : World) (hN : n = xs.length) (hn : n ≤ 1048576) (hnil : ao = none → xs = []) (hr : Rd w ao xs) :
    Calls Try.prog 15 #[.slice ao n cap] w fun e w' => ∃ ro, e = .returned (.slice ro n n) ∧ (ro = none → xs = []) ∧ Rd w' ro xs ∧ Below w.heap.size w w' := by
  subst hN
  exact clone_any ao xs cap w hn hnil hr

theorem equal_yes (ao bo : Option Addr) (xs ys : List Int) (n m ca cb : Nat) (w : World) (hN : n = xs.length) (hM : m = ys.length) (hn : n ≤ 4194304) (ha : Rd w ao xs) (hb : Rd w bo ys) (h : xs = ys) :
    Calls Try.prog 19 #[.slice ao n ca, .slice bo m cb] w fun e w' => e = .returned (.bool true) ∧ Still w w' := by
  subst h
  refine (equal_any ao bo xs xs n m ca cb w hN hM hn (by omega) ha hb).mono ?_
  rintro e w' ⟨⟨r, rfl, hr⟩, hs⟩
  have q : r = true := hr.out.2 rfl
  subst q
  exact ⟨rfl, hs⟩

/-- A slice of bytes that came in, as the shells of the proofs tell it. -/
theorem row_use {w : World} {a : Option Addr} {len cap : Nat} {zs : List Int}
    (h : (a = none ∧ len = 0 ∧ cap = 0 ∧ zs = []) ∨ ∃ x, a = some x ∧ len ≤ cap ∧ cap ≤ maxLen ∧ zs.length = cap ∧ (∀ i, i < zs.length → w.cell? (x.add i) = some (.int .u8 (zs.getD i 0))) ∧ ∀ n ∈ zs, (Lit.int .u8 n).wf = true) :
    ∃ xs : List Int, len = xs.length ∧ (a = none → xs = []) ∧ Rd w a xs ∧ cap ≤ maxLen := by
  rcases h with ⟨rfl, rfl, rfl, rfl⟩ | ⟨x, rfl, h1, h2, h3, h4, _⟩
  · exact ⟨[], rfl, (fun _ => rfl), Rd.nil _ _, Nat.zero_le _⟩
  · have hl : (zs.take len).length = len := by rw [List.length_take]; omega
    refine ⟨zs.take len, hl.symm, (fun q => by cases q), fun j hj => ?_, h2⟩
    rw [hl] at hj
    have c := h4 j (by omega)
    have hs : x.spot = none := by
      have := World.cell?_spot (h4 0 (by omega))
      obtain ⟨b, off, spot⟩ := x
      simpa [Addr.add] using this
    obtain ⟨b, off, spot⟩ := x
    simp at hs
    subst hs
    refine ⟨b, off, rfl, ?_⟩
    rw [Addr.add_lit] at c
    rw [c, List.getD_eq_getElem?_getD, List.getD_eq_getElem?_getD, List.getElem?_take, if_pos hj]

/-- The same verdict twice. -/
theorem verdicts {P : Prop} {r q : Bool} (h : Hid (r = true ↔ P)) (k : Hid (q = true ↔ P)) : q = r := by
  have h := h.out
  have k := k.out
  cases r <;> cases q <;> simp_all

end Go.Proofs.Qxb6603810a
