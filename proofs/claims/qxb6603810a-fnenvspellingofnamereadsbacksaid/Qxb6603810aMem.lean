/-
  SLICES OF BYTES IN MEMORY, FOR THE WALKS OF SEAT b6603810a: what a slice reads as; one law for 'append' onto a full slice or onto a row of the call's own.
-/
import Derived.Test.Qxb6603810aPlain
import Derived.WalkKit
import Derived.WalkSpells
namespace Go.Proofs.Qxb6603810a
open Go.RowKit

/-! ### a string's bytes as a list -/
def bl (s : ByteArray) : List Int := s.data.toList.map (fun b => (b.toNat : Int))
theorem bl_length (s : ByteArray) : (bl s).length = s.size := by simp [bl]
theorem bl_getD (s : ByteArray) (k : Nat) : (bl s).getD k 0 = bAt s k := by
  unfold bl bAt
  rw [List.getD_eq_getElem?_getD, List.getD_eq_getElem?_getD, List.getElem?_map]
  cases s.data.toList[k]? <;> rfl
theorem bl_get (s : ByteArray) (k : Nat) (h : k < s.size) : (bl s)[k]'(by rw [bl_length]; exact h) = ((s[k]'h).toNat : Int) := by
  rw [← bAt_of s k h, ← bl_getD, List.getD_eq_getElem?_getD, List.getElem?_eq_getElem (by rw [bl_length]; exact h)]
  rfl
theorem bl_take_succ (s : ByteArray) (k : Nat) (h : k < s.size) : (bl s).take (k + 1) = (bl s).take k ++ [((s[k]'h).toNat : Int)] := by
  rw [List.take_succ_eq_append_getElem (by rw [bl_length]; exact h), bl_get s k h]

/-! ### what a slice of bytes reads as -/
/-- The bytes xs lie from the address on. -/
def Rd (w : World) (ao : Option Addr) (xs : List Int) : Prop :=
  ∀ j, j < xs.length → ∃ b off, ao = some ⟨b, off, none⟩ ∧ w.cell? ⟨b, off + j, none⟩ = some (.int .u8 (xs.getD j 0))
theorem Rd.nil (w : World) (ao : Option Addr) : Rd w ao [] := fun j h => absurd h (by simp)
theorem Rd.at {w : World} {ao : Option Addr} {xs : List Int} (h : Rd w ao xs) (hn : 0 < xs.length) :
    ∃ b off, ao = some ⟨b, off, none⟩ ∧ ∀ j, j < xs.length → w.cell? ⟨b, off + j, none⟩ = some (.int .u8 (xs.getD j 0)) := by
  obtain ⟨b, off, rfl, _⟩ := h 0 hn
  refine ⟨b, off, rfl, fun j hj => ?_⟩
  obtain ⟨b', off', e, c⟩ := h j hj
  cases e
  exact c
theorem Rd.of {w : World} {b off : Nat} {xs : List Int} (h : ∀ j, j < xs.length → w.cell? ⟨b, off + j, none⟩ = some (.int .u8 (xs.getD j 0))) : Rd w (some ⟨b, off, none⟩) xs :=
  fun j hj => ⟨b, off, rfl, h j hj⟩
theorem Rd.below {w w' : World} {ao : Option Addr} {xs : List Int} (h : Rd w ao xs) (k : Below w.heap.size w w') : Rd w' ao xs := fun j hj => by
  obtain ⟨b, off, e, c⟩ := h j hj
  exact ⟨b, off, e, (k.cell (p := ⟨b, off + j, none⟩) (block_lt_of_cell c)).trans c⟩
theorem Rd.take {w : World} {ao : Option Addr} {xs : List Int} (h : Rd w ao xs) (n : Nat) : Rd w ao (xs.take n) := fun j hj => by
  rw [List.length_take] at hj
  obtain ⟨b, off, e, c⟩ := h j (by omega)
  refine ⟨b, off, e, ?_⟩
  rw [c, List.getD_eq_getElem?_getD, List.getD_eq_getElem?_getD, List.getElem?_take, if_pos (by omega)]
theorem Rd.drop {w : World} {b off : Nat} {xs : List Int} (h : Rd w (some ⟨b, off, none⟩) xs) (n : Nat) : Rd w (some ⟨b, off + n, none⟩) (xs.drop n) := fun j hj => by
  rw [List.length_drop] at hj
  obtain ⟨b', off', e, c⟩ := h (n + j) (by omega)
  cases e
  refine ⟨b, off + n, rfl, ?_⟩
  rw [Nat.add_assoc, c, List.getD_eq_getElem?_getD, List.getD_eq_getElem?_getD, List.getElem?_drop]

/-! ### append -/
/-- What may be appended to: a row of the call's own (its block is B or higher), or a full slice ('cap' is its length), which is never written. -/
def Mine (w : World) (B : Nat) (v : Value) (xs : List Int) : Prop :=
  w.ownsRow B 5 1 v xs.length (xs.map (Value.int .u8)) ∨ ∃ ao, v = .slice ao xs.length xs.length ∧ (ao = none → xs = []) ∧ Rd w ao xs
theorem Mine.own {w : World} {B : Nat} {v : Value} {xs : List Int} (h : w.ownsRow B 5 1 v xs.length (xs.map (Value.int .u8))) : Mine w B v xs := .inl h
theorem Mine.full {w : World} {B : Nat} {ao : Option Addr} {xs : List Int} (h : ao = none → xs = []) (r : Rd w ao xs) : Mine w B (.slice ao xs.length xs.length) xs := .inr ⟨ao, rfl, h, r⟩

theorem Below.alloc_self (w : World) (o : Obj) : Below w.heap.size w (w.alloc o) := (Below.refl _ _).alloc (Nat.le_refl _) o
theorem Mine.alloc {w : World} {B : Nat} {v : Value} {xs : List Int} (h : Mine w B v xs) (o : Obj) : Mine (w.alloc o) B v xs := by
  rcases h with h | ⟨ao, e, n, r⟩
  · exact .inl (h.alloc o)
  · exact .inr ⟨ao, e, n, r.below (Below.alloc_self w o)⟩

theorem ownsRow_mono {w : World} {B B' : Nat} {e : TypeId} {size : Nat} {v : Value} {n : Nat} {xs : List Value} (h : w.ownsRow B e size v n xs) (hB : B' ≤ B) : w.ownsRow B' e size v n xs := by
  refine ⟨h.1, ?_⟩
  rcases h.2 with q | ⟨g, cap, cur, e1, e2, rest⟩
  · exact .inl q
  · exact .inr ⟨g, cap, cur, e1, Nat.le_trans hB e2, rest⟩

/-- What it reads as, and its shape. -/
theorem Mine.shape {w : World} {B : Nat} {v : Value} {xs : List Int} (h : Mine w B v xs) (hx : xs.length ≤ maxLen) :
    ∃ ao cap, v = .slice ao xs.length cap ∧ xs.length ≤ cap ∧ cap ≤ maxLen ∧ (ao = none → cap = 0) ∧ Rd w ao xs := by
  rcases h with h | ⟨ao, rfl, n, r⟩
  · rcases h.2 with ⟨rfl, hl⟩ | ⟨g, cap, cur, rfl, hb, hg, hn, hc, hs, ht⟩
    · obtain rfl : xs = [] := List.eq_nil_of_length_eq_zero hl
      exact ⟨none, 0, rfl, Nat.le_refl _, Nat.zero_le _, (fun _ => rfl), Rd.nil _ _⟩
    · refine ⟨some ⟨g, 0, none⟩, cap, rfl, hn, hc, (fun q => by cases q), Rd.of fun j hj => ?_⟩
      have c := World.ownsRow.cellAt (g := g) (cap := cap) h j (by omega)
      rw [Nat.zero_add, c, List.getElem?_map, List.getD_eq_getElem?_getD, List.getElem?_eq_getElem hj]
      rfl
  · exact ⟨ao, xs.length, rfl, Nat.le_refl _, hx, (fun q => by rw [n q]; rfl), r⟩

/-- 'append(v, c)' of one byte. -/
theorem wpList_append_mine {P : Program} (w : World) {ops : Array Oper} {rest : List Oper} {o : Oper} {a : Act} {Q : Exit → Act → World → Prop}
    (hg : o.guard = none) (s x : Operand) (t : TypeId) (hop : o.op = Op.call { callee := Callee.builtin Builtin.append, args := #[s, x], argTypes := #[t, t] })
    (i : TypeInfo) (h1 : P.underlying t = some (.slice 5)) (h2 : P.info? 5 = some i) (h3 : i.zero = some (.int .u8 0)) (h4 : i.size = 1) (h5 : i.bytes = 1)
    (B : Nat) (v : Value) (xs : List Int) (hs : a.eval s = v) (hv : Mine w B v xs)
    (ad : Addr) (c : Int) (hx : a.eval x = .slice (some ad) 1 1) (hc : w.cell? ad = some (.int .u8 c))
    (hlen : xs.length ≤ 1048576) (hB : B ≤ w.heap.size)
    (hK : ∀ v' w', w'.ownsRow B 5 1 v' (xs ++ [c]).length ((xs ++ [c]).map (Value.int .u8)) → Below B w w' → wpList P ops Q rest (a.put o.dst v') w') :
    wpList P ops Q (o :: rest) a w := by
  have hnews : ∀ j u, ([Value.int .u8 c] : List Value)[j]? = some u → w.cell? (ad.add j) = some u := by
    intro j u hu
    match j, hu with
    | 0, hu =>
      simp at hu
      subst hu
      have e : ad.add 0 = ad := by
        have hsp := World.cell?_spot hc
        obtain ⟨b, off, spot⟩ := ad
        simp at hsp
        subst hsp
        simp [Addr.add]
      rw [e]
      exact hc
    | j + 1, hu => simp at hu
  have h1c : ∀ u ∈ ([Value.int .u8 c] : List Value), u.oneCell' = true := by
    intro u hu
    simp at hu
    subst hu
    rfl
  have hout : ∀ v' w', w'.ownsRow B 5 1 v' (xs.length + 1) (xs.map (Value.int .u8) ++ [Value.int .u8 c]) → Below B w w' → wpList P ops Q rest (a.put o.dst v') w' := by
    intro v' w' ho hb
    refine hK v' w' ?_ hb
    have e1 : (xs ++ [c]).length = xs.length + 1 := by simp
    have e2 : (xs ++ [c]).map (Value.int .u8) = xs.map (Value.int .u8) ++ [Value.int .u8 c] := by simp
    rw [e1, e2]
    exact ho
  rcases hv with hv | ⟨ao, rfl, n, r⟩
  · refine wpList_append_own w hg s x t hop B 5 i (.int .u8 0) 1 1 h1 h2 h3 h4 h5 rfl (by decide) v xs.length _ hs hv ad 1 1 [.int .u8 c] hx rfl hnews h1c (by unfold maxLen; omega) (by omega) hB ?_
    intro v' w' ho hgr _
    exact hout v' w' ho ((Below.refl B w).grown hgr hB (fun k hk => (hv.lt k hk).1))
  · refine wpList_append_grows w hg s x t hop 5 i (.int .u8 0) 1 1 h1 h2 h3 h4 h5 rfl (by decide) ao xs.length xs.length (xs.map (Value.int .u8)) hs (fun q => ?_) (by simp) ?_ ad 1 1 [.int .u8 c] hx rfl hnews h1c (by omega) (by unfold maxLen; omega) (by omega) ?_
    · rw [n q]; exact ⟨rfl, rfl⟩
    · intro b hb j u hu
      have hj : j < xs.length := by
        have := (List.getElem?_eq_some_iff.1 hu).1
        simpa using this
      obtain ⟨b', off', e, cc⟩ := r j hj
      rw [e] at hb
      cases hb
      rw [Addr.add_lit, cc, List.getD_eq_getElem?_getD]
      rw [List.getElem?_map, List.getElem?_eq_getElem hj] at hu
      rw [List.getElem?_eq_getElem hj]
      exact hu
    · intro v' w' ho hgr
      exact hout v' w' (ownsRow_mono ho hB) ((Below.refl B w).grown hgr hB (fun k hk => by cases hk))

end Go.Proofs.Qxb6603810a
