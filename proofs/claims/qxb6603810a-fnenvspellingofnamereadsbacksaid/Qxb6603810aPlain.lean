/-
  THE PLAIN LAWS OF SEAT b6603810a: bytes as integers, no Go in sight.
-/
namespace Go.Proofs.Qxb6603810a

/-- The k-th byte of a string, as a number (0 beyond its end). -/
def bAt (s : ByteArray) (k : Nat) : Int := ((s.data.toList.getD k 0).toNat : Int)

theorem bAt_of (s : ByteArray) (k : Nat) (h : k < s.size) : bAt s k = ((s[k]'h).toNat : Int) := by
  unfold bAt
  have h' : k < s.data.toList.length := by simpa using h
  rw [List.getD_eq_getElem?_getD, List.getElem?_eq_getElem h']
  rfl

theorem bAt_le (s : ByteArray) (k : Nat) : 0 ≤ bAt s k ∧ bAt s k ≤ 255 := by
  unfold bAt
  have := (s.data.toList.getD k 0).toNat_lt
  omega

/-! ### names -/
def okc (x : Int) : Prop := (97 ≤ x ∧ x ≤ 122) ∨ (48 ≤ x ∧ x ≤ 57) ∨ x = 45
def lod (x : Int) : Prop := (97 ≤ x ∧ x ≤ 122) ∨ (48 ≤ x ∧ x ≤ 57)
def good (c : Nat → Int) (i : Nat) : Prop := okc (c i) ∧ ¬ (c i = 45 ∧ c (i - 1) = 45)
def allGood (c : Nat → Int) (k : Nat) : Prop := ∀ i, 1 ≤ i → i < k → good c i
def nameP (c : Nat → Int) (n : Nat) : Prop := 0 < n ∧ 97 ≤ c 0 ∧ c 0 ≤ 122 ∧ c (n - 1) ≠ 45 ∧ allGood c n

theorem allGood_one (c : Nat → Int) : allGood c 1 := fun i h1 h2 => by omega
theorem allGood_succ {c : Nat → Int} {k : Nat} (h : allGood c k) (g : good c k) : allGood c (k + 1) := fun i h1 h2 => by
  by_cases e : i = k
  · subst e; exact g
  · exact h i h1 (by omega)
theorem not_name_of_bad {c : Nat → Int} {n k : Nat} (h1 : 1 ≤ k) (h2 : k < n) (g : ¬ good c k) : ¬ nameP c n := fun h => g (h.2.2.2.2 k h1 h2)

/-- What the outer loop knows at a segment's start. -/
def segAt (c : Nat → Int) (n a : Nat) : Prop := a ≤ n ∧ (0 < a → c (a - 1) = 45) ∧ allGood c a
/-- No hyphen from a up to e. -/
def noHy (c : Nat → Int) (a e : Nat) : Prop := ∀ i, a ≤ i → i < e → c i ≠ 45
/-- Letters and digits from a up to e. -/
def allLod (c : Nat → Int) (a e : Nat) : Prop := ∀ i, a ≤ i → i < e → lod (c i)

theorem segAt_zero (c : Nat → Int) (n : Nat) : segAt c n 0 := ⟨Nat.zero_le _, fun h => absurd h (by omega), fun i h1 h2 => by omega⟩
theorem noHy_nil (c : Nat → Int) (a : Nat) : noHy c a a := fun i h1 h2 => by omega
theorem noHy_succ {c : Nat → Int} {a e : Nat} (h : noHy c a e) (x : c e ≠ 45) : noHy c a (e + 1) := fun i h1 h2 => by
  by_cases q : i = e
  · subst q; exact x
  · exact h i h1 (by omega)
theorem allLod_nil (c : Nat → Int) (a : Nat) : allLod c a a := fun i h1 h2 => by omega
theorem allLod_succ {c : Nat → Int} {a e : Nat} (h : allLod c a e) (x : lod (c e)) : allLod c a (e + 1) := fun i h1 h2 => by
  by_cases q : i = e
  · subst q; exact x
  · exact h i h1 (by omega)

theorem seg_empty_end {c : Nat → Int} {n a : Nat} (hn : 0 < n) (h : segAt c n a) (e : a = n) : ¬ nameP c n := fun hp => by
  subst e
  exact hp.2.2.2.1 (h.2.1 hn)
theorem seg_empty_hy {c : Nat → Int} {n a : Nat} (h0 : 97 ≤ c 0) (h : segAt c n a) (ha : a < n) (e : c a = 45) : ¬ nameP c n := fun hp => by
  have hz : 0 < a := by
    rcases Nat.eq_zero_or_pos a with q | q
    · subst q; omega
    · exact q
  exact (hp.2.2.2.2 a hz ha).2 ⟨e, h.2.1 hz⟩
theorem seg_bad {c : Nat → Int} {n a e j : Nat} (h0 : 97 ≤ c 0) (h0' : c 0 ≤ 122) (he : e ≤ n) (hy : noHy c a e) (ha : a ≤ j) (hj : j < e) (b : ¬ lod (c j)) : ¬ nameP c n := fun hp => by
  rcases Nat.eq_zero_or_pos j with q | q
  · subst q; exact b (Or.inl ⟨h0, h0'⟩)
  · have g := (hp.2.2.2.2 j q (by omega)).1
    have y := hy j ha hj
    unfold okc at g
    unfold lod at b
    omega
theorem good_of_lod {c : Nat → Int} {i : Nat} (h : lod (c i)) : good c i := by
  unfold lod at h
  exact ⟨by unfold okc; omega, by omega⟩
theorem seg_done {c : Nat → Int} {n a : Nat} (h0 : 97 ≤ c 0) (h0' : c 0 ≤ 122) (hn : 0 < n) (h : segAt c n a) (ha : a < n) (hy : noHy c a n) (l : allLod c a n) : nameP c n := by
  refine ⟨hn, h0, h0', hy (n - 1) (by omega) (by omega), fun i h1 h2 => ?_⟩
  by_cases q : i < a
  · exact h.2.2 i h1 q
  · exact good_of_lod (l i (by omega) h2)
theorem seg_next {c : Nat → Int} {n a e : Nat} (h : segAt c n a) (ha : a < e) (he : e < n) (hy : noHy c a e) (l : allLod c a e) (x : c e = 45) : segAt c n (e + 1) := by
  refine ⟨by omega, fun _ => by simpa using x, fun i h1 h2 => ?_⟩
  by_cases q : i < a
  · exact h.2.2 i h1 q
  · by_cases r : i < e
    · exact good_of_lod (l i (by omega) r)
    · obtain rfl : i = e := by omega
      exact ⟨Or.inr (Or.inr x), fun t => hy (i - 1) (by omega) (by omega) t.2⟩

/-! ### shell names -/
def shOk (x : Int) (i : Nat) : Prop := (65 ≤ x ∧ x ≤ 90) ∨ (97 ≤ x ∧ x ≤ 122) ∨ x = 95 ∨ (48 ≤ x ∧ x ≤ 57 ∧ 0 < i)
def shUp (c : Nat → Int) (k : Nat) : Prop := ∀ i, i < k → shOk (c i) i
theorem shUp_zero (c : Nat → Int) : shUp c 0 := fun i h => by omega
theorem shUp_succ {c : Nat → Int} {k : Nat} (h : shUp c k) (x : shOk (c k) k) : shUp c (k + 1) := fun i hi => by
  by_cases q : i = k
  · subst q; exact x
  · exact h i (by omega)
theorem not_shUp {c : Nat → Int} {k n : Nat} (hk : k < n) (x : ¬ shOk (c k) k) : ¬ shUp c n := fun h => x (h k hk)

/-- The place of a byte in the alphabet. -/
def alphaIdx (x : Int) : Int :=
  if 65 ≤ x ∧ x ≤ 90 then x - 65 else if 97 ≤ x ∧ x ≤ 122 then x - 71 else if x = 95 then 52 else if 48 ≤ x ∧ x ≤ 57 then x + 5 else -1
def alphaAt (k : Nat) : Int := if k < 26 then 65 + k else if k < 52 then 71 + k else if k = 52 then 95 else (k : Int) - 5
theorem alphaIdx_at (k : Nat) (h : k < 63) : alphaIdx (alphaAt k) = k := by
  unfold alphaAt alphaIdx
  (repeat' split) <;> omega
theorem alphaIdx_none (x : Int) (h : ∀ k, k < 63 → alphaAt k ≠ x) : alphaIdx x = -1 := by
  unfold alphaIdx
  have g : ∀ k : Nat, k < 63 → (if k < 26 then 65 + (k : Int) else if k < 52 then 71 + (k : Int) else if k = 52 then 95 else (k : Int) - 5) ≠ x := h
  by_cases h1 : 65 ≤ x ∧ x ≤ 90
  · have := g (x - 65).toNat (by omega)
    rw [if_pos (by omega)] at this
    omega
  rw [if_neg h1]
  by_cases h2 : 97 ≤ x ∧ x ≤ 122
  · have := g (x - 71).toNat (by omega)
    rw [if_neg (by omega), if_pos (by omega)] at this
    omega
  rw [if_neg h2]
  by_cases h3 : x = 95
  · have := g 52 (by omega)
    simp at this
    omega
  rw [if_neg h3]
  by_cases h4 : 48 ≤ x ∧ x ≤ 57
  · have := g (x + 5).toNat (by omega)
    rw [if_neg (by omega), if_neg (by omega), if_neg (by omega)] at this
    omega
  rw [if_neg h4]
theorem alphaIdx_bd (x : Int) : -1 ≤ alphaIdx x ∧ alphaIdx x ≤ 62 := by
  unfold alphaIdx
  (repeat' split) <;> omega
theorem alphaIdx_starter (x : Int) : (0 ≤ alphaIdx x ∧ alphaIdx x < 53) ↔ shOk x 0 := by
  unfold alphaIdx shOk
  (repeat' split) <;> constructor <;> intro h <;> omega
theorem alphaIdx_in (x : Int) (i : Nat) (hi : 0 < i) : 0 ≤ alphaIdx x ↔ shOk x i := by
  unfold alphaIdx shOk
  (repeat' split) <;> constructor <;> intro h <;> omega

end Go.Proofs.Qxb6603810a
