/-
  THE PLAIN MATHEMATICS of LawS0136BOwner: widths, their sums, who owns a column. No Go in sight.
-/
namespace Go.Proofs.Ybulkbug

def wdN (z : Int) : Nat := 1 + (z % 4).toNat
def totN (zs : List Int) : Nat → Nat
  | 0 => 0
  | k + 1 => totN zs k + wdN (zs.getD k 0)
def own (zs : List Int) : Nat → List Int
  | 0 => []
  | k + 1 => own zs k ++ List.replicate (wdN (zs.getD k 0)) (k : Int)
def offs (zs : List Int) : Nat → List Int
  | 0 => []
  | k + 1 => offs zs k ++ [(totN zs k : Int)]

theorem wdN_int (z : Int) : (1 + z % 4 : Int) = (wdN z : Int) := by unfold wdN; omega
theorem wdN_pos (z : Int) : 1 ≤ wdN z := by unfold wdN; omega
theorem wdN_le (z : Int) : wdN z ≤ 4 := by unfold wdN; omega
theorem totN_succ (zs : List Int) (k : Nat) : totN zs (k + 1) = totN zs k + wdN (zs.getD k 0) := rfl
theorem totN_le (zs : List Int) (k : Nat) : totN zs k ≤ 4 * k := by
  induction k with
  | zero => simp [totN]
  | succ k ih => rw [totN_succ]; have := wdN_le (zs.getD k 0); omega
theorem totN_ge (zs : List Int) (k : Nat) : k ≤ totN zs k := by
  induction k with
  | zero => simp
  | succ k ih => rw [totN_succ]; have := wdN_pos (zs.getD k 0); omega
theorem totN_mono (zs : List Int) {j k : Nat} (h : j ≤ k) : totN zs j ≤ totN zs k := by
  induction k with
  | zero => rw [Nat.le_zero.1 h]; exact Nat.le_refl _
  | succ k ih =>
    by_cases e : j = k + 1
    · subst e; exact Nat.le_refl _
    · have := ih (by omega); rw [totN_succ]; omega
theorem own_length (zs : List Int) (k : Nat) : (own zs k).length = totN zs k := by
  induction k with
  | zero => rfl
  | succ k ih => simp [own, totN, ih]
theorem offs_length (zs : List Int) (k : Nat) : (offs zs k).length = k := by
  induction k with
  | zero => rfl
  | succ k ih => simp [offs, ih]
theorem offs_get (zs : List Int) (k j : Nat) (h : j < k) : (offs zs k)[j]? = some (totN zs j : Int) := by
  induction k with
  | zero => omega
  | succ k ih =>
    simp only [offs]
    by_cases e : j < k
    · rw [List.getElem?_append_left (by rw [offs_length]; exact e)]; exact ih e
    · have : j = k := by omega
      subst this
      rw [List.getElem?_append_right (by rw [offs_length]; exact Nat.le_refl _), offs_length]
      simp
theorem own_get (zs : List Int) (k j col : Nat) (h : j < k) (h1 : totN zs j ≤ col) (h2 : col < totN zs (j + 1)) : (own zs k)[col]? = some (j : Int) := by
  induction k with
  | zero => omega
  | succ k ih =>
    simp only [own]
    by_cases e : j < k
    · have := totN_mono zs (show j + 1 ≤ k by omega)
      rw [List.getElem?_append_left (by rw [own_length]; omega)]; exact ih e
    · have : j = k := by omega
      subst this
      rw [totN_succ] at h2
      rw [List.getElem?_append_right (by rw [own_length]; exact h1), own_length, List.getElem?_replicate, if_pos (by omega)]

/-- What the search loop has found behind k inputs. -/
def Found (zs : List Int) (col : Nat) (k : Nat) (ow of_ : Int) : Prop :=
  (∃ j, j < k ∧ ow = (j : Int) ∧ of_ = (totN zs j : Int) ∧ totN zs j ≤ col ∧ col < totN zs (j + 1)) ∨ (totN zs k ≤ col ∧ ow = -1 ∧ of_ = 0)
theorem found_zero (zs : List Int) (col : Nat) : Found zs col 0 (-1) 0 := .inr ⟨by simp [totN], rfl, rfl⟩
theorem found_hit (zs : List Int) (col k : Nat) (h1 : totN zs k ≤ col) (h2 : col < totN zs (k + 1)) : Found zs col (k + 1) k (totN zs k) := .inl ⟨k, by omega, rfl, rfl, h1, h2⟩
theorem found_miss (zs : List Int) (col k : Nat) (h1 : totN zs (k + 1) ≤ col) : Found zs col (k + 1) (-1) 0 := .inr ⟨h1, rfl, rfl⟩
theorem found_keep (zs : List Int) (col k : Nat) {ow of_ : Int} (h : ∃ j, j < k ∧ ow = (j : Int) ∧ of_ = (totN zs j : Int) ∧ totN zs j ≤ col ∧ col < totN zs (j + 1)) : Found zs col (k + 1) ow of_ := by
  obtain ⟨j, h1, h2⟩ := h
  exact .inl ⟨j, by omega, h2⟩
end Go.Proofs.Ybulkbug
