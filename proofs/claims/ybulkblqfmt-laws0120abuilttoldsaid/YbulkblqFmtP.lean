import Derived.Test.YbulkblqFmtFacts
/-! The plain side of the four layout rules. -/
namespace Go.Proofs.YbulkblqFmt

def anyUpto (p : Nat → Bool) : Nat → Bool
  | 0 => false
  | k + 1 => anyUpto p k || p k

theorem anyUpto_hit {p : Nat → Bool} {i : Nat} (h : p i = true) : ∀ {m : Nat}, i < m → anyUpto p m = true
  | 0, hi => by omega
  | m + 1, hi => by
    unfold anyUpto
    by_cases e : i = m
    · subst e; simp [h]
    · rw [anyUpto_hit h (show i < m by omega)]; rfl

theorem anyUpto_keep {p : Nat → Bool} {k : Nat} (h : anyUpto p k = false) (hk : p k = false) : anyUpto p (k + 1) = false := by
  unfold anyUpto; rw [h, hk]; rfl

/-- The last index below k that 'nn' lets by, or -1. -/
def prevAt (nn : Nat → Bool) : Nat → Int
  | 0 => -1
  | k + 1 => if nn k then prevAt nn k else (k : Int)

theorem prevAt_cases (nn : Nat → Bool) : ∀ k, prevAt nn k = -1 ∨ ∃ j : Nat, j < k ∧ prevAt nn k = (j : Int)
  | 0 => .inl rfl
  | k + 1 => by
    unfold prevAt
    cases h : nn k with
    | true =>
      simp
      rcases prevAt_cases nn k with h1 | ⟨j, hj, h1⟩
      · exact .inl h1
      · exact .inr ⟨j, by omega, h1⟩
    | false => exact .inr ⟨k, by omega, by simp⟩

theorem prevAt_skip {nn : Nat → Bool} {k : Nat} (h : nn k = true) : prevAt nn (k + 1) = prevAt nn k := by simp [prevAt, h]
theorem prevAt_take {nn : Nat → Bool} {k : Nat} (h : nn k = false) : prevAt nn (k + 1) = (k : Int) := by simp [prevAt, h]

def noneF (of lf : Nat → Int) (i : Nat) : Bool := of i == 0 || lf i == 0
def p1 (of : Nat → Int) (fixed : Int) (i : Nat) : Bool := of i != 0 && decide (of i < fixed)
def p2 (of lf : Nat → Int) (n : Int) (i : Nat) : Bool := of i != 0 && decide (n < of i + lf i)
def p3 (of lf : Nat → Int) (i : Nat) : Bool := !noneF of lf i && decide (0 ≤ prevAt (noneF of lf) i) && decide (of i < of (prevAt (noneF of lf) i).toNat)
def p4 (of lf : Nat → Int) (i : Nat) : Bool := !noneF of lf i && decide (0 ≤ prevAt (noneF of lf) i) && decide (of i < of (prevAt (noneF of lf) i).toNat + lf (prevAt (noneF of lf) i).toNat)

def r1 : ByteArray := ⟨#[111, 102, 102, 115, 101, 116, 45, 105, 110, 45, 102, 105, 120, 101, 100, 45, 112, 97, 114, 116]⟩
def r2 : ByteArray := ⟨#[98, 101, 121, 111, 110, 100, 45, 101, 110, 100]⟩
def r3 : ByteArray := ⟨#[111, 117, 116, 45, 111, 102, 45, 111, 114, 100, 101, 114]⟩
def r4 : ByteArray := ⟨#[111, 118, 101, 114, 108, 97, 112]⟩

/-- The first rule that is broken. -/
def ruleOf (of lf : Nat → Int) (m : Nat) (fixed n : Int) : ByteArray :=
  if anyUpto (p1 of fixed) m then r1 else if anyUpto (p2 of lf n) m then r2 else if anyUpto (p3 of lf) m then r3 else if anyUpto (p4 of lf) m then r4 else ⟨#[]⟩

theorem rule1 {of lf : Nat → Int} {m i : Nat} {fixed n : Int} (hi : i < m) (h : p1 of fixed i = true) : ruleOf of lf m fixed n = r1 := by
  unfold ruleOf; rw [if_pos (anyUpto_hit h hi)]
theorem rule2 {of lf : Nat → Int} {m i : Nat} {fixed n : Int} (h1 : anyUpto (p1 of fixed) m = false) (hi : i < m) (h : p2 of lf n i = true) : ruleOf of lf m fixed n = r2 := by
  unfold ruleOf; rw [if_neg (by simp [h1]), if_pos (anyUpto_hit h hi)]
theorem rule3 {of lf : Nat → Int} {m i : Nat} {fixed n : Int} (h1 : anyUpto (p1 of fixed) m = false) (h2 : anyUpto (p2 of lf n) m = false) (hi : i < m) (h : p3 of lf i = true) : ruleOf of lf m fixed n = r3 := by
  unfold ruleOf; rw [if_neg (by simp [h1]), if_neg (by simp [h2]), if_pos (anyUpto_hit h hi)]
theorem rule4 {of lf : Nat → Int} {m i : Nat} {fixed n : Int} (h1 : anyUpto (p1 of fixed) m = false) (h2 : anyUpto (p2 of lf n) m = false) (h3 : anyUpto (p3 of lf) m = false) (hi : i < m) (h : p4 of lf i = true) : ruleOf of lf m fixed n = r4 := by
  unfold ruleOf; rw [if_neg (by simp [h1]), if_neg (by simp [h2]), if_neg (by simp [h3]), if_pos (anyUpto_hit h hi)]
theorem rule0 {of lf : Nat → Int} {m : Nat} {fixed n : Int} (h1 : anyUpto (p1 of fixed) m = false) (h2 : anyUpto (p2 of lf n) m = false) (h3 : anyUpto (p3 of lf) m = false) (h4 : anyUpto (p4 of lf) m = false) : ruleOf of lf m fixed n = ⟨#[]⟩ := by
  unfold ruleOf; rw [if_neg (by simp [h1]), if_neg (by simp [h2]), if_neg (by simp [h3]), if_neg (by simp [h4])]
end Go.Proofs.YbulkblqFmt
