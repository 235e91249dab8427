import Derived.Test.YbulkblcE
import Derived.Test.YbulkblcF
import Derived.Test.YbulkblcG
namespace Go.Proofs.Ybulkblc
open Go.RowKit

/-- The big.Int at block x stands for n; all of it lies below B. -/
def IsInt (B : Nat) (w : World) (x : Nat) (n : Int) : Prop :=
  x < B ∧ (∃ cs, w.heap[x]? = some (.cells cs 42 (0, 0))) ∧ w.cell? ⟨x, 0, none⟩ = some (.bool (decide (n < 0))) ∧ ∃ a l c, w.cell? ⟨x, 1, none⟩ = some (.slice a l c) ∧ IsNat B w a l c (n.natAbs : Int)

theorem IsInt.below {B : Nat} {w w' : World} {x : Nat} {n : Int} (h : IsInt B w x n) (hb : Below B w w') : IsInt B w' x n := by
  obtain ⟨h1, h2, h3, a, l, c, h4, h5⟩ := h
  exact ⟨h1, by rw [hb.block x h1]; exact h2, by rw [hb.cell (p := ⟨x, 0, none⟩) h1]; exact h3, a, l, c, by rw [hb.cell (p := ⟨x, 1, none⟩) h1]; exact h4, h5.below hb⟩
theorem IsInt.mono {B B' : Nat} {w : World} {x : Nat} {n : Int} (h : IsInt B w x n) (hb : B ≤ B') : IsInt B' w x n := by
  obtain ⟨h1, h2, h3, a, l, c, h4, h5⟩ := h
  exact ⟨by omega, h2, h3, a, l, c, h4, h5.mono hb⟩

/-- Int.Sub at a new z: z becomes m - n. -/
theorem Sub_any (w : World) (z x y : Nat) (m n : Int) (hz : z < w.heap.size) (z0 : w.cell? ⟨z, 0, none⟩ = some (.bool false)) (z1 : w.cell? ⟨z, 1, none⟩ = some (.slice none 0 0)) (f0 : w.frozen? ⟨z, 0, none⟩ = false) (f1 : w.frozen? ⟨z, 1, none⟩ = false)
    (zb : ∃ cs, w.heap[z]? = some (.cells cs 42 (0, 0))) (hx : IsInt z w x m) (hy : IsInt z w y n) (hm1 : -9223372036854775808 ≤ m) (hm2 : m ≤ 9223372036854775807) (hn1 : -9223372036854775808 ≤ n) (hn2 : n ≤ 9223372036854775807) :
    Calls Yba.prog 14 #[.pointer (some ⟨z, 0, none⟩), .pointer (some ⟨x, 0, none⟩), .pointer (some ⟨y, 0, none⟩)] w fun e w' => e = .returned (.pointer (some ⟨z, 0, none⟩)) ∧
      ∃ b, Left0 w w' z b ((m - n).natAbs : Int) := by
  obtain ⟨h1, -, h3, a1, l1, c1, h4, h5⟩ := hx
  obtain ⟨k1, -, k3, a2, l2, c2, k4, k5⟩ := hy
  by_cases em : m < 0
  · by_cases en : n < 0
    · rw [decide_eq_true em] at h3
      rw [decide_eq_true en] at k3
      by_cases hl : (n.natAbs : Int) ≤ (m.natAbs : Int)
      · refine (Sub_ge w z x y true a1 a2 l1 c1 l2 c2 _ _ h1 k1 hz z0 z1 f0 f1 zb h3 h4 k3 k4 h5 k5 hl).mono ?_
        rintro e w' ⟨rfl, h⟩
        exact ⟨rfl, _, by rw [show ((m - n).natAbs : Int) = (m.natAbs : Int) - (n.natAbs : Int) by omega]; exact h⟩
      · refine (Sub_lt w z x y true a1 a2 l1 c1 l2 c2 _ _ h1 k1 hz z0 z1 f0 f1 zb h3 h4 k3 k4 h5 k5 (by omega)).mono ?_
        rintro e w' ⟨rfl, h⟩
        exact ⟨rfl, _, by rw [show ((m - n).natAbs : Int) = (n.natAbs : Int) - (m.natAbs : Int) by omega]; exact h⟩
    · rw [decide_eq_true em] at h3
      rw [decide_eq_false en] at k3
      refine (Sub_diff w z x y true a1 a2 l1 c1 l2 c2 _ _ h1 k1 hz z0 z1 f0 f1 zb h3 h4 k3 k4 h5 k5 (by omega) (by omega)).mono ?_
      rintro e w' ⟨rfl, h⟩
      exact ⟨rfl, _, by rw [show ((m - n).natAbs : Int) = (m.natAbs : Int) + (n.natAbs : Int) by omega]; exact h⟩
  · by_cases en : n < 0
    · rw [decide_eq_false em] at h3
      rw [decide_eq_true en] at k3
      refine (Sub_diff w z x y false a1 a2 l1 c1 l2 c2 _ _ h1 k1 hz z0 z1 f0 f1 zb h3 h4 k3 k4 h5 k5 (by omega) (by omega)).mono ?_
      rintro e w' ⟨rfl, h⟩
      exact ⟨rfl, _, by rw [show ((m - n).natAbs : Int) = (m.natAbs : Int) + (n.natAbs : Int) by omega]; exact h⟩
    · rw [decide_eq_false em] at h3
      rw [decide_eq_false en] at k3
      by_cases hl : (n.natAbs : Int) ≤ (m.natAbs : Int)
      · refine (Sub_ge w z x y false a1 a2 l1 c1 l2 c2 _ _ h1 k1 hz z0 z1 f0 f1 zb h3 h4 k3 k4 h5 k5 hl).mono ?_
        rintro e w' ⟨rfl, h⟩
        exact ⟨rfl, _, by rw [show ((m - n).natAbs : Int) = (m.natAbs : Int) - (n.natAbs : Int) by omega]; exact h⟩
      · refine (Sub_lt w z x y false a1 a2 l1 c1 l2 c2 _ _ h1 k1 hz z0 z1 f0 f1 zb h3 h4 k3 k4 h5 k5 (by omega)).mono ?_
        rintro e w' ⟨rfl, h⟩
        exact ⟨rfl, _, by rw [show ((m - n).natAbs : Int) = (n.natAbs : Int) - (m.natAbs : Int) by omega]; exact h⟩

/-- Int.Cmp: the first is not negative. -/
theorem Cmp_any (B : Nat) (w : World) (x y : Nat) (hxy : x ≠ y) (M t : Int) (hM : 0 ≤ M) (xb : ∃ cs, w.heap[x]? = some (.cells cs 42 (0, 0))) (x0 : w.cell? ⟨x, 0, none⟩ = some (.bool false)) (x1 : ∃ a l c, w.cell? ⟨x, 1, none⟩ = some (.slice a l c) ∧ IsNat B w a l c M) (hy : IsInt B w y t) :
    Calls Yba.prog 16 #[.pointer (some ⟨x, 0, none⟩), .pointer (some ⟨y, 0, none⟩)] w fun e w' => e = .returned (.int .i64 (cmpZ M t)) ∧ ∃ n, w' = w.drewN n := by
  obtain ⟨cx, hx⟩ := xb
  obtain ⟨a1, l1, c1, h4, h5⟩ := x1
  obtain ⟨-, ⟨cy, k2⟩, k3, a2, l2, c2, k4, k5⟩ := hy
  by_cases et : t < 0
  · rw [decide_eq_true et] at k3
    have e : cmpZ M t = 1 := by unfold cmpZ; rw [if_neg (by omega), if_pos (by omega)]
    rw [e]
    exact Cmp_neg w x y hxy cx cy 42 42 hx k2 x0 k3
  · rw [decide_eq_false et] at k3
    have e : (t.natAbs : Int) = t := by omega
    rw [e] at k5
    exact Cmp_pos B w x y hxy cx cy 42 42 hx k2 a1 a2 l1 c1 l2 c2 M t x0 k3 h4 k4 h5 k5
end Go.Proofs.Ybulkblc
