import Derived.Test.YbulkblcI
namespace Go.Proofs.Ybulkblc
open Go.RowKit

set_option maxHeartbeats 400000 in
theorem low64_0 (a : Option Addr) (c : Nat) (w : World) :
    Calls Yba.prog 17 #[.slice a 0 c] w fun e w' => e = .returned (.int .u64 0) ∧ w' = w := by
  go_enter Yba.func17, Yba.ntmps17
  go_wp2
  go_ret
  exact ⟨rfl, rfl⟩
set_option maxHeartbeats 400000 in
theorem low64_1 (b c : Nat) (m : Int) (w : World) (h : w.cell? ⟨b, 0, none⟩ = some (.int .u64 m)) :
    Calls Yba.prog 17 #[.slice (some ⟨b, 0, none⟩) 1 c] w fun e w' => e = .returned (.int .u64 m) ∧ w' = w := by
  go_enter Yba.func17, Yba.ntmps17
  go_wp2
  go_ret
  exact ⟨rfl, rfl⟩
theorem low64_any {B : Nat} {w : World} {a : Option Addr} {l c : Nat} {m : Int} (h : IsNat B w a l c m) :
    Calls Yba.prog 17 #[.slice a l c] w fun e w' => e = .returned (.int .u64 m) ∧ w' = w := by
  rcases h with ⟨rfl, rfl⟩ | ⟨p1, q1, rfl, k1, b1, rfl, r1, s1⟩
  · exact low64_0 _ _ _
  · exact low64_1 _ _ _ _ s1

set_option maxHeartbeats 400000 in
theorem Int64_pos (B : Nat) (w : World) (x : Nat) (a : Option Addr) (l c : Nat) (m : Int) (x0 : w.cell? ⟨x, 0, none⟩ = some (.bool false)) (x1 : w.cell? ⟨x, 1, none⟩ = some (.slice a l c)) (h : IsNat B w a l c m) (h0 : 0 ≤ m) (h1 : m ≤ 4294967296) :
    Calls Yba.prog 7 #[.pointer (some ⟨x, 0, none⟩)] w fun e w' => e = .returned (.int .i64 m) ∧ w' = w := by
  go_enter Yba.func7, Yba.ntmps7
  go_wp2_with (go_at_call 17; refine (low64_any h).mono ?_; rintro e w' ⟨rfl, rfl⟩)
  go_ret
  exact ⟨rfl, rfl⟩
set_option maxHeartbeats 400000 in
theorem Int64_neg (B : Nat) (w : World) (x : Nat) (a : Option Addr) (l c : Nat) (m : Int) (x0 : w.cell? ⟨x, 0, none⟩ = some (.bool true)) (x1 : w.cell? ⟨x, 1, none⟩ = some (.slice a l c)) (h : IsNat B w a l c m) (h0 : 0 ≤ m) (h1 : m ≤ 4294967296) :
    Calls Yba.prog 7 #[.pointer (some ⟨x, 0, none⟩)] w fun e w' => e = .returned (.int .i64 (-m)) ∧ w' = w := by
  go_enter Yba.func7, Yba.ntmps7
  go_wp2_with (go_at_call 17; refine (low64_any h).mono ?_; rintro e w' ⟨rfl, rfl⟩)
  go_ret
  exact ⟨rfl, rfl⟩
theorem Int64_any (B : Nat) (w : World) (x : Nat) (n : Int) (h : IsInt B w x n) (h0 : -2147483648 ≤ n) (h1 : n ≤ 2147483647) :
    Calls Yba.prog 7 #[.pointer (some ⟨x, 0, none⟩)] w fun e w' => e = .returned (.int .i64 n) ∧ w' = w := by
  obtain ⟨-, -, k3, a2, l2, c2, k4, k5⟩ := h
  by_cases hn : n < 0
  · rw [decide_eq_true hn] at k3
    have := Int64_neg B w x a2 l2 c2 _ k3 k4 k5 (by omega) (by omega)
    rw [show -(n.natAbs : Int) = n by omega] at this
    exact this
  · rw [decide_eq_false hn] at k3
    have := Int64_pos B w x a2 l2 c2 _ k3 k4 k5 (by omega) (by omega)
    rw [show (n.natAbs : Int) = n by omega] at this
    exact this

set_option maxHeartbeats 400000 in
/-- Rule.volumeMoved where no volume is weighed. -/
theorem vm_nil (w : World) (p c : Nat) :
    Calls Yba.prog 6 #[.agg #[.pointer none, .pointer none, .pointer none], .agg (rateV p), .agg (rateV c)] w fun e w' => e = .returned (.bool false) ∧ Below w.heap.size w w' := by
  unfold rateV
  go_enter Yba.func6, Yba.ntmps6
  go_wp2
  go_ret
  exact ⟨rfl, ((((Below.refl _ _).alloc (Nat.le_refl _) _).alloc (by simp) _).alloc (by simp; omega) _)⟩
end Go.Proofs.Ybulkblc
