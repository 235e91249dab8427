import Derived.Test.YbulkblcRows
import Derived.WalkKit
import Derived.WalkSpells
import Derived.WalkLawsBesides
import Derived.StillTactics
import Derived.Laws.Pointers
import Derived.Laws.Twins
import Derived.Shelf.Spec.BitsCarry
import Derived.Deep.RegionHeld3
import Derived.RowKit3
import Derived.BigQuiet
import Derived.Deep.QuietTactic
namespace Go.Proofs.Ybulkblc
open Go.RowKit

set_option maxHeartbeats 400000 in
theorem cmp_00 (a a' : Option Addr) (c c' : Nat) (w : World) :
    Calls Yba.prog 19 #[.slice a 0 c, .slice a' 0 c'] w fun e w' => e = .returned (.int .i64 0) ∧ ∃ n, w' = w.drewN n := by
  go_enter Yba.func19, Yba.ntmps19
  go_wp2
  go_ret
  exact ⟨rfl, 0, rfl⟩
set_option maxHeartbeats 400000 in
theorem cmp_01 (a a' : Option Addr) (c c' : Nat) (w : World) :
    Calls Yba.prog 19 #[.slice a 0 c, .slice a' 1 c'] w fun e w' => e = .returned (.int .i64 (-1)) ∧ ∃ n, w' = w.drewN n := by
  go_enter Yba.func19, Yba.ntmps19
  go_wp2
  go_ret
  exact ⟨rfl, 0, rfl⟩
set_option maxHeartbeats 400000 in
theorem cmp_10 (a a' : Option Addr) (c c' : Nat) (w : World) :
    Calls Yba.prog 19 #[.slice a 1 c, .slice a' 0 c'] w fun e w' => e = .returned (.int .i64 1) ∧ ∃ n, w' = w.drewN n := by
  go_enter Yba.func19, Yba.ntmps19
  go_wp2
  go_ret
  exact ⟨rfl, 0, rfl⟩
set_option maxHeartbeats 400000 in
theorem cmp_11_lt (b b' : Nat) (c c' : Nat) (m n : Int) (w : World) (h : w.cell? ⟨b, 0, none⟩ = some (.int .u64 m)) (h' : w.cell? ⟨b', 0, none⟩ = some (.int .u64 n)) (hlt : m < n) :
    Calls Yba.prog 19 #[.slice (some ⟨b, 0, none⟩) 1 c, .slice (some ⟨b', 0, none⟩) 1 c'] w fun e w' => e = .returned (.int .i64 (-1)) ∧ ∃ n, w' = w.drewN n := by
  go_enter Yba.func19, Yba.ntmps19
  go_wp2
  refine wp_loop_rounds 1 ?_
  rw [rounds_succ]
  go_wp2
  go_quiet (fail)
  go_wp2
  go_quiet (fail)
  go_wp2
  go_ret
  simp only [World.drewN_drewN]
  exact ⟨rfl, _, rfl⟩
set_option maxHeartbeats 400000 in
theorem cmp_11_gt (b b' : Nat) (c c' : Nat) (m n : Int) (w : World) (h : w.cell? ⟨b, 0, none⟩ = some (.int .u64 m)) (h' : w.cell? ⟨b', 0, none⟩ = some (.int .u64 n)) (hlt : n < m) :
    Calls Yba.prog 19 #[.slice (some ⟨b, 0, none⟩) 1 c, .slice (some ⟨b', 0, none⟩) 1 c'] w fun e w' => e = .returned (.int .i64 1) ∧ ∃ n, w' = w.drewN n := by
  have h1 : decide (m < n) = false := by simp; omega
  go_enter Yba.func19, Yba.ntmps19
  go_wp2
  refine wp_loop_rounds 1 ?_
  rw [rounds_succ]
  go_wp2
  go_quiet (fail)
  go_wp2
  go_quiet (fail)
  go_wp2
  go_quiet (fail)
  go_wp2
  go_ret
  simp only [World.drewN_drewN]
  exact ⟨rfl, _, rfl⟩
set_option maxHeartbeats 400000 in
theorem cmp_11_eq (b b' : Nat) (c c' : Nat) (m : Int) (w : World) (h : w.cell? ⟨b, 0, none⟩ = some (.int .u64 m)) (h' : w.cell? ⟨b', 0, none⟩ = some (.int .u64 m)) :
    Calls Yba.prog 19 #[.slice (some ⟨b, 0, none⟩) 1 c, .slice (some ⟨b', 0, none⟩) 1 c'] w fun e w' => e = .returned (.int .i64 0) ∧ ∃ n, w' = w.drewN n := by
  go_enter Yba.func19, Yba.ntmps19
  go_wp2
  refine wp_loop_rounds 1 ?_
  rw [rounds_succ]
  go_wp2
  go_quiet (fail)
  go_wp2
  go_quiet (fail)
  go_wp2
  go_quiet (fail)
  go_wp2
  go_ret
  simp only [World.drewN_drewN]
  exact ⟨rfl, _, rfl⟩

set_option maxHeartbeats 400000 in
theorem make_1 (w : World) :
    Calls Yba.prog 23 #[.slice none 0 0, .int .i64 1] w fun e w' => e = .returned (.slice (some ⟨w.heap.size, 0, none⟩) 1 1) ∧ w' = w.alloc (.cells #[.int .u64 0] 39) := by
  have hmk : ∀ w, (Instr.makeSlice 40 (.int .i64 1) (.int .i64 1)).run Yba.prog w = .ok (.slice (some ⟨w.heap.size, 0, none⟩) 1 1) (w.alloc (.cells #[.int .u64 0] 39)) := fun _ => by kernel_rfl
  go_enter Yba.func23, Yba.ntmps23
  go_wp2
  go_ret
  exact ⟨rfl, rfl⟩
set_option maxHeartbeats 400000 in
theorem make_2 (w : World) :
    Calls Yba.prog 23 #[.slice none 0 0, .int .i64 2] w fun e w' => e = .returned (.slice (some ⟨w.heap.size, 0, none⟩) 2 6) ∧ w' = w.alloc (.cells #[.int .u64 0, .int .u64 0, .int .u64 0, .int .u64 0, .int .u64 0, .int .u64 0] 39) := by
  have hmk : ∀ w, (Instr.makeSlice 40 (.int .i64 2) (.int .i64 6)).run Yba.prog w = .ok (.slice (some ⟨w.heap.size, 0, none⟩) 2 6) (w.alloc (.cells #[.int .u64 0, .int .u64 0, .int .u64 0, .int .u64 0, .int .u64 0, .int .u64 0] 39)) := fun _ => by kernel_rfl
  go_enter Yba.func23, Yba.ntmps23
  go_wp2
  go_ret
  exact ⟨rfl, rfl⟩

set_option maxHeartbeats 400000 in
theorem norm_1 (b c : Nat) (m : Int) (hc : 1 ≤ c) (w : World) (h : w.cell? ⟨b, 0, none⟩ = some (.int .u64 m)) (hm : (m == 0) = false) :
    Calls Yba.prog 26 #[.slice (some ⟨b, 0, none⟩) 1 c] w fun e w' => e = .returned (.slice (some ⟨b, 0, none⟩) 1 c) ∧ w' = w := by
  go_enter Yba.func26, Yba.ntmps26
  go_wp2
  refine wp_loop_rounds 1 ?_
  rw [rounds_succ]
  go_wp2
  go_ret
  exact ⟨rfl, rfl⟩
set_option maxHeartbeats 400000 in
theorem norm_1z (b c : Nat) (hc : 1 ≤ c) (w : World) (h : w.cell? ⟨b, 0, none⟩ = some (.int .u64 0)) :
    Calls Yba.prog 26 #[.slice (some ⟨b, 0, none⟩) 1 c] w fun e w' => e = .returned (.slice (some ⟨b, 0, none⟩) 0 c) ∧ w' = w := by
  go_enter Yba.func26, Yba.ntmps26
  go_wp2
  refine wp_loop_rounds 2 ?_
  rw [rounds_succ]
  go_wp2
  rw [rounds_succ]
  go_wp2
  go_ret
  exact ⟨rfl, rfl⟩
set_option maxHeartbeats 400000 in
theorem norm_2 (b c : Nat) (m : Int) (hc : 2 ≤ c) (w : World) (h : w.cell? ⟨b, 0, none⟩ = some (.int .u64 m)) (h' : w.cell? ⟨b, 1, none⟩ = some (.int .u64 0)) (hm : (m == 0) = false) :
    Calls Yba.prog 26 #[.slice (some ⟨b, 0, none⟩) 2 c] w fun e w' => e = .returned (.slice (some ⟨b, 0, none⟩) 1 c) ∧ w' = w := by
  go_enter Yba.func26, Yba.ntmps26
  go_wp2
  refine wp_loop_rounds 2 ?_
  rw [rounds_succ]
  go_wp2
  rw [rounds_succ]
  go_wp2
  go_ret
  exact ⟨rfl, rfl⟩

theorem add64 (x y : Int) (hx : 0 ≤ x) (hy : 0 ≤ y) (w : World) : (callFunc 32 #[.int .u64 x, .int .u64 y, .int .u64 0]).run Yba.prog w =
    .ok (.value (.tuple #[.int .u64 ((x + y) % 18446744073709551616), .int .u64 ((x + y) / 18446744073709551616)])) w := by
  rw [run_callFunc_extern Yba.func32 (by kernel_rfl) (by kernel_rfl) (by kernel_rfl) (e := add64Entry) (by kernel_rfl), run_add64 x y 0 hx hy (by omega) (by omega)]
  simp only [Result.andThen, Int.add_zero]
theorem sub64 (x y : Int) (hy : 0 ≤ y) (hxy : y ≤ x) (hx : x < 18446744073709551616) (w : World) : (callFunc 34 #[.int .u64 x, .int .u64 y, .int .u64 0]).run Yba.prog w =
    .ok (.value (.tuple #[.int .u64 (x - y), .int .u64 0])) w := by
  obtain ⟨x, rfl⟩ := Int.eq_ofNat_of_zero_le (show 0 ≤ x by omega)
  obtain ⟨y, rfl⟩ := Int.eq_ofNat_of_zero_le hy
  have e1 : (((x + 18446744073709551616 - y - 0) % 18446744073709551616 : Nat) : Int) = ((x : Int) - y) := by omega
  have e2 : ((if x < y + 0 then 1 else 0 : Nat) : Int) = 0 := by split <;> omega
  rw [run_callFunc_extern Yba.func34 (by kernel_rfl) (by kernel_rfl) (by kernel_rfl) (e := sub64Entry) (by kernel_rfl)]
  have := run_sub64 (P := Yba.prog) x y 0 (by omega) w
  rw [e1, e2] at this
  rw [show (0 : Int) = ((0 : Nat) : Int) from rfl, this]
  rfl

set_option maxHeartbeats 400000 in
theorem bitsAdd (x y : Int) (hx : 0 ≤ x) (hy : 0 ≤ y) (w : World) :
    Calls Yba.prog 27 #[.int .u64 x, .int .u64 y, .int .u64 0] w fun e w' => e = .returned (.tuple #[.int .u64 ((x + y) % 18446744073709551616), .int .u64 ((x + y) / 18446744073709551616)]) ∧ w' = w := by
  go_enter Yba.func27, Yba.ntmps27
  go_wp2_with (simp only [add64 x y hx hy])
  go_ret2
  exact ⟨rfl, rfl⟩
set_option maxHeartbeats 400000 in
theorem bitsSub (x y : Int) (hy : 0 ≤ y) (hxy : y ≤ x) (hx : x < 18446744073709551616) (w : World) :
    Calls Yba.prog 30 #[.int .u64 x, .int .u64 y, .int .u64 0] w fun e w' => e = .returned (.tuple #[.int .u64 (x - y), .int .u64 0]) ∧ w' = w := by
  go_enter Yba.func30, Yba.ntmps30
  go_wp2_with (simp only [sub64 x y hy hxy hx])
  go_ret2
  exact ⟨rfl, rfl⟩

set_option maxHeartbeats 400000 in
theorem addVV_1 (b b1 b2 c c1 c2 : Nat) (x y u : Int) (w : World) (h1 : w.cell? ⟨b1, 0, none⟩ = some (.int .u64 x)) (h2 : w.cell? ⟨b2, 0, none⟩ = some (.int .u64 y)) (h0 : w.cell? ⟨b, 0, none⟩ = some (.int .u64 u)) (hf : w.frozen? ⟨b, 0, none⟩ = false)
    (hx : 0 ≤ x) (hy : 0 ≤ y) :
    Calls Yba.prog 8 #[.slice (some ⟨b, 0, none⟩) 1 c, .slice (some ⟨b1, 0, none⟩) 1 c1, .slice (some ⟨b2, 0, none⟩) 1 c2] w fun e w' => e = .returned (.int .u64 ((x + y) / 18446744073709551616)) ∧ ∃ n, w' = (w.setCell ⟨b, 0, none⟩ (.int .u64 ((x + y) % 18446744073709551616))).drewN n := by
  go_enter Yba.func8, Yba.ntmps8
  go_wp2
  refine wp_loop_rounds 2 ?_
  rw [rounds_succ]
  go_wp2
  go_quiet ((go_at_call 27; exact Calls.quiet_of_same (bitsAdd x y hx hy _)))
  go_wp2
  rw [rounds_succ]
  go_wp2
  go_ret
  exact ⟨rfl, _, rfl⟩
set_option maxHeartbeats 400000 in
theorem subVV_1 (b b1 b2 c c1 c2 : Nat) (x y u : Int) (w : World) (h1 : w.cell? ⟨b1, 0, none⟩ = some (.int .u64 x)) (h2 : w.cell? ⟨b2, 0, none⟩ = some (.int .u64 y)) (h0 : w.cell? ⟨b, 0, none⟩ = some (.int .u64 u)) (hf : w.frozen? ⟨b, 0, none⟩ = false)
    (hy : 0 ≤ y) (hxy : y ≤ x) (hx : x < 18446744073709551616) :
    Calls Yba.prog 9 #[.slice (some ⟨b, 0, none⟩) 1 c, .slice (some ⟨b1, 0, none⟩) 1 c1, .slice (some ⟨b2, 0, none⟩) 1 c2] w fun e w' => e = .returned (.int .u64 0) ∧ ∃ n, w' = (w.setCell ⟨b, 0, none⟩ (.int .u64 (x - y))).drewN n := by
  go_enter Yba.func9, Yba.ntmps9
  go_wp2
  refine wp_loop_rounds 2 ?_
  rw [rounds_succ]
  go_wp2
  go_quiet ((go_at_call 30; exact Calls.quiet_of_same (bitsSub x y hy hxy hx _)))
  go_wp2
  rw [rounds_succ]
  go_wp2
  go_ret
  exact ⟨rfl, _, rfl⟩
end Go.Proofs.Ybulkblc
