import Derived.Test.YbulkblcD
import Derived.LaidEqlPtr
namespace Go.Proofs.Ybulkblc
open Go.RowKit

theorem run_neq_same (a : Addr) (w : World) : (binOp .neq 23 (.pointer (some a)) (.pointer (some a))).run Yba.prog w = .ok (.bool false) w := by
  obtain ⟨j, hj⟩ : ∃ j, Yba.prog.info? 42 = some j := Option.isSome_iff_exists.1 (by kernel_rfl)
  have h : ∀ d : Nat, (Op.equalIn (d + 1) 23 (.pointer (some a)) (.pointer (some a))).run Yba.prog w = .ok true w := fun d => by
    simp [Op.equalIn, run_underlying Yba.underlying23, sizeOf, typeInfo, hj, run_sameAddr_same]
  simp only [binOp]
  simp [Op.equal, Op.maxDepth, h 9999]
theorem run_eql_other (x y : Nat) (hxy : x ≠ y) (w : World) (cx cy : Array Value) (tx ty : TypeId) (hx : w.heap[x]? = some (.cells cx tx (0, 0))) (hy : w.heap[y]? = some (.cells cy ty (0, 0))) :
    (binOp .eql 23 (.pointer (some ⟨x, 0, none⟩)) (.pointer (some ⟨y, 0, none⟩))).run Yba.prog w = .ok (.bool false) w := by
  obtain ⟨j, hj, hsz⟩ : ∃ j, Yba.prog.info? 42 = some j ∧ j.size = 2 := by
    obtain ⟨j, hj⟩ : ∃ j, Yba.prog.info? 42 = some j := Option.isSome_iff_exists.1 (by kernel_rfl)
    have e : (Yba.prog.info? 42).map (·.size) = some 2 := by kernel_rfl
    rw [hj] at e
    exact ⟨j, hj, by simpa using e⟩
  exact run_eql_ptr_other w Yba.underlying23 hj (by omega) (by intro h; apply hxy; cases h; rfl) hx hy

set_option maxHeartbeats 400000 in
/-- Int.Abs at one and the same number. -/
theorem Abs_self (w : World) (z : Nat) (b : Bool) (z0 : w.cell? ⟨z, 0, none⟩ = some (.bool b)) (f0 : w.frozen? ⟨z, 0, none⟩ = false) :
    Calls Yba.prog 15 #[.pointer (some ⟨z, 0, none⟩), .pointer (some ⟨z, 0, none⟩)] w fun e w' => e = .returned (.pointer (some ⟨z, 0, none⟩)) ∧ w' = w.setCell ⟨z, 0, none⟩ (.bool false) := by
  have hnq := run_neq_same ⟨z, 0, none⟩ w
  go_enter Yba.func15, Yba.ntmps15
  go_wp2
  go_ret
  exact ⟨rfl, rfl⟩

set_option maxHeartbeats 400000 in
/-- Int.Cmp: x is not negative, y is. -/
theorem Cmp_neg (w : World) (x y : Nat) (hxy : x ≠ y) (cx cy : Array Value) (tx ty : TypeId) (hx : w.heap[x]? = some (.cells cx tx (0, 0))) (hy : w.heap[y]? = some (.cells cy ty (0, 0)))
    (x0 : w.cell? ⟨x, 0, none⟩ = some (.bool false)) (y0 : w.cell? ⟨y, 0, none⟩ = some (.bool true)) :
    Calls Yba.prog 16 #[.pointer (some ⟨x, 0, none⟩), .pointer (some ⟨y, 0, none⟩)] w fun e w' => e = .returned (.int .i64 1) ∧ ∃ n, w' = w.drewN n := by
  have hne := run_eql_other x y hxy w cx cy tx ty hx hy
  clear hx hy
  go_enter Yba.func16, Yba.ntmps16
  go_wp2
  go_quiet (fail)
  go_wp2
  go_ret
  exact ⟨rfl, _, rfl⟩
set_option maxHeartbeats 400000 in
/-- Int.Cmp: neither is negative. -/
theorem Cmp_pos (B : Nat) (w : World) (x y : Nat) (hxy : x ≠ y) (cx cy : Array Value) (tx ty : TypeId) (hx : w.heap[x]? = some (.cells cx tx (0, 0))) (hy : w.heap[y]? = some (.cells cy ty (0, 0)))
    (a1 a2 : Option Addr) (l1 c1 l2 c2 : Nat) (m n : Int) (x0 : w.cell? ⟨x, 0, none⟩ = some (.bool false)) (y0 : w.cell? ⟨y, 0, none⟩ = some (.bool false)) (x1 : w.cell? ⟨x, 1, none⟩ = some (.slice a1 l1 c1)) (y1 : w.cell? ⟨y, 1, none⟩ = some (.slice a2 l2 c2))
    (h1 : IsNat B w a1 l1 c1 m) (h2 : IsNat B w a2 l2 c2 n) :
    Calls Yba.prog 16 #[.pointer (some ⟨x, 0, none⟩), .pointer (some ⟨y, 0, none⟩)] w fun e w' => e = .returned (.int .i64 (cmpZ m n)) ∧ ∃ n, w' = w.drewN n := by
  have hne := run_eql_other x y hxy w cx cy tx ty hx hy
  clear hx hy
  go_enter Yba.func16, Yba.ntmps16
  go_wp2
  go_quiet (fail)
  go_wp2_with (fail)
  go_quiet ((go_at_call 19; exact quiet_at (cmp_any (B := B) (m := m) (n := n) (isNat_drewN h1) (isNat_drewN h2))))
  go_wp2
  go_ret
  exact ⟨rfl, _, rfl⟩
end Go.Proofs.Ybulkblc
