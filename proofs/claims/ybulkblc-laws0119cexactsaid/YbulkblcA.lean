import Derived.Test.YbulkblcRows
import Derived.WalkKit
import Derived.WalkSpells
import Derived.WalkLawsBesides
import Derived.StillTactics
import Derived.Laws.Pointers
import Derived.Laws.Twins
import Derived.Deep.RegionHeld3
import Derived.RowKit3
import Derived.BigQuiet
import Derived.Deep.QuietTactic
namespace Go.Proofs.Ybulkblc
open Go.RowKit

set_option maxHeartbeats 400000 in
theorem newInt_zero (w : World) :
    Calls Yba.prog 5 #[.int .i64 0] w fun e w' => e = .returned (.pointer (some ⟨w.heap.size, 0, none⟩)) ∧ w' = w.alloc (.cells #[.bool false, .slice none 0 0] 42) := by
  go_enter Yba.func5, Yba.ntmps5
  go_wp2
  go_ret
  exact ⟨rfl, rfl⟩

set_option maxHeartbeats 400000 in
theorem newInt_pos (x : Int) (h : 0 < x) (hx : x ≤ 9223372036854775807) (w : World) :
    Calls Yba.prog 5 #[.int .i64 x] w fun e w' => e = .returned (.pointer (some ⟨w.heap.size + 1, 0, none⟩)) ∧ w' = (w.alloc (.cells #[.int .u64 x] 39)).alloc (.cells #[.bool false, .slice (some ⟨w.heap.size, 0, none⟩) 1 1] 42) := by
  have h0 : (x == 0) = false := by simp; omega
  have h1 : ¬ x < 0 := by omega
  go_enter Yba.func5, Yba.ntmps5
  go_wp2
  go_ret
  exact ⟨rfl, rfl⟩

set_option maxHeartbeats 400000 in
theorem newInt_neg (x : Int) (h : x < 0) (hx : -9223372036854775808 ≤ x) (w : World) :
    Calls Yba.prog 5 #[.int .i64 x] w fun e w' => e = .returned (.pointer (some ⟨w.heap.size + 1, 0, none⟩)) ∧ w' = (w.alloc (.cells #[.int .u64 (-x)] 39)).alloc (.cells #[.bool true, .slice (some ⟨w.heap.size, 0, none⟩) 1 1] 42) := by
  have h0 : (x == 0) = false := by simp; omega
  have e1 : IntKind.u64.wrap (-IntKind.u64.wrap x) = -x := by
    simp only [IntKind.wrap, IntKind.bits, IntKind.signed]
    simp
    omega
  go_enter Yba.func5, Yba.ntmps5
  go_wp2
  go_ret
  exact ⟨rfl, rfl⟩
end Go.Proofs.Ybulkblc
