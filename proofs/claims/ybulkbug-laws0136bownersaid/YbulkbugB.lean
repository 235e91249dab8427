import Derived.Test.YbulkbugA
import Derived.BigRegion
namespace Go.Proofs.Ybulkbug
open Go.RowKit
open Go.WideShapes (add_plain)

theorem kept_cell {w w' : World} {n lg : Nat} (h : ∀ x, x < n → x ≠ lg → w'.heap[x]? = w.heap[x]?) {b o : Nat} (hb : b < n) (hne : b ≠ lg) : w'.cell? ⟨b, o, none⟩ = w.cell? ⟨b, o, none⟩ :=
  World.cell?_of_block (a := ⟨b, o, none⟩) (h b hb hne)

/-- A catalog.ColumnStats, all zero but Distinct. -/
def statV (n : Int) : Array Value := #[.int .i64 n, .int .u8 0, .int .i64 0, .int .i64 0, .pointer none, .int .i32 0, .string ⟨#[]⟩, .int .u8 0, .int .i64 0, .int .i64 0, .pointer none, .int .i32 0, .string ⟨#[]⟩]

set_option maxHeartbeats 2000000 in
theorem clo_any (w : World) (q p lg : Nat) (i k : Int) (hq : w.cell? ⟨q, 0, none⟩ = some (.pointer (some ⟨lg, 0, none⟩))) (hp : w.cell? ⟨p, 0, none⟩ = some (.int .i64 k)) (l0 : w.cell? ⟨lg, 0, none⟩ = some (.slice none 0 0)) (l1 : w.cell? ⟨lg, 1, none⟩ = some (.slice none 0 0))
    (f0 : w.frozen? ⟨lg, 0, none⟩ = false) (f1 : w.frozen? ⟨lg, 1, none⟩ = false) (hqs : q < w.heap.size) (hps : p < w.heap.size) (hls : lg < w.heap.size) (hql : q ≠ lg) (hpl : p ≠ lg) (hk0 : 0 ≤ k) (hk1 : k ≤ 100000) (hi0 : 0 ≤ i) (hi1 : i ≤ 100000) :
    Calls Yba.prog 7 #[.int .i64 i, .pointer (some ⟨q, 0, none⟩), .pointer (some ⟨p, 0, none⟩)] w fun e w' => e = .returned (.tuple #[.agg (statV (k * 1000 + i)), .bool (k % 2 == 0)]) ∧
      ∃ (c1 c2 : Nat) (z1 z2 o1 o2 : Array Value), w' = (((((((w.setCell ⟨lg, 0, none⟩ (.slice (some ⟨w.heap.size + 1 + 1, 0, none⟩) 1 c1)).setCell ⟨lg, 1, none⟩ (.slice (some ⟨w.heap.size + 1 + 1 + 1 + 1, 0, none⟩) 1 c2)).alloc (.cells (statV (k * 1000 + i)) 50)).alloc (.cells o1 3)).alloc (.cells (#[.int .i64 k] ++ z1) 3)).alloc (.cells o2 3)).alloc (.cells (#[.int .i64 i] ++ z2) 3)).drew.drew.drew.drew.drew := by
  unfold statV
  have hns : Builtin.nextslicecap 1 0 * Yba.t3.bytes = 8 := by decide +kernel
  have n1 : ¬ lg = q := fun h => hql h.symm
  have n2 : ¬ lg = p := fun h => hpl h.symm
  have sq1 : q < w.heap.size + 1 := by omega
  have sq2 : q < w.heap.size + 1 + 1 := by omega
  have sq3 : q < w.heap.size + 1 + 1 + 1 := by omega
  have sq4 : q < w.heap.size + 1 + 1 + 1 + 1 := by omega
  have sq5 : q < w.heap.size + 1 + 1 + 1 + 1 + 1 := by omega
  have sp1 : p < w.heap.size + 1 := by omega
  have sp2 : p < w.heap.size + 1 + 1 := by omega
  have sp3 : p < w.heap.size + 1 + 1 + 1 := by omega
  have sp4 : p < w.heap.size + 1 + 1 + 1 + 1 := by omega
  have sp5 : p < w.heap.size + 1 + 1 + 1 + 1 + 1 := by omega
  have slg1 : lg < w.heap.size + 1 := by omega
  have slg2 : lg < w.heap.size + 1 + 1 := by omega
  have slg3 : lg < w.heap.size + 1 + 1 + 1 := by omega
  have slg4 : lg < w.heap.size + 1 + 1 + 1 + 1 := by omega
  have slg5 : lg < w.heap.size + 1 + 1 + 1 + 1 + 1 := by omega
  go_enter Yba.func7, Yba.ntmps7
  go_wp2_with (fail)
  go_region
  go_wp2_with (fail)
  go_region
  go_wp2_with (fail)
  go_region
  go_wp2
  refine bodyPost_ret (v := .tuple #[.agg #[.int .i64 (k * 1000 + i), .int .u8 0, .int .i64 0, .int .i64 0, .pointer none, .int .i32 0, .string ⟨#[]⟩, .int .u8 0, .int .i64 0, .int .i64 0, .pointer none, .int .i32 0, .string ⟨#[]⟩], .bool (k % 2 == 0)]) (by simp [results, Yba.results7, go_sem]) rfl ?_
  exact ⟨rfl, _, _, _, _, _, _, rfl⟩
end Go.Proofs.Ybulkbug
